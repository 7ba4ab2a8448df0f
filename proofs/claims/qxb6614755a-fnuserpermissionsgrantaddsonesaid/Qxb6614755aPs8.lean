/- sort.Slice's family at a 'less' that lays blocks: breakPatterns_func (88), reverseRange_func (90) by the shelf; what each callee of pdqsort_func does, told by 'permuted' and 'sorted'. -/
import Derived.Test.Qxb6614755aPs2
import Derived.Test.Qxb6614755aPs4
import Derived.Test.Qxb6614755aPs5
import Derived.Test.Qxb6614755aPs6
import Derived.Test.Qxb6614755aPs7
import Derived.Test.Qxb6614755aShelfG
namespace Go.Proofs.Qxb6614755a
open Go.RowKit Go.Sort

section
variable {blk off pv cap n : Nat} {wB wr w' : World} {d dk : Array Pm}

theorem heap_sortWorld (W : World) (m : Nat) (d' : Array Pm) (os : Array Obj) {b : Nat} (hb : b < W.heap.size) (hne : b ≠ blk) : (sortWorldK encPm 2 W blk off m d' os).heap[b]? = W.heap[b]? := by
  unfold sortWorldK Sort.grow putRowK putRow Sort.mapBlock Sort.ahead
  dsimp only
  rw [Array.getElem?_append_left (by simpa using hb), Array.getElem?_modify, if_neg (Ne.symm hne)]

theorem small_perm {a b : Nat} {d d' : Array Pm} (hb : b ≤ d.size) (hP : PermIn a b d d') (h : ∀ i, i < d.size → SmPm d[i]!) : ∀ i, i < d'.size → SmPm d'[i]! := fun i hi => by
  rw [hP.1] at hi
  by_cases hab : a ≤ i ∧ i < b
  · exact permIn_all d d' a b SmPm hb hP (fun j _ h2 => h j (by omega)) i hab.1 hab.2
  · rw [hP.2.1 i (by omega)]
    exact h i hi

theorem Mv.ofSort {W : World} (h : Rw blk off pv cap d W) (hne : pv ≠ blk) (hd : d.size = n) {d' : Array Pm} {a b m : Nat} {os : Array Obj} (hb : b ≤ d.size) (hP : PermIn a b d d') (hw : w' = sortWorldK encPm 2 W blk off m d' os) : Mv blk off pv cap n W d' w' := by
  subst hw
  have hs : W.heap.size ≤ (sortWorldK encPm 2 W blk off m d' os).heap.size := by
    unfold sortWorldK; rw [size_grow, size_putRowK]; exact Nat.le_add_right _ _
  refine ⟨hP.1.trans hd, ⟨holdsK_sortWorldK encPm 2 W blk off m d d' os h.lt h.holds hP.1, Nat.lt_of_lt_of_le h.lt hs, ?_, small_perm hb hP h.small⟩, ⟨rfl, rfl, rfl, hs, fun k hk hne' => heap_sortWorld W m d' os hk (fun e => hne' (by rw [e]))⟩⟩
  rw [World.cell?_of_block (heap_sortWorld W m d' os (b := pv) (cell_in' h.var) hne), hP.1]
  exact h.var

/-- Behind the call the row is permuted within [a, b). -/
def Perms (blk off pv cap n : Nat) (W : World) (a b : Nat) (d : Array Pm) (e : Ending) (w' : World) : Prop := e = .returned (.tuple #[]) ∧ ∃ d', PermIn a b d d' ∧ Mv blk off pv cap n W d' w'
/-- .. and sorted there. -/
def Sorts (blk off pv cap n : Nat) (W : World) (a b : Nat) (d : Array Pm) (e : Ending) (w' : World) : Prop := e = .returned (.tuple #[]) ∧ ∃ d', PermIn a b d d' ∧ SortedIn ltPm a b d' ∧ Mv blk off pv cap n W d' w'

theorem Mv.breaks (h : Mv blk off pv cap n wB dk wr) (hne : pv ≠ blk) {sf : Nat} {sb : Array Value} (hsw : SwapSwapsK Try.prog sf sb encPm 2 blk off n) (hn : n ≤ 1048576) (a b : Nat) (hab : a ≤ b) (hb : b ≤ n) :
    Calls Try.prog 88 #[.agg (dat pv sf sb), .int .i64 a, .int .i64 b] wr (Perms blk off pv cap n wB a b dk) := by
  have hsz := h.size
  refine (Any.breakPatterns_func_cells_w (P := Try.prog) (ρ := Try.laysGg6_ren) { Try.laysGg6 with } encPm 2 encPm_len (.func 66) #[] #[.pointer (some ⟨pv, 0, none⟩)] sf sb blk off a b dk wr (by rw [hsz]; exact hsw) h.rw.holds h.rw.lt hab (by omega) (by omega)).mono ?_
  rintro e w' ⟨rfl, m, os, hw⟩
  have hP := breakPatterns_holds dk a b hab (by omega)
  exact ⟨rfl, _, hP, (Mv.ofSort h.rw hne hsz (by omega) hP hw).from h.grown⟩
theorem Mv.reverses (h : Mv blk off pv cap n wB dk wr) (hne : pv ≠ blk) {sf : Nat} {sb : Array Value} (hsw : SwapSwapsK Try.prog sf sb encPm 2 blk off n) (hn : n ≤ 1048576) (a b : Nat) (hab : a ≤ b) (hb : b ≤ n) :
    Calls Try.prog 90 #[.agg (dat pv sf sb), .int .i64 a, .int .i64 b] wr (Perms blk off pv cap n wB a b dk) := by
  have hsz := h.size
  refine (Any.reverseRange_func_cells_w (P := Try.prog) (ρ := Try.laysGg6_ren) { Try.laysGg6 with } encPm 2 encPm_len (.func 66) #[] #[.pointer (some ⟨pv, 0, none⟩)] sf sb blk off a b dk wr (by rw [hsz]; exact hsw) h.rw.holds h.rw.lt hab (by omega) (by omega)).mono ?_
  rintro e w' ⟨rfl, m, os, hw⟩
  have hP := reverseRange_holds dk a b hab (by omega)
  exact ⟨rfl, _, hP, (Mv.ofSort h.rw hne hsz (by omega) hP hw).from h.grown⟩

theorem ltPm_str (p q : Pm) : ltPm p q = ltStr (wr8 p).toList (wr8 q).toList := by unfold ltPm ltStr; exact bytesLess_eq _ _
theorem ltPm_swo : SWO ltPm where
  irrefl x := by rw [ltPm_str]; exact swo_ltStr.irrefl _
  trans x y z := by rw [ltPm_str, ltPm_str, ltPm_str]; exact swo_ltStr.trans _ _ _
  ntrans x y z := by rw [ltPm_str, ltPm_str, ltPm_str]; exact swo_ltStr.ntrans _ _ _

theorem Mv.inserts (h : Mv blk off pv cap n wB dk wr) (hne : pv ≠ blk) {sf : Nat} {sb : Array Value} (hsw : SwapSwapsK Try.prog sf sb encPm 2 blk off n) (hn : n ≤ 1048576) (a b : Nat) (hab : a ≤ b) (hb : b ≤ n) :
    Calls Try.prog 86 #[.agg (dat pv sf sb), .int .i64 a, .int .i64 b] wr (Sorts blk off pv cap n wB a b dk) := by
  have hP := insertionSort_holds ltPm_swo dk a b hab (by rw [h.size]; exact hb)
  exact (ins_any hne hsw hn a b dk wr h.rw h.size hab hb).mono fun _ _ ⟨he, hm⟩ => ⟨he, _, hP.1, hP.2, hm.from h.grown⟩
theorem Mv.heaps (h : Mv blk off pv cap n wB dk wr) (hne : pv ≠ blk) {sf : Nat} {sb : Array Value} (hsw : SwapSwapsK Try.prog sf sb encPm 2 blk off n) (hn : n ≤ 1048576) (a b : Nat) (hab : a ≤ b) (hb : b ≤ n) :
    Calls Try.prog 87 #[.agg (dat pv sf sb), .int .i64 a, .int .i64 b] wr (Sorts blk off pv cap n wB a b dk) := by
  have hP := heapSort_holds ltPm_swo dk a b hab (by rw [h.size]; exact hb)
  exact (heap_any hne hsw hn a b dk wr h.rw h.size hab hb).mono fun _ _ ⟨he, hm⟩ => ⟨he, _, hP.1, hP.2, hm.from h.grown⟩
theorem Mv.pivots (h : Mv blk off pv cap n wB dk wr) (sf : Nat) (sb : Array Value) (hn : n ≤ 1048576) (a b : Nat) (hab : a + 12 < b) (hb : b ≤ n) :
    Calls Try.prog 89 #[.agg (dat pv sf sb), .int .i64 a, .int .i64 b] wr fun e w' => ∃ (p : Nat) (k : Int), e = .returned (.tuple #[.int .i64 p, .int .i64 k]) ∧ a ≤ p ∧ p < b ∧ Mv blk off pv cap n wB dk w' := by
  have hP := choosePivot_holds ltPm dk a b (by omega)
  exact (pivot_any sf sb hn a b wr h.rw h.size hab hb).mono fun _ _ ⟨he, hm⟩ => ⟨_, _, he, hP.1, hP.2, hm.from h.grown⟩
theorem Mv.partials (h : Mv blk off pv cap n wB dk wr) (hne : pv ≠ blk) {sf : Nat} {sb : Array Value} (hsw : SwapSwapsK Try.prog sf sb encPm 2 blk off n) (hn : n ≤ 1048576) (a b : Nat) (hab : a < b) (hb : b ≤ n) (hB : Go.Sort.Below ltPm a b dk) :
    Calls Try.prog 91 #[.agg (dat pv sf sb), .int .i64 a, .int .i64 b] wr fun e w' => ∃ (r : Bool) (d' : Array Pm), e = .returned (.bool r) ∧ PermIn a b dk d' ∧ (r = true → SortedIn ltPm a b d') ∧ Mv blk off pv cap n wB d' w' := by
  have hP := partialInsertionSort_holds ltPm_swo dk a b hab (by rw [h.size]; exact hb) hB
  exact (pins_any hne hsw hn a b dk wr h.rw h.size hab hb).mono fun _ _ ⟨he, hm⟩ => ⟨_, _, he, hP.1, hP.2, hm.from h.grown⟩

/-- What is left to be done: once [a', b') is sorted, [a, b) is. -/
def Left (a b : Nat) (d : Array Pm) (a' b' : Nat) (dk : Array Pm) : Prop := ∀ R, PermIn a' b' dk R → SortedIn ltPm a' b' R → PermIn a b d R ∧ SortedIn ltPm a b R
theorem Left.perm {a b a' b' : Nat} {d dk d1 : Array Pm} (h : Left a b d a' b' dk) (hp : PermIn a' b' dk d1) : Left a b d a' b' d1 := fun R h1 h2 => h R (permIn_trans _ _ _ _ _ hp h1) h2
theorem below_perm {a b : Nat} {d d1 : Array Pm} (hb : b ≤ d.size) (h : Go.Sort.Below ltPm a b d) (hp : PermIn a b d d1) : Go.Sort.Below ltPm a b d1 := Go.Sort.Below.permA permIn_all hb h hp

theorem Mv.partEqs (h : Mv blk off pv cap n wB dk wr) (hne : pv ≠ blk) {sf : Nat} {sb : Array Value} (hsw : SwapSwapsK Try.prog sf sb encPm 2 blk off n) (hn : n ≤ 1048576) (a b : Nat) (pivot : Nat) (hap : a ≤ pivot) (hpb : pivot < b) (hb : b ≤ n) (hB : Go.Sort.Below ltPm a b dk) (ha0 : 0 < a) (hnl : ltPm dk[a - 1]! dk[pivot]! = false) :
    Calls Try.prog 92 #[.agg (dat pv sf sb), .int .i64 a, .int .i64 b, .int .i64 pivot] wr fun e w' => ∃ (mid : Nat) (d4 : Array Pm), e = .returned (.int .i64 mid) ∧ a < mid ∧ mid ≤ b ∧ Go.Sort.Below ltPm mid b d4 ∧ (∀ R, PermIn mid b d4 R → SortedIn ltPm mid b R → PermIn a b dk R ∧ SortedIn ltPm a b R) ∧ Mv blk off pv cap n wB d4 w' := by
  obtain ⟨⟨mid, d4⟩, hx⟩ : ∃ r, partitionEqual ltPm dk a b pivot = r := ⟨_, rfl⟩
  obtain ⟨r1, r2, _, r4, r5⟩ := round_eq ltPm_swo (partitionEqual_holds ltPm) ha0 hap hpb (by rw [h.size]; exact hb) hB hnl hx
  have hc := partEq_any hne hsw hn a b pivot dk wr h.rw h.size hap hpb hb
  rw [hx] at hc
  exact hc.mono fun _ _ ⟨he, hm⟩ => ⟨mid, d4, he, r1, r2, r4, r5, hm.from h.grown⟩
theorem Mv.parts (h : Mv blk off pv cap n wB dk wr) (hne : pv ≠ blk) {sf : Nat} {sb : Array Value} (hsw : SwapSwapsK Try.prog sf sb encPm 2 blk off n) (hn : n ≤ 1048576) (a b : Nat) (pivot : Nat) (hap : a ≤ pivot) (hpb : pivot < b) (hb : b ≤ n) (hB : Go.Sort.Below ltPm a b dk) :
    Calls Try.prog 93 #[.agg (dat pv sf sb), .int .i64 a, .int .i64 b, .int .i64 pivot] wr fun e w' => ∃ (mid : Nat) (ap : Bool) (d4 : Array Pm), e = .returned (.tuple #[.int .i64 mid, .bool ap]) ∧ a ≤ mid ∧ mid < b ∧ Go.Sort.Below ltPm a mid d4 ∧ Go.Sort.Below ltPm (mid + 1) b d4 ∧
      (∀ L, PermIn a mid d4 L → SortedIn ltPm a mid L → Go.Sort.Below ltPm (mid + 1) b L ∧ ∀ R, PermIn (mid + 1) b L R → SortedIn ltPm (mid + 1) b R → PermIn a b dk R ∧ SortedIn ltPm a b R) ∧
      (∀ L, PermIn (mid + 1) b d4 L → SortedIn ltPm (mid + 1) b L → Go.Sort.Below ltPm a mid L ∧ ∀ R, PermIn a mid L R → SortedIn ltPm a mid R → PermIn a b dk R ∧ SortedIn ltPm a b R) ∧ Mv blk off pv cap n wB d4 w' := by
  obtain ⟨⟨mid, ap, d4⟩, hx⟩ : ∃ r, partition ltPm dk a b pivot = r := ⟨_, rfl⟩
  obtain ⟨r1, r2, _, r4, r5, r6, r7⟩ := round_part ltPm_swo (partition_holds ltPm) hap hpb (by rw [h.size]; exact hb) hB hx
  have hc := part_any hne hsw hn a b pivot dk wr h.rw h.size hap hpb hb
  rw [hx] at hc
  exact hc.mono fun _ _ ⟨he, hm⟩ => ⟨mid, ap, d4, he, r1, r2, r4, r5, r6, r7, hm.from h.grown⟩
end
end Go.Proofs.Qxb6614755a
