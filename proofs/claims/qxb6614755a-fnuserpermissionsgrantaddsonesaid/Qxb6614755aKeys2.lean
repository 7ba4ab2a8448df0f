/- The sets of names behind the policy's maps: maps from strings to pointers; their names, sorted (55, 49). -/
import Derived.Test.Qxb6614755aCutWalk
namespace Go.Proofs.Qxb6614755a
open Go.RowKit Go.Maps Go.Sort Go.WideMaps

/-- How a pointer in a map reads: as itself. -/
def ptrElem : Value → Option (DataW (Option Addr) × List MemPlace)
  | .pointer a => some (.held a, [])
  | _ => none
theorem ptrElem_mk (a : Option Addr) : ptrElem (.pointer a) = some (.held a, []) := rfl
theorem ptrElem_inv {v : Value} {z : DataW (Option Addr) × List MemPlace} (h : ptrElem v = some z) : ∃ a, v = .pointer a ∧ z = (.held a, []) := by
  unfold ptrElem at h
  split at h
  · cases h; exact ⟨_, rfl, rfl⟩
  · cases h

theorem sortedRow_of {w : World} {base g cap : Nat} {ss : List Bs} {mem : Bs → Bool} (hb : w.ownsRow base 9 1 (.slice (some ⟨g, 0, none⟩) ss.length cap) ss.length ((ss.mergeSort (fun x y => decide (x ≤ y))).map encStr)) (hnd : ss.Nodup) (hm : ∀ x, x ∈ ss ↔ mem x = true) :
    ∃ S, SortedRow w (some ⟨g, 0, none⟩) ss.length S mem := by
  have hl : (ss.mergeSort fun x y => decide (x ≤ y)).length = ss.length := List.length_mergeSort ss
  have htl : ∀ j, tl (fun j => ⟨((ss.mergeSort fun x y => decide (x ≤ y)).getD j []).toArray⟩) j = (ss.mergeSort fun x y => decide (x ≤ y)).getD j [] := fun j => by simp [tl]
  refine ⟨fun j => ⟨((ss.mergeSort fun x y => decide (x ≤ y)).getD j []).toArray⟩, .inr ⟨g, 0, rfl, (hb.lt g rfl).2, fun j hj => ?_⟩, fun i j hij hj => ?_, fun x => ?_⟩
  · have hj' : j < (ss.mergeSort fun x y => decide (x ≤ y)).length := by rw [hl]; exact hj
    have := hb.cells rfl j (encStr ((ss.mergeSort fun x y => decide (x ≤ y)).getD j [])) (by rw [List.getElem?_map, List.getElem?_eq_getElem hj', List.getD, List.getElem?_eq_getElem hj']; rfl)
    rw [Go.WideShapes.add_plain] at this
    rw [Nat.zero_add] at this ⊢
    exact this
  · rw [htl, htl, List.getD, List.getD, List.getElem?_eq_getElem (by omega), List.getElem?_eq_getElem (by omega)]
    exact List.pairwise_iff_getElem.1 (mergeSort_inc hnd) i j _ _ hij
  · rw [← hm x, ← (List.mergeSort_perm ss (fun x y => decide (x ≤ y))).mem_iff]
    constructor
    · rintro ⟨j, hj, e⟩
      rw [htl, List.getD, List.getElem?_eq_getElem (by omega)] at e
      simp only [Option.getD_some] at e
      rw [← e]
      exact List.getElem_mem _
    · intro h
      obtain ⟨j, hj, e⟩ := List.getElem_of_mem h
      exact ⟨j, by omega, by rw [htl, List.getD, List.getElem?_eq_getElem hj]; exact e⟩


def SortsTo2 (D0 : DataW (Option Addr)) (n : Nat) (w : World) (e : Ending) (w' : World) : Prop :=
  ∃ (g cap m : Nat) (S : Nat → ByteArray), e = .returned (.slice (some ⟨g, 0, none⟩) m cap) ∧ m ≤ n ∧
      SortedRow w' (some ⟨g, 0, none⟩) m S (fun x => Maps.has D0 (.string x)) ∧ Below w.heap.size w w' ∧ w.heap.size ≤ g

set_option maxRecDepth 100000 in
set_option maxHeartbeats 1000000 in
theorem sortedKeys2_any (b n : Nat) (D0 : DataW (Option Addr)) (w : World) (hown : w.ownsMap Try.prog 9 ptrElem b n D0) (hmax : n ≤ 2097152) :
    Calls Try.prog 55 #[.map (some b)] w (SortsTo2 D0 n w) := by
  obtain ⟨i0, hi, hz0, hz1, hz2⟩ := info_parts info9
  have hbl := hown.lt
  have hsz := hown.size_le
  go_enter Try.func55, Try.ntmps55
  go_wp2_with (first
    | (at_len; refine wpList_len_own _ rfl _ 67 rfl 9 78 Try.underlying67 _ b n _ rfl hown ?_)
    | (at_make; refine wpList_make_own _ rfl _ _ 22 rfl w.heap.size 9 i0 (.string ⟨#[]⟩) 1 Try.underlying22 hi hz0 hz1 _ _ _ (Maps.size D0) rfl rfl rfl (by rw [hz2]; omega) (by unfold maxLen; omega) (Nat.le_refl _) ?_; intro w1 hrow1 hg1)
    | (at_range; refine wpList_range_own _ rfl _ 67 rfl 9 78 law9 Try.underlying67 _ b n _ rfl (hown.kept hg1 (by simp)) ?_; intro w0 hrg0 hg0 hs0)
    | go_in)
  go_frame
  go_loopw [3] (fun v wr => ∃ (left : Lit → Bool) (cnt : Nat) (ss : List (List UInt8)), wr.ranges Try.prog 9 ptrElem b w1.heap.size n D0 left cnt ∧ ss.length + cnt ≤ Maps.size D0 ∧
      wr.ownsRow w.heap.size 9 1 v ss.length (ss.map encStr) ∧ v ≠ .slice none 0 0 ∧ Collected D0 left ss ∧ Below w.heap.size w wr)
    (fun _ wr => wr.rangeLeft b w1.heap.size)
  case atStart =>
    exact ⟨_, _, [], hrg0, by simp, hrow1.kept hg0 (Or.inr (by simp [Value.ownBlock])), by simp, Collected.start D0,
      ((Below.refl _ _).grown hg1 (Nat.le_refl _) (fun j hj => by cases hj)).grown hg0 hg1.size (fun j hj => by cases hj)⟩
  case round =>
    obtain ⟨left, cnt, ss, hrg, hcs, hrow, hnn, hC, hnx⟩ := hrel
    go_wp2_with (first
      | (at_next; refine wpList_next_ranges _ rfl _ rfl 9 law9 ptrElem encStr Value.pointer (fun key kl hk => by obtain ⟨x, hx, _⟩ := Maps.keyOf_str Try.underlying9 hk; exact ⟨x, hx⟩) (fun v y hv => by obtain ⟨c, rfl, _⟩ := ptrElem_inv hv; exact ⟨c, rfl⟩) b w1.heap.size n _ _ _ rfl hrg ?_ ?_)
      | go_in)
    · intro hc0 hl0
      rcases hrow.2 with ⟨hnil, _⟩ | ⟨g, cap, cur, rfl, hbase, hb, h1, h2, h3, h4⟩
      · exact absurd hnil hnn
      have hH : Holds encStr wr g 0 ss.toArray := holds_of_block hb (by simpa using h4)
      have hgl : g < wr.heap.size := (Array.getElem?_eq_some_iff.1 hb).1
      have hc := Try.sort_Strings g 0 cap ss wr hH hgl (by omega)
      go_wp2_with (go_at_call 62; refine hc.mono ?_; rintro e w' ⟨rfl, nn, os, rfl⟩)
      go_ret
      obtain ⟨S, hS⟩ := sortedRow_of (mem := fun x => Maps.has D0 (.string x)) (ownsRow_sorted (os := os) (n := nn) (ts := ss.mergeSort (fun x y => decide (x ≤ y))) (by simp) hbase hb h1 h2 h3) hC.1 (fun x => by rw [hC.2 x, hl0]; simp)
      exact ⟨g, cap, ss.length, S, rfl, by omega, hS, hnx.grown (grownBy_sorted _) hnx.size (fun j hj => by cases hj; exact hbase), hbase⟩
    · intro x c kl yd yp w2 cnt2 hkey hlk hv hat hrg2 hlt hg2 hs2 hen
      obtain ⟨x', ex, rfl, _⟩ := Maps.keyOf_str Try.underlying9 hkey
      obtain rfl : x = x' := encStr_inj ex
      have hrow2 := hrow.kept hg2 (Or.inr (row_ne_iter hrow hrg).symm)
      clear hs2
      go_wp2_with (first
        | (at_builtin; refine wpList_append_own _ rfl _ _ 22 rfl w.heap.size 9 i0 (.string ⟨#[]⟩) 1 16 Try.underlying22 hi hz0 hz1 hz2 rfl (by decide) _ _ _ rfl (hrow2.alloc _) ⟨w2.heap.size, 0, none⟩ 1 1 [encStr x] rfl rfl (cell_one_new _ _ _) (by simp [Value.oneCell', encStr]) (by unfold maxLen at *; omega) (by omega) (by have := hnx.size; have := hg2.size; simp; omega) ?_; intro v' w3 hown' hg3 hnil3; go_frame)
        | go_in)
      have hrg3 := (hrg2.alloc _).kept hg3 (row_ne_low hrow2 hbl) (row_ne_iter hrow2 hrg2)
      go_roundw
      case rel =>
        refine ⟨_, cnt2, ss ++ [x], hrg3, by simp; omega, by simpa using hown', fun hv' => by have := (hnil3.1 hv').2; omega, hC.step hlk hat, ?_⟩
        exact ((hnx.grown hg2 hnx.size (fun j hj => by cases hj; exact hg1.size)).alloc (by have := hnx.size; have := hg2.size; omega) _).grown hg3 (by have := hnx.size; have := hg2.size; simp; omega) (fun j hj => (hrow2.lt j hj).1)
      case measure => rw [hrg3.left_eq, hrg.left_eq]; exact hlt

theorem setNames_any (b n : Nat) (D0 : DataW (Option Addr)) (w : World) (hown : w.ownsMap Try.prog 9 ptrElem b n D0) (hmax : n ≤ 2097152) :
    Calls Try.prog 49 #[.map (some b)] w (SortsTo2 D0 n w) := by
  have hc := sortedKeys2_any b n D0 w hown hmax
  go_enter Try.func49, Try.ntmps49
  go_wp2_with (go_at_call 55; refine hc.mono ?_; rintro e w' ⟨g, cap, m, S, rfl, h1, h2, h3, h4⟩)
  go_ret
  exact ⟨g, cap, m, S, rfl, h1, h2, h3, h4⟩
end Go.Proofs.Qxb6614755a
