/- sortedKeys[struct{}] (56), nameSet.sorted (50), ZZnameSetSorted (23): after the kit's worked SortedkeysWalksIn, without a fence. -/
import Derived.Test.Qxb6614755aBase
import Derived.Test.Qxb6614755aPlain
import Derived.Test.Qxb6614755aMerge
import Derived.Test.Qxb6614755aShelf
import Derived.Maps.OwnSet
import Derived.Maps.RangeWalk
import Derived.Maps.AppendAt
import Derived.Sort.KeysCollected
import Derived.Sort.OwnSorted
import Derived.Maps.OwnOps
namespace Go.Proofs.Qxb6614755a
open Go.RowKit Go.Maps Go.Sort

theorem law9 : Keyed Try.prog 9 := string_keyed Try.underlying9
theorem info9 : (Try.prog.info? 9).map (fun i => (i.zero, i.size, i.bytes)) = some (some (.string ⟨#[]⟩), 1, 16) := by kernel_rfl

theorem grown_of_below {w w' : World} (h : Below w.heap.size w w') : w.grownBy w' none := ⟨h.os, h.tape, h.output, h.size, fun k hk _ => h.block k hk⟩

theorem strs_below {w w' : World} (h : Below w.heap.size w w') {a : Option Addr} {n : Nat} {S : Nat → ByteArray} (hs : Strs w a n S) : Strs w' a n S := by
  rcases hs with h1 | ⟨b, off, h1, h2, h3⟩
  · exact .inl h1
  · exact .inr ⟨b, off, h1, Nat.lt_of_lt_of_le h2 h.size, fun j hj => (h.cell (p := ⟨b, off + j, none⟩) h2).trans (h3 j hj)⟩

theorem nil22_in (W : World) (d g o m c : Nat) : (Op.equalIn (d + 1) 22 (.slice (some ⟨g, o, none⟩) m c) (.slice none 0 0)).run Try.prog W = .ok false W := by
  simp [Op.equalIn, run_underlying Try.underlying22]
theorem nil22_eq (W : World) (g o m c : Nat) : (Op.equal 22 (.slice (some ⟨g, o, none⟩) m c) (.slice none 0 0)).run Try.prog W = .ok false W := nil22_in W 9999 g o m c
/-- A slice that leads somewhere is not nil. -/
theorem nil22 (W : World) (g o m c : Nat) : (binOp .eql 22 (.slice (some ⟨g, o, none⟩) m c) (.slice none 0 0)).run Try.prog W = .ok (.bool false) W := by
  simp [binOp, nil22_eq]

/-- WHAT A SORTED SLICE OF A SET's NAMES IS: m strings in strictly rising order, those of which 'mem' says yes. -/
structure SortedRow (w : World) (a : Option Addr) (m : Nat) (S : Nat → ByteArray) (mem : Bs → Bool) : Prop where
  strs : Strs w a m S
  inc : ∀ i j, i < j → j < m → tl S i < tl S j
  has : ∀ x, (∃ j, j < m ∧ tl S j = x) ↔ mem x = true

theorem mergeSort_inc {ss : List Bs} (hnd : ss.Nodup) : (ss.mergeSort fun x y => decide (x ≤ y)).Pairwise (· < ·) := by
  have h1 : (ss.mergeSort fun x y => decide (x ≤ y)).Pairwise (fun x y => decide (x ≤ y) = true) := List.pairwise_mergeSort (fun a b c h1 h2 => by simp at *; exact List.le_trans h1 h2) (fun a b => by simpa using List.le_total a b) ss
  have h2 : (ss.mergeSort fun x y => decide (x ≤ y)).Nodup := (List.mergeSort_perm ss _).nodup_iff.2 hnd
  have h3 : (ss.mergeSort fun x y => decide (x ≤ y)).Pairwise (· ≠ ·) := h2
  refine (h1.and h3).imp fun {a b} h => ?_
  rcases bs_tri a b with h4 | h4 | h4
  · exact h4
  · exact absurd h4 h.2
  · exact absurd h4 (List.not_lt.2 (by simpa using h.1))

theorem sortedRow_mk {w : World} {base g cap : Nat} {ss : List Bs} {D : DataW Unit} (hb : w.ownsRow base 9 1 (.slice (some ⟨g, 0, none⟩) ss.length cap) ss.length ((ss.mergeSort (fun x y => decide (x ≤ y))).map encStr)) (hnd : ss.Nodup) (hm : ∀ x, x ∈ ss ↔ Maps.has D (.string x) = true) :
    ∃ S, SortedRow w (some ⟨g, 0, none⟩) ss.length S (fun x => Maps.has D (.string x)) := by
  have hl : (ss.mergeSort fun x y => decide (x ≤ y)).length = ss.length := List.length_mergeSort ss
  have htl : ∀ j, tl (fun j => ⟨((ss.mergeSort fun x y => decide (x ≤ y)).getD j []).toArray⟩) j = (ss.mergeSort fun x y => decide (x ≤ y)).getD j [] := fun j => by simp [tl]
  refine ⟨fun j => ⟨((ss.mergeSort fun x y => decide (x ≤ y)).getD j []).toArray⟩, .inr ⟨g, 0, rfl, (hb.lt g rfl).2, fun j hj => ?_⟩, fun i j hij hj => ?_, fun x => ?_⟩
  · have hj' : j < (ss.mergeSort fun x y => decide (x ≤ y)).length := by rw [hl]; exact hj
    have := hb.cells rfl j (encStr ((ss.mergeSort fun x y => decide (x ≤ y)).getD j [])) (by rw [List.getElem?_map, List.getElem?_eq_getElem hj', List.getD, List.getElem?_eq_getElem hj']; rfl)
    rw [Go.WideShapes.add_plain] at this
    rw [Nat.zero_add] at this ⊢
    exact this
  · rw [htl, htl, List.getD, List.getD, List.getElem?_eq_getElem (by omega), List.getElem?_eq_getElem (by omega)]
    exact List.pairwise_iff_getElem.1 (mergeSort_inc hnd) i j _ _ hij
  · rw [← hm x, ← (List.mergeSort_perm ss (fun x y => decide (x ≤ y))).mem_iff]
    constructor
    · rintro ⟨j, hj, e⟩
      rw [htl, List.getD, List.getElem?_eq_getElem (by omega)] at e
      simp only [Option.getD_some] at e
      rw [← e]
      exact List.getElem_mem _
    · intro h
      obtain ⟨j, hj, e⟩ := List.getElem_of_mem h
      exact ⟨j, by omega, by rw [htl, List.getD, List.getElem?_eq_getElem hj]; exact e⟩

/-- WHAT THE THREE FUNCTIONS THAT SORT A SET's NAMES HAND BACK. -/
def SortsTo (D0 : DataW Unit) (n : Nat) (w : World) (e : Ending) (w' : World) : Prop :=
  ∃ (g cap m : Nat) (S : Nat → ByteArray), e = .returned (.slice (some ⟨g, 0, none⟩) m cap) ∧ m ≤ n ∧
      SortedRow w' (some ⟨g, 0, none⟩) m S (fun x => Maps.has D0 (.string x)) ∧ Below w.heap.size w w' ∧ w.heap.size ≤ g

set_option maxRecDepth 100000 in
set_option maxHeartbeats 1000000 in
theorem sortedKeys_any (b n : Nat) (D0 : DataW Unit) (w : World) (hown : w.ownsMap Try.prog 9 (unitElem (H := Unit)) b n D0) (hmax : n ≤ 2097152) :
    Calls Try.prog 56 #[.map (some b)] w (SortsTo D0 n w) := by
  obtain ⟨i0, hi, hz0, hz1, hz2⟩ := info_parts info9
  have hbl := hown.lt
  have hsz := hown.size_le
  go_enter Try.func56, Try.ntmps56
  go_wp2_with (first
    | (at_len; refine wpList_len_own _ rfl _ 36 rfl 9 37 Try.underlying36 _ b n _ rfl hown ?_)
    | (at_make; refine wpList_make_own _ rfl _ _ 22 rfl w.heap.size 9 i0 (.string ⟨#[]⟩) 1 Try.underlying22 hi hz0 hz1 _ _ _ (Maps.size D0) rfl rfl rfl (by rw [hz2]; omega) (by unfold maxLen; omega) (Nat.le_refl _) ?_; intro w1 hrow1 hg1)
    | (at_range; refine wpList_range_own _ rfl _ 36 rfl 9 37 law9 Try.underlying36 _ b n _ rfl (hown.kept hg1 (by simp)) ?_; intro w0 hrg0 hg0 hs0)
    | go_in)
  go_frame
  go_loopw [3] (fun v wr => ∃ (left : Lit → Bool) (cnt : Nat) (ss : List (List UInt8)), wr.ranges Try.prog 9 (unitElem (H := Unit)) b w1.heap.size n D0 left cnt ∧ ss.length + cnt ≤ Maps.size D0 ∧
      wr.ownsRow w.heap.size 9 1 v ss.length (ss.map encStr) ∧ v ≠ .slice none 0 0 ∧ Collected D0 left ss ∧ Below w.heap.size w wr)
    (fun _ wr => wr.rangeLeft b w1.heap.size)
  case atStart =>
    exact ⟨_, _, [], hrg0, by simp, hrow1.kept hg0 (Or.inr (by simp [Value.ownBlock])), by simp, Collected.start D0,
      ((Below.refl _ _).grown hg1 (Nat.le_refl _) (fun j hj => by cases hj)).grown hg0 hg1.size (fun j hj => by cases hj)⟩
  case round =>
    obtain ⟨left, cnt, ss, hrg, hcs, hrow, hnn, hC, hnx⟩ := hrel
    go_wp2_with (first
      | (at_next; refine wpList_next_ranges _ rfl _ rfl 9 law9 (unitElem (H := Unit)) encStr (fun _ : Unit => Value.agg #[]) (fun key kl hk => by obtain ⟨x, hx, _⟩ := Maps.keyOf_str Try.underlying9 hk; exact ⟨x, hx⟩) (fun v y hv => ⟨(), (unitElem_inv hv).1⟩) b w1.heap.size n _ _ _ rfl hrg ?_ ?_)
      | go_in)
    · intro hc0 hl0
      rcases hrow.2 with ⟨hnil, _⟩ | ⟨g, cap, cur, rfl, hbase, hb, h1, h2, h3, h4⟩
      · exact absurd hnil hnn
      have hH : Holds encStr wr g 0 ss.toArray := holds_of_block hb (by simpa using h4)
      have hgl : g < wr.heap.size := (Array.getElem?_eq_some_iff.1 hb).1
      have hc := Try.sort_Strings g 0 cap ss wr hH hgl (by omega)
      go_wp2_with (go_at_call 62; refine hc.mono ?_; rintro e w' ⟨rfl, nn, os, rfl⟩)
      go_ret
      obtain ⟨S, hS⟩ := sortedRow_mk (D := D0) (ownsRow_sorted (os := os) (n := nn) (ts := ss.mergeSort (fun x y => decide (x ≤ y))) (by simp) hbase hb h1 h2 h3) hC.1 (fun x => by rw [hC.2 x, hl0]; simp)
      exact ⟨g, cap, ss.length, S, rfl, by omega, hS, hnx.grown (grownBy_sorted _) hnx.size (fun j hj => by cases hj; exact hbase), hbase⟩
    · intro x kl yd yp w2 cnt2 hkey hlk hv hat hrg2 hlt hg2 hs2 hen
      obtain ⟨x', ex, rfl, _⟩ := Maps.keyOf_str Try.underlying9 hkey
      obtain rfl : x = x' := encStr_inj ex
      have hrow2 := hrow.kept hg2 (Or.inr (row_ne_iter hrow hrg).symm)
      clear hs2
      go_wp2_with (first
        | (at_builtin; refine wpList_append_own _ rfl _ _ 22 rfl w.heap.size 9 i0 (.string ⟨#[]⟩) 1 16 Try.underlying22 hi hz0 hz1 hz2 rfl (by decide) _ _ _ rfl (hrow2.alloc _) ⟨w2.heap.size, 0, none⟩ 1 1 [encStr x] rfl rfl (cell_one_new _ _ _) (by simp [Value.oneCell', encStr]) (by unfold maxLen at *; omega) (by omega) (by have := hnx.size; have := hg2.size; simp; omega) ?_; intro v' w3 hown' hg3 hnil3; go_frame)
        | go_in)
      have hrg3 := (hrg2.alloc _).kept hg3 (row_ne_low hrow2 hbl) (row_ne_iter hrow2 hrg2)
      go_roundw
      case rel =>
        refine ⟨_, cnt2, ss ++ [x], hrg3, by simp; omega, by simpa using hown', fun hv' => by have := (hnil3.1 hv').2; omega, hC.step hlk hat, ?_⟩
        exact ((hnx.grown hg2 hnx.size (fun j hj => by cases hj; exact hg1.size)).alloc (by have := hnx.size; have := hg2.size; omega) _).grown hg3 (by have := hnx.size; have := hg2.size; simp; omega) (fun j hj => (hrow2.lt j hj).1)
      case measure => rw [hrg3.left_eq, hrg.left_eq]; exact hlt

theorem sorted_any (b n : Nat) (D0 : DataW Unit) (w : World) (hown : w.ownsMap Try.prog 9 (unitElem (H := Unit)) b n D0) (hmax : n ≤ 2097152) :
    Calls Try.prog 50 #[.map (some b)] w (SortsTo D0 n w) := by
  have hc := sortedKeys_any b n D0 w hown hmax
  go_enter Try.func50, Try.ntmps50
  go_wp2_with (go_at_call 56; refine hc.mono ?_; rintro e w' ⟨g, cap, m, S, rfl, h1, h2, h3, h4⟩)
  go_ret
  exact ⟨g, cap, m, S, rfl, h1, h2, h3, h4⟩

theorem nameSetSorted_any (b n : Nat) (D0 : DataW Unit) (w : World) (hown : w.ownsMap Try.prog 9 (unitElem (H := Unit)) b n D0) (hmax : n ≤ 2097152) :
    Calls Try.prog 23 #[.map (some b)] w (SortsTo D0 n w) := by
  have hc := sorted_any b n D0 w hown hmax
  go_enter Try.func23, Try.ntmps23
  go_wp2_with (go_at_call 50; refine hc.mono ?_; rintro e w' ⟨g, cap, m, S, rfl, h1, h2, h3, h4⟩)
  go_ret
  exact ⟨g, cap, m, S, rfl, h1, h2, h3, h4⟩
end Go.Proofs.Qxb6614755a
