/- permissionSet.sorted's 'less': Permission.String (67), the closure (66). The row of permissions that is being sorted. -/
import Derived.Test.Qxb6614755aBase
import Derived.Shelf.GgSortFunc.SmallK
import Derived.Shelf.SlSortFuncK.RowK2
import Derived.Laws.AppendOwn
import Derived.Maps.AppendAt
import Derived.Sort.AssemblyPlain
import Derived.Deep.RegionHeld3
import Derived.Deep.Light
import Derived.Below
namespace Go.Proofs.Qxb6614755a
open Go.RowKit Go.Sort

abbrev Pm := ByteArray × ByteArray
def encPm (p : Pm) : List Value := [.string p.1, .string p.2]
theorem encPm_len (p : Pm) : (encPm p).length = 2 := rfl
def wr8 (p : Pm) : ByteArray := p.1 ++ ⟨#[58]⟩ ++ p.2
def ltPm (p q : Pm) : Bool := Op.bytesLess (wr8 p).toList (wr8 q).toList
def SmPm (p : Pm) : Prop := p.1.size ≤ 1048576 ∧ p.2.size ≤ 1048576

set_option maxRecDepth 100000 in
theorem string_any (p q : ByteArray) (w : World) (h1 : p.size ≤ 1048576) (h2 : q.size ≤ 1048576) : Calls Try.prog 67 #[.agg #[.string p, .string q]] w fun e w' => e = .returned (.string (p ++ ⟨#[58]⟩ ++ q)) ∧ w' = w.alloc (.cells #[.string p, .string q] 58) := by
  go_enter Try.func67, Try.ntmps67
  go_wp2
  go_ret
  exact ⟨rfl, rfl⟩

/-- The row that is being sorted: d, in block blk from off on; the variable 'perms' lies in block pv. -/
structure Rw (blk off pv cap : Nat) (d : Array Pm) (W : World) : Prop where
  holds : HoldsK encPm 2 W blk off d
  lt : blk < W.heap.size
  var : W.cell? ⟨pv, 0, none⟩ = some (.slice (some ⟨blk, off, none⟩) d.size cap)
  small : ∀ i, i < d.size → SmPm d[i]!

theorem cell_in' {w : World} {a : Addr} {v : Value} (h : w.cell? a = some v) : a.block < w.heap.size := by
  by_cases hb : a.block < w.heap.size
  · exact hb
  · rw [World.cell?, Array.getElem?_eq_none (by omega)] at h
    cases h

section
variable {blk off pv cap : Nat} {d : Array Pm} {W W' : World}

theorem Rw.c0 (h : Rw blk off pv cap d W) {i : Nat} (hi : i < d.size) : W.cell? ⟨blk, off + i * 2, none⟩ = some (.string d[i]!.1) := (h.holds.cell (c := 0) hi (by omega)).1
theorem Rw.c1 (h : Rw blk off pv cap d W) {i : Nat} (hi : i < d.size) : W.cell? ⟨blk, off + i * 2 + 1, none⟩ = some (.string d[i]!.2) := (h.holds.cell (c := 1) hi (by omega)).1
theorem holdsK_block {enc : Pm → List Value} {k : Nat} (h : HoldsK enc k W blk off d) (hb : W'.heap[blk]? = W.heap[blk]?) : HoldsK enc k W' blk off d := fun t ht => by
  obtain ⟨h1, h2⟩ := h t ht
  refine ⟨?_, ?_⟩
  · rw [← h1]; unfold World.cell?; dsimp only; rw [hb]
  · rw [← h2]; unfold World.frozen?; dsimp only; rw [hb]
theorem Rw.below (h : Rw blk off pv cap d W) (hb : Below W.heap.size W W') : Rw blk off pv cap d W' :=
  ⟨holdsK_block h.holds (hb.block blk h.lt), Nat.lt_of_lt_of_le h.lt hb.size, (hb.cell (p := ⟨pv, 0, none⟩) (cell_in' h.var)).trans h.var, h.small⟩

theorem below_drew {B : Nat} {a w : World} (h : Below B a w) : Below B a w.drew := ⟨h.os, h.tape, h.output, h.size, h.block⟩
theorem below_drewN' {B : Nat} {a w : World} (h : Below B a w) (n : Nat) : Below B a (w.drewN n) := ⟨h.os, h.tape, h.output, h.size, h.block⟩

theorem bel0 (W : World) : Below W.heap.size W W.drew := below_drew (Below.refl _ _)
theorem bel1 (W : World) (o : Obj) : Below W.heap.size W (W.drew.alloc o) := (bel0 W).alloc (bel0 W).size _
theorem bel2 (W : World) (o o' : Obj) : Below W.heap.size W ((W.drew.alloc o).alloc o') := (bel1 W o).alloc (bel1 W o).size _

set_option maxRecDepth 100000 in
set_option maxHeartbeats 1000000 in
theorem less_aux (i j n : Nat) (p1 p2 q1 q2 : ByteArray) (hp1 : p1.size ≤ 1048576) (hp2 : p2.size ≤ 1048576) (hq1 : q1.size ≤ 1048576) (hq2 : q2.size ≤ 1048576) (hi : i < n) (hj : j < n)
    (SB : Hid (∀ V, Below W.heap.size W V → V.cell? ⟨pv, 0, none⟩ = some (.slice (some ⟨blk, off, none⟩) n cap) ∧ V.cell? ⟨blk, off + i * 2, none⟩ = some (.string p1) ∧ V.cell? ⟨blk, off + i * 2 + 1, none⟩ = some (.string p2) ∧ V.cell? ⟨blk, off + j * 2, none⟩ = some (.string q1) ∧ V.cell? ⟨blk, off + j * 2 + 1, none⟩ = some (.string q2))) :
    Calls Try.prog 66 #[.int .i64 i, .int .i64 j, .pointer (some ⟨pv, 0, none⟩)] W fun e W' => e = .returned (.bool (Op.bytesLess (p1 ++ ⟨#[58]⟩ ++ p2).toList (q1 ++ ⟨#[58]⟩ ++ q2).toList)) ∧ Below W.heap.size W W' := by
  have e1 := hide (fun V => string_any p1 p2 V hp1 hp2)
  have e2 := hide (fun V => string_any q1 q2 V hq1 hq2)
  have hi' : ((i : Nat) : Int) < ((n : Nat) : Int) := by omega
  have hj' : ((j : Nat) : Int) < ((n : Nat) : Int) := by omega
  go_enter Try.func66, Try.ntmps66
  go_wp2
  go_region_held3 (fun V => V.cell? ⟨pv, 0, none⟩ = some (.slice (some ⟨blk, off, none⟩) n cap) ∧ V.cell? ⟨blk, off + i * 2, none⟩ = some (.string p1) ∧ V.cell? ⟨blk, off + i * 2 + 1, none⟩ = some (.string p2) ∧ V.cell? ⟨blk, off + j * 2, none⟩ = some (.string q1) ∧ V.cell? ⟨blk, off + j * 2 + 1, none⟩ = some (.string q2))
    (first | exact SB.out _ (bel0 W) | exact SB.out _ (bel1 W _) | exact SB.out _ (bel2 W _ _))
    ((go_at_call 67; first | (refine Calls.mono (e1.out _) ?_; rintro e w' ⟨rfl, rfl⟩) | (refine Calls.mono (e2.out _) ?_; rintro e w' ⟨rfl, rfl⟩)))
  all_goals
    go_wp2
    go_ret
    exact ⟨rfl, bel2 W _ _⟩

theorem less_any (i j : Nat) (h : Rw blk off pv cap d W) (hi : i < d.size) (hj : j < d.size) :
    Calls Try.prog 66 #[.int .i64 i, .int .i64 j, .pointer (some ⟨pv, 0, none⟩)] W fun e W' => e = .returned (.bool (ltPm d[i]! d[j]!)) ∧ Below W.heap.size W W' :=
  less_aux i j d.size d[i]!.1 d[i]!.2 d[j]!.1 d[j]!.2 (h.small i hi).1 (h.small i hi).2 (h.small j hj).1 (h.small j hj).2 hi hj
    (hide fun _ hV => ⟨(h.below hV).var, (h.below hV).c0 hi, (h.below hV).c1 hi, (h.below hV).c0 hj, (h.below hV).c1 hj⟩)

/-- The swap's two runs of stores. -/
def swW (blk off : Nat) (d : Array Pm) (i j : Nat) (W : World) : World := (W.setCells blk (off + i * 2) (encPm d[j]!)).setCells blk (off + j * 2) (encPm d[i]!)
theorem grownBy_setCell (W : World) (b o : Nat) (v : Value) : W.grownBy (W.setCell ⟨b, o, none⟩ v) (some b) :=
  ⟨rfl, rfl, rfl, by simp [World.setCell], fun k hk hne => by
    have hb : k ≠ b := fun h => hne (by rw [h])
    simp [World.setCell, Array.getElem?_modify, Ne.symm hb]⟩
theorem grownBy_setCells (b : Nat) : ∀ (vs : List Value) (o : Nat) (W : World), W.grownBy (W.setCells b o vs) (some b)
  | [], _, W => World.grownBy.refl W _
  | v :: r, o, W => (grownBy_setCell W b o v).trans (grownBy_setCells b r (o + 1) _)
theorem swW_grown (i j : Nat) : W.grownBy (swW blk off d i j W) (some blk) := (grownBy_setCells blk _ _ _).trans (grownBy_setCells blk _ _ _)
theorem Rw.swap (h : Rw blk off pv cap d W) (hne : pv ≠ blk) {i j : Nat} (hi : i < d.size) (hj : j < d.size) : Rw blk off pv cap (swp d i j) (swW blk off d i j W) := by
  have hg := swW_grown (blk := blk) (off := off) (d := d) (W := W) i j
  refine ⟨?_, Nat.lt_of_lt_of_le h.lt hg.size, ?_, fun t ht => ?_⟩
  · have e := putRowK_swp encPm 2 encPm_len W blk off d i j hi hj
    rw [putRowK_self encPm 2 W blk off d h.holds] at e
    unfold swW
    rw [e]
    exact holdsK_putRowK encPm 2 W blk off d _ h.holds (size_swp d i j)
  · rw [hg.cell h.var (by simp; exact hne), size_swp]
  · rw [swp_get d hi hj]
    rw [size_swp] at ht
    split
    · exact h.small i hi
    · split
      · exact h.small j hj
      · exact h.small t ht
end
end Go.Proofs.Qxb6614755a
