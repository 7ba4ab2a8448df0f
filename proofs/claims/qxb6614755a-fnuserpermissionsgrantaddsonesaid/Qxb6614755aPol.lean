/- What the laws on DSD sets share: the new policy; what stays while its maps are filled. -/
import Derived.Test.Qxb6614755aDel
import Derived.Test.Qxb6614755aMinus
import Derived.Test.Qxb6614755aBytes2
namespace Go.Proofs.Qxb6614755a
open Go.RowKit Go.Maps Go.Sort Go.WideMaps

theorem ownsMap_empty {H : Type} {w : World} {b : Nat} (h : w.heap[b]? = some (.map #[] 0)) (P : Program) (k : TypeId) (R : Value → Option (DataW H × List MemPlace)) : w.ownsMap P k R b 0 (.map []) :=
  ⟨#[], 0, h, ⟨by simp, Go.MapKept.stamped_empty 0, by simp⟩, Nat.le_refl _, rfl⟩

/-- The new policy: seven empty maps, then the struct that leads to them. -/
structure NewPol (w w' : World) : Prop where
  cells : ∀ i, i < 7 → w'.cell? ⟨w.heap.size + 7, i, none⟩ = some (.map (some (w.heap.size + i)))
  maps : ∀ i, i < 7 → w'.heap[w.heap.size + i]? = some (.map #[] 0)
  below : Below w.heap.size w w'
  size : w'.heap.size = w.heap.size + 8

theorem heap_push (w : World) (o : Obj) : (w.alloc o).heap = w.heap.push o := rfl
theorem cell_block {w : World} {g : Nat} {cs : Array Value} {t : TypeId} {fr : Nat × Nat} (h : w.heap[g]? = some (.cells cs t fr)) (i : Nat) : w.cell? ⟨g, i, none⟩ = cs[i]? := by simp [World.cell?, h]

theorem newPolicy_new (w : World) : Calls Try.prog 12 #[] w fun e w' => e = .returned (.pointer (some ⟨w.heap.size + 7, 0, none⟩)) ∧ NewPol w w' := by
  refine (newPolicy_any w).mono ?_
  rintro e w' ⟨rfl, rfl⟩
  refine ⟨rfl, ⟨fun i hi => ?_, fun i hi => ?_, ?_, by simp⟩⟩
  · rw [cell_block (t := 70) (fr := (0, 0)) (cs := #[.map (some w.heap.size), .map (some (w.heap.size + 1)), .map (some (w.heap.size + 2)), .map (some (w.heap.size + 3)), .map (some (w.heap.size + 4)), .map (some (w.heap.size + 5)), .map (some (w.heap.size + 6))]) (by simp only [heap_push, Array.getElem?_push, Array.size_push]; exact if_pos trivial)]
    have : i = 0 ∨ i = 1 ∨ i = 2 ∨ i = 3 ∨ i = 4 ∨ i = 5 ∨ i = 6 := by omega
    rcases this with rfl | rfl | rfl | rfl | rfl | rfl | rfl <;> rfl
  · have : i = 0 ∨ i = 1 ∨ i = 2 ∨ i = 3 ∨ i = 4 ∨ i = 5 ∨ i = 6 := by omega
    simp only [heap_push, Array.getElem?_push, Array.size_push]
    rcases this with rfl | rfl | rfl | rfl | rfl | rfl | rfl <;> repeat (first | rw [if_pos (by omega)] | rw [if_neg (by omega)])
  · exact ((((((((Below.refl _ w).alloc (Nat.le_refl _) _).alloc (by simp) _).alloc (by simp; omega) _).alloc (by simp; omega) _).alloc (by simp; omega) _).alloc (by simp; omega) _).alloc (by simp; omega) _).alloc (by simp; omega) _

/-- While the policy's DSD map is filled: what was there before it stays; the struct leads to the map. -/
structure DInv (w1 wr : World) (k : Nat) (D : DataW (Option Addr)) : Prop where
  below : Below w1.heap.size w1 wr
  dsd : wr.cell? ⟨w1.heap.size + 7, 6, none⟩ = some (.map (some (w1.heap.size + 6)))
  own : wr.ownsMap Try.prog 9 ptrElem (w1.heap.size + 6) k D

theorem DInv.turn {w1 wr w' : World} {k k' : Nat} {D D' : DataW (Option Addr)} (h : DInv w1 wr k D) (hg : wr.grownBy w' (some (w1.heap.size + 6))) (ho : w'.ownsMap Try.prog 9 ptrElem (w1.heap.size + 6) k' D') : DInv w1 w' k' D' :=
  ⟨h.below.grown hg h.below.size (fun j hj => by cases hj; omega), hg.cell h.dsd (by simp), ho⟩
theorem DInv.stays {w1 wr w' : World} {k : Nat} {D : DataW (Option Addr)} (h : DInv w1 wr k D) (hg : wr.grownBy w' none) : DInv w1 w' k D :=
  ⟨h.below.grown hg h.below.size (fun j hj => by cases hj), hg.cell h.dsd (by simp), h.own.kept hg (by simp)⟩
theorem DInv.drew {w1 wr w' : World} {k : Nat} {D : DataW (Option Addr)} (h : DInv w1 wr k D) (hd : Drew wr w') : DInv w1 w' k D := h.stays (grown_of_below (hd.below _))
theorem DInv.other {w1 wr w' : World} {k b : Nat} {D : DataW (Option Addr)} (h : DInv w1 wr k D) (hg : wr.grownBy w' (some b)) (hb : w1.heap.size ≤ b) (h6 : b ≠ w1.heap.size + 6) (h7 : b ≠ w1.heap.size + 7) : DInv w1 w' k D :=
  ⟨h.below.grown hg h.below.size (fun j hj => by cases hj; exact hb), hg.cell h.dsd (by simp; omega), h.own.kept hg (by simp; omega)⟩
theorem NewPol.dInv {w1 w' : World} (h : NewPol w1 w') : DInv w1 w' 0 (.map []) := ⟨h.below, h.cells 6 (by omega), ownsMap_empty (h.maps 6 (by omega)) _ _ _⟩

/-- The names that a map from names holds: just the first k of S. -/
def HasP (D : DataW (Option Addr)) (S : Nat → ByteArray) (k : Nat) : Prop := ∀ x : Bs, Maps.has D (.string x) = true ↔ ∃ j, j < k ∧ tl S j = x
theorem hasP_empty (S : Nat → ByteArray) : HasP (.map []) S 0 := fun x => by
  constructor
  · intro h; simp [Maps.has] at h
  · rintro ⟨j, h1, _⟩; omega
theorem has_put_iff {H : Type} {D : DataW H} (hm : Maps.IsMap D) (y x : Bs) (d : DataW H) : Maps.has (D.put (.string y) d) (.string x) = true ↔ Maps.has D (.string x) = true ∨ x = y := by
  by_cases e : x = y
  · subst e
    rw [Maps.has_put_same hm (by trivial)]
    simp
  · rw [Maps.has_put_other (fun h => e (by injection h))]
    simp [e]
theorem has_del_iff {H : Type} {D : DataW H} (y x : Bs) : Maps.has (D.del (.string y)) (.string x) = true ↔ Maps.has D (.string x) = true ∧ x ≠ y := by
  by_cases e : x = y
  · subst e
    rw [Maps.has_del_same]
    simp
  · rw [Maps.has_del_other (fun h => e (by injection h))]
    simp [e]
theorem hasP_put {D : DataW (Option Addr)} {S : Nat → ByteArray} {k : Nat} {d : DataW (Option Addr)} (h : HasP D S k) (hm : Maps.IsMap D) : HasP (D.put (.string (S k).toList) d) S (k + 1) := fun x => by
  rw [has_put_iff hm, h x]
  constructor
  · rintro (⟨j, h1, h2⟩ | h1)
    · exact ⟨j, by omega, h2⟩
    · exact ⟨k, by omega, h1.symm⟩
  · rintro ⟨j, h1, h2⟩
    by_cases e : j = k
    · subst e; exact .inr h2.symm
    · exact .inl ⟨j, by omega, h2⟩

/-- .. those of the first n of S that are none of the first i of S2. -/
def HasM (D : DataW (Option Addr)) (S : Nat → ByteArray) (n : Nat) (S2 : Nat → ByteArray) (i : Nat) : Prop := ∀ x : Bs, Maps.has D (.string x) = true ↔ (∃ j, j < n ∧ tl S j = x) ∧ ¬ ∃ j, j < i ∧ tl S2 j = x
theorem hasM_start {D : DataW (Option Addr)} {S : Nat → ByteArray} {n : Nat} (S2 : Nat → ByteArray) (h : HasP D S n) : HasM D S n S2 0 := fun x => by
  rw [h x]
  constructor
  · intro h1; exact ⟨h1, fun ⟨j, hj, _⟩ => by omega⟩
  · exact fun h1 => h1.1
theorem not_before {S2 : Nat → ByteArray} {i : Nat} {x : Bs} : (¬ ∃ j, j < i + 1 ∧ tl S2 j = x) ↔ (¬ ∃ j, j < i ∧ tl S2 j = x) ∧ x ≠ tl S2 i := by
  constructor
  · intro h; exact ⟨fun ⟨j, h1, h2⟩ => h ⟨j, by omega, h2⟩, fun e => h ⟨i, by omega, e.symm⟩⟩
  · rintro ⟨h1, h2⟩ ⟨j, h3, h4⟩
    by_cases e : j = i
    · subst e; exact h2 h4.symm
    · exact h1 ⟨j, by omega, h4⟩
theorem hasM_gone {D : DataW (Option Addr)} {S S2 : Nat → ByteArray} {n i : Nat} (h : HasM D S n S2 i) : HasM (D.del (.string (S2 i).toList)) S n S2 (i + 1) := fun x => by
  rw [has_del_iff, h x, not_before]
  constructor
  · rintro ⟨⟨h1, h2⟩, h3⟩; exact ⟨h1, h2, h3⟩
  · rintro ⟨h1, h2, h3⟩; exact ⟨⟨h1, h2⟩, h3⟩
theorem hasM_kept {D : DataW (Option Addr)} {S S2 : Nat → ByteArray} {n i : Nat} (h : HasM D S n S2 i) (hno : Maps.has D (.string (tl S2 i)) = false) : HasM D S n S2 (i + 1) := fun x => by
  rw [not_before]
  constructor
  · intro h1
    have := (h x).1 h1
    exact ⟨this.1, this.2, fun e => by subst e; rw [hno] at h1; cases h1⟩
  · rintro ⟨h1, h2, _⟩; exact (h x).2 ⟨h1, h2⟩
end Go.Proofs.Qxb6614755a
