/- What the rows of this seat share: a slice of strings that came in, opened. -/
import Derived.Test.Qxb6614755aRows
import Derived.Test.Qxb6614755aBase
import Derived.ProofKit
import Derived.ChangeOld
import Derived.Below
import Derived.SliceStrings
import Derived.OpenShut
namespace Go.Proofs.Qxb6614755a
open Go.ChangeShapes Go.WideShapes Go.ChangeAt Go.RowKit

theorem own : ownKnob Try.prog.godebug = none := by kernel_rfl
theorem laidOut : laidOutB Try.prog = true := by kernel_rfl
theorem cells9 : Try.prog.cellsOf 9 = 1 := by kernel_rfl

theorem cell_lt {w : World} {a : Addr} {v : Value} (h : w.cell? a = some v) : a.block < w.heap.size := by
  by_cases hb : a.block < w.heap.size
  · exact hb
  · rw [World.cell?, Array.getElem?_eq_none (by omega)] at h
    cases h

/-- A slice of strings that came in. -/
theorem open_names {H : Type} {enc : TypeId × Value → H} {W : World} {a : Option Addr} {len cap : Nat} {sp : Nat → Bool} {held : Bool} {d : DataW H} {p : List MemPlace}
    (h : DataW.Trod enc Try.prog W 0 sp held 22 (.slice a len cap) d p) :
    ∃ S : Nat → ByteArray, Strs W a len S ∧ len ≤ maxLen ∧ ∀ j, j < len → (S j).size ≤ maxLen := by
  obtain ⟨fuel, hf⟩ := h
  rcases open_strings Try.underlying22 Try.underlying9 cells9 hf with ⟨hcs, _⟩ | ⟨x, l, c, ss, hcs, _, hl, hm, hz, hx, hcell, hwz⟩
  · simp [Value.cells] at hcs
    obtain ⟨rfl, rfl, rfl⟩ := hcs
    exact ⟨fun _ => ByteArray.empty, .inl rfl, Nat.zero_le _, fun j hj => by omega⟩
  · simp [Value.cells] at hcs
    obtain ⟨rfl, rfl, rfl⟩ := hcs
    have hls : len ≤ ss.length := by rw [hz]; split <;> omega
    refine ⟨fun j => ss.getD j ByteArray.empty, ?_, by omega, fun j hj => hwz _ ?_⟩
    · by_cases h0 : len = 0
      · exact .inl h0
      · have hc0 := hcell 0 (by omega)
        obtain ⟨b, off, spot⟩ := x
        have hspot : spot = none := by simpa [Addr.add] using World.cell?_spot hc0
        subst hspot
        have hc0' := hc0
        rw [add_plain] at hc0'
        exact .inr ⟨b, off, rfl, cell_lt hc0', fun j hj => by rw [← add_plain]; exact hcell j (by omega)⟩
    · show ss.getD j ByteArray.empty ∈ ss
      rw [List.getD, List.getElem?_eq_getElem (by omega)]
      exact List.getElem_mem _
end Go.Proofs.Qxb6614755a
