/- Permissions as keys of maps (type 58). -/
import Derived.Test.Qxb6614755aPs0
import Derived.Maps.RangeWalk
import Derived.Maps.OwnSet
import Derived.Maps.OwnOps
import Derived.Maps.Views
import Derived.DeepKeys4
namespace Go.Proofs.Qxb6614755a
open Go.RowKit Go.Maps Go.WideMaps

theorem laidOut58 : laidOutB Try.prog = true := by kernel_rfl
theorem row58 : (58 : TypeId) < Try.prog.types.size := of_decide_eq_true (by kernel_rfl)
theorem wide58 : (match Try.prog.underlying 58 with | some (.array _ _) | some (.struct _) => true | _ => false) = true := by kernel_rfl
set_option maxRecDepth 100000 in
theorem kl58 : KeyLaw Try.prog 58 := deep_law_laid laidOut58 (m := 2) (by omega) row58 (by kernel_rfl) wide58
theorem law58 : Keyed Try.prog 58 := Keyed.of_law kl58

/-- A permission, as a value; and its bytes as a key. -/
def pmV (p : Pm) : Value := .agg #[.string p.1, .string p.2]
def kb (p : Pm) : List UInt8 := keyBytes [.string p.1.data.toList, .string p.2.data.toList]
theorem cells58 : Try.prog.cellsOf 58 = 2 := by kernel_rfl
theorem cells9' : Try.prog.cellsOf 9 = 1 := by kernel_rfl
theorem keyType58 : Try.prog.keyType 58 = true := by kernel_rfl
theorem formed58 {c0 c1 : Value} : (Value.agg #[c0, c1]).formed Try.prog 58 = true := by
  simp [Value.formed, Try.underlying58, cells58]
theorem keyPm (p : Pm) (h1 : p.1.size ≤ maxLen) (h2 : p.2.size ≤ maxLen) : keyOf Try.prog 58 (pmV p) = some (.string (kb p)) := by
  obtain ⟨m, hm⟩ : ∃ m, Try.prog.types.size = m + 1 := Nat.exists_eq_succ_of_ne_zero (Nat.ne_of_gt (Nat.lt_of_le_of_lt (Nat.zero_le _) row58))
  unfold keyOf pmV
  rw [hm]
  simp [Try.underlying58, keyType58, formed58, Program.keyLits, cells58, cells9', h1, h2, kb, Value.cells]

theorem lits9_inv {d : Nat} {cs : List Value} {ls : List Lit} (h : Try.prog.keyLits d 9 cs = some ls) : ∃ s : ByteArray, cs = [.string s] ∧ s.size ≤ maxLen ∧ ls = [.string s.data.toList] := by
  cases d with
  | zero => simp [Program.keyLits] at h
  | succ d =>
    rcases cs with _ | ⟨v, _ | ⟨u, r⟩⟩
    · simp [Program.keyLits, Try.underlying9] at h
    · cases v <;> simp [Program.keyLits, Try.underlying9] at h
      exact ⟨_, rfl, h.1, h.2.symm⟩
    · simp [Program.keyLits, Try.underlying9] at h
theorem lits58 (d : Nat) (c0 c1 : Value) : Try.prog.keyLits (d + 1) 58 [c0, c1] = (Try.prog.keyLits d 9 [c0]).bind fun a => (Try.prog.keyLits d 9 [c1]).bind fun b => some (a ++ b) := by
  simp only [Program.keyLits, Try.underlying58, cells58]
  simp [cells9']
  cases Try.prog.keyLits d 9 [c0] <;> cases Try.prog.keyLits d 9 [c1] <;> simp
theorem agg58 {v : Value} (hf : v.formed Try.prog 58 = true) : ∃ c0 c1, v = .agg #[c0, c1] := by
  cases v <;> simp [Value.formed, Try.underlying58, cells58] at hf
  rename_i cs
  obtain ⟨l⟩ := cs
  have hl : l.length = 2 := by simpa using hf
  rcases l with _ | ⟨c0, _ | ⟨c1, _ | ⟨c2, r⟩⟩⟩
  · simp at hl
  · simp at hl
  · exact ⟨c0, c1, rfl⟩
  · simp at hl
theorem keyPm_inv {v : Value} {l : Lit} (h : keyOf Try.prog 58 v = some l) : ∃ p : Pm, v = pmV p ∧ p.1.size ≤ maxLen ∧ p.2.size ≤ maxLen ∧ l = .string (kb p) := by
  unfold keyOf at h
  simp only [Try.underlying58, keyType58, Bool.true_and] at h
  split at h
  · rename_i hf
    simp only [Option.map_eq_some_iff] at h
    obtain ⟨ls, hl, rfl⟩ := h
    obtain ⟨c0, c1, rfl⟩ := agg58 hf
    rw [show (Value.agg #[c0, c1]).cells.toList = [c0, c1] from rfl, lits58] at hl
    simp only [Option.bind_eq_some_iff, Option.some.injEq] at hl
    obtain ⟨a, ha, b, hb, rfl⟩ := hl
    obtain ⟨s, e1, h1, rfl⟩ := lits9_inv ha
    obtain ⟨t, e2, h2, rfl⟩ := lits9_inv hb
    cases e1
    cases e2
    exact ⟨(s, t), rfl, h1, h2, rfl⟩
  · cases h
theorem kb_inj {p q : Pm} (h1 : p.1.size ≤ maxLen) (h2 : p.2.size ≤ maxLen) (h3 : q.1.size ≤ maxLen) (h4 : q.2.size ≤ maxLen) (h : kb p = kb q) : p = q := by
  have := law58.inj (keyPm p h1 h2) (by rw [h]; exact keyPm q h3 h4)
  obtain ⟨a, b⟩ := p
  obtain ⟨c, d⟩ := q
  simpa [pmV] using this
end Go.Proofs.Qxb6614755a
