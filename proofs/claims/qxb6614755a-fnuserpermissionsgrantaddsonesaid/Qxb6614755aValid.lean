/- zzValidName (11) and ValidName (63): one plain property. -/
import Derived.Test.Qxb6614755aBase
import Derived.Deep.Light
namespace Go.Proofs.Qxb6614755a
open Go.RowKit
set_option linter.unusedSimpArgs false

/-- A byte that a name may hold. -/
def okI (c : Int) : Prop := (97 ≤ c ∧ c ≤ 122) ∨ (65 ≤ c ∧ c ≤ 90) ∨ (48 ≤ c ∧ c ≤ 57) ∨ c = 95 ∨ c = 46 ∨ c = 45 ∨ c = 64

/-- A valid name: 1 to 255 bytes, each one that a name may hold. -/
def Valid (s : ByteArray) : Prop := s.size ≠ 0 ∧ s.size ≤ 255 ∧ ∀ k (h : k < s.size), okI (s[k].toNat : Int)

def ValidSays (s : ByteArray) (w : World) (e : Ending) (w' : World) : Prop := ∃ b : Bool, e = .returned (.bool b) ∧ (b = true ↔ Valid s) ∧ w' = w

theorem says_no {s : ByteArray} {w : World} (h : ¬ Valid s) : ValidSays s w (.returned (.bool false)) w := ⟨false, rfl, by simp [h], rfl⟩
theorem says_yes {s : ByteArray} {w : World} (h : Valid s) : ValidSays s w (.returned (.bool true)) w := ⟨true, rfl, by simp [h], rfl⟩
theorem bad_byte {s : ByteArray} {k : Nat} (hk : k < s.size) (h : ¬ okI (s[k].toNat : Int)) : ¬ Valid s := fun hv => h (hv.2.2 k hk)
theorem ok_step {s : ByteArray} {k : Nat} (hno : ∀ j (h : j < s.size), j < k → okI (s[j].toNat : Int)) (hk : k < s.size) (h : okI (s[k].toNat : Int)) : ∀ j (h : j < s.size), j < k + 1 → okI (s[j].toNat : Int) := fun j hj hjk => by
  by_cases e : j = k
  · subst e; exact h
  · exact hno j hj (by omega)

set_option maxRecDepth 100000 in
set_option maxHeartbeats 1000000 in
theorem zzValid_says (s : ByteArray) (w : World) (hs : s.size ≤ maxLen) : Calls Try.prog 11 #[.string s] w (ValidSays s w) := by
  unfold maxLen at hs
  by_cases h0 : s.size = 0
  · have t0 : (((s.size : Nat) : Int) == 0) = true := by simp [h0]
    have HV := hide (says_no (s := s) (w := w) (fun h => h.1 h0))
    clear h0
    go_enter Try.func11, Try.ntmps11
    go_wp2
    go_ret
    exact HV.out
  have t0 : (((s.size : Nat) : Int) == 0) = false := by rw [beq_eq_false_iff_ne]; omega
  by_cases h1 : 255 < s.size
  · have HV := hide (says_no (s := s) (w := w) (fun h => by have := h.2.1; omega))
    go_enter Try.func11, Try.ntmps11
    go_wp2
    go_ret
    exact HV.out
  go_enter Try.func11, Try.ntmps11
  go_wp2
  go_loop [3, 4] (fun i _ => ∃ k : Nat, k ≤ s.size ∧ i = .int .i64 k ∧ Hid (∀ j (h : j < s.size), j < k → okI (s[j].toNat : Int))) (fun i _ => s.size - (intOf i).toNat)
  case atStart => exact ⟨0, Nat.zero_le _, rfl, fun j _ hj => by omega⟩
  case round =>
    obtain ⟨k, hk, rfl, hno⟩ := hrel
    by_cases hlt : k < s.size
    · go_wp2
      all_goals first
        | (go_ret
           go_light
           refine says_no (bad_byte hlt ?_)
           unfold okI
           simp only [beq_iff_eq, beq_eq_false_iff_ne, ne_eq] at *
           omega)
        | (go_light
           refine ⟨⟨k + 1, by omega, by go_num, ok_step hno.out hlt ?_⟩, by simp [intOf]; omega⟩
           unfold okI
           simp only [beq_iff_eq, beq_eq_false_iff_ne, ne_eq] at *
           omega)
    · have HV := hide (says_yes (s := s) (w := w) ⟨h0, by omega, fun j hj => hno.out j hj (by omega)⟩)
      go_wp2
      go_ret
      exact HV.out
theorem zzValid_yes (s : ByteArray) (w : World) (hs : s.size ≤ maxLen) (h : Valid s) : Calls Try.prog 11 #[.string s] w fun e w' => e = .returned (.bool true) ∧ w' = w :=
  (zzValid_says s w hs).mono fun e w' ⟨b, he, hb, hw⟩ => ⟨by rw [he, hb.2 h], hw⟩
theorem zzValid_no (s : ByteArray) (w : World) (hs : s.size ≤ maxLen) (h : ¬ Valid s) : Calls Try.prog 11 #[.string s] w fun e w' => e = .returned (.bool false) ∧ w' = w :=
  (zzValid_says s w hs).mono fun e w' ⟨b, he, hb, hw⟩ => ⟨by cases b <;> simp_all, hw⟩
end Go.Proofs.Qxb6614755a
