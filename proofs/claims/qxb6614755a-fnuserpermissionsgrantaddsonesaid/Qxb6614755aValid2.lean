/- ValidName (63): the same plain property. -/
import Derived.Test.Qxb6614755aValid
import Derived.Deep.Light
namespace Go.Proofs.Qxb6614755a
open Go.RowKit
set_option linter.unusedSimpArgs false


set_option maxRecDepth 100000 in
set_option maxHeartbeats 1000000 in
theorem valid_says (s : ByteArray) (w : World) (hs : s.size ≤ maxLen) : Calls Try.prog 63 #[.string s] w (ValidSays s w) := by
  unfold maxLen at hs
  by_cases h0 : s.size = 0
  · have t0 : (((s.size : Nat) : Int) == 0) = true := by simp [h0]
    have HV := hide (says_no (s := s) (w := w) (fun h => h.1 h0))
    clear h0
    go_enter Try.func63, Try.ntmps63
    go_wp2
    go_ret
    exact HV.out
  have t0 : (((s.size : Nat) : Int) == 0) = false := by rw [beq_eq_false_iff_ne]; omega
  by_cases h1 : 255 < s.size
  · have HV := hide (says_no (s := s) (w := w) (fun h => by have := h.2.1; omega))
    go_enter Try.func63, Try.ntmps63
    go_wp2
    go_ret
    exact HV.out
  go_enter Try.func63, Try.ntmps63
  go_wp2
  go_loop [3, 4, 22, 41] (fun i _ _ _ => ∃ k : Nat, k ≤ s.size ∧ i = .int .i64 k ∧ Hid (∀ j (h : j < s.size), j < k → okI (s[j].toNat : Int))) (fun i _ _ _ => s.size - (intOf i).toNat)
  case atStart => exact ⟨0, Nat.zero_le _, rfl, fun j _ hj => by omega⟩
  case round =>
    obtain ⟨k, hk, rfl, hno⟩ := hrel
    by_cases hlt : k < s.size
    · go_wp2
      all_goals first
        | (go_ret
           go_light
           refine says_no (bad_byte hlt ?_)
           unfold okI
           simp only [beq_iff_eq, beq_eq_false_iff_ne, ne_eq] at *
           omega)
        | (go_light
           refine ⟨⟨k + 1, by omega, by go_num, ok_step hno.out hlt ?_⟩, by simp [intOf]; omega⟩
           unfold okI
           simp only [beq_iff_eq, beq_eq_false_iff_ne, ne_eq] at *
           omega)
    · have HV := hide (says_yes (s := s) (w := w) ⟨h0, by omega, fun j hj => hno.out j hj (by omega)⟩)
      go_wp2
      go_ret
      exact HV.out
theorem valid_yes (s : ByteArray) (w : World) (hs : s.size ≤ maxLen) (h : Valid s) : Calls Try.prog 63 #[.string s] w fun e w' => e = .returned (.bool true) ∧ w' = w :=
  (valid_says s w hs).mono fun e w' ⟨b, he, hb, hw⟩ => ⟨by rw [he, hb.2 h], hw⟩
theorem valid_no (s : ByteArray) (w : World) (hs : s.size ≤ maxLen) (h : ¬ Valid s) : Calls Try.prog 63 #[.string s] w fun e w' => e = .returned (.bool false) ∧ w' = w :=
  (valid_says s w hs).mono fun e w' ⟨b, he, hb, hw⟩ => ⟨by cases b <;> simp_all, hw⟩
end Go.Proofs.Qxb6614755a
