/- The guards on total length, laid by program: they answer some bool; true only where the slices are short. -/
import Derived.Test.Qxb6614755aBase
import Derived.Deep.Light
namespace Go.Proofs.Qxb6614755a
open Go.RowKit

/-- It answers some bool; true only if p; the world is as it was. -/
def Guards (p : Prop) (w : World) (e : Ending) (w' : World) : Prop := ∃ r : Bool, e = .returned (.bool r) ∧ (r = true → p) ∧ w' = w

set_option maxRecDepth 100000 in
set_option maxHeartbeats 400000 in
theorem bytes22_any (a : Option Addr) (n cap : Nat) (S : Nat → ByteArray) (z : Int) (w : World) (hn : n ≤ maxLen) (h : Strs w a n S) :
    Calls Try.prog 22 #[.slice a n cap, .int .i64 z] w (Guards (n ≤ 1048576) w) := by
  unfold maxLen at hn
  by_cases hbig : 1048576 < n
  · go_enter Try.func22, Try.ntmps22
    go_wp2
    go_ret
    exact ⟨false, rfl, by simp, rfl⟩
  have H : Hid (Strs w a n S) := h
  clear h
  go_enter Try.func22, Try.ntmps22
  go_wp2
  go_loop [5, 6] (fun t i => ∃ (k t' : Nat), k ≤ n ∧ i = .int .i64 k ∧ t = .int .i64 t' ∧ t' ≤ 1048576) (fun _ i => n - (intOf i).toNat)
  case atStart => exact ⟨0, n, Nat.zero_le _, rfl, rfl, by omega⟩
  case round =>
    obtain ⟨k, t', hk, rfl, rfl, ht⟩ := hrel
    by_cases hlt : k < n
    · obtain ⟨b, off, rfl, hc⟩ := H.out.at hlt
      have hck := hc k hlt
      clear hc
      go_wp2
      · go_ret
        exact ⟨false, rfl, by simp, rfl⟩
      · go_ret
        exact ⟨false, rfl, by simp, rfl⟩
      · go_round
        case rel => exact ⟨k + 1, t' + (S k).size, by omega, by go_num, by go_num, by omega⟩
        case measure => simp [intOf]; omega
    · go_wp2
      go_ret
      exact ⟨true, rfl, fun _ => by omega, rfl⟩

set_option maxRecDepth 100000 in
set_option maxHeartbeats 400000 in
theorem bytes27_any (a : Option Addr) (n cap : Nat) (S : Nat → ByteArray) (x : ByteArray) (w : World) (hn : n ≤ maxLen) (h : Strs w a n S) :
    Calls Try.prog 27 #[.slice a n cap, .string x] w (Guards (n ≤ 1048576 ∧ x.size ≤ 1048576) w) := by
  unfold maxLen at hn
  by_cases hbig : 1048576 < n
  · go_enter Try.func27, Try.ntmps27
    go_wp2
    go_ret
    exact ⟨false, rfl, by simp, rfl⟩
  have H : Hid (Strs w a n S) := h
  clear h
  go_enter Try.func27, Try.ntmps27
  go_wp2
  go_loop [5, 6] (fun t i => ∃ (k t' : Nat), k ≤ n ∧ i = .int .i64 k ∧ t = .int .i64 t' ∧ t' ≤ 1048576) (fun _ i => n - (intOf i).toNat)
  case atStart => exact ⟨0, n, Nat.zero_le _, rfl, rfl, by omega⟩
  case round =>
    obtain ⟨k, t', hk, rfl, rfl, ht⟩ := hrel
    by_cases hlt : k < n
    · obtain ⟨b, off, rfl, hc⟩ := H.out.at hlt
      have hck := hc k hlt
      clear hc
      go_wp2
      · go_ret
        exact ⟨false, rfl, by simp, rfl⟩
      · go_ret
        exact ⟨false, rfl, by simp, rfl⟩
      · go_round
        case rel => exact ⟨k + 1, t' + (S k).size, by omega, by go_num, by go_num, by omega⟩
        case measure => simp [intOf]; omega
    · by_cases hx : 1048576 < x.size
      · go_wp2
        go_ret
        exact ⟨false, rfl, by simp, rfl⟩
      · go_wp2
        · go_ret
          exact ⟨false, rfl, by simp, rfl⟩
        · go_ret
          exact ⟨true, rfl, fun _ => ⟨by omega, by omega⟩, rfl⟩
end Go.Proofs.Qxb6614755a
