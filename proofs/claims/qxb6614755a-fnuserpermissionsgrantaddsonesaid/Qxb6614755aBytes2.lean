/- The guards on total length 9 and 21. -/
import Derived.Test.Qxb6614755aBytes
namespace Go.Proofs.Qxb6614755a
open Go.RowKit

set_option maxRecDepth 100000 in
set_option maxHeartbeats 400000 in
theorem bytes9_any (a : Option Addr) (n cap : Nat) (S : Nat → ByteArray) (x : ByteArray) (w : World) (hn : n ≤ maxLen) (h : Strs w a n S) :
    Calls Try.prog 9 #[.slice a n cap, .string x] w (Guards (n ≤ 1048576 ∧ x.size ≤ 1048576) w) := by
  unfold maxLen at hn
  by_cases hbig : 1048576 < n
  · go_enter Try.func9, Try.ntmps9
    go_wp2
    go_ret
    exact ⟨false, rfl, by simp, rfl⟩
  have H : Hid (Strs w a n S) := h
  clear h
  go_enter Try.func9, Try.ntmps9
  go_wp2
  go_loop [5, 6] (fun t i => ∃ (k t' : Nat), k ≤ n ∧ i = .int .i64 k ∧ t = .int .i64 t' ∧ t' ≤ 1048576) (fun _ i => n - (intOf i).toNat)
  case atStart => exact ⟨0, n, Nat.zero_le _, rfl, rfl, by omega⟩
  case round =>
    obtain ⟨k, t', hk, rfl, rfl, ht⟩ := hrel
    by_cases hlt : k < n
    · obtain ⟨b, off, rfl, hc⟩ := H.out.at hlt
      have hck := hc k hlt
      clear hc
      go_wp2
      · go_ret
        exact ⟨false, rfl, by simp, rfl⟩
      · go_ret
        exact ⟨false, rfl, by simp, rfl⟩
      · go_round
        case rel => exact ⟨k + 1, t' + (S k).size, by omega, by go_num, by go_num, by omega⟩
        case measure => simp [intOf]; omega
    · by_cases hx : 1048576 < x.size
      · go_wp2
        go_ret
        exact ⟨false, rfl, by simp, rfl⟩
      · go_wp2
        · go_ret
          exact ⟨false, rfl, by simp, rfl⟩
        · go_ret
          exact ⟨true, rfl, fun _ => ⟨by omega, by omega⟩, rfl⟩

set_option maxRecDepth 100000 in
set_option maxHeartbeats 400000 in
theorem bytes21_any (a a2 : Option Addr) (n n2 cap cap2 : Nat) (S S2 : Nat → ByteArray) (w : World) (hn : n ≤ maxLen) (hn2 : n2 ≤ maxLen) (h : Strs w a n S) (h2 : Strs w a2 n2 S2) :
    Calls Try.prog 21 #[.slice a n cap, .slice a2 n2 cap2] w (Guards (n ≤ 1048576 ∧ n2 ≤ 1048576) w) := by
  unfold maxLen at hn hn2
  by_cases hbig : 1048576 < n
  · go_enter Try.func21, Try.ntmps21
    go_wp2
    go_ret
    exact ⟨false, rfl, by simp, rfl⟩
  have H : Hid (Strs w a n S) := h
  have H2 : Hid (Strs w a2 n2 S2) := h2
  clear h h2
  go_enter Try.func21, Try.ntmps21
  go_wp2
  go_loop [5, 6] (fun t i => ∃ (k t' : Nat), k ≤ n ∧ i = .int .i64 k ∧ t = .int .i64 t' ∧ t' ≤ 1048576) (fun _ i => n - (intOf i).toNat)
  case atStart => exact ⟨0, n, Nat.zero_le _, rfl, rfl, by omega⟩
  case round =>
    obtain ⟨k, t', hk, rfl, rfl, ht⟩ := hrel
    by_cases hlt : k < n
    · obtain ⟨b, off, rfl, hc⟩ := H.out.at hlt
      have hck := hc k hlt
      clear hc
      go_wp2
      · go_ret
        exact ⟨false, rfl, by simp, rfl⟩
      · go_ret
        exact ⟨false, rfl, by simp, rfl⟩
      · go_round
        case rel => exact ⟨k + 1, t' + (S k).size, by omega, by go_num, by go_num, by omega⟩
        case measure => simp [intOf]; omega
    · by_cases hx : 1048576 < n2
      · go_wp2
        go_ret
        exact ⟨false, rfl, by simp, rfl⟩
      · by_cases hy : 1048576 < t' + n2
        · go_wp2
          go_ret
          exact ⟨false, rfl, by simp, rfl⟩
        go_wp2
        go_loop [5, 7] (fun t i => ∃ (k t' : Nat), k ≤ n2 ∧ i = .int .i64 k ∧ t = .int .i64 t' ∧ t' ≤ 1048576) (fun _ i => n2 - (intOf i).toNat)
        case atStart => exact ⟨0, t' + n2, Nat.zero_le _, rfl, by go_num, by omega⟩
        case round =>
          obtain ⟨k2, t2, hk2, rfl, rfl, ht2⟩ := hrel
          by_cases hlt2 : k2 < n2
          · obtain ⟨b, off, rfl, hc⟩ := H2.out.at hlt2
            have hck := hc k2 hlt2
            clear hc
            go_wp2
            · go_ret
              exact ⟨false, rfl, by simp, rfl⟩
            · go_ret
              exact ⟨false, rfl, by simp, rfl⟩
            · go_round
              case rel => exact ⟨k2 + 1, t2 + (S2 k2).size, by omega, by go_num, by go_num, by omega⟩
              case measure => simp [intOf]; omega
          · go_wp2
            go_ret
            exact ⟨true, rfl, fun _ => ⟨by omega, by omega⟩, rfl⟩
end Go.Proofs.Qxb6614755a
