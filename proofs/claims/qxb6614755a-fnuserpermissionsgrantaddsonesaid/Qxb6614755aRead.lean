/- The walks of the helpers that only read: zzStrictlyIncreasing, zzSortedHas, zzStringsEqual, zzAddLen, zzStringsBytes. -/
import Derived.Test.Qxb6614755aBase
import Derived.Deep.Light
import Derived.Deep.RegionWith
namespace Go.Proofs.Qxb6614755a
open Go.RowKit

set_option maxHeartbeats 400000 in
theorem increasing_yes (a : Option Addr) (n cap : Nat) (S : Nat → ByteArray) (w : World) (hn : n ≤ maxLen) (h : Strs w a n S) (hs : ∀ j, j + 1 < n → Op.bytesLess (S j).toList (S (j + 1)).toList = true) :
    Calls Try.prog 24 #[.slice a n cap] w fun e w' => e = .returned (.bool true) ∧ Drew w w' := by
  unfold maxLen at hn
  have H : Hid (Strs w a n S) := h
  have HS : Hid (∀ j, j + 1 < n → Op.bytesLess (S j).toList (S (j + 1)).toList = true) := hs
  clear h hs
  go_enter Try.func24, Try.ntmps24
  go_wp2
  go_loopw [3] (fun i wr => ∃ k : Nat, 1 ≤ k ∧ (k ≤ n ∨ k = 1) ∧ i = .int .i64 k ∧ Hid (Drew w wr)) (fun i _ => n - (intOf i).toNat)
  case atStart => exact ⟨1, Nat.le_refl _, .inr rfl, rfl, ⟨0, rfl⟩⟩
  case round =>
    obtain ⟨k, hk1, hk, rfl, hw⟩ := hrel
    obtain ⟨q, rfl⟩ := hw.out
    clear hw
    by_cases hlt : k < n
    · obtain ⟨b, off, rfl, hc⟩ := H.out.at hlt
      obtain ⟨m, rfl⟩ : ∃ m, k = m + 1 := ⟨k - 1, by omega⟩
      have hck := hc (m + 1) hlt
      have hcm := hc m (by omega)
      have ht := HS.out m hlt
      clear hc
      go_wp2
      go_quiet (fail)
      go_wp2
      go_roundw
      case rel => exact ⟨m + 1 + 1, by omega, by omega, by go_num, ⟨_, rfl⟩⟩
      case measure => simp [intOf]; omega
    · go_wp2
      go_ret
      exact ⟨rfl, ⟨_, rfl⟩⟩

set_option maxHeartbeats 400000 in
/-- zzSortedHas, x at place m of a row that is sorted about it. -/
theorem sortedHas_yes (a : Option Addr) (n cap : Nat) (S : Nat → ByteArray) (x : ByteArray) (m : Nat) (w : World) (hn : n ≤ maxLen) (h : Strs w a n S) (hm : m < n)
    (hs : ∀ j, j < n → Op.bytesLess (S j).toList x.toList = decide (j < m)) (he : ((S m).toList == x.toList) = true) :
    Calls Try.prog 25 #[.slice a n cap, .string x] w fun e w' => e = .returned (.bool true) ∧ Drew w w' := by
  unfold maxLen at hn
  obtain ⟨b, off, rfl, hc⟩ := h.at hm
  have H : Hid (∀ j, j < n → w.cell? ⟨b, off + j, none⟩ = some (.string (S j))) := hc
  have HS : Hid (∀ j, j < n → Op.bytesLess (S j).toList x.toList = decide (j < m)) := hs
  have hcm := hc m hm
  clear h hs hc
  go_enter Try.func25, Try.ntmps25
  go_wp2
  go_loop [5, 6, 7] (fun lo hi _ => ∃ l r : Nat, l ≤ m ∧ m ≤ r ∧ r ≤ n ∧ lo = .int .i64 l ∧ hi = .int .i64 r) (fun lo hi _ => (intOf hi).toNat - (intOf lo).toNat)
  case atStart => exact ⟨0, n, Nat.zero_le _, by omega, Nat.le_refl _, rfl, rfl⟩
  case round =>
    obtain ⟨l, r, hl, hr, hrn, rfl, rfl⟩ := hrel
    by_cases hlt : l < r
    · obtain ⟨md, hmd⟩ : ∃ md, md = l + (r - l) / 2 := ⟨_, rfl⟩
      have e1 : (l : Int) + ((r : Int) - (l : Int)) / 2 = (md : Int) := by omega
      have hck := H.out md (by omega)
      have ht := HS.out md (by omega)
      have b1 : l ≤ md := by omega
      have b2 : md < r := by omega
      have HM : Hid (md = l + (r - l) / 2) := hmd
      clear hmd
      by_cases hj : md < m
      · have ht' : Op.bytesLess (S md).toList x.toList = true := by rw [ht]; simpa using hj
        clear ht
        go_wp2
        go_round
        case rel => exact ⟨md + 1, r, by omega, hr, hrn, by go_num, rfl⟩
        case measure => simp [intOf]; omega
      · have ht' : Op.bytesLess (S md).toList x.toList = false := by rw [ht]; simpa using hj
        clear ht
        go_wp2
        go_round
        case rel => exact ⟨l, md, hl, by omega, by omega, rfl, rfl⟩
        case measure => simp [intOf]; omega
    · have : l = m := by omega
      subst this
      go_wp2
      go_ret
      exact ⟨rfl, ⟨0, rfl⟩⟩

set_option maxHeartbeats 400000 in
theorem stringsEqual_yes (a c : Option Addr) (n cap cap' : Nat) (S T : Nat → ByteArray) (w : World) (hn : n ≤ maxLen) (h : Strs w a n S) (h' : Strs w c n T) (he : ∀ j, j < n → ((S j).toList == (T j).toList) = true) :
    Calls Try.prog 28 #[.slice a n cap, .slice c n cap'] w fun e w' => e = .returned (.bool true) ∧ Drew w w' := by
  unfold maxLen at hn
  have H : Hid (Strs w a n S) := h
  have H' : Hid (Strs w c n T) := h'
  have HE : Hid (∀ j, j < n → ((S j).toList == (T j).toList) = true) := he
  clear h h' he
  go_enter Try.func28, Try.ntmps28
  go_wp2
  go_loopw [5] (fun i wr => ∃ k : Nat, k ≤ n ∧ i = .int .i64 k ∧ Hid (Drew w wr)) (fun i _ => n - (intOf i).toNat)
  case atStart => exact ⟨0, Nat.zero_le _, rfl, ⟨0, rfl⟩⟩
  case round =>
    obtain ⟨k, hk, rfl, hw⟩ := hrel
    obtain ⟨q, rfl⟩ := hw.out
    clear hw
    by_cases hlt : k < n
    · obtain ⟨b, off, rfl, hc⟩ := H.out.at hlt
      obtain ⟨b', off', rfl, hc'⟩ := H'.out.at hlt
      have hck := hc k hlt
      have hck' := hc' k hlt
      have ht := HE.out k hlt
      clear hc hc'
      go_wp2
      go_quiet (fail)
      go_wp2
      go_roundw
      case rel => exact ⟨k + 1, by omega, by go_num, ⟨_, rfl⟩⟩
      case measure => simp [intOf]; omega
    · go_wp2
      go_ret
      exact ⟨rfl, ⟨_, rfl⟩⟩

def addL (t n : Int) : Int := if 1048576 < t ∨ 1048576 < n then 1048577 else t + n
theorem addL_bd {t n : Int} (h0 : 0 ≤ t) (h1 : 0 ≤ n) : 0 ≤ addL t n ∧ addL t n ≤ 2097152 := by
  unfold addL; split <;> omega

theorem ret_int {k : IntKind} {a b : Int} (h : a = b) : Ending.returned (.int k a) = .returned (.int k b) := by rw [h]

set_option maxHeartbeats 400000 in
theorem addLen_any (t n : Int) (w : World) (h0 : 0 ≤ t) (h1 : 0 ≤ n) :
    Calls Try.prog 30 #[.int .i64 t, .int .i64 n] w fun e w' => e = .returned (.int .i64 (addL t n)) ∧ w' = w := by
  by_cases a : 1048576 < t
  · go_enter Try.func30, Try.ntmps30
    go_wp2
    go_ret
    exact ⟨ret_int (by unfold addL; rw [if_pos (.inl a)]), rfl⟩
  · by_cases b : 1048576 < n
    · go_enter Try.func30, Try.ntmps30
      go_wp2
      go_ret
      exact ⟨ret_int (by unfold addL; rw [if_pos (.inr b)]), rfl⟩
    · go_enter Try.func30, Try.ntmps30
      go_wp2
      go_ret
      exact ⟨ret_int (by unfold addL; rw [if_neg (by omega)]), rfl⟩

set_option maxHeartbeats 400000 in
theorem stringsBytes_any (a : Option Addr) (n cap : Nat) (S : Nat → ByteArray) (t : Int) (w : World) (hn : n ≤ maxLen) (h : Strs w a n S) (h0 : 0 ≤ t) :
    Calls Try.prog 10 #[.slice a n cap, .int .i64 t] w fun e w' => ∃ r : Int, e = .returned (.int .i64 r) ∧ 0 ≤ r ∧ Drew w w' := by
  unfold maxLen at hn
  by_cases hbig : 1048576 < t
  · go_enter Try.func10, Try.ntmps10
    go_wp2
    go_ret
    exact ⟨_, rfl, h0, ⟨0, rfl⟩⟩
  have H : Hid (Strs w a n S) := h
  clear h
  go_enter Try.func10, Try.ntmps10
  go_wp2
  go_loopw [5, 1] (fun i tv wr => ∃ (k : Nat) (t' : Int), k ≤ n ∧ i = .int .i64 k ∧ tv = .int .i64 t' ∧ 0 ≤ t' ∧ t' ≤ 1048576 ∧ Hid (Drew w wr)) (fun i _ _ => n - (intOf i).toNat)
  case atStart => exact ⟨0, t, Nat.zero_le _, rfl, rfl, h0, by omega, ⟨0, rfl⟩⟩
  case round =>
    obtain ⟨k, t', hk, rfl, rfl, ht0, ht1, hw⟩ := hrel
    by_cases hlt : k < n
    · obtain ⟨b, off, rfl, hc⟩ := H.out.at hlt
      have hck := (hw.out.cell _).trans (hc k hlt)
      have hb1 := addL_bd ht0 (n := 16) (by omega)
      have hb2 := addL_bd hb1.1 (n := ((S k).size : Int)) (by omega)
      clear hc
      go_wp2
      go_quiet (first | (go_at_call_of 30 (Value.int .i64 t'); exact Calls.quiet_of_same (addLen_any t' 16 _ ht0 (by omega))) | (go_at_call_of 30 (Value.int .i64 (addL t' 16)); exact Calls.quiet_of_same (addLen_any (addL t' 16) ((S k).size : Int) _ hb1.1 (by omega))))
      go_wp2
      · go_ret
        exact ⟨_, rfl, hb2.1, hw.out.drewN _⟩
      · go_roundw
        case rel =>
          refine ⟨k + 1, addL (addL t' 16) ((S k).size : Int), by omega, by go_num, rfl, hb2.1, ?_, hw.out.drewN _⟩
          go_light
          omega
        case measure => simp [intOf]; omega
    · go_wp2
      go_ret
      exact ⟨_, rfl, ht0, hw.out⟩
end Go.Proofs.Qxb6614755a
