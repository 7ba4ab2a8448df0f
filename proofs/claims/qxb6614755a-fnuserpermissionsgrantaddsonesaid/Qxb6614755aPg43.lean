/- The guards on total length 43 and 29. -/
import Derived.Test.Qxb6614755aPbd
namespace Go.Proofs.Qxb6614755a
open Go.RowKit

theorem guard_no {p : Prop} {w : World} : Guards p w (.returned (.bool false)) w := ⟨false, rfl, by simp, rfl⟩

set_option maxRecDepth 100000 in
set_option maxHeartbeats 2000000 in
theorem bytes43_any (a a2 : Option Addr) (nu nr cap cap2 : Nat) (U : Nat → UIn) (R : Nat → RIn) (x y z : ByteArray) (w : World) (hnu : nu ≤ maxLen) (hnr : nr ≤ maxLen) (h : UsAt w a nu U) (h2 : RsAt w a2 nr R) (hrl : ∀ i, i < nu → (U i).rl ≤ maxLen) (hgl : ∀ k, k < nr → (R k).gl ≤ maxLen) :
    Calls Try.prog 43 #[.slice a nu cap, .slice a2 nr cap2, .string x, .string y, .string z] w (Guards (nu ≤ 1048576 ∧ nr ≤ 1048576 ∧ su U nu + sg R nr ≤ 1048576) w) := by
  unfold maxLen at hnu hnr hrl hgl
  have H := hide h
  have H2 := hide h2
  clear h h2
  by_cases hbig : 1048576 < nu
  · go_enter Try.func43, Try.ntmps43
    go_wp2
    go_ret
    exact guard_no
  by_cases hbig2 : 1048576 < nr
  · go_enter Try.func43, Try.ntmps43
    go_wp2
    go_loop [11, 12] (fun t v => ∃ (i t' : Nat), i ≤ nu ∧ v = .int .i64 i ∧ t = .int .i64 t' ∧ t' ≤ 1048576) (fun _ v => nu - (intOf v).toNat)
    case atStart => exact ⟨0, nu, Nat.zero_le _, rfl, rfl, by omega⟩
    case round =>
      obtain ⟨i, t', hi, rfl, rfl, ht⟩ := hrel
      by_cases hlt : i < nu
      · obtain ⟨b, off, rfl, ⟨c0, c1⟩, hS⟩ := H.out.at hlt
        have HS := hide hS
        have hri := hrl i hlt
        clear hS
        go_wp2
        all_goals first | (go_ret; exact guard_no) | skip
        go_loop [11, 13] (fun t v => ∃ (j t' : Nat), j ≤ (U i).rl ∧ v = .int .i64 j ∧ t = .int .i64 t' ∧ t' ≤ 1048576) (fun _ v => (U i).rl - (intOf v).toNat)
        case atStart => exact ⟨0, t' + (U i).name.size + (U i).rl, Nat.zero_le _, rfl, by go_num, by omega⟩
        case round =>
          obtain ⟨j, t2, hj, rfl, rfl, ht2⟩ := hrel
          by_cases hltj : j < (U i).rl
          · obtain ⟨rb, ro, era, cj⟩ := HS.out.at hltj
            have k2 := cj j hltj
            have c1' := c1
            rw [era] at c1'
            clear cj
            go_wp2
            all_goals first | (go_ret; exact guard_no) | skip
            go_round
            case rel => exact ⟨j + 1, t2 + ((U i).R j).size, by omega, by go_num, by go_num, by omega⟩
            case measure => simp [intOf]; omega
          · go_wp2
            go_round
            case rel => exact ⟨i + 1, t2, by omega, by go_num, rfl, ht2⟩
            case measure => simp [intOf]; omega
      · go_wp2
        go_ret
        exact guard_no
  go_enter Try.func43, Try.ntmps43
  go_wp2
  go_loop [11, 12] (fun t v => ∃ (i t' : Nat), i ≤ nu ∧ v = .int .i64 i ∧ t = .int .i64 t' ∧ t' ≤ 1048576 ∧ nu + su U i ≤ t') (fun _ v => nu - (intOf v).toNat)
  case atStart => exact ⟨0, nu, Nat.zero_le _, rfl, rfl, by omega, by simp [su]⟩
  case round =>
    obtain ⟨i, t', hi, rfl, rfl, ht, hsu⟩ := hrel
    by_cases hlt : i < nu
    · obtain ⟨b, off, rfl, ⟨c0, c1⟩, hS⟩ := H.out.at hlt
      have HS := hide hS
      have hri := hrl i hlt
      clear hS
      go_wp2
      all_goals first | (go_ret; exact guard_no) | skip
      go_loop [11, 13] (fun t v => ∃ (j t' : Nat), j ≤ (U i).rl ∧ v = .int .i64 j ∧ t = .int .i64 t' ∧ t' ≤ 1048576 ∧ nu + su U i + (U i).rl ≤ t') (fun _ v => (U i).rl - (intOf v).toNat)
      case atStart => exact ⟨0, t' + (U i).name.size + (U i).rl, Nat.zero_le _, rfl, by go_num, by omega, by omega⟩
      case round =>
        obtain ⟨j, t2, hj, rfl, rfl, ht2, hsu2⟩ := hrel
        by_cases hltj : j < (U i).rl
        · obtain ⟨rb, ro, era, cj⟩ := HS.out.at hltj
          have k2 := cj j hltj
          have c1' := c1
          rw [era] at c1'
          clear cj
          go_wp2
          all_goals first | (go_ret; exact guard_no) | skip
          go_round
          case rel => exact ⟨j + 1, t2 + ((U i).R j).size, by omega, by go_num, by go_num, by omega, by omega⟩
          case measure => simp [intOf]; omega
        · go_wp2
          go_round
          case rel => exact ⟨i + 1, t2, by omega, by go_num, rfl, ht2, by simp only [su]; omega⟩
          case measure => simp [intOf]; omega
    · obtain rfl : i = nu := by omega
      clear hlt hi
      go_wp2
      all_goals first | (go_ret; exact guard_no) | skip
      go_loop [11, 14] (fun t v => ∃ (k t' : Nat), k ≤ nr ∧ v = .int .i64 k ∧ t = .int .i64 t' ∧ t' ≤ 1048576 ∧ su U i + sg R k ≤ t') (fun _ v => nr - (intOf v).toNat)
      case atStart => exact ⟨0, t' + nr, Nat.zero_le _, rfl, by go_num, by omega, by simp only [sg]; omega⟩
      case round =>
        obtain ⟨k, t3, hk, rfl, rfl, ht3, hsg⟩ := hrel
        by_cases hlt : k < nr
        · obtain ⟨b, off, rfl, ⟨c0, c1⟩, hS⟩ := H2.out.at hlt
          have HS := hide hS
          have hri := hgl k hlt
          clear hS
          go_wp2
          all_goals first | (go_ret; exact guard_no) | skip
          go_loop [11, 15] (fun t v => ∃ (j t' : Nat), j ≤ (R k).gl ∧ v = .int .i64 j ∧ t = .int .i64 t' ∧ t' ≤ 1048576 ∧ su U i + sg R k + (R k).gl ≤ t') (fun _ v => (R k).gl - (intOf v).toNat)
          case atStart => exact ⟨0, t3 + (R k).name.size + (R k).gl, Nat.zero_le _, rfl, by go_num, by omega, by omega⟩
          case round =>
            obtain ⟨j, t2, hj, rfl, rfl, ht2, hsu2⟩ := hrel
            by_cases hltj : j < (R k).gl
            · obtain ⟨rb, ro, era, g0, g1⟩ := HS.out.at hltj
              have c1' := c1
              rw [era] at c1'
              go_wp2
              all_goals first | (go_ret; exact guard_no) | skip
              go_round
              case rel => exact ⟨j + 1, t2 + ((R k).G j).1.size + ((R k).G j).2.size, by omega, by go_num, by go_num, by omega, by omega⟩
              case measure => simp [intOf]; omega
            · go_wp2
              go_round
              case rel => exact ⟨k + 1, t2, by omega, by go_num, rfl, ht2, by simp only [sg]; omega⟩
              case measure => simp [intOf]; omega
        · obtain rfl : k = nr := by omega
          go_wp2
          all_goals first | (go_ret; exact guard_no) | (go_ret; exact ⟨true, rfl, fun _ => ⟨by omega, by omega, by omega⟩, rfl⟩)
end Go.Proofs.Qxb6614755a
