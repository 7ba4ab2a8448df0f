/- zzPolicyBytes (31). -/
import Derived.Test.Qxb6614755aPin
import Derived.Test.Qxb6614755aRead
namespace Go.Proofs.Qxb6614755a
open Go.RowKit

def Some64 (w : World) (e : Ending) (w' : World) : Prop := ∃ r : Int, e = .returned (.int .i64 r) ∧ 0 ≤ r ∧ Drew w w'

set_option maxRecDepth 100000 in
set_option maxHeartbeats 2000000 in
theorem policyBytes_any (a a2 : Option Addr) (nu nr cap cap2 : Nat) (U : Nat → UIn) (R : Nat → RIn) (t : Int) (w : World) (hnu : nu ≤ 1048576) (hnr : nr ≤ 1048576) (h : UsAt w a nu U) (h2 : RsAt w a2 nr R) (hrl : ∀ i, i < nu → (U i).rl ≤ 1048576) (hgl : ∀ k, k < nr → (R k).gl ≤ 1048576) (h0 : 0 ≤ t) :
    Calls Try.prog 31 #[.slice a nu cap, .slice a2 nr cap2, .int .i64 t] w (Some64 w) := by
  have H := hide h
  have H2 := hide h2
  clear h h2
  by_cases hbig : 1048576 < t
  · go_enter Try.func31, Try.ntmps31
    go_wp2
    go_ret
    exact ⟨_, rfl, h0, ⟨0, rfl⟩⟩
  go_enter Try.func31, Try.ntmps31
  go_wp2
  go_loopw [7, 2] (fun v tv wr => ∃ (i : Nat) (t' : Int), i ≤ nu ∧ v = .int .i64 i ∧ tv = .int .i64 t' ∧ 0 ≤ t' ∧ t' ≤ 1048576 ∧ Hid (Drew w wr)) (fun v _ _ => nu - (intOf v).toNat)
  case atStart => exact ⟨0, t, Nat.zero_le _, rfl, rfl, h0, by omega, Drew.refl _⟩
  case round =>
    obtain ⟨i, t', hi, rfl, rfl, ht0, ht1, hw⟩ := hrel
    rename World => wr
    by_cases hlt : i < nu
    · obtain ⟨b, off, rfl, ⟨c0, c1⟩, hS⟩ := H.out.at hlt
      have HS := hide hS
      have C := hide c1
      have hri := hrl i hlt
      have ii : ((i : Nat) : Int) < ((nu : Nat) : Int) := by omega
      have k0 := (hw.out.cell _).trans c0
      have hb1 := addL_bd ht0 (n := 40) (by omega)
      have hb2 := addL_bd hb1.1 (n := ((U i).name.size : Int)) (by omega)
      clear hS c0 c1
      go_wp2
      go_quiet (first | (go_at_call_of 30 (Value.int .i64 t'); exact Calls.quiet_of_same (addLen_any t' 40 _ ht0 (by omega))) | (go_at_call_of 30 (Value.int .i64 (addL t' 40)); exact Calls.quiet_of_same (addLen_any (addL t' 40) ((U i).name.size : Int) _ hb1.1 (by omega))))
      go_wp2
      · go_ret
        exact ⟨_, rfl, hb2.1, hw.out.drewN _⟩
      · have hle : addL (addL t' 40) ((U i).name.size : Int) ≤ 1048576 := by go_light; omega
        have hw1 := hide (hw.out.drewN nq)
        have hge := hb2.1
        clear k0 hw hb1 hb2
        generalize addL (addL t' 40) ((U i).name.size : Int) = t1 at hle hge
        go_loopw [8, 2] (fun v tv wr => ∃ (j : Nat) (t' : Int), j ≤ (U i).rl ∧ v = .int .i64 j ∧ tv = .int .i64 t' ∧ 0 ≤ t' ∧ t' ≤ 1048576 ∧ Hid (Drew w wr)) (fun v _ _ => (U i).rl - (intOf v).toNat)
        case atStart => exact ⟨0, t1, Nat.zero_le _, rfl, rfl, hge, hle, hw1⟩
        case round =>
          clear hw1
          obtain ⟨j, t', hj, rfl, rfl, ht0, ht1, hw⟩ := hrel
          rename World => wr
          have k1 := (hw.out.cell _).trans C.out
          by_cases hltj : j < (U i).rl
          · obtain ⟨rb, ro, era, cj⟩ := HS.out.at hltj
            have k2 := (hw.out.cell _).trans (cj j hltj)
            have jj : ((j : Nat) : Int) < (((U i).rl : Nat) : Int) := by omega
            have hb1 := addL_bd ht0 (n := 16) (by omega)
            have hb2 := addL_bd hb1.1 (n := (((U i).R j).size : Int)) (by omega)
            rw [era] at k1
            clear cj
            go_wp2
            go_quiet (first | (go_at_call_of 30 (Value.int .i64 t'); exact Calls.quiet_of_same (addLen_any t' 16 _ ht0 (by omega))) | (go_at_call_of 30 (Value.int .i64 (addL t' 16)); exact Calls.quiet_of_same (addLen_any (addL t' 16) (((U i).R j).size : Int) _ hb1.1 (by omega))))
            go_wp2
            · go_ret
              exact ⟨_, rfl, hb2.1, hw.out.drewN _⟩
            · go_roundw
              case rel =>
                refine ⟨j + 1, addL (addL t' 16) (((U i).R j).size : Int), by omega, by go_num, rfl, hb2.1, ?_, hw.out.drewN _⟩
                go_light
                omega
              case measure => simp [intOf]; omega
          · go_wp2
            go_roundw
            case rel => exact ⟨i + 1, t', by omega, by go_num, rfl, ht0, ht1, hw⟩
            case measure => simp [intOf]; omega
    · obtain rfl : i = nu := by omega
      clear hlt hi
      go_wp2
      go_loopw [9, 2] (fun v tv wr => ∃ (k : Nat) (t' : Int), k ≤ nr ∧ v = .int .i64 k ∧ tv = .int .i64 t' ∧ 0 ≤ t' ∧ t' ≤ 1048576 ∧ Hid (Drew w wr)) (fun v _ _ => nr - (intOf v).toNat)
      case atStart => exact ⟨0, t', Nat.zero_le _, rfl, rfl, ht0, ht1, hw⟩
      case round =>
        clear hw ht0 ht1
        obtain ⟨k, t', hk, rfl, rfl, ht0, ht1, hw⟩ := hrel
        rename World => wr
        by_cases hlt : k < nr
        · obtain ⟨b, off, rfl, ⟨c0, c1⟩, hS⟩ := H2.out.at hlt
          have HS := hide hS
          have C := hide c1
          have hri := hgl k hlt
          have ii : ((k : Nat) : Int) < ((nr : Nat) : Int) := by omega
          have k0 := (hw.out.cell _).trans c0
          have hb1 := addL_bd ht0 (n := 40) (by omega)
          have hb2 := addL_bd hb1.1 (n := ((R k).name.size : Int)) (by omega)
          clear hS c0 c1
          go_wp2
          go_quiet (first | (go_at_call_of 30 (Value.int .i64 t'); exact Calls.quiet_of_same (addLen_any t' 40 _ ht0 (by omega))) | (go_at_call_of 30 (Value.int .i64 (addL t' 40)); exact Calls.quiet_of_same (addLen_any (addL t' 40) (((R k).name).size : Int) _ hb1.1 (by omega))))
          go_wp2
          · go_ret
            exact ⟨_, rfl, hb2.1, hw.out.drewN _⟩
          · have hle : addL (addL t' 40) ((R k).name.size : Int) ≤ 1048576 := by go_light; omega
            have hw1 := hide (hw.out.drewN nq)
            have hge := hb2.1
            clear k0 hw hb1 hb2
            generalize addL (addL t' 40) ((R k).name.size : Int) = t1 at hle hge
            go_loopw [10, 2] (fun v tv wr => ∃ (j : Nat) (t' : Int), j ≤ (R k).gl ∧ v = .int .i64 j ∧ tv = .int .i64 t' ∧ 0 ≤ t' ∧ t' ≤ 1048576 ∧ Hid (Drew w wr)) (fun v _ _ => (R k).gl - (intOf v).toNat)
            case atStart => exact ⟨0, t1, Nat.zero_le _, rfl, rfl, hge, hle, hw1⟩
            case round =>
              clear hw1
              obtain ⟨j, t', hj, rfl, rfl, ht0, ht1, hw⟩ := hrel
              rename World => wr
              have k1 := (hw.out.cell _).trans C.out
              by_cases hltj : j < (R k).gl
              · obtain ⟨rb, ro, era, g0, g1⟩ := HS.out.at hltj
                have k2 := (hw.out.cell _).trans g0
                have k3 : ∀ q, (wr.drewN q).cell? ⟨rb, ro + j * 2 + 1, none⟩ = some (.string ((R k).G j).2) := fun q => ((hw.out.drewN q).cell _).trans g1
                have jj : ((j : Nat) : Int) < (((R k).gl : Nat) : Int) := by omega
                have hb1 := addL_bd ht0 (n := 32) (by omega)
                have hb2 := addL_bd hb1.1 (n := (((R k).G j).1.size : Int)) (by omega)
                have hb3 := addL_bd hb2.1 (n := (((R k).G j).2.size : Int)) (by omega)
                rw [era] at k1
                have k1' : ∀ q, (wr.drewN q).cell? ⟨b, off + k * 2 + 1, none⟩ = some (.slice (some ⟨rb, ro, none⟩) (R k).gl (R k).gc) := fun q => k1
                clear g0 g1
                go_wp2
                go_quiet (first | (go_at_call_of 30 (Value.int .i64 t'); exact Calls.quiet_of_same (addLen_any t' 32 _ ht0 (by omega))) | (go_at_call_of 30 (Value.int .i64 (addL t' 32)); exact Calls.quiet_of_same (addLen_any (addL t' 32) ((((R k).G j).1).size : Int) _ hb1.1 (by omega))))
                have C30 := hide (fun V => addLen_any (addL (addL t' 32) (((R k).G j).1.size : Int)) (((R k).G j).2.size : Int) V hb2.1 (by omega))
                go_wp2_with (go_at_call 30; refine Calls.mono (C30.out _) ?_; rintro e w' ⟨rfl, rfl⟩)
                · go_ret
                  exact ⟨_, rfl, hb2.1, hw.out.drewN _⟩
                · go_ret
                  exact ⟨_, rfl, hb3.1, hw.out.drewN _⟩
                · go_roundw
                  case rel =>
                    refine ⟨j + 1, addL (addL (addL t' 32) (((R k).G j).1.size : Int)) (((R k).G j).2.size : Int), by omega, by go_num, rfl, hb3.1, ?_, hw.out.drewN _⟩
                    go_light
                    omega
                  case measure => simp [intOf]; omega
              · go_wp2
                go_roundw
                case rel => exact ⟨k + 1, t', by omega, by go_num, rfl, ht0, ht1, hw⟩
                case measure => simp [intOf]; omega
        · go_wp2
          go_ret
          exact ⟨_, rfl, ht0, hw.out⟩
end Go.Proofs.Qxb6614755a
