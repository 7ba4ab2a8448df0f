/- zzAssigned (39) and zzPermsEqual (41). -/
import Derived.Test.Qxb6614755aPmu
namespace Go.Proofs.Qxb6614755a
open Go.RowKit

def HitA (U : Nat → UIn) (u r : ByteArray) (m : Nat) : Prop := ∃ i, i < m ∧ ((U i).name = u ∧ ∃ j, j < (U i).rl ∧ (U i).R j = r)

set_option maxRecDepth 100000 in
set_option maxHeartbeats 1000000 in
theorem assigned_any (a : Option Addr) (nu cap : Nat) (U : Nat → UIn) (u r : ByteArray) (w : World) (hnu : nu ≤ 1048576) (h : UsAt w a nu U) (hrl : ∀ i, i < nu → (U i).rl ≤ 1048576) :
    Calls Try.prog 39 #[.slice a nu cap, .string u, .string r] w (Answers (HitA U u r nu) w) := by
  have H := hide h
  clear h
  go_enter Try.func39, Try.ntmps39
  go_wp2
  go_loop [7] (fun v => ∃ i : Nat, i ≤ nu ∧ v = .int .i64 i ∧ Hid (¬ HitA U u r i)) (fun v => nu - (intOf v).toNat)
  case atStart => exact ⟨0, Nat.zero_le _, rfl, notHit_zero⟩
  case round =>
    obtain ⟨i, hi, rfl, hno⟩ := hrel
    by_cases hlt : i < nu
    · obtain ⟨b, off, rfl, ⟨c0, c1⟩, hS⟩ := H.out.at hlt
      have HS := hide hS
      have hri := hrl i hlt
      have ii : ((i : Nat) : Int) < ((nu : Nat) : Int) := by omega
      clear hS
      by_cases e : (U i).name = u
      · have t1 := beq_of_eq e
        go_wp2
        clear c0 t1
        go_loop [8] (fun v => ∃ j : Nat, j ≤ (U i).rl ∧ v = .int .i64 j ∧ Hid (¬ ∃ j', j' < j ∧ (U i).R j' = r)) (fun v => (U i).rl - (intOf v).toNat)
        case atStart => exact ⟨0, Nat.zero_le _, rfl, notHit_zero⟩
        case round =>
          obtain ⟨j, hj, rfl, hnoJ⟩ := hrel
          by_cases hltj : j < (U i).rl
          · obtain ⟨rb, ro, era, cj⟩ := HS.out.at hltj
            have cj' := cj j hltj
            have jj : ((j : Nat) : Int) < (((U i).rl : Nat) : Int) := by omega
            have c1' := c1
            rw [era] at c1'
            clear cj
            by_cases e2 : (U i).R j = r
            · have t2 := beq_of_eq e2
              go_wp2
              go_ret
              exact answers_yes ⟨i, hlt, e, j, hltj, e2⟩ 0
            · have t2 := beq_of_ne e2
              go_wp2
              go_round
              case rel => exact ⟨j + 1, by omega, by go_num, notHit_succ hnoJ.out e2⟩
              case measure => simp [intOf]; omega
          · go_wp2
            go_round
            case rel => exact ⟨i + 1, by omega, by go_num, notHit_succ hno.out (fun ⟨_, j', hj', e'⟩ => hnoJ.out ⟨j', by omega, e'⟩)⟩
            case measure => simp [intOf]; omega
      · have t1 := beq_of_ne e
        go_wp2
        go_round
        case rel => exact ⟨i + 1, by omega, by go_num, notHit_succ hno.out (fun z => e z.1)⟩
        case measure => simp [intOf]; omega
    · obtain rfl : i = nu := by omega
      go_wp2
      go_ret
      exact answers_no hno.out 0

set_option maxRecDepth 100000 in
set_option maxHeartbeats 1000000 in
theorem permsEq_any (ga gb m capa capb : Nat) (A B : Nat → Pm) (w : World) (hm : m ≤ 1048576) (hA : PmsAt w (some ⟨ga, 0, none⟩) m A) (hB : PmsAt w (some ⟨gb, 0, none⟩) m B) (he : ∀ j, j < m → A j = B j) :
    Calls Try.prog 41 #[.slice (some ⟨ga, 0, none⟩) m capa, .slice (some ⟨gb, 0, none⟩) m capb] w fun e w' => e = .returned (.bool true) ∧ Below w.heap.size w w' := by
  have HA := hide hA
  have HB := hide hB
  have HE := hide he
  have hne58 := ne58
  clear hA hB he
  go_enter Try.func41, Try.ntmps41
  go_wp2
  go_loopw [5] (fun v wr => ∃ i : Nat, i ≤ m ∧ v = .int .i64 i ∧ Hid (Below w.heap.size w wr)) (fun v _ => m - (intOf v).toNat)
  case atStart => exact ⟨0, Nat.zero_le _, rfl, Below.refl _ _⟩
  case round =>
    obtain ⟨i, hi, rfl, hw⟩ := hrel
    rename World => wr
    by_cases hlt : i < m
    · obtain ⟨b, off, e1, q1, q2⟩ := (HA.out.below hw.out).at hlt
      cases e1
      obtain ⟨b, off, e1, r1, r2⟩ := (HB.out.below hw.out).at hlt
      cases e1
      obtain ⟨p1, p2, hp⟩ : ∃ p1 p2, B i = (p1, p2) := ⟨_, _, rfl⟩
      have hp' := (HE.out i hlt).trans hp
      rw [hp'] at q1 q2
      rw [hp] at r1 r2
      simp only [Nat.zero_add] at q1 q2 r1 r2
      have ii : ((i : Nat) : Int) < ((m : Nat) : Int) := by omega
      clear hp hp'
      go_wp2
      go_quiet (fail)
      go_wp2
      go_roundw
      case rel => exact ⟨i + 1, by omega, by go_num, below_drewN' hw.out _⟩
      case measure => simp [intOf]; omega
    · go_wp2
      go_ret
      exact ⟨rfl, hw.out⟩
end Go.Proofs.Qxb6614755a
