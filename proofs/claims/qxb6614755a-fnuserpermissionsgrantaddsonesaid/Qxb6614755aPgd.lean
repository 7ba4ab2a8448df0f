/- zzGranted (40). -/
import Derived.Test.Qxb6614755aPrd
namespace Go.Proofs.Qxb6614755a
open Go.RowKit

theorem notHit_succ {p : Nat → Prop} {m : Nat} (h : ¬ ∃ i, i < m ∧ p i) (hm : ¬ p m) : ¬ ∃ i, i < m + 1 ∧ p i := fun ⟨i, h1, h2⟩ => by
  rcases Nat.lt_or_ge i m with h3 | h3
  · exact h ⟨i, h3, h2⟩
  · obtain rfl : i = m := by omega
    exact hm h2
theorem notHit_zero {p : Nat → Prop} : ¬ ∃ i, i < 0 ∧ p i := fun ⟨i, h, _⟩ => by omega

def HitG (R : Nat → RIn) (k : Nat) (p : Pm) (m : Nat) : Prop := ∃ i, i < m ∧ (R k).G i = p
def HitK (R : Nat → RIn) (y : ByteArray) (p : Pm) (m : Nat) : Prop := ∃ k, k < m ∧ ((R k).name = y ∧ HitG R k p (R k).gl)
def HitJ (U : Nat → UIn) (nr : Nat) (R : Nat → RIn) (i : Nat) (p : Pm) (m : Nat) : Prop := ∃ j, j < m ∧ HitK R ((U i).R j) p nr
def HitI (U : Nat → UIn) (nr : Nat) (R : Nat → RIn) (u : ByteArray) (p : Pm) (m : Nat) : Prop := ∃ i, i < m ∧ ((U i).name = u ∧ HitJ U nr R i p (U i).rl)

set_option maxRecDepth 100000 in
set_option maxHeartbeats 2000000 in
theorem granted_any (a a2 : Option Addr) (nu nr cap cap2 : Nat) (U : Nat → UIn) (R : Nat → RIn) (u x y : ByteArray) (w : World) (hnu : nu ≤ 1048576) (hnr : nr ≤ 1048576) (h : UsAt w a nu U) (h2 : RsAt w a2 nr R) (hrl : ∀ i, i < nu → (U i).rl ≤ 1048576) (hgl : ∀ k, k < nr → (R k).gl ≤ 1048576) :
    Calls Try.prog 40 #[.slice a nu cap, .slice a2 nr cap2, .string u, .string x, .string y] w (Answers (HitI U nr R u (x, y) nu) w) := by
  have H := hide h
  have H2 := hide h2
  clear h h2
  go_enter Try.func40, Try.ntmps40
  go_wp2
  go_loopw [11] (fun v wr => ∃ i : Nat, i ≤ nu ∧ v = .int .i64 i ∧ Hid (¬ HitI U nr R u (x, y) i) ∧ Hid (Drew w wr)) (fun v _ => nu - (intOf v).toNat)
  case atStart => exact ⟨0, Nat.zero_le _, rfl, notHit_zero, Drew.refl _⟩
  case round =>
    obtain ⟨i, hi, rfl, hno, hD⟩ := hrel
    rename World => wr
    by_cases hlt : i < nu
    · obtain ⟨b, off, rfl, ⟨c0, c1⟩, hS⟩ := H.out.at hlt
      have HS := hide hS
      have C := hide (And.intro c0 c1)
      have hri := hrl i hlt
      have ii : ((i : Nat) : Int) < ((nu : Nat) : Int) := by omega
      clear hS c0 c1
      have k0 := (hD.out.cell _).trans C.out.1
      by_cases e : (U i).name = u
      · have t1 := beq_of_eq e
        go_wp2
        clear k0 t1
        go_loopw [12] (fun v wr => ∃ j : Nat, j ≤ (U i).rl ∧ v = .int .i64 j ∧ Hid (¬ HitJ U nr R i (x, y) j) ∧ Hid (Drew w wr)) (fun v _ => (U i).rl - (intOf v).toNat)
        case atStart => exact ⟨0, Nat.zero_le _, rfl, notHit_zero, hD⟩
        case round =>
          clear hD
          obtain ⟨j, hj, rfl, hnoJ, hD⟩ := hrel
          rename World => wr
          have k1 := (hD.out.cell _).trans C.out.2
          by_cases hltj : j < (U i).rl
          · obtain ⟨rb, ro, era, cj⟩ := HS.out.at hltj
            have CJ := hide cj
            have jj : ((j : Nat) : Int) < (((U i).rl : Nat) : Int) := by omega
            clear cj
            go_wp2
            clear k1
            go_loopw [13] (fun v wr => ∃ k : Nat, k ≤ nr ∧ v = .int .i64 k ∧ Hid (¬ HitK R ((U i).R j) (x, y) k) ∧ Hid (Drew w wr)) (fun v _ => nr - (intOf v).toNat)
            case atStart => exact ⟨0, Nat.zero_le _, rfl, notHit_zero, hD⟩
            case round =>
              clear hD
              obtain ⟨k, hk, rfl, hnoK, hD⟩ := hrel
              rename World => wr
              by_cases hltk : k < nr
              · obtain ⟨b2, off2, rfl, ⟨d0, d1⟩, hP⟩ := H2.out.at hltk
                have HP := hide hP
                have Dk := hide (And.intro d0 d1)
                have hgk := hgl k hltk
                have kk : ((k : Nat) : Int) < ((nr : Nat) : Int) := by omega
                clear hP d0 d1
                have k1 := (hD.out.cell _).trans C.out.2
                have k2 := (hD.out.cell _).trans (CJ.out j hltj)
                have k3 := (hD.out.cell _).trans Dk.out.1
                rw [era] at k1
                by_cases e2 : (R k).name = (U i).R j
                · have t1 := beq_of_eq e2
                  go_wp2
                  go_quiet (fail)
                  have hD' := hide (hD.out.drewN nq)
                  clear hD k1 k2 k3 t1
                  go_wp2
                  go_loopw [14] (fun v wr => ∃ q : Nat, q ≤ (R k).gl ∧ v = .int .i64 q ∧ Hid (¬ HitG R k (x, y) q) ∧ Hid (Drew w wr)) (fun v _ => (R k).gl - (intOf v).toNat)
                  case atStart => exact ⟨0, Nat.zero_le _, rfl, notHit_zero, hD'⟩
                  case round =>
                    clear hD'
                    obtain ⟨q, hq, rfl, hnoG, hD⟩ := hrel
                    rename World => wr
                    have k4 := (hD.out.cell _).trans Dk.out.2
                    by_cases hltq : q < (R k).gl
                    · obtain ⟨gb, go, ega, g0, g1⟩ := HP.out.at hltq
                      have k5 := (hD.out.cell _).trans g0
                      have k6 := (hD.out.cell _).trans g1
                      have qq : ((q : Nat) : Int) < (((R k).gl : Nat) : Int) := by omega
                      rw [ega] at k4
                      clear g0 g1
                      by_cases e3 : ((R k).G q).1 = x
                      · have t3 := beq_of_eq e3
                        by_cases e4 : ((R k).G q).2 = y
                        · have t4 := beq_of_eq e4
                          go_wp2
                          go_ret
                          obtain ⟨m, hm⟩ := hD.out
                          rw [hm]
                          exact answers_yes ⟨i, hlt, e, j, hltj, k, hltk, e2, q, hltq, Prod.ext e3 e4⟩ m
                        · have t4 := beq_of_ne e4
                          go_wp2
                          go_roundw
                          case rel => exact ⟨q + 1, by omega, by go_num, notHit_succ hnoG.out (fun e => e4 (by rw [e])), hD⟩
                          case measure => simp [intOf]; omega
                      · have t3 := beq_of_ne e3
                        go_wp2
                        go_roundw
                        case rel => exact ⟨q + 1, by omega, by go_num, notHit_succ hnoG.out (fun e => e3 (by rw [e])), hD⟩
                        case measure => simp [intOf]; omega
                    · go_wp2
                      go_roundw
                      case rel => exact ⟨k + 1, by omega, by go_num, notHit_succ hnoK.out (fun z => hnoG.out (by rw [show q = (R k).gl by omega]; exact z.2)), hD⟩
                      case measure => simp [intOf]; omega
                · have t1 := beq_of_ne e2
                  go_wp2
                  go_quiet (fail)
                  go_wp2
                  go_roundw
                  case rel => exact ⟨k + 1, by omega, by go_num, notHit_succ hnoK.out (fun q => e2 q.1), hD.out.drewN _⟩
                  case measure => simp [intOf]; omega
              · go_wp2
                go_roundw
                case rel => exact ⟨j + 1, by omega, by go_num, notHit_succ hnoJ.out (by rw [show nr = k by omega]; exact hnoK.out), hD⟩
                case measure => simp [intOf]; omega
          · go_wp2
            go_roundw
            case rel => exact ⟨i + 1, by omega, by go_num, notHit_succ hno.out (fun q => hnoJ.out (by rw [show j = (U i).rl by omega]; exact q.2)), hD⟩
            case measure => simp [intOf]; omega
      · have t1 := beq_of_ne e
        go_wp2
        go_roundw
        case rel => exact ⟨i + 1, by omega, by go_num, notHit_succ hno.out (fun q => e q.1), hD⟩
        case measure => simp [intOf]; omega
    · go_wp2
      go_ret
      obtain ⟨q, hq⟩ := hD.out
      rw [hq, show nu = i by omega]
      exact answers_no hno.out q
end Go.Proofs.Qxb6614755a
