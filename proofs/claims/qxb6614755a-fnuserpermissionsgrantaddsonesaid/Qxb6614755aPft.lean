/- zzPolicyFit (32). -/
import Derived.Test.Qxb6614755aPmm
namespace Go.Proofs.Qxb6614755a
open Go.RowKit

/-- The strings that came in are not longer than Go lets be. -/
structure SzOk (nu nr : Nat) (U : Nat → UIn) (R : Nat → RIn) : Prop where
  uname : ∀ i, i < nu → (U i).name.size ≤ maxLen
  rname : ∀ k, k < nr → (R k).name.size ≤ maxLen
  roles : ∀ i, i < nu → ∀ j, j < (U i).rl → ((U i).R j).size ≤ maxLen
  perms : ∀ k, k < nr → ∀ q, q < (R k).gl → ((R k).G q).1.size ≤ maxLen ∧ ((R k).G q).2.size ≤ maxLen
structure Fit (nu nr : Nat) (U : Nat → UIn) (R : Nat → RIn) : Prop where
  rv : ∀ k, k < nr → Valid (R k).name
  gv : ∀ k, k < nr → ∀ q, q < (R k).gl → Valid ((R k).G q).1 ∧ Valid ((R k).G q).2
  uv : ∀ i, i < nu → Valid (U i).name
  dc : ∀ i, i < nu → ∀ j, j < (U i).rl → ∃ k, k < nr ∧ (R k).name = (U i).R j
def FitSays (p : Prop) (w : World) (e : Ending) (w' : World) : Prop := ∃ r : Bool, e = .returned (.bool r) ∧ (r = true → p) ∧ Drew w w'
theorem fit_no {p : Prop} {w w' : World} (h : Drew w w') : FitSays p w (.returned (.bool false)) w' := ⟨false, rfl, (fun hh => by cases hh), h⟩
theorem drew_bel {w w' : World} (h : Drew w w') : Below w.heap.size w w' := by obtain ⟨q, rfl⟩ := h; exact drewN_below w q
theorem all_succ {p : Nat → Prop} {m : Nat} (h : ∀ i, i < m → p i) (hm : p m) : ∀ i, i < m + 1 → p i := fun i hi => by
  rcases Nat.lt_or_ge i m with h1 | h1
  · exact h i h1
  · obtain rfl : i = m := by omega
    exact hm

set_option maxRecDepth 100000 in
set_option maxHeartbeats 2000000 in
theorem fit_any (a a2 : Option Addr) (nu nr cap cap2 : Nat) (U : Nat → UIn) (R : Nat → RIn) (w : World) (hnu : nu ≤ 1048576) (hnr : nr ≤ 1048576) (h : UsAt w a nu U) (h2 : RsAt w a2 nr R) (hrl : ∀ i, i < nu → (U i).rl ≤ 1048576) (hgl : ∀ k, k < nr → (R k).gl ≤ 1048576) (hsz : SzOk nu nr U R) :
    Calls Try.prog 32 #[.slice a nu cap, .slice a2 nr cap2] w (FitSays (Fit nu nr U R) w) := by
  have H := hide h
  have H2 := hide h2
  have HZ := hide hsz
  clear h h2 hsz
  go_enter Try.func32, Try.ntmps32
  go_wp2
  go_loopw [5] (fun v wr => ∃ k : Nat, k ≤ nr ∧ v = .int .i64 k ∧ wr = w ∧ Hid (∀ t, t < k → Valid (R t).name) ∧ Hid (∀ t, t < k → ∀ q, q < (R t).gl → Valid ((R t).G q).1 ∧ Valid ((R t).G q).2)) (fun v _ => nr - (intOf v).toNat)
  case atStart => exact ⟨0, Nat.zero_le _, rfl, rfl, fun t ht => by omega, fun t ht => by omega⟩
  case round =>
    obtain ⟨k, hk, rfl, rfl, hV, hG⟩ := hrel
    by_cases hlt : k < nr
    · obtain ⟨b, off, rfl, ⟨c0, c1⟩, hP⟩ := H2.out.at hlt
      have HP := hide hP
      have hgk := hgl k hlt
      have kk : ((k : Nat) : Int) < ((nr : Nat) : Int) := by omega
      clear hP
      have CV := hide (zzValid_says (R k).name wr (HZ.out.rname k hlt))
      go_wp2_with fail
      refine Calls.mono CV.out ?_
      rintro e w' ⟨r, rfl, hr, rfl⟩
      clear CV
      cases r with
      | false =>
        go_wp2
        go_ret
        exact fit_no (Drew.refl _)
      | true =>
        have HN := hide (hr.1 rfl)
        clear hr
        go_wp2
        go_loopw [6] (fun v wr' => ∃ q : Nat, q ≤ (R k).gl ∧ v = .int .i64 q ∧ wr' = w' ∧ Hid (∀ t, t < q → Valid ((R k).G t).1 ∧ Valid ((R k).G t).2)) (fun v _ => (R k).gl - (intOf v).toNat)
        case atStart => exact ⟨0, Nat.zero_le _, rfl, rfl, fun t ht => by omega⟩
        case round =>
          obtain ⟨q, hq, rfl, rfl, hQ⟩ := hrel
          by_cases hltq : q < (R k).gl
          · obtain ⟨gb, go, ega, g0, g1⟩ := HP.out.at hltq
            have qq : ((q : Nat) : Int) < (((R k).gl : Nat) : Int) := by omega
            have c1' := c1
            rw [ega] at c1'
            by_cases v1 : Valid ((R k).G q).1
            · have CV := hide (zzValid_yes ((R k).G q).1 wr ((HZ.out.perms k hlt q hltq).1) v1)
              by_cases v2 : Valid ((R k).G q).2
              · have CV2 := hide (zzValid_yes ((R k).G q).2 wr ((HZ.out.perms k hlt q hltq).2) v2)
                have V12 := hide (And.intro v1 v2)
                clear v1 v2
                go_wp2_with (first | (go_at_call_of 11 (Value.string ((R k).G q).1); refine Calls.mono CV.out ?_; rintro e w'' ⟨rfl, rfl⟩) | (go_at_call_of 11 (Value.string ((R k).G q).2); refine Calls.mono CV2.out ?_; rintro e w'' ⟨rfl, rfl⟩))
                go_roundw
                case rel => exact ⟨q + 1, by omega, by go_num, by first | trivial | rfl, all_succ hQ.out V12.out⟩
                case measure => simp [intOf]; omega
              · have CV2 := hide (zzValid_no ((R k).G q).2 wr ((HZ.out.perms k hlt q hltq).2) v2)
                clear v1 v2
                go_wp2_with (first | (go_at_call_of 11 (Value.string ((R k).G q).1); refine Calls.mono CV.out ?_; rintro e w'' ⟨rfl, rfl⟩) | (go_at_call_of 11 (Value.string ((R k).G q).2); refine Calls.mono CV2.out ?_; rintro e w'' ⟨rfl, rfl⟩))
                go_ret
                exact fit_no (Drew.refl _)
            · have CV := hide (zzValid_no ((R k).G q).1 wr ((HZ.out.perms k hlt q hltq).1) v1)
              clear v1
              go_wp2_with (go_at_call_of 11 (Value.string ((R k).G q).1); refine Calls.mono CV.out ?_; rintro e w'' ⟨rfl, rfl⟩)
              go_ret
              exact fit_no (Drew.refl _)
          · go_wp2
            go_roundw
            case rel =>
              obtain rfl : q = (R k).gl := by omega
              exact ⟨k + 1, by omega, by go_num, by first | trivial | rfl, all_succ hV.out HN.out, all_succ hG.out hQ.out⟩
            case measure => simp [intOf]; omega
    · obtain rfl : k = nr := by omega
      clear hlt hk
      go_wp2
      go_loopw [7] (fun v wr' => ∃ i : Nat, i ≤ nu ∧ v = .int .i64 i ∧ Hid (Drew wr wr') ∧ Hid (∀ t, t < i → Valid (U t).name) ∧ Hid (∀ t, t < i → ∀ j, j < (U t).rl → ∃ z, z < k ∧ (R z).name = (U t).R j)) (fun v _ => nu - (intOf v).toNat)
      case atStart => exact ⟨0, Nat.zero_le _, rfl, Drew.refl _, fun t ht => by omega, fun t ht => by omega⟩
      case round =>
        obtain ⟨i, hi, rfl, hD, hV2, hJ⟩ := hrel
        rename World => wq
        by_cases hlt : i < nu
        · obtain ⟨b, off, rfl, ⟨c0, c1⟩, hS⟩ := H.out.at hlt
          have HS := hide hS
          have C := hide c1
          have hri := hrl i hlt
          have kk : ((i : Nat) : Int) < ((nu : Nat) : Int) := by omega
          have k0 := (hD.out.cell _).trans c0
          clear hS c1 c0
          have CV := hide (zzValid_says (U i).name wq (HZ.out.uname i hlt))
          go_wp2_with fail
          refine Calls.mono CV.out ?_
          rintro e w' ⟨r, rfl, hr, rfl⟩
          clear CV k0
          cases r with
          | false =>
            go_wp2
            go_ret
            exact fit_no hD.out
          | true =>
            have HN := hide (hr.1 rfl)
            clear hr
            go_wp2
            go_loopw [8] (fun v wr' => ∃ j : Nat, j ≤ (U i).rl ∧ v = .int .i64 j ∧ Hid (Drew wr wr') ∧ Hid (∀ t, t < j → ∃ z, z < k ∧ (R z).name = (U i).R t)) (fun v _ => (U i).rl - (intOf v).toNat)
            case atStart => exact ⟨0, Nat.zero_le _, rfl, hD, fun t ht => by omega⟩
            case round =>
              clear hD
              obtain ⟨j, hj, rfl, hD, hQ⟩ := hrel
              rename World => wq
              have c1 := (hD.out.cell _).trans C.out
              by_cases hltj : j < (U i).rl
              · obtain ⟨rb, ro, era, cj⟩ := HS.out.at hltj
                have cj' := (hD.out.cell _).trans (cj j hltj)
                have jj : ((j : Nat) : Int) < (((U i).rl : Nat) : Int) := by omega
                have c1' := c1
                rw [era] at c1'
                have CV := hide (declared_any a2 k cap2 R ((U i).R j) wq hnr (H2.out.below (drew_bel hD.out)))
                clear cj
                go_wp2_with fail
                refine Calls.mono CV.out ?_
                rintro e w' ⟨r, rfl, hr, m, rfl⟩
                cases r with
                | false =>
                  go_wp2
                  go_ret
                  exact fit_no (hD.out.drewN _)
                | true =>
                  go_wp2
                  go_roundw
                  case rel => exact ⟨j + 1, by omega, by go_num, hD.out.drewN _, all_succ hQ.out (hr.1 (by first | trivial | rfl))⟩
                  case measure => simp [intOf]; omega
              · go_wp2
                go_roundw
                case rel =>
                  obtain rfl : j = (U i).rl := by omega
                  exact ⟨i + 1, by omega, by go_num, hD, all_succ hV2.out HN.out, all_succ hJ.out hQ.out⟩
                case measure => simp [intOf]; omega
        · obtain rfl : i = nu := by omega
          go_wp2
          go_ret
          exact ⟨true, rfl, fun _ => ⟨hV.out, hG.out, hV2.out, hJ.out⟩, hD.out⟩
end Go.Proofs.Qxb6614755a
