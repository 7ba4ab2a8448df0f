/- sort.Slice's family at a 'less' that lays blocks: pdqsort_func (73). -/
import Derived.Test.Qxb6614755aPs8
import Derived.Deep.Cut
namespace Go.Proofs.Qxb6614755a
open Go.RowKit Go.Sort
section
variable {blk off pv cap n : Nat} {wB wr w' : World} {dk : Array Pm}

set_option maxRecDepth 100000 in
set_option maxHeartbeats 4000000 in
theorem pdq_any (hne : pv ≠ blk) {sf : Nat} {sb : Array Value} (hsw : SwapSwapsK Try.prog sf sb encPm 2 blk off n) (hn : n ≤ 1048576) :
    ∀ (N a b limit : Nat) (d : Array Pm) (W : World), b - a < N → Rw blk off pv cap d W → d.size = n → a ≤ b → b ≤ n → limit ≤ 1048576 → Go.Sort.Below ltPm a b d →
    Calls Try.prog 73 #[.agg (dat pv sf sb), .int .i64 a, .int .i64 b, .int .i64 limit] W (Sorts blk off pv cap n W a b d) := by
  intro N
  induction N with
  | zero => intro _ _ _ _ _ h; exact absurd h (Nat.not_lt_zero _)
  | succ N ih =>
  intro a b limit d W hN h hd hab hb hlm hB0
  have IH := hide ih
  clear ih
  subst hd
  have HSW := hide hsw
  have hlt := h.lt
  have hbx : W.heap.size ≠ blk := by omega
  obtain ⟨wB, hwB⟩ : ∃ wB, wB = W.alloc (.cells (dat pv sf sb) 127) := ⟨_, rfl⟩
  have G0 := hide (show W.grownBy wB (some blk) from hwB ▸ World.grownBy_alloc W _ _)
  have H0 := hide (show Mv blk off pv cap d.size wB d wB from Mv.start (h.below (hwB ▸ (Below.refl _ _).alloc (Nat.le_refl _) _)))
  have b0 : wB.cell? ⟨W.heap.size, 0, none⟩ = some (.func (.func 66) #[] #[.pointer (some ⟨pv, 0, none⟩)]) := by rw [hwB]; simp [dat]
  have b1 : wB.cell? ⟨W.heap.size, 1, none⟩ = some (.func (.func sf) #[] sb) := by rw [hwB]; simp [dat]
  have BX := hide (And.intro b0 b1)
  clear h hsw b0 b1
  unfold dat at *
  go_enter Try.func73, Try.ntmps73
  go_wp2
  rw [← hwB]
  clear hwB
  have HB0 := hide hB0
  clear hB0
  go_loopw [1, 2, 3, 8, 9] (fun v1 v2 v3 v8 v9 wr => ∃ (a' b' lim : Nat) (wb wp : Bool) (dk : Array Pm), v1 = .int .i64 a' ∧ v2 = .int .i64 b' ∧ v3 = .int .i64 lim ∧ v8 = .bool wb ∧ v9 = .bool wp ∧ a' ≤ b' ∧ b' ≤ d.size ∧ b' - a' ≤ b - a ∧ lim ≤ limit ∧ Hid (Mv blk off pv cap d.size wB dk wr) ∧ Hid (Left a b d a' b' dk) ∧ Hid (Go.Sort.Below ltPm a' b' dk)) (fun v1 v2 _ _ _ _ => (intOf v2 - intOf v1).toNat)
  case atStart => exact ⟨a, b, limit, true, true, d, rfl, rfl, rfl, rfl, rfl, hab, hb, Nat.le_refl _, Nat.le_refl _, H0, fun R h1 h2 => ⟨h1, h2⟩, HB0⟩
  case round =>
    obtain ⟨a', b', lim, wb, wp, dk, rfl, rfl, rfl, rfl, rfl, hab', hb', hba, hlim, hM, HL, HB⟩ := hrel
    rename World => wr
    clear H0 HB0
    by_cases h12 : b' - a' ≤ 12
    · have h12z : (b' : Int) - (a' : Int) ≤ 12 := by omega
      have c0 := hM.out.box BX.out.1 hbx
      have c1 := hM.out.box BX.out.2 hbx
      have hl := hide (hM.out.inserts hne HSW.out hn a' b' hab' hb')
      unfold dat at hl
      go_wp2_with fail
      refine Calls.mono hl.out ?_
      rintro e w1 ⟨rfl, d', hp, hs, hm⟩
      have hR := HL.out d' hp hs
      have HM := hide hm
      clear hl hp hs hm
      go_wp2
      go_end0
      exact ⟨rfl, d', hR.1, hR.2, HM.out.from G0.out⟩
    have h12z : ¬ ((b' : Int) - (a' : Int) ≤ 12) := by omega
    by_cases hl0 : lim = 0
    · subst hl0
      have c0 := hM.out.box BX.out.1 hbx
      have c1 := hM.out.box BX.out.2 hbx
      have hl := hide (hM.out.heaps hne HSW.out hn a' b' hab' hb')
      unfold dat at hl
      go_wp2_with fail
      refine Calls.mono hl.out ?_
      rintro e w1 ⟨rfl, d', hp, hs, hm⟩
      have hR := HL.out d' hp hs
      have HM := hide hm
      clear hl hp hs hm
      go_wp2
      go_end0
      exact ⟨rfl, d', hR.1, hR.2, HM.out.from G0.out⟩
    have hl0z : ¬ ((lim : Int) = 0) := by omega
    have hl0b : ((lim : Int) == 0) = false := beq_eq_false_iff_ne.2 hl0z
    go_upto_if 35 with fail
    go_cut [3] from 19 (fun s3 wc => ∃ (lim1 : Nat) (d1 : Array Pm), s3 = .int .i64 lim1 ∧ lim1 ≤ lim ∧ Hid (PermIn a' b' dk d1) ∧ Hid (Mv blk off pv cap d.size wB d1 wc))
    case first =>
      cases wb
      · have c0 := hM.out.box BX.out.1 hbx
        have c1 := hM.out.box BX.out.2 hbx
        have hl := hide (hM.out.breaks hne HSW.out hn a' b' hab' hb')
        unfold dat at hl
        go_wp2_with fail
        refine Calls.mono hl.out ?_
        rintro e w1 ⟨rfl, d1, hp, hm⟩
        have HM := hide hm
        have HP := hide hp
        clear hl hp hm
        go_wp2
        go_meet
        case rel => exact ⟨lim - 1, d1, by congr 1; omega, by omega, HP, HM⟩
      · go_wp2_with fail
        go_meet
        case rel => exact ⟨lim, dk, rfl, Nat.le_refl _, permIn_refl _ _ _, hM⟩
    case rest =>
      obtain ⟨lim1, d1, rfl, hlim1, HP1, M1⟩ := hcut
      have HL1 := hide (HL.out.perm HP1.out)
      have HB1 := hide (below_perm (by rw [hM.out.size]; exact hb') HB.out HP1.out)
      clear hM HL HB HP1
      have hpv := hide (M1.out.pivots sf sb hn a' b' (by omega) hb')
      unfold dat at hpv
      have c0 := M1.out.box BX.out.1 hbx
      have c1 := M1.out.box BX.out.2 hbx
      go_upto_if 50 with (go_at_call 89; refine Calls.mono hpv.out ?_; rintro e w2 ⟨p, k, rfl, hp1, hp2, hm2⟩)
      have M2 := hide hm2
      clear hm2 hpv c0 c1 M1
      go_cut [11, 12] from 19 (fun s11 s12 wc => ∃ (p2 : Nat) (k2 : Int) (d2 : Array Pm), s11 = .int .i64 p2 ∧ s12 = .int .i64 k2 ∧ a' ≤ p2 ∧ p2 < b' ∧ Hid (PermIn a' b' d1 d2) ∧ Hid (Mv blk off pv cap d.size wB d2 wc))
      case first =>
        by_cases hk2 : k = 2
        · subst hk2
          have c0 := M2.out.box BX.out.1 hbx
          have c1 := M2.out.box BX.out.2 hbx
          have hl := hide (M2.out.reverses hne HSW.out hn a' b' hab' hb')
          unfold dat at hl
          go_wp2_with fail
          refine Calls.mono hl.out ?_
          rintro e w3 ⟨rfl, d2, hp, hm⟩
          have HM := hide hm
          have HP := hide hp
          clear hl hp hm
          go_wp2
          go_meet
          case rel => exact ⟨b' - 1 - (p - a'), 1, d2, by congr 1; omega, rfl, by omega, by omega, HP, HM⟩
        · have hk2b : (k == 2) = false := beq_eq_false_iff_ne.2 hk2
          go_wp2_with fail
          go_meet
          case rel => exact ⟨p, k, d1, rfl, rfl, hp1, hp2, permIn_refl _ _ _, M2⟩
      case rest =>
        obtain ⟨p2, k2, d2, rfl, rfl, hq1, hq2, HP2, M3⟩ := hcut
        have HL2 := hide (HL1.out.perm HP2.out)
        have HB2 := hide (below_perm (by rw [M2.out.size]; exact hb') HB1.out HP2.out)
        clear M2 HL1 HB1 HP2 hp1 hp2
        go_upto_region 16 with fail
        go_cut [12, 68] from 19 (fun s12 s68 wx => ∃ (k3 : Int) (x : Bool), s12 = .int .i64 k3 ∧ s68 = .bool x ∧ Hid (Mv blk off pv cap d.size wB d2 wx))
        case first =>
          by_cases hk1 : k2 = 1
          · subst hk1
            cases wb <;> cases wp <;>
              (go_wp2_with fail
               go_meet
               exact ⟨_, _, rfl, rfl, M3⟩)
          · have hk1b : (k2 == 1) = false := beq_eq_false_iff_ne.2 hk1
            cases wb <;> cases wp <;>
              (go_wp2_with fail
               go_meet
               exact ⟨_, _, rfl, rfl, M3⟩)
        case rest =>
          clear M3
          obtain ⟨k3, x, rfl, rfl, M3⟩ := hcut
          go_upto_if 68 with fail
          go_cut [] from 19 (fun wx => ∃ d3 : Array Pm, Hid (PermIn a' b' d2 d3) ∧ Hid (Mv blk off pv cap d.size wB d3 wx))
          case first =>
            cases x
            · go_wp2_with fail
              go_meet
              exact ⟨d2, permIn_refl _ _ _, M3⟩
            · have c0 := M3.out.box BX.out.1 hbx
              have c1 := M3.out.box BX.out.2 hbx
              have hl := hide (M3.out.partials hne HSW.out hn a' b' (by omega) hb' HB2.out)
              unfold dat at hl
              go_wp2_with fail
              refine Calls.mono hl.out ?_
              rintro e w4 ⟨r, d3, rfl, hp, hs, hm⟩
              have HM := hide hm
              have HP := hide hp
              have HS := hide hs
              clear hl hp hs hm
              cases r
              · go_wp2
                go_meet
                exact ⟨d3, HP, HM⟩
              · have hR := HL2.out d3 HP.out (HS.out rfl)
                go_wp2
                go_end0
                exact ⟨rfl, d3, hR.1, hR.2, HM.out.from G0.out⟩
          case rest =>
            obtain ⟨d3, HP3, M4⟩ := hcut
            have HL3 := hide (HL2.out.perm HP3.out)
            have HB3 := hide (below_perm (by rw [M3.out.size]; exact hb') HB2.out HP3.out)
            clear M3 HL2 HB2 HP3
            go_upto_region 18 with fail
            go_cut [83] from 19 (fun s83 wx => ∃ y : Bool, s83 = .bool y ∧ (y = true → 0 < a' ∧ ltPm d3[a' - 1]! d3[p2]! = false) ∧ Hid (Mv blk off pv cap d.size wB d3 wx))
            case first =>
              rcases Nat.eq_zero_or_pos a' with ha0 | ha0
              · have ha0z : decide ((a' : Int) > 0) = false := decide_eq_false (by omega)
                go_wp2_with fail
                go_meet
                case rel => exact ⟨false, rfl, fun h => (by cases h), M4⟩
              · have ha0z : (a' : Int) > 0 := by omega
                have c0 := M4.out.box BX.out.1 hbx
                have c1 := M4.out.box BX.out.2 hbx
                have hl := hide (M4.out.less (a' - 1) p2 (by omega) (by omega))
                go_wp2_with fail
                refine Calls.mono (hl.out _ _ (by omega) (by omega)) ?_
                rintro e w5 ⟨rfl, hm⟩
                have HM := hide hm
                clear hm hl
                go_wp2
                go_meet
                case rel => exact ⟨!ltPm d3[a' - 1]! d3[p2]!, rfl, fun h => ⟨ha0, by simpa using h⟩, HM⟩
            case rest =>
              clear M4
              obtain ⟨y, rfl, hy, M4⟩ := hcut
              cases y
              · have c0 := M4.out.box BX.out.1 hbx
                have c1 := M4.out.box BX.out.2 hbx
                have hl := hide (M4.out.parts hne HSW.out hn a' b' p2 hq1 hq2 hb' HB3.out)
                unfold dat at hl
                go_upto_if 109 with (go_at_call 93; refine Calls.mono hl.out ?_; rintro e w6 ⟨mid, ap, d4, rfl, r1, r2, r4, r5, r6, r7, hm⟩)
                have M6 := hide hm
                have R4 := hide r4
                have R5 := hide r5
                have R6 := hide r6
                have R7 := hide r7
                clear hm hl r4 r5 r6 r7 c0 c1 M4
                have c0 := M6.out.box BX.out.1 hbx
                have c1 := M6.out.box BX.out.2 hbx
                by_cases h4 : mid - a' < b' - mid
                · have h4z : (mid : Int) - (a' : Int) < (b' : Int) - (mid : Int) := by omega
                  have hl := hide (IH.out a' mid lim1 d4 w6 (by omega) M6.out.rw M6.out.size r1 (by omega) (by omega) R4.out)
                  unfold dat at hl
                  go_wp2_with fail
                  refine Calls.mono hl.out ?_
                  rintro e w7 ⟨rfl, d5, hp, hs, hm⟩
                  have M7 := hide (hm.from M6.out.grown)
                  have r6 := R6.out d5 hp hs
                  have HL5 := hide (show Left a b d (mid + 1) b' d5 from fun R h1 h2 => HL3.out R (r6.2 R h1 h2).1 (r6.2 R h1 h2).2)
                  have HB5 := hide r6.1
                  clear hl hp hs hm r6 R4 R5 R6 R7
                  go_wp2
                  go_roundw
                  case rel => exact ⟨mid + 1, b', lim1, _, ap, d5, by go_num, rfl, rfl, rfl, rfl, by omega, hb', by omega, by omega, M7, HL5, HB5⟩
                  case measure => simp [intOf]; omega
                · have h4z : ¬ ((mid : Int) - (a' : Int) < (b' : Int) - (mid : Int)) := by omega
                  have hl := hide (IH.out (mid + 1) b' lim1 d4 w6 (by omega) M6.out.rw M6.out.size (by omega) (by omega) (by omega) R5.out)
                  unfold dat at hl
                  rw [show ((mid + 1 : Nat) : Int) = (mid : Int) + 1 by omega] at hl
                  go_wp2_with fail
                  refine Calls.mono hl.out ?_
                  rintro e w7 ⟨rfl, d5, hp, hs, hm⟩
                  have M7 := hide (hm.from M6.out.grown)
                  have r7 := R7.out d5 hp hs
                  have HL5 := hide (show Left a b d a' mid d5 from fun R h1 h2 => HL3.out R (r7.2 R h1 h2).1 (r7.2 R h1 h2).2)
                  have HB5 := hide r7.1
                  clear hl hp hs hm r7 R4 R5 R6 R7
                  go_wp2
                  go_roundw
                  case rel => exact ⟨a', mid, lim1, _, ap, d5, rfl, rfl, rfl, rfl, rfl, r1, by omega, by omega, by omega, M7, HL5, HB5⟩
                  case measure => simp [intOf]; omega
              · have c0 := M4.out.box BX.out.1 hbx
                have c1 := M4.out.box BX.out.2 hbx
                have hl := hide (M4.out.partEqs hne HSW.out hn a' b' p2 hq1 hq2 hb' HB3.out (hy rfl).1 (hy rfl).2)
                unfold dat at hl
                go_wp2_with fail
                refine Calls.mono hl.out ?_
                rintro e w6 ⟨mid, d4, rfl, r1, r2, r4, r5, hm⟩
                have M6 := hide hm
                have HL5 := hide (show Left a b d mid b' d4 from fun R h1 h2 => HL3.out R (r5 R h1 h2).1 (r5 R h1 h2).2)
                have HB5 := hide r4
                clear hm hl r4 r5 c0 c1 M4
                go_wp2
                go_roundw
                case rel => exact ⟨mid, b', lim1, wb, wp, d4, rfl, rfl, rfl, rfl, rfl, r2, hb', by omega, by omega, M6, HL5, HB5⟩
                case measure => simp [intOf]; omega
end
end Go.Proofs.Qxb6614755a
