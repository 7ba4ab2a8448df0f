/- FnUserPermissionsGrantAddsOne (7): the walk. -/
import Derived.Test.Qxb6614755aPgl
import Derived.Test.Qxb6614755aPgf
import Derived.Test.Qxb6614755aPg29
import Derived.Test.Qxb6614755aPby
namespace Go.Proofs.Qxb6614755a
open Go.RowKit

theorem nil48_yes (W : World) : (binOp .eql 48 (.slice none 0 0) (.slice none 0 0)).run Try.prog W = .ok (.bool true) W := by kernel_rfl

set_option maxRecDepth 100000 in
set_option maxHeartbeats 4000000 in
theorem grantOne_any (a a2 : Option Addr) (nu nr cap cap2 : Nat) (U : Nat → UIn) (R : Nat → RIn) (u r op ob : ByteArray) (w : World) (hnu : nu ≤ maxLen) (hnr : nr ≤ maxLen) (h : UsAt w a nu U) (h2 : RsAt w a2 nr R) (hrl : ∀ i, i < nu → (U i).rl ≤ maxLen) (hgl : ∀ k, k < nr → (R k).gl ≤ maxLen) (hsz : SzOk nu nr U R) (hu : u.size ≤ maxLen) (hr : r.size ≤ maxLen) (ho : op.size ≤ maxLen) (hb : ob.size ≤ maxLen) :
    Calls Try.prog 7 #[.slice a nu cap, .slice a2 nr cap2, .string u, .string r, .string op, .string ob] w fun e w' => e = .returned (.bool true) ∧ Below w.heap.size w w' := by
  have C29 := hide (bytes29_any a a2 nu nr cap cap2 U R u r op ob w hnu hnr h h2 hrl hgl)
  have H := hide h
  have H2 := hide h2
  have HS := hide hsz
  have HL := hide (And.intro hu (And.intro hr (And.intro ho hb)))
  clear h h2 hrl hgl hsz hu hr ho hb
  unfold maxLen at hnu hnr
  go_enter Try.func7, Try.ntmps7
  go_wp2_with fail
  refine Calls.mono C29.out ?_
  rintro e w' ⟨f, rfl, hg, rfl⟩
  cases f with
  | false =>
    go_wp2
    go_ret
    exact ⟨rfl, Below.refl _ _⟩
  | true =>
  obtain ⟨lnu, lnr, lsum⟩ := hg rfl
  clear C29 hg hnu hnr
  have hu := HL.out.1
  have hr := HL.out.2.1
  have ho := HL.out.2.2.1
  have hb := HL.out.2.2.2
  unfold maxLen at hu hr ho hb
  have b1 := addL_bd (t := 0) (n := (u.size : Int)) (by omega) (by omega)
  have b2 := addL_bd (n := (r.size : Int)) b1.1 (by omega)
  have b3 := addL_bd (n := (op.size : Int)) b2.1 (by omega)
  have b4 := addL_bd (n := (ob.size : Int)) b3.1 (by omega)
  have HRL := hide (show ∀ i, i < nu → (U i).rl ≤ 1048576 from fun i hi => by have := su_le U hi; omega)
  have HGL := hide (show ∀ i, i < nr → (R i).gl ≤ 1048576 from fun i hi => by have := sg_le R hi; omega)
  have CA1 := hide (addLen_any 0 (u.size : Int) w' (by omega) (by omega))
  have CA2 := hide (addLen_any (addL 0 (u.size : Int)) (r.size : Int) w' b1.1 (by omega))
  have CA3 := hide (addLen_any (addL (addL 0 (u.size : Int)) (r.size : Int)) (op.size : Int) w' b2.1 (by omega))
  have CA4 := hide (addLen_any (addL (addL (addL 0 (u.size : Int)) (r.size : Int)) (op.size : Int)) (ob.size : Int) w' b3.1 (by omega))
  go_wp2_with fail
  refine Calls.mono CA1.out ?_
  rintro e w' ⟨rfl, rfl⟩
  go_wp2_with fail
  refine Calls.mono CA2.out ?_
  rintro e w' ⟨rfl, rfl⟩
  go_wp2_with fail
  refine Calls.mono CA3.out ?_
  rintro e w' ⟨rfl, rfl⟩
  go_wp2_with fail
  refine Calls.mono CA4.out ?_
  rintro e w' ⟨rfl, rfl⟩
  generalize addL (addL (addL (addL 0 (u.size : Int)) (r.size : Int)) (op.size : Int)) (ob.size : Int) = t at b4 ⊢
  clear CA1 CA2 CA3 CA4 b1 b2 b3
  by_cases ht : 1048576 < t
  · go_wp2
    go_ret
    exact ⟨rfl, Below.refl _ _⟩
  have C31 := hide (policyBytes_any a a2 nu nr cap cap2 U R t w' lnu lnr H.out H2.out HRL.out HGL.out b4.1)
  go_wp2_with fail
  refine Calls.mono C31.out ?_
  rintro e w2 ⟨z, rfl, r0, hd⟩
  have B2 := hide (drew_bel hd)
  clear hd C31
  by_cases hz : 1048576 < z
  · go_wp2
    go_ret
    exact ⟨rfl, B2.out⟩
  have C32 := hide (fit_any a a2 nu nr cap cap2 U R w2 lnu lnr (H.out.below B2.out) (H2.out.below B2.out) HRL.out HGL.out HS.out)
  go_wp2_with fail
  refine Calls.mono C32.out ?_
  rintro e w3 ⟨f, rfl, hf, hd⟩
  have B3 := hide (B2.out.trans ((drew_bel hd).mono B2.out.size))
  clear hd C32 B2
  cases f with
  | false =>
    go_wp2
    go_ret
    exact ⟨rfl, B3.out⟩
  | true =>
  have HF := hide (hf rfl)
  clear hf
  have C33 := hide (declared_any a2 nr cap2 R r w3 lnr (H2.out.below B3.out))
  go_wp2_with fail
  refine Calls.mono C33.out ?_
  rintro e w4 ⟨f, rfl, hk, hd⟩
  have B4 := hide (B3.out.trans ((drew_bel hd).mono B3.out.size))
  clear hd C33 B3
  cases f with
  | false =>
    go_wp2
    go_ret
    exact ⟨rfl, B4.out⟩
  | true =>
  have KR := hide (hk.1 rfl)
  clear hk
  have C11 := hide (fun W => zzValid_says op W HL.out.2.2.1)
  go_wp2_with fail
  refine Calls.mono (C11.out _) ?_
  rintro e w5 ⟨f, rfl, hk, hd⟩
  subst hd
  clear C11
  cases f with
  | false =>
    go_wp2
    go_ret
    exact ⟨rfl, B4.out⟩
  | true =>
  have VO := hide (hk.1 rfl)
  clear hk
  have C11 := hide (fun W => zzValid_says ob W HL.out.2.2.2)
  go_wp2_with fail
  refine Calls.mono (C11.out _) ?_
  rintro e w6 ⟨f, rfl, hk, hd⟩
  subst hd
  clear C11
  cases f with
  | false =>
    go_wp2
    go_ret
    exact ⟨rfl, B4.out⟩
  | true =>
  have VB := hide (hk.1 rfl)
  clear hk
  have HSG := hide (show sg R nr + 1 ≤ 1048576 by obtain ⟨k, hk, _⟩ := KR.out; omega)
  have HO := hide (fit_ok HF.out HS.out lnu lnr (by omega))
  have C34 := hide (build_any a a2 nu nr cap cap2 U R w6 (H.out.below B4.out) (H2.out.below B4.out) HO.out)
  go_wp2_with fail
  refine Calls.mono C34.out ?_
  rintro e w8 ⟨rfl, hb8⟩
  generalize hbp : w6.heap.size + 7 = bp at hb8 ⊢
  have B8 := hide hb8
  clear hb8 C34 hbp
  by_cases hv : Valid u
  · have CV := hide (fun W => (zzValid_says u W HL.out.1).mono (R' := fun e w' => e = .returned (.bool true) ∧ w' = W) fun e w' ⟨f, he, hf, hw⟩ => ⟨by rw [he, hf.2 hv], hw⟩)
    by_cases hkn : ∃ k, k < nu ∧ (U k).name = u
    · have KU := hide hkn
      have VU := hide hv
      clear hv hkn
      have HP1 := hide (B8.out.permsX u HL.out.1 VU.out (by obtain ⟨k, hk, e⟩ := KU.out; exact ⟨k, hk, by rw [e]⟩) (allG R nr) (fun y p => allG_mem) (by rw [allG_len]; omega) (fun y p => pgK_v HF.out) (fun p => HitI U nr R u p nu) (fun p => hit_user))
      go_wp2_with fail
      refine Calls.mono HP1.out ?_
      rintro e wa ⟨ga, capa, na, A, rfl, lna, hRA, hB1, _, hga⟩
      have HGr := hide (hB1.grant (by omega) r op ob HL.out.2.1 HL.out.2.2.1 HL.out.2.2.2 (by obtain ⟨k, hk, e⟩ := KR.out; exact ⟨k, hk, by rw [e]⟩) hga)
      have RA := hide hRA
      clear HP1 hRA hB1 B8 hga
      go_wp2_with fail
      refine Calls.mono HGr.out ?_
      rintro e wg ⟨rfl, hB2, hlg, hbg⟩
      have RA := hide (RA.out.block hlg hbg)
      have HP2 := hide ((show Built w6 bp _ (puI U nu) (paI U nu) (prK R nr) (pgX R nr r op ob) wg from hB2).perms u HL.out.1 VU.out (by obtain ⟨k, hk, e⟩ := KU.out; exact ⟨k, hk, by rw [e]⟩) (allG R nr ++ [(op, ob)]) (fun y p => pgX_mem) (by rw [allG_len1]; exact HSG.out) (fun y p => pgX_v HF.out VO.out VB.out) (fun p => HitI U nr R u p nu ∨ (HitA U u r nu ∧ p = (op, ob))) (fun p => hit_grant))
      clear HGr hB2 hlg hbg
      go_wp2_with fail
      refine Calls.mono HP2.out ?_
      rintro e wb ⟨gb, capb, nb, B, rfl, lnb, hRB, hB3, hbl, _⟩
      have RA := hide (RA.out.below hbl)
      have RB := hide hRB
      have BB := hide (B4.out.trans (hB3.bel.mono B4.out.size))
      clear HP2 hRB hB3 hbl
      go_wp2_with fail
      refine Calls.mono (CV.out _) ?_
      rintro e wb' ⟨rfl, hd⟩
      subst hd
      have C37 := hide (answers_true (known_any a nu cap U u wb' lnu (H.out.below BB.out)) KU.out)
      go_wp2_with fail
      refine Calls.mono C37.out ?_
      rintro e wc ⟨rfl, hd⟩
      have BC := hide (BB.out.trans ((drew_bel hd).mono BB.out.size))
      have RA := hide (RA.out.below (drew_bel hd))
      have RB := hide (RB.out.below (drew_bel hd))
      clear hd C37 BB CV
      have C38 := hide (match_any ga na capa A a a2 nu nr cap cap2 U R u wc lna lnu lnr RA.out.row (H.out.below BC.out) (H2.out.below BC.out) HRL.out HGL.out RA.out.inc (fun k hk => (RA.out.mem _).2 ⟨k, hk, rfl⟩) (fun p hp => (RA.out.mem p).1 hp))
      go_wp2_with fail
      refine Calls.mono C38.out ?_
      rintro e wd ⟨rfl, hbd⟩
      have BD := hide (BC.out.trans (hbd.mono BC.out.size))
      have RA := hide (RA.out.below hbd)
      have RB := hide (RB.out.below hbd)
      have hnil := nil48
      clear C38 hbd BC
      have C39 := hide (assigned_any a nu cap U u r wd lnu (H.out.below BD.out) HRL.out)
      go_wp2_with fail
      refine Calls.mono C39.out ?_
      rintro e we ⟨f, rfl, hk, hd⟩
      have BE := hide (BD.out.trans ((drew_bel hd).mono BD.out.size))
      have RA := hide (RA.out.below (drew_bel hd))
      have RB := hide (RB.out.below (drew_bel hd))
      clear hd C39 BD hnil
      cases f with
      | false =>
        obtain ⟨rfl, he⟩ := srow_same RA.out RB.out (fun p => ⟨fun q => q.elim id (fun q => absurd (hk.2 q.1) Bool.false_ne_true), .inl⟩)
        have C41 := hide (permsEq_any ga gb na capa capb A B we lna RA.out.row RB.out.row he)
        clear he
        go_wp2_with fail
        refine Calls.mono C41.out ?_
        rintro e wz ⟨rfl, hbz⟩
        have BZ := hide (BE.out.trans (hbz.mono BE.out.size))
        clear hbz C41
        go_wp2
        go_ret
        exact ⟨rfl, BZ.out⟩
      | true =>
        have KA := hide (hk.1 rfl)
        clear hk
        have C40 := hide (granted_any a a2 nu nr cap cap2 U R u op ob we lnu lnr (H.out.below BE.out) (H2.out.below BE.out) HRL.out HGL.out)
        go_wp2_with fail
        refine Calls.mono C40.out ?_
        rintro e wf ⟨f, rfl, hk, hd⟩
        have BF := hide (BE.out.trans ((drew_bel hd).mono BE.out.size))
        have RA := hide (RA.out.below (drew_bel hd))
        have RB := hide (RB.out.below (drew_bel hd))
        clear hd C40 BE
        cases f with
        | true =>
          obtain ⟨rfl, he⟩ := srow_same RA.out RB.out (fun p => ⟨fun q => q.elim id (fun q => q.2 ▸ hk.1 rfl), .inl⟩)
          have C41 := hide (permsEq_any ga gb na capa capb A B wf lna RA.out.row RB.out.row he)
          clear he
          go_wp2_with fail
          refine Calls.mono C41.out ?_
          rintro e wz ⟨rfl, hbz⟩
          have BZ := hide (BF.out.trans (hbz.mono BF.out.size))
          clear hbz C41
          go_wp2
          go_ret
          exact ⟨rfl, BZ.out⟩
        | false =>
          obtain ⟨p, hI⟩ := srow_insert RA.out RB.out (x := (op, ob)) ⟨VO.out, VB.out⟩ (fun q => Bool.false_ne_true (hk.2 q)) (fun q => ⟨fun z => z.elim .inl (fun z => .inr z.2), fun z => z.elim .inl (fun z => .inr ⟨KA.out, z⟩)⟩)
          have HI := hide hI
          have lp := hI.le
          have t0 : (((nb : Nat) : Int) == ((na : Nat) : Int) + 1) = true := by have := hI.len; simp; omega
          clear hI hk
          have C42 := hide (fun W => written_any op ob W (by have := VO.out.2.1; omega) (by have := VB.out.2.1; omega))
          have hne58 := ne58
          go_wp2_with fail
          refine Calls.mono (C42.out _) ?_
          rintro e w' ⟨rfl, hd⟩
          subst hd
          clear C42 t0
          go_wp2
          go_loopw [22] (fun v wr => ∃ k : Nat, k ≤ p ∧ v = .int .i64 k ∧ Hid (Below w'.heap.size w' wr)) (fun v _ => p - (intOf v).toNat)
          case atStart => exact ⟨0, Nat.zero_le _, rfl, Below.refl _ _⟩
          case round =>
            obtain ⟨k, hk, rfl, hw⟩ := hrel
            rename World => wr
            by_cases hkna : k < na
            · obtain ⟨b, off, e1, q1, q2⟩ := (RA.out.below hw.out).row.at hkna
              cases e1
              have hsm := RA.out.inc.small k hkna
              have hlo := HI.out.lo k
              have hhi := HI.out.hi
              have HL1 := hide (show k < p → ltPm (A k) (op, ob) = true from HI.out.lo k)
              have HH1 := hide (show k = p → ltPm (A k) (op, ob) = false from fun e => e ▸ HI.out.hi (e ▸ hkna))
              clear hlo hhi
              obtain ⟨a1, a2, hp⟩ : ∃ a1 a2, A k = (a1, a2) := ⟨_, _, rfl⟩
              rw [hp] at q1 q2 HL1 HH1 hsm
              simp only [Nat.zero_add] at q1 q2
              have C42k := hide (fun W => written_any a1 a2 W hsm.1 hsm.2)
              have i1 : ((k : Nat) : Int) < ((na : Nat) : Int) := by omega
              have g1 : decide (k < na) = true := decide_eq_true hkna
              have g2 : decide ((k : Int) < (na : Int)) = true := decide_eq_true (by omega)
              clear hp hsm
              by_cases hlt : k < p
              · have t1 : Op.bytesLess (a1 ++ ⟨#[58]⟩ ++ a2).toList (op ++ ⟨#[58]⟩ ++ ob).toList = true := HL1.out hlt
                clear HL1 HH1
                go_wp2
                go_quiet ((go_at_call 42; exact Calls.quiet_of_same (C42k.out _)))
                go_wp2
                go_roundw
                case rel => exact ⟨k + 1, by omega, by go_num, below_drewN' hw.out _⟩
                case measure => simp [intOf]; omega
              · obtain rfl : k = p := by omega
                have t1 : Op.bytesLess (a1 ++ ⟨#[58]⟩ ++ a2).toList (op ++ ⟨#[58]⟩ ++ ob).toList = false := HH1.out rfl
                clear HL1 HH1
                go_wp2
                go_quiet ((go_at_call 42; exact Calls.quiet_of_same (C42k.out _)))
                have HW := hide (hw.out.trans ((drewN_below wr nq).mono hw.out.size))
                clear q1 q2 t1 hw C42k
                go_wp2
                go_loopw [23] (fun v wr => ∃ i : Nat, i ≤ k ∧ v = .int .i64 i ∧ Hid (Below w'.heap.size w' wr)) (fun v _ => k - (intOf v).toNat)
                case atStart => exact ⟨0, Nat.zero_le _, rfl, HW⟩
                case round =>
                  clear HW
                  obtain ⟨i, hi, rfl, hw⟩ := hrel
                  rename World => wr
                  by_cases hlt : i < k
                  · have hna : i < na := by omega
                    have hnb : i < nb := by have := HI.out.len; omega
                    obtain ⟨b, off, e1, q1, q2⟩ := (RA.out.below hw.out).row.at hna
                    cases e1
                    obtain ⟨b, off, e1, r1, r2⟩ := (RB.out.below hw.out).row.at hnb
                    cases e1
                    obtain ⟨p1, p2, hp⟩ : ∃ p1 p2, A i = (p1, p2) := ⟨_, _, rfl⟩
                    rw [HI.out.low i hlt] at r1 r2
                    rw [hp] at q1 q2 r1 r2
                    simp only [Nat.zero_add] at q1 q2 r1 r2
                    have i1 : ((i : Nat) : Int) < ((na : Nat) : Int) := by omega
                    have i2 : ((i : Nat) : Int) < ((nb : Nat) : Int) := by omega
                    clear hp
                    go_wp2
                    go_quiet (fail)
                    go_wp2
                    go_roundw
                    case rel => exact ⟨i + 1, by omega, by go_num, below_drewN' hw.out _⟩
                    case measure => simp [intOf]; omega
                  · have hnb : k < nb := by have := HI.out.len; omega
                    obtain ⟨b, off, e1, r1, r2⟩ := (RB.out.below hw.out).row.at hnb
                    cases e1
                    rw [HI.out.mid] at r1 r2
                    simp only [Nat.zero_add] at r1 r2
                    have i2 : ((k : Nat) : Int) < ((nb : Nat) : Int) := by omega
                    go_wp2
                    clear r1 r2
                    go_loopw [24] (fun v wr => ∃ i : Nat, k ≤ i ∧ i ≤ na ∧ v = .int .i64 i ∧ Hid (Below w'.heap.size w' wr)) (fun v _ => na - (intOf v).toNat)
                    case atStart => exact ⟨k, Nat.le_refl _, lp, rfl, hw⟩
                    case round =>
                      clear hw
                      obtain ⟨i, hip, hi, rfl, hw⟩ := hrel
                      rename World => wr
                      by_cases hlt : i < na
                      · have hnb : i + 1 < nb := by have := HI.out.len; omega
                        obtain ⟨b, off, e1, q1, q2⟩ := (RA.out.below hw.out).row.at hlt
                        cases e1
                        obtain ⟨b, off, e1, r1, r2⟩ := (RB.out.below hw.out).row.at hnb
                        cases e1
                        obtain ⟨p1, p2, hp⟩ : ∃ p1 p2, A i = (p1, p2) := ⟨_, _, rfl⟩
                        rw [HI.out.up i hip hlt] at r1 r2
                        rw [hp] at q1 q2 r1 r2
                        simp only [Nat.zero_add] at q1 q2 r1 r2
                        have i1 : ((i : Nat) : Int) < ((na : Nat) : Int) := by omega
                        have i2 : ((i : Nat) : Int) + 1 < ((nb : Nat) : Int) := by omega
                        clear hp
                        go_wp2
                        go_quiet (fail)
                        go_wp2
                        go_roundw
                        case rel => exact ⟨i + 1, by omega, by omega, by go_num, below_drewN' hw.out _⟩
                        case measure => simp [intOf]; omega
                      · go_wp2
                        go_ret
                        exact ⟨rfl, BF.out.trans (hw.out.mono BF.out.size)⟩
            · obtain rfl : k = p := by omega
              have g1 : decide (k < na) = false := decide_eq_false hkna
              have g2 : decide ((k : Int) < (na : Int)) = false := decide_eq_false (by omega)
              go_wp2
              go_quiet (fail)
              have HW := hide (hw.out.trans ((drewN_below wr nq).mono hw.out.size))
              clear hw
              go_wp2
              go_loopw [23] (fun v wr => ∃ i : Nat, i ≤ k ∧ v = .int .i64 i ∧ Hid (Below w'.heap.size w' wr)) (fun v _ => k - (intOf v).toNat)
              case atStart => exact ⟨0, Nat.zero_le _, rfl, HW⟩
              case round =>
                clear HW
                obtain ⟨i, hi, rfl, hw⟩ := hrel
                rename World => wr
                by_cases hlt : i < k
                · have hna : i < na := by omega
                  have hnb : i < nb := by have := HI.out.len; omega
                  obtain ⟨b, off, e1, q1, q2⟩ := (RA.out.below hw.out).row.at hna
                  cases e1
                  obtain ⟨b, off, e1, r1, r2⟩ := (RB.out.below hw.out).row.at hnb
                  cases e1
                  obtain ⟨p1, p2, hp⟩ : ∃ p1 p2, A i = (p1, p2) := ⟨_, _, rfl⟩
                  rw [HI.out.low i hlt] at r1 r2
                  rw [hp] at q1 q2 r1 r2
                  simp only [Nat.zero_add] at q1 q2 r1 r2
                  have i1 : ((i : Nat) : Int) < ((na : Nat) : Int) := by omega
                  have i2 : ((i : Nat) : Int) < ((nb : Nat) : Int) := by omega
                  clear hp
                  go_wp2
                  go_quiet (fail)
                  go_wp2
                  go_roundw
                  case rel => exact ⟨i + 1, by omega, by go_num, below_drewN' hw.out _⟩
                  case measure => simp [intOf]; omega
                · have hnb : k < nb := by have := HI.out.len; omega
                  obtain ⟨b, off, e1, r1, r2⟩ := (RB.out.below hw.out).row.at hnb
                  cases e1
                  rw [HI.out.mid] at r1 r2
                  simp only [Nat.zero_add] at r1 r2
                  have i2 : ((k : Nat) : Int) < ((nb : Nat) : Int) := by omega
                  go_wp2
                  clear r1 r2
                  go_loopw [24] (fun v wr => ∃ i : Nat, k ≤ i ∧ i ≤ na ∧ v = .int .i64 i ∧ Hid (Below w'.heap.size w' wr)) (fun v _ => na - (intOf v).toNat)
                  case atStart => exact ⟨k, Nat.le_refl _, lp, rfl, hw⟩
                  case round =>
                    clear hw
                    obtain ⟨i, hip, hi, rfl, hw⟩ := hrel
                    rename World => wr
                    by_cases hlt : i < na
                    · have hnb : i + 1 < nb := by have := HI.out.len; omega
                      obtain ⟨b, off, e1, q1, q2⟩ := (RA.out.below hw.out).row.at hlt
                      cases e1
                      obtain ⟨b, off, e1, r1, r2⟩ := (RB.out.below hw.out).row.at hnb
                      cases e1
                      obtain ⟨p1, p2, hp⟩ : ∃ p1 p2, A i = (p1, p2) := ⟨_, _, rfl⟩
                      rw [HI.out.up i hip hlt] at r1 r2
                      rw [hp] at q1 q2 r1 r2
                      simp only [Nat.zero_add] at q1 q2 r1 r2
                      have i1 : ((i : Nat) : Int) < ((na : Nat) : Int) := by omega
                      have i2 : ((i : Nat) : Int) + 1 < ((nb : Nat) : Int) := by omega
                      clear hp
                      go_wp2
                      go_quiet (fail)
                      go_wp2
                      go_roundw
                      case rel => exact ⟨i + 1, by omega, by omega, by go_num, below_drewN' hw.out _⟩
                      case measure => simp [intOf]; omega
                    · go_wp2
                      go_ret
                      exact ⟨rfl, BF.out.trans (hw.out.mono BF.out.size)⟩
    · have HP1 := hide (B8.out.permsNone u HL.out.1 hv (fun ⟨k, hk, e⟩ => hkn ⟨k, hk, bytes_eq' e⟩))
      go_wp2_with fail
      refine Calls.mono HP1.out ?_
      rintro e wa ⟨rfl, hB1⟩
      have HGr := hide (hB1.grant (by omega) r op ob HL.out.2.1 HL.out.2.2.1 HL.out.2.2.2 (by obtain ⟨k, hk, e⟩ := KR.out; exact ⟨k, hk, by rw [e]⟩))
      clear HP1 hB1 B8
      go_wp2_with fail
      refine Calls.mono HGr.out ?_
      rintro e wg ⟨rfl, hB2⟩
      have HP2 := hide (hB2.permsNone u HL.out.1 hv (fun ⟨k, hk, e⟩ => hkn ⟨k, hk, bytes_eq' e⟩))
      clear HGr hB2
      go_wp2_with fail
      refine Calls.mono HP2.out ?_
      rintro e wb ⟨rfl, hB3⟩
      have BB := hide (B4.out.trans (hB3.bel.mono B4.out.size))
      have hny := nil48_yes
      clear HP2 hB3
      go_wp2_with fail
      refine Calls.mono (CV.out _) ?_
      rintro e wb' ⟨rfl, hd⟩
      subst hd
      clear CV
      have C37 := hide (answers_false (known_any a nu cap U u wb' lnu (H.out.below BB.out)) hkn)
      go_wp2_with fail
      refine Calls.mono C37.out ?_
      rintro e wc ⟨rfl, hd⟩
      have BC := hide (BB.out.trans ((drew_bel hd).mono BB.out.size))
      clear hd C37 BB
      go_wp2
      go_ret
      exact ⟨rfl, BC.out⟩
  · have CV := hide (fun W => (zzValid_says u W HL.out.1).mono (R' := fun e w' => e = .returned (.bool false) ∧ w' = W) fun e w' ⟨f, he, hf, hw⟩ => ⟨by cases f with | false => exact he | true => exact absurd (hf.1 rfl) hv, hw⟩)
    have HP1 := hide (B8.out.permsBad u HL.out.1 hv)
    go_wp2_with fail
    refine Calls.mono HP1.out ?_
    rintro e wa ⟨rfl, hB1⟩
    have HGr := hide (hB1.grant (by omega) r op ob HL.out.2.1 HL.out.2.2.1 HL.out.2.2.2 (by obtain ⟨k, hk, e⟩ := KR.out; exact ⟨k, hk, by rw [e]⟩))
    clear HP1 hB1 B8
    go_wp2_with fail
    refine Calls.mono HGr.out ?_
    rintro e wg ⟨rfl, hB2⟩
    have HP2 := hide (hB2.permsBad u HL.out.1 hv)
    clear HGr hB2
    go_wp2_with fail
    refine Calls.mono HP2.out ?_
    rintro e wb ⟨rfl, hB3⟩
    have BB := hide (B4.out.trans (hB3.bel.mono B4.out.size))
    have hny := nil48_yes
    clear HP2 hB3
    go_wp2_with fail
    refine Calls.mono (CV.out _) ?_
    rintro e wb' ⟨rfl, hd⟩
    subst hd
    clear CV
    go_wp2
    go_ret
    exact ⟨rfl, BB.out⟩
end Go.Proofs.Qxb6614755a
