/- FnUserPermissionsJoinedUserIsUnion (8): the walk. -/
import Derived.Test.Qxb6614755aPjl
import Derived.Test.Qxb6614755aPg43
import Derived.Test.Qxb6614755aPby
namespace Go.Proofs.Qxb6614755a
open Go.RowKit

/-- The assignments, once the joined user has the roles of the first t users that count. -/
def JH (U : Nat → UIn) (u o : ByteArray) (t : Nat) (y : Bs) : Prop := ∃ i, i < t ∧ (((U i).name = u ∨ (U i).name = o) ∧ ∃ q, q < (U i).rl ∧ ((U i).R q).toList = y)
def paL (U : Nat → UIn) (nu : Nat) (u o jn : ByteArray) (t : Nat) (x y : Bs) : Prop := (x ≠ jn.toList ∧ paI U nu x y) ∨ (x = jn.toList ∧ JH U u o t y)
def paM (U : Nat → UIn) (nu : Nat) (u o jn : ByteArray) (t q : Nat) (x y : Bs) : Prop := paL U nu u o jn t x y ∨ (x = jn.toList ∧ ∃ q', q' < q ∧ ((U t).R q').toList = y)
def puJ (U : Nat → UIn) (nu : Nat) (jn : ByteArray) (x : Bs) : Prop := puI U nu x ∨ x = jn.toList
theorem paL_skip {U : Nat → UIn} {nu : Nat} {u o jn : ByteArray} {t : Nat} (h : ¬ ((U t).name = u ∨ (U t).name = o)) (x y : Bs) : paL U nu u o jn t x y ↔ paL U nu u o jn (t + 1) x y := by
  unfold paL JH
  rw [hit_succ (k := t)]
  simp [h]
theorem paM_end {U : Nat → UIn} {nu : Nat} {u o jn : ByteArray} {t : Nat} (h : (U t).name = u ∨ (U t).name = o) (x y : Bs) : paM U nu u o jn t (U t).rl x y ↔ paL U nu u o jn (t + 1) x y := by
  unfold paM paL JH
  rw [hit_succ (k := t)]
  constructor
  · rintro ((z | ⟨z1, z2⟩) | ⟨z1, z2⟩)
    · exact .inl z
    · exact .inr ⟨z1, .inl z2⟩
    · exact .inr ⟨z1, .inr ⟨h, z2⟩⟩
  · rintro (z | ⟨z1, z2 | ⟨_, z2⟩⟩)
    · exact .inl (.inl z)
    · exact .inl (.inr ⟨z1, z2⟩)
    · exact .inr ⟨z1, z2⟩
theorem paM_zero {U : Nat → UIn} {nu : Nat} {u o jn : ByteArray} {t : Nat} (x y : Bs) : paL U nu u o jn t x y ↔ paM U nu u o jn t 0 x y :=
  ⟨Or.inl, fun z => z.elim id (fun z => (hit_zero.1 z.2).elim)⟩
theorem paM_succ {U : Nat → UIn} {nu : Nat} {u o jn : ByteArray} {t q : Nat} (x y : Bs) : (paM U nu u o jn t q x y ∨ (x = jn.toList ∧ y = ((U t).R q).toList)) ↔ paM U nu u o jn t (q + 1) x y := by
  unfold paM
  rw [hit_succ (k := q)]
  constructor
  · rintro ((z | ⟨z1, z2⟩) | ⟨z1, z2⟩)
    · exact .inl z
    · exact .inr ⟨z1, .inl z2⟩
    · exact .inr ⟨z1, .inr z2.symm⟩
  · rintro (z | ⟨z1, z2 | z2⟩)
    · exact .inl (.inl z)
    · exact .inl (.inr ⟨z1, z2⟩)
    · exact .inr ⟨z1, z2.symm⟩
theorem paL_zero {U : Nat → UIn} {nu : Nat} {u o jn : ByteArray} (x y : Bs) : (x ≠ jn.toList ∧ paI U nu x y) ↔ paL U nu u o jn 0 x y :=
  ⟨Or.inl, fun z => z.elim id (fun z => (hit_zero.1 z.2).elim)⟩
theorem hit_old {nu nr : Nat} {U : Nat → UIn} {R : Nat → RIn} {u o jn x : ByteArray} {p : Pm} {t : Nat} (h : x ≠ jn) : (∃ y, paL U nu u o jn t x.toList y ∧ pgK R nr y p) ↔ HitI U nr R x p nu := by
  rw [← hit_user]
  have hn : x.toList ≠ jn.toList := fun e => h (bytes_eq' e)
  simp [paL, hn]
theorem hit_join {nu nr : Nat} {U : Nat → UIn} {R : Nat → RIn} {u o jn : ByteArray} {p : Pm} : (∃ y, paL U nu u o jn nu jn.toList y ∧ pgK R nr y p) ↔ (HitI U nr R u p nu ∨ HitI U nr R o p nu) := by
  rw [← hit_user, ← hit_user]
  constructor
  · rintro ⟨y, (⟨z, _⟩ | ⟨_, i, hi, h1 | h1, h2⟩), hg⟩
    · exact absurd rfl z
    · exact .inl ⟨y, ⟨i, hi, by rw [h1], h2⟩, hg⟩
    · exact .inr ⟨y, ⟨i, hi, by rw [h1], h2⟩, hg⟩
  · rintro (⟨y, ⟨i, hi, h1, h2⟩, hg⟩ | ⟨y, ⟨i, hi, h1, h2⟩, hg⟩)
    · exact ⟨y, .inr ⟨rfl, i, hi, .inl (bytes_eq' h1), h2⟩, hg⟩
    · exact ⟨y, .inr ⟨rfl, i, hi, .inr (bytes_eq' h1), h2⟩, hg⟩

def Tot (nu nr : Nat) (U : Nat → UIn) (R : Nat → RIn) : Nat := nr + nu + 2 * su U nu + 4 * sg R nr

set_option maxRecDepth 100000 in
set_option maxHeartbeats 4000000 in
theorem joined_any (a a2 : Option Addr) (nu nr cap cap2 : Nat) (U : Nat → UIn) (R : Nat → RIn) (u o jn : ByteArray) (w : World) (hnu : nu ≤ maxLen) (hnr : nr ≤ maxLen) (h : UsAt w a nu U) (h2 : RsAt w a2 nr R) (hrl : ∀ i, i < nu → (U i).rl ≤ maxLen) (hgl : ∀ k, k < nr → (R k).gl ≤ maxLen) (hsz : SzOk nu nr U R) (hu : u.size ≤ maxLen) (ho : o.size ≤ maxLen) (hj : jn.size ≤ maxLen) :
    Calls Try.prog 8 #[.slice a nu cap, .slice a2 nr cap2, .string u, .string o, .string jn] w fun e w' => e = .returned (.bool true) ∧ Below w.heap.size w w' := by
  have C43 := hide (bytes43_any a a2 nu nr cap cap2 U R u o jn w hnu hnr h h2 hrl hgl)
  have H := hide h
  have H2 := hide h2
  have HS := hide hsz
  have HL := hide (And.intro hu (And.intro ho hj))
  clear h h2 hrl hgl hsz hu ho hj
  unfold maxLen at hnu hnr
  go_enter Try.func8, Try.ntmps8
  go_wp2_with fail
  refine Calls.mono C43.out ?_
  rintro e w' ⟨r, rfl, hg, rfl⟩
  cases r with
  | false =>
    go_wp2
    go_ret
    exact ⟨rfl, Below.refl _ _⟩
  | true =>
  obtain ⟨lnu, lnr, lsum⟩ := hg rfl
  clear C43 hg hnu hnr
  have hu := HL.out.1
  have ho := HL.out.2.1
  have hj := HL.out.2.2
  unfold maxLen at hu ho hj
  have b1 := addL_bd (t := 0) (n := (u.size : Int)) (by omega) (by omega)
  have b2 := addL_bd (n := (o.size : Int)) b1.1 (by omega)
  have b3 := addL_bd (n := (jn.size : Int)) b2.1 (by omega)
  have HRL := hide (show ∀ i, i < nu → (U i).rl ≤ 1048576 from fun i hi => by have := su_le U hi; omega)
  have HGL := hide (show ∀ i, i < nr → (R i).gl ≤ 1048576 from fun i hi => by have := sg_le R hi; omega)
  have CA1 := hide (addLen_any 0 (u.size : Int) w' (by omega) (by omega))
  have CA2 := hide (addLen_any (addL 0 (u.size : Int)) (o.size : Int) w' b1.1 (by omega))
  have CA3 := hide (addLen_any (addL (addL 0 (u.size : Int)) (o.size : Int)) (jn.size : Int) w' b2.1 (by omega))
  go_wp2_with fail
  refine Calls.mono CA1.out ?_
  rintro e w' ⟨rfl, rfl⟩
  go_wp2_with fail
  refine Calls.mono CA2.out ?_
  rintro e w' ⟨rfl, rfl⟩
  go_wp2_with fail
  refine Calls.mono CA3.out ?_
  rintro e w' ⟨rfl, rfl⟩
  generalize addL (addL (addL 0 (u.size : Int)) (o.size : Int)) (jn.size : Int) = t at b3 ⊢
  clear CA1 CA2 CA3 b1 b2
  by_cases ht : 1048576 < t
  · go_wp2
    go_ret
    exact ⟨rfl, Below.refl _ _⟩
  have C31 := hide (policyBytes_any a a2 nu nr cap cap2 U R t w' lnu lnr H.out H2.out HRL.out HGL.out b3.1)
  go_wp2_with fail
  refine Calls.mono C31.out ?_
  rintro e w2 ⟨r, rfl, r0, hd⟩
  have B2 := hide (drew_bel hd)
  clear hd C31
  by_cases hr : 1048576 < r
  · go_wp2
    go_ret
    exact ⟨rfl, B2.out⟩
  have C32 := hide (fit_any a a2 nu nr cap cap2 U R w2 lnu lnr (H.out.below B2.out) (H2.out.below B2.out) HRL.out HGL.out HS.out)
  go_wp2_with fail
  refine Calls.mono C32.out ?_
  rintro e w3 ⟨f, rfl, hf, hd⟩
  have B3 := hide (B2.out.trans ((drew_bel hd).mono B2.out.size))
  clear hd C32 B2
  cases f with
  | false =>
    go_wp2
    go_ret
    exact ⟨rfl, B3.out⟩
  | true =>
  have HF := hide (hf rfl)
  clear hf
  have C37 := hide (known_any a nu cap U u w3 lnu (H.out.below B3.out))
  go_wp2_with fail
  refine Calls.mono C37.out ?_
  rintro e w4 ⟨f, rfl, hk, hd⟩
  have B4 := hide (B3.out.trans ((drew_bel hd).mono B3.out.size))
  clear hd C37 B3
  cases f with
  | false =>
    go_wp2
    go_ret
    exact ⟨rfl, B4.out⟩
  | true =>
  have KU := hide (hk.1 rfl)
  clear hk
  have C37 := hide (known_any a nu cap U o w4 lnu (H.out.below B4.out))
  go_wp2_with fail
  refine Calls.mono C37.out ?_
  rintro e w5 ⟨f, rfl, hk, hd⟩
  have B5 := hide (B4.out.trans ((drew_bel hd).mono B4.out.size))
  clear hd C37 B4
  cases f with
  | false =>
    go_wp2
    go_ret
    exact ⟨rfl, B5.out⟩
  | true =>
  have KO := hide (hk.1 rfl)
  clear hk
  have C11 := hide (zzValid_says jn w5 HL.out.2.2)
  go_wp2_with fail
  refine Calls.mono C11.out ?_
  rintro e w6 ⟨f, rfl, hk, hd⟩
  subst hd
  clear C11
  cases f with
  | false =>
    go_wp2
    go_ret
    exact ⟨rfl, B5.out⟩
  | true =>
  have KJ := hide (hk.1 rfl)
  clear hk
  have C37 := hide (known_any a nu cap U jn w6 lnu (H.out.below B5.out))
  go_wp2_with fail
  refine Calls.mono C37.out ?_
  rintro e w7 ⟨f, rfl, hk, hd⟩
  have B7 := hide (B5.out.trans ((drew_bel hd).mono B5.out.size))
  clear hd C37 B5
  cases f with
  | true =>
    go_wp2
    go_ret
    exact ⟨rfl, B7.out⟩
  | false =>
  have KN := hide (show ¬ ∃ k, k < nu ∧ (U k).name = jn from fun q => Bool.false_ne_true (hk.2 q))
  clear hk
  have HO := hide (fit_ok HF.out HS.out lnu lnr lsum)
  have C34 := hide (build_any a a2 nu nr cap cap2 U R w7 (H.out.below B7.out) (H2.out.below B7.out) HO.out)
  go_wp2_with fail
  refine Calls.mono C34.out ?_
  rintro e w8 ⟨rfl, hb8⟩
  generalize hbp : w7.heap.size + 7 = bp at hb8 ⊢
  have B8 := hide hb8
  clear hb8 C34 hbp
  have C44 := hide (B8.out.addUser (by omega) jn HL.out.2.2)
  go_wp2_with fail
  refine Calls.mono C44.out ?_
  rintro e w9 ⟨rfl, hb9⟩
  have B9 := hide hb9
  clear hb9 C44 B8
  have hsu0 := lsum
  go_wp2
  go_loopw [13] (fun v wr => ∃ t : Nat, t ≤ nu ∧ v = .int .i64 t ∧ Hid (∃ T, T ≤ nr + nu + 2 * su U nu + 4 * sg R nr + 1 + 2 * su U t ∧ Built w7 bp T (puJ U nu jn) (paL U nu u o jn t) (prK R nr) (pgK R nr) wr)) (fun v _ => nu - (intOf v).toNat)
  case atStart => exact ⟨0, Nat.zero_le _, rfl, _, Nat.le_refl _, B9.out.iff (fun _ => Iff.rfl) paL_zero (fun _ => Iff.rfl) (fun _ _ => Iff.rfl)⟩
  case round =>
    clear B9
    obtain ⟨t, ht, rfl, hB⟩ := hrel
    rename World => wr
    by_cases hlt : t < nu
    · have hrl := HRL.out t hlt
      have hsu := su_le U hlt
      obtain ⟨T, hT, hBB⟩ := hB.out
      have HT := hide hT
      have HB := hide hBB
      clear hB hBB hT
      obtain ⟨b, off, ea, ⟨c0, c1⟩, hS⟩ := (H.out.below (B7.out.trans (HB.out.bel.mono B7.out.size))).at hlt
      subst ea
      have tt : ((t : Nat) : Int) < ((nu : Nat) : Int) := by omega
      clear hS c1
      by_cases hn : (U t).name = u ∨ (U t).name = o
      · have HN := hide hn
        have HI := hide (show ∃ T', T' ≤ nr + nu + 2 * su U nu + 4 * sg R nr + 1 + 2 * (su U t + 0) ∧ Built w7 bp T' (puJ U nu jn) (paM U nu u o jn t 0) (prK R nr) (pgK R nr) wr from ⟨T, HT.out, HB.out.iff (fun _ => Iff.rfl) paM_zero (fun _ => Iff.rfl) (fun _ _ => Iff.rfl)⟩)
        clear HT HB
        rcases hn with hn | hn
        · have t1 := beq_of_eq hn
          clear hn
          go_wp2
          clear c0 t1
          go_loopw [14] (fun v wr => ∃ q : Nat, q ≤ (U t).rl ∧ v = .int .i64 q ∧ Hid (∃ T', T' ≤ nr + nu + 2 * su U nu + 4 * sg R nr + 1 + 2 * (su U t + q) ∧ Built w7 bp T' (puJ U nu jn) (paM U nu u o jn t q) (prK R nr) (pgK R nr) wr)) (fun v _ => (U t).rl - (intOf v).toNat)
          case atStart => exact ⟨0, Nat.zero_le _, rfl, HI⟩
          case round =>
            clear HI
            obtain ⟨q, hq, rfl, hB⟩ := hrel
            rename World => wr
            obtain ⟨T, hT, hBB⟩ := hB.out
            have HT := hide hT
            have HB := hide hBB
            clear hB hT hBB
            obtain ⟨b', off', eb, ⟨_, c1⟩, hS⟩ := (H.out.below (B7.out.trans (HB.out.bel.mono B7.out.size))).at hlt
            cases eb
            by_cases hltq : q < (U t).rl
            · obtain ⟨rb, ro, era, cj⟩ := hS.at hltq
              have cj' := cj q hltq
              obtain ⟨z, hz, hnz⟩ := HF.out.dc t hlt q hltq
              have CL := hide (HB.out.assign (by have := HT.out; omega) jn ((U t).R q) HL.out.2.2 (HS.out.roles t hlt q hltq) (.inr rfl) ⟨z, hz, by rw [hnz]⟩)
              rw [era] at c1
              have jj : ((q : Nat) : Int) < (((U t).rl : Nat) : Int) := by omega
              clear cj hS era hnz hz
              go_wp2_with fail
              refine Calls.mono CL.out ?_
              rintro e w2 ⟨rfl, hb2⟩
              have B2 := hide (hb2.iff (fun _ => Iff.rfl) paM_succ (fun _ => Iff.rfl) (fun _ _ => Iff.rfl))
              clear hb2 CL c1 cj'
              go_wp2
              go_roundw
              case rel => exact ⟨q + 1, by omega, by go_num, T + 2, by have := HT.out; omega, B2.out⟩
              case measure => simp [intOf]; omega
            · clear hS
              have eq : q = (U t).rl := by omega
              have HR := hide ((show Built w7 bp T (puJ U nu jn) (paM U nu u o jn t (U t).rl) (prK R nr) (pgK R nr) wr from eq ▸ HB.out).iff (fun _ => Iff.rfl) (paM_end HN.out) (fun _ => Iff.rfl) (fun _ _ => Iff.rfl))
              have HT2 := hide (show T ≤ nr + nu + 2 * su U nu + 4 * sg R nr + 1 + 2 * (su U t + (U t).rl) from eq ▸ HT.out)
              clear eq HT HB
              go_wp2
              go_roundw
              case rel => exact ⟨t + 1, by omega, by go_num, T, HT2.out, HR.out⟩
              case measure => simp [intOf]; omega
        · by_cases hn2 : (U t).name = u
          · have t1 := beq_of_eq hn2
            clear hn hn2
            go_wp2
            clear c0 t1
            go_loopw [14] (fun v wr => ∃ q : Nat, q ≤ (U t).rl ∧ v = .int .i64 q ∧ Hid (∃ T', T' ≤ nr + nu + 2 * su U nu + 4 * sg R nr + 1 + 2 * (su U t + q) ∧ Built w7 bp T' (puJ U nu jn) (paM U nu u o jn t q) (prK R nr) (pgK R nr) wr)) (fun v _ => (U t).rl - (intOf v).toNat)
            case atStart => exact ⟨0, Nat.zero_le _, rfl, HI⟩
            case round =>
              clear HI
              obtain ⟨q, hq, rfl, hB⟩ := hrel
              rename World => wr
              obtain ⟨T, hT, hBB⟩ := hB.out
              have HT := hide hT
              have HB := hide hBB
              clear hB hT hBB
              obtain ⟨b', off', eb, ⟨_, c1⟩, hS⟩ := (H.out.below (B7.out.trans (HB.out.bel.mono B7.out.size))).at hlt
              cases eb
              by_cases hltq : q < (U t).rl
              · obtain ⟨rb, ro, era, cj⟩ := hS.at hltq
                have cj' := cj q hltq
                obtain ⟨z, hz, hnz⟩ := HF.out.dc t hlt q hltq
                have CL := hide (HB.out.assign (by have := HT.out; omega) jn ((U t).R q) HL.out.2.2 (HS.out.roles t hlt q hltq) (.inr rfl) ⟨z, hz, by rw [hnz]⟩)
                rw [era] at c1
                have jj : ((q : Nat) : Int) < (((U t).rl : Nat) : Int) := by omega
                clear cj hS era hnz hz
                go_wp2_with fail
                refine Calls.mono CL.out ?_
                rintro e w2 ⟨rfl, hb2⟩
                have B2 := hide (hb2.iff (fun _ => Iff.rfl) paM_succ (fun _ => Iff.rfl) (fun _ _ => Iff.rfl))
                clear hb2 CL c1 cj'
                go_wp2
                go_roundw
                case rel => exact ⟨q + 1, by omega, by go_num, T + 2, by have := HT.out; omega, B2.out⟩
                case measure => simp [intOf]; omega
              · clear hS
                have eq : q = (U t).rl := by omega
                have HR := hide ((show Built w7 bp T (puJ U nu jn) (paM U nu u o jn t (U t).rl) (prK R nr) (pgK R nr) wr from eq ▸ HB.out).iff (fun _ => Iff.rfl) (paM_end HN.out) (fun _ => Iff.rfl) (fun _ _ => Iff.rfl))
                have HT2 := hide (show T ≤ nr + nu + 2 * su U nu + 4 * sg R nr + 1 + 2 * (su U t + (U t).rl) from eq ▸ HT.out)
                clear eq HT HB
                go_wp2
                go_roundw
                case rel => exact ⟨t + 1, by omega, by go_num, T, HT2.out, HR.out⟩
                case measure => simp [intOf]; omega
          · have t1 := beq_of_ne hn2
            have t2 := beq_of_eq hn
            clear hn hn2
            go_wp2
            clear c0 t1 t2
            go_loopw [14] (fun v wr => ∃ q : Nat, q ≤ (U t).rl ∧ v = .int .i64 q ∧ Hid (∃ T', T' ≤ nr + nu + 2 * su U nu + 4 * sg R nr + 1 + 2 * (su U t + q) ∧ Built w7 bp T' (puJ U nu jn) (paM U nu u o jn t q) (prK R nr) (pgK R nr) wr)) (fun v _ => (U t).rl - (intOf v).toNat)
            case atStart => exact ⟨0, Nat.zero_le _, rfl, HI⟩
            case round =>
              clear HI
              obtain ⟨q, hq, rfl, hB⟩ := hrel
              rename World => wr
              obtain ⟨T, hT, hBB⟩ := hB.out
              have HT := hide hT
              have HB := hide hBB
              clear hB hT hBB
              obtain ⟨b', off', eb, ⟨_, c1⟩, hS⟩ := (H.out.below (B7.out.trans (HB.out.bel.mono B7.out.size))).at hlt
              cases eb
              by_cases hltq : q < (U t).rl
              · obtain ⟨rb, ro, era, cj⟩ := hS.at hltq
                have cj' := cj q hltq
                obtain ⟨z, hz, hnz⟩ := HF.out.dc t hlt q hltq
                have CL := hide (HB.out.assign (by have := HT.out; omega) jn ((U t).R q) HL.out.2.2 (HS.out.roles t hlt q hltq) (.inr rfl) ⟨z, hz, by rw [hnz]⟩)
                rw [era] at c1
                have jj : ((q : Nat) : Int) < (((U t).rl : Nat) : Int) := by omega
                clear cj hS era hnz hz
                go_wp2_with fail
                refine Calls.mono CL.out ?_
                rintro e w2 ⟨rfl, hb2⟩
                have B2 := hide (hb2.iff (fun _ => Iff.rfl) paM_succ (fun _ => Iff.rfl) (fun _ _ => Iff.rfl))
                clear hb2 CL c1 cj'
                go_wp2
                go_roundw
                case rel => exact ⟨q + 1, by omega, by go_num, T + 2, by have := HT.out; omega, B2.out⟩
                case measure => simp [intOf]; omega
              · clear hS
                have eq : q = (U t).rl := by omega
                have HR := hide ((show Built w7 bp T (puJ U nu jn) (paM U nu u o jn t (U t).rl) (prK R nr) (pgK R nr) wr from eq ▸ HB.out).iff (fun _ => Iff.rfl) (paM_end HN.out) (fun _ => Iff.rfl) (fun _ _ => Iff.rfl))
                have HT2 := hide (show T ≤ nr + nu + 2 * su U nu + 4 * sg R nr + 1 + 2 * (su U t + (U t).rl) from eq ▸ HT.out)
                clear eq HT HB
                go_wp2
                go_roundw
                case rel => exact ⟨t + 1, by omega, by go_num, T, HT2.out, HR.out⟩
                case measure => simp [intOf]; omega
      · have t1 := beq_of_ne (fun e => hn (.inl e))
        have t2 := beq_of_ne (fun e => hn (.inr e))
        have HR := hide (HB.out.iff (fun _ => Iff.rfl) (paL_skip hn) (fun _ => Iff.rfl) (fun _ _ => Iff.rfl))
        clear hn
        go_wp2
        go_roundw
        case rel => exact ⟨t + 1, by omega, by go_num, T, by have := HT.out; simp only [su]; omega, HR.out⟩
        case measure => simp [intOf]; omega
    · obtain ⟨T, hT, hBB⟩ := hB.out
      have et : t = nu := by omega
      rw [et] at hT hBB
      have HB := hide hBB
      clear hB hBB hT
      have hVu : Valid u := by obtain ⟨k, hk, e⟩ := KU.out; exact e ▸ HF.out.uv k hk
      have hVo : Valid o := by obtain ⟨k, hk, e⟩ := KO.out; exact e ▸ HF.out.uv k hk
      have HP1 := hide (HB.out.perms u HL.out.1 hVu (by obtain ⟨k, hk, e⟩ := KU.out; exact .inl ⟨k, hk, by rw [e]⟩) (allG R nr) (fun y p => allG_mem) (by rw [allG_len]; omega) (fun y p => pgK_v HF.out) (fun p => HitI U nr R u p nu) (fun p => hit_old (fun e => KN.out (e ▸ KU.out))))
      go_wp2_with fail
      refine Calls.mono HP1.out ?_
      rintro e wa ⟨ga, capa, na, A, rfl, lna, hRA, hB1, hbl1, _⟩
      have HP2 := hide (hB1.perms o HL.out.2.1 hVo (by obtain ⟨k, hk, e⟩ := KO.out; exact .inl ⟨k, hk, by rw [e]⟩) (allG R nr) (fun y p => allG_mem) (by rw [allG_len]; omega) (fun y p => pgK_v HF.out) (fun p => HitI U nr R o p nu) (fun p => hit_old (fun e => KN.out (e ▸ KO.out))))
      have RA := hide hRA
      clear HP1 hRA hB1 hbl1 HB
      go_wp2_with fail
      refine Calls.mono HP2.out ?_
      rintro e wb ⟨gb, capb, nb, B, rfl, lnb, hRB, hB1, hbl1, _⟩
      have HP3 := hide (hB1.perms jn HL.out.2.2 KJ.out (.inr rfl) (allG R nr) (fun y p => allG_mem) (by rw [allG_len]; omega) (fun y p => pgK_v HF.out) (fun p => HitI U nr R u p nu ∨ HitI U nr R o p nu) (fun p => hit_join))
      have RA := hide (RA.out.below hbl1)
      have RB := hide hRB
      clear HP2 hRB hB1 hbl1
      go_wp2_with fail
      refine Calls.mono HP3.out ?_
      rintro e wc ⟨gc, capc, nc, C, rfl, lnc, hRC, hB1, hbl1, _⟩
      have RA := hide (RA.out.below hbl1)
      have RB := hide (RB.out.below hbl1)
      have RC := hide hRC
      have BC := hide (B7.out.trans (hB1.bel.mono B7.out.size))
      clear HP3 hRC hB1 hbl1 B7
      have C38 := hide (match_any ga na capa A a a2 nu nr cap cap2 U R u wc lna lnu lnr RA.out.row (H.out.below BC.out) (H2.out.below BC.out) HRL.out HGL.out RA.out.inc (fun k hk => (RA.out.mem _).2 ⟨k, hk, rfl⟩) (fun p hp => (RA.out.mem p).1 hp))
      go_wp2_with fail
      refine Calls.mono C38.out ?_
      rintro e wd ⟨rfl, hbd⟩
      have BD := hide hbd
      have hnil := nil48
      have C46 := hide (increasing46 (some ⟨gb, 0, none⟩) nb capb B wd lnb (RB.out.below hbd).row RB.out.inc)
      clear C38 hbd
      go_wp2_with fail
      refine Calls.mono C46.out ?_
      rintro e we ⟨rfl, hbe⟩
      have BE := hide (BD.out.trans (hbe.mono BD.out.size))
      have C47 := hide (mergeU_any gc ga gb nc na nb capc capa capb C A B we lnc lna lnb (RC.out.below BE.out).row (RA.out.below BE.out).row (RB.out.below BE.out).row RA.out.inc.small RB.out.inc.small (inj_rows RC.out RA.out) (inj_rows RC.out RB.out) (un_rows RC.out RA.out RB.out (fun p => Iff.rfl)))
      clear C46 hbe
      go_wp2_with fail
      refine Calls.mono C47.out ?_
      rintro e wf ⟨rfl, hbf⟩
      have BF := hide (BC.out.trans (((BE.out.trans (hbf.mono BE.out.size))).mono BC.out.size))
      clear C47 hbf
      go_wp2
      go_ret
      exact ⟨rfl, BF.out⟩
end Go.Proofs.Qxb6614755a
