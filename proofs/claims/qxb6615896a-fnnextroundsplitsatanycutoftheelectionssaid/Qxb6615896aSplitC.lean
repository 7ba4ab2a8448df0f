/- FnNextRoundSplitsAtAnyCutOfTheElections: the walk, case C. -/
import Derived.Test.Qxb6615896aSplitBase
namespace Go.Proofs.Qxb6615896a
open Go.RowKit Go.Maps Go.WideMaps

set_option maxRecDepth 100000 in
set_option maxHeartbeats 4000000 in
theorem split_C (nm : ByteArray) (z1 z2 z3 z4 : Int) (b off : Nat) (a2 : Option Addr) (n m cap cap2 k : Nat) (E : Nat → Elec) (B : Nat → Bod) (w : World) (hcap : n ≤ cap) (hcm : cap ≤ maxLen) (hm : m ≤ maxLen) (hnm : nm.size ≤ maxLen) (h : ElecsAt w (some ⟨b, off, none⟩) n E) (h2 : BodsAt w a2 m B) (hcl : ∀ j, j < n → (E j).cl ≤ maxLen) (hk : Keys n E m B) (hkn : k ≤ n) (hca : cnt E k = 0) (hcb : 0 < cnt (shift E k) (n - k)) :
    Calls Try.prog 4 #[.string nm, .int .i64 z1, .int .i64 z2, .int .i64 z3, .int .i64 z4, .slice (some ⟨b, off, none⟩) n cap, .slice a2 m cap2, .int .i64 k] w (Says w) := by
  have HCP := hide (cnt_parts E hkn)
  have C1 := hide (bytes9_any nm z1 z2 z3 z4 k (some ⟨b, off, none⟩) a2 n m cap cap2 E B w (by omega) hm hnm h h2 hcl)
  have H := hide (And.intro h h2)
  have HK := hide hk
  clear h h2 hk hcl
  go_enter Try.func4, Try.ntmps4
  go_wp2_with fail
  refine (unhide C1).mono ?_
  rintro e w' ⟨r, rfl, hr, rfl⟩
  cases r
  · go_wp2
    go_ret
    exact ⟨rfl, Below.refl _ _⟩
  have HBd := hide (hr rfl)
  clear hr C1
  have C2 := hide (tooBig_any nm (some ⟨b, off, none⟩) a2 n m cap cap2 E B w' hnm H.out.1 H.out.2 HBd.out)
  go_wp2_with fail
  refine (unhide C2).mono ?_
  rintro e w2 ⟨r, rfl, hb2⟩
  cases r
  case true =>
    go_wp2
    go_ret
    exact ⟨rfl, hb2⟩
  have B2 := hide hb2
  have H2 := hide (And.intro (H.out.1.below hb2) (H.out.2.below hb2))
  clear hb2 C2
  have hn20 := HBd.out.1
  have hkn' : ((k : Nat) : Int) ≤ ((n : Nat) : Int) := by omega
  have C3 := hide (count_any (some ⟨b, off, none⟩) n cap E w2 hn20 H2.out.1)
  go_wp2_with fail
  refine (unhide C3).mono ?_
  rintro e w3 ⟨rfl, rfl⟩
  clear C3
  have hcn := Nat.le_trans (cnt_le E n) hn20
  have hcp : 0 < cnt E n := by have := HCP.out; omega
  have hcz : (((cnt E n : Nat) : Int) == 0) = false := beq_eq_false_iff_ne.2 (by have := HCP.out; omega)
  cases hq : (z1 == 9223372036854775807) with
  | true =>
    go_wp2
    go_ret
    exact ⟨rfl, B2.out⟩
  | false =>
  have C4 := hide (build_try nm z1 z2 z3 z4 (some ⟨b, off, none⟩) a2 n m cap cap2 E B w3 H2.out.1 H2.out.2 HBd.out)
  go_wp2_with fail
  clear hq
  refine (unhide C4).mono ?_
  rintro e w4 ⟨rfl, bB, hBt⟩
  have B4 := hide hBt.half.below
  have C5 := hide (next_try w3 w3.heap.size bB nm z1 z2 z3 z4 n m E B w4 hBt HBd.out HK.out)
  clear C4 hBt
  go_wp2_with fail
  refine (unhide C5).mono ?_
  intro e w5 hN
  obtain ⟨r1, rfl, hB5, hR⟩ := round_of B4.out hN
  clear C5 hN B4
  rcases hR with ⟨h0, _⟩ | ⟨_, b1, g1, c1, hA⟩
  · have := HCP.out; omega
  obtain rfl := hA.1
  have A1 := hide hA
  clear hA
  have H5 := hide (And.intro (H2.out.1.below hB5) (H2.out.2.below hB5))
  have B5 := hide (B2.out.trans (hB5.mono B2.out.size))
  have C6 := hide (build_try nm z1 z2 z3 z4 (some ⟨b, off, none⟩) a2 k m cap cap2 E B w5 (H5.out.1.take hkn) H5.out.2 (HBd.out.take hkn))
  clear hB5 H2 B2
  go_wp2_with fail
  refine (unhide C6).mono ?_
  rintro e w6 ⟨rfl, bB2, hBt⟩
  have B6 := hide hBt.half.below
  have C7 := hide (next_try w5 w5.heap.size bB2 nm z1 z2 z3 z4 k m E B w6 hBt (HBd.out.take hkn) (HK.out.take hkn))
  clear C6 hBt
  go_wp2_with fail
  refine (unhide C7).mono ?_
  intro e w7 hN
  obtain ⟨r2, rfl, hB7, hR2⟩ := round_of B6.out hN
  clear C7 hN B6
  have A2 := hide (A1.out.below hB7)
  clear A1
  rcases hR2 with ⟨_, rfl⟩ | ⟨h0, _⟩
  case inr => omega
  have H7 := hide (And.intro (H5.out.1.below hB7) (H5.out.2.below hB7))
  have B7 := hide (B5.out.trans (hB7.mono B5.out.size))
  clear hB7 H5 B5
  have C8 := hide (fun (off' cap' : Nat) (hE : ElecsAt w7 (some ⟨b, off', none⟩) (n - k) (shift E k)) => build_try nm z1 z2 z3 z4 (some ⟨b, off', none⟩) a2 (n - k) m cap' cap2 (shift E k) B w7 hE H7.out.2 (HBd.out.drop hkn))
  have hkc : k < n := by
    rcases Nat.lt_or_ge k n with h | h
    · exact h
    · rw [show n - k = 0 by omega] at hcb
      simp [cnt] at hcb
  go_wp2_with fail
  refine Calls.mono (C8.out _ _ (by first | exact H7.out.1.drop hkn | exact .inl (by omega))) ?_
  rintro e w8 ⟨rfl, bB3, hBt⟩
  have B8 := hide hBt.half.below
  have C9 := hide (next_try w7 w7.heap.size bB3 nm z1 z2 z3 z4 (n - k) m (shift E k) B w8 hBt (HBd.out.drop hkn) (HK.out.drop hkn))
  clear C8 hBt
  go_wp2_with fail
  refine (unhide C9).mono ?_
  intro e w9 hN
  obtain ⟨r3, rfl, hB9, hR3⟩ := round_of B8.out hN
  clear C9 hN B8
  have A3 := hide (A2.out.below hB9)
  clear A2
  have f1 := A3.out.2.2.2.1
  rw [sel_len] at f1
  rcases hR3 with ⟨h0, _⟩ | ⟨_, b3, g3, c3, hA3⟩
  · omega
  obtain rfl := hA3.1
  have D3 := hide hA3
  have f3 := hA3.2.2.2.1
  rw [sel_len] at f3
  clear hA3
  rw [show cnt (shift E k) (n - k) = cnt E n by have := HCP.out; omega] at f3
  have H9 := hide (And.intro (H7.out.1.below hB9) (H7.out.2.below hB9))
  have B9 := hide (B7.out.trans (hB9.mono B7.out.size))
  clear H7 B7 hB9
  go_wp2
  clear f1 f3
  go_loopw [24, 25] (fun jv iv wr => ∃ t : Nat, t ≤ n ∧ iv = .int .i64 t ∧ jv = .int .i64 (cnt E t) ∧ Hid (Below w9.heap.size w9 wr)) (fun _ iv _ => n - (intOf iv).toNat)
  case atStart => exact ⟨0, Nat.zero_le _, rfl, rfl, Below.refl _ _⟩
  case round =>
    obtain ⟨t, ht, rfl, rfl, hBl⟩ := hrel
    rename World => wi
    by_cases hlt : t < n
    · obtain ⟨be, oe, e9, hc, _⟩ := (H9.out.1.below hBl.out).at hlt
      cases e9
      have c0 := hc.id
      have c1' := hc.title
      have c2' := hc.seats
      have c3' := hc.body
      have c4' := hc.cands
      have c5' := hc.unf
      have c6' := hc.next
      clear hc
      cases hv : isVa (E t) with
      | false =>
        have HV := hide hv
        clear hv
        have hv' : ((E t).next.toList == [118, 111, 116, 101, 45, 97, 103, 97, 105, 110]) = false := HV.out
        go_wp2
        go_roundw
        case rel => exact ⟨t + 1, by omega, by go_num, by rw [show cnt E (t + 1) = cnt E t by simp [cnt, HV.out]], hBl.out.alloc hBl.out.size _⟩
        case measure => simp [intOf]; omega
      | true =>
        have hv' : ((E t).next.toList == [118, 111, 116, 101, 45, 97, 103, 97, 105, 110]) = true := hv
        obtain ⟨gq, aq, cq, Cq, eq1, hgq, hrq, _, _⟩ := (A3.out.2.2.2.2.below hBl.out) (cnt E t) (outOf (E t)) (sel_at E hlt hv)
        cases eq1
        have i0 : ∀ o, (wi.alloc o).cell? ⟨g1, cnt E t * 5, none⟩ = some (.string (E t).id) := fun o => (World.grownBy_alloc wi o none).cell (hrq 0 _ rfl) (by simp)
        have i2 : ∀ o, (wi.alloc o).cell? ⟨g1, cnt E t * 5 + 2, none⟩ = some (.int .i64 (E t).unf) := fun o => (World.grownBy_alloc wi o none).cell (hrq 2 _ rfl) (by simp)
        have hj := cnt_lt E hlt hv
        have hj' : ((cnt E t : Nat) : Int) < ((cnt E n : Nat) : Int) := by omega
        have HV := hide hv
        clear hv hrq hgq
        go_wp2
        go_quiet (fail)
        go_wp2
        go_roundw
        case rel => exact ⟨t + 1, by omega, by go_num, by rw [show cnt E (t + 1) = cnt E t + 1 by simp [cnt, HV.out]]; go_num, below_drewN (hBl.out.alloc hBl.out.size _) _⟩
        case measure => simp [intOf]; omega
    · have htn : n = t := by omega
      subst htn
      go_wp2
      go_loopw [27] (fun iv wr => iv = .int .i64 0 ∧ Hid (Below w9.heap.size w9 wr)) (fun _ _ => 0)
      case atStart => exact ⟨rfl, hBl.out⟩
      case round =>
        clear hBl
        obtain ⟨rfl, hBl⟩ := hrel
        rename World => wi
        go_wp2
        go_loopw [28] (fun iv wr => ∃ t : Nat, t ≤ cnt E n ∧ iv = .int .i64 t ∧ Hid (Below w9.heap.size w9 wr)) (fun iv _ => cnt E n - (intOf iv).toNat)
        case atStart => exact ⟨0, Nat.zero_le _, rfl, hBl.out⟩
        case round =>
          clear hBl
          obtain ⟨t, ht, rfl, hBl⟩ := hrel
          rename World => wi
          by_cases hlt : t < cnt E n
          · obtain ⟨o, ho⟩ := sel_get (shift E k) (show t < cnt (shift E k) (n - k) by have := HCP.out; omega)
            obtain ⟨gq, x1, y1, C1, eq1, l1, r1, p1, q1⟩ := (A3.out.2.2.2.2.below hBl.out) _ o (idx0 hca (sel_right E hkn ho))
            cases eq1
            obtain ⟨gq, x2, y2, C2, eq2, l2, r2, p2, q2⟩ := (D3.out.2.2.2.2.below hBl.out) t o ho
            cases eq2
            have CS := hide (fun (W : World) (hW : Below wi.heap.size wi W) => same_elec o.id o.title o.body o.unf x1 x2 o.cands.length y1 y2 C1 C2 W (sel_cands (HBd.out.drop hkn).2.1 ho) (p1.below hW) (p2.below hW) (same_cands q1 q2))
            have SB := hide (show ∀ W, Below wi.heap.size wi W → W.cell? ⟨g1, (t) * 5, none⟩ = some (.string o.id) ∧ W.cell? ⟨g1, (t) * 5 + 1, none⟩ = some (.string o.title) ∧ W.cell? ⟨g1, (t) * 5 + 2, none⟩ = some (.int .i64 o.unf) ∧ W.cell? ⟨g1, (t) * 5 + 3, none⟩ = some (.slice x1 o.cands.length y1) ∧ W.cell? ⟨g1, (t) * 5 + 4, none⟩ = some (.string o.body) ∧ W.cell? ⟨g3, t * 5, none⟩ = some (.string o.id) ∧ W.cell? ⟨g3, t * 5 + 1, none⟩ = some (.string o.title) ∧ W.cell? ⟨g3, t * 5 + 2, none⟩ = some (.int .i64 o.unf) ∧ W.cell? ⟨g3, t * 5 + 3, none⟩ = some (.slice x2 o.cands.length y2) ∧ W.cell? ⟨g3, t * 5 + 4, none⟩ = some (.string o.body) from fun W hW => ⟨range_below hW l1 r1 0 _ rfl, range_below hW l1 r1 1 _ rfl, range_below hW l1 r1 2 _ rfl, range_below hW l1 r1 3 _ rfl, range_below hW l1 r1 4 _ rfl, range_below hW l2 r2 0 _ rfl, range_below hW l2 r2 1 _ rfl, range_below hW l2 r2 2 _ rfl, range_below hW l2 r2 3 _ rfl, range_below hW l2 r2 4 _ rfl⟩)
            clear ho l1 r1 p1 q1 l2 r2 p2 q2
            have hi1 : ((t : Nat) : Int) < ((cnt E n : Nat) : Int) := by omega
            have hi0 : IntKind.i64.wrap ((t : Nat) : Int) = (t : Int) := by have := wrap_sum' 0 t (by omega); simpa using this
            go_wp2_with fail
            go_region_held3 (fun W => W.cell? ⟨g1, (t) * 5, none⟩ = some (.string o.id) ∧ W.cell? ⟨g1, (t) * 5 + 1, none⟩ = some (.string o.title) ∧ W.cell? ⟨g1, (t) * 5 + 2, none⟩ = some (.int .i64 o.unf) ∧ W.cell? ⟨g1, (t) * 5 + 3, none⟩ = some (.slice x1 o.cands.length y1) ∧ W.cell? ⟨g1, (t) * 5 + 4, none⟩ = some (.string o.body) ∧ W.cell? ⟨g3, t * 5, none⟩ = some (.string o.id) ∧ W.cell? ⟨g3, t * 5 + 1, none⟩ = some (.string o.title) ∧ W.cell? ⟨g3, t * 5 + 2, none⟩ = some (.int .i64 o.unf) ∧ W.cell? ⟨g3, t * 5 + 3, none⟩ = some (.slice x2 o.cands.length y2) ∧ W.cell? ⟨g3, t * 5 + 4, none⟩ = some (.string o.body))
              (first | exact SB.out _ (Below.refl _ _).drew | exact SB.out _ (below_from_drew hbb))
              ((go_at_call 14; refine Calls.mono (CS.out _ (Below.refl _ _).drew) ?_; rintro e w' ⟨rfl, hbb⟩))
            go_wp2
            go_roundw
            case rel => exact ⟨t + 1, by omega, by go_num, hBl.out.trans ((below_from_drew hbb).mono hBl.out.size)⟩
            case measure => simp [intOf]; omega
          · have htk : cnt E n = t := by omega
            clear hlt
            subst htk
            have k1 := (A3.out.below hBl.out).2.2.1
            have k3 := (D3.out.below hBl.out).2.2.1
            generalize wrap64 (z1 + 1) = zz at k1 k3
            go_wp2
            go_quiet (fail)
            go_wp2
            go_quiet (fail)
            go_wp2
            go_ret
            exact ⟨rfl, B9.out.trans (below_drewN (below_drewN (hBl.out.mono B9.out.size) _) _)⟩
end Go.Proofs.Qxb6615896a
