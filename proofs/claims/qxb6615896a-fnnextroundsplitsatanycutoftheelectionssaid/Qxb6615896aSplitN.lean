/- FnNextRoundSplitsAtAnyCutOfTheElections: the walk, the nil slice. -/
import Derived.Test.Qxb6615896aSplitBase
namespace Go.Proofs.Qxb6615896a
open Go.RowKit Go.Maps Go.WideMaps

set_option maxRecDepth 100000 in
set_option maxHeartbeats 4000000 in
theorem split_N (nm : ByteArray) (z1 z2 z3 z4 : Int) (a2 : Option Addr) (m cap2 : Nat) (E : Nat → Elec) (B : Nat → Bod) (w : World) (hm : m ≤ maxLen) (hnm : nm.size ≤ maxLen) (h : ElecsAt w none 0 E) (h2 : BodsAt w a2 m B) (hcl : ∀ j, j < 0 → (E j).cl ≤ maxLen) (hk : Keys 0 E m B) :
    Calls Try.prog 4 #[.string nm, .int .i64 z1, .int .i64 z2, .int .i64 z3, .int .i64 z4, .slice none 0 0, .slice a2 m cap2, .int .i64 0] w (Says w) := by
  have hkn : (0 : Nat) ≤ 0 := Nat.le_refl _
  have C1 := hide (bytes9_any nm z1 z2 z3 z4 0 none a2 0 m 0 cap2 E B w (Nat.zero_le _) hm hnm h h2 hcl)
  have H := hide (And.intro h h2)
  have HK := hide hk
  clear h h2 hk hcl
  go_enter Try.func4, Try.ntmps4
  go_wp2_with fail
  refine (unhide C1).mono ?_
  rintro e w' ⟨r, rfl, hr, rfl⟩
  cases r
  · go_wp2
    go_ret
    exact ⟨rfl, Below.refl _ _⟩
  have HBd := hide (hr rfl)
  clear hr C1
  have C2 := hide (tooBig_any nm none a2 0 m 0 cap2 E B w' hnm H.out.1 H.out.2 HBd.out)
  go_wp2_with fail
  refine (unhide C2).mono ?_
  rintro e w2 ⟨r, rfl, hb2⟩
  cases r
  case true =>
    go_wp2
    go_ret
    exact ⟨rfl, hb2⟩
  have B2 := hide hb2
  have H2 := hide (And.intro (H.out.1.below hb2) (H.out.2.below hb2))
  clear hb2 C2
  have hn20 := HBd.out.1
  have C3 := hide (count_any none 0 0 E w2 hn20 H2.out.1)
  go_wp2_with fail
  refine (unhide C3).mono ?_
  rintro e w3 ⟨rfl, rfl⟩
  clear C3
  have hcn := Nat.le_trans (cnt_le E 0) hn20
  obtain hc0 : cnt E 0 = 0 := rfl
  clear hcn
  cases hq : (z1 == 9223372036854775807)
  all_goals
    have C4 := hide (build_try nm z1 z2 z3 z4 none a2 0 m 0 cap2 E B w3 H2.out.1 H2.out.2 HBd.out)
    go_wp2_with fail
    clear hq
    refine (unhide C4).mono ?_
    rintro e w4 ⟨rfl, bB, hBt⟩
    have B4 := hide hBt.half.below
    have C5 := hide (next_try w3 w3.heap.size bB nm z1 z2 z3 z4 0 m E B w4 hBt HBd.out HK.out)
    clear C4 hBt
    go_wp2_with fail
    refine (unhide C5).mono ?_
    intro e w5 hN
    obtain ⟨r1, rfl, hB5, hR⟩ := round_of B4.out hN
    clear C5 hN B4
    rcases hR with ⟨_, rfl⟩ | ⟨h0, _⟩
    case inr => simp [cnt] at h0
    have H5 := hide (And.intro (H2.out.1.below hB5) (H2.out.2.below hB5))
    have B5 := hide (B2.out.trans (hB5.mono B2.out.size))
    have C6 := hide (build_try nm z1 z2 z3 z4 none a2 0 m 0 cap2 E B w5 (H5.out.1.take hkn) H5.out.2 (HBd.out.take hkn))
    clear hB5 H2 B2
    go_wp2_with fail
    refine (unhide C6).mono ?_
    rintro e w6 ⟨rfl, bB2, hBt⟩
    have B6 := hide hBt.half.below
    have C7 := hide (next_try w5 w5.heap.size bB2 nm z1 z2 z3 z4 0 m E B w6 hBt (HBd.out.take hkn) (HK.out.take hkn))
    clear C6 hBt
    go_wp2_with fail
    refine (unhide C7).mono ?_
    intro e w7 hN
    obtain ⟨r2, rfl, hB7, hR2⟩ := round_of B6.out hN
    clear C7 hN B6
    rcases hR2 with ⟨_, rfl⟩ | ⟨h0, _⟩
    case inr => simp [cnt] at h0
    have H7 := hide (And.intro (H5.out.1.below hB7) (H5.out.2.below hB7))
    have B7 := hide (B5.out.trans (hB7.mono B5.out.size))
    clear hB7 H5 B5
    have C8 := hide (build_try nm z1 z2 z3 z4 none a2 0 m 0 cap2 (shift E 0) B w7 (.inl rfl) H7.out.2 (HBd.out.drop hkn))
    go_wp2_with fail
    refine (unhide C8).mono ?_
    rintro e w8 ⟨rfl, bB3, hBt⟩
    have B8 := hide hBt.half.below
    have C9 := hide (next_try w7 w7.heap.size bB3 nm z1 z2 z3 z4 0 m (shift E 0) B w8 hBt (HBd.out.drop hkn) (HK.out.drop hkn))
    clear C8 hBt
    go_wp2_with fail
    refine (unhide C9).mono ?_
    intro e w9 hN
    obtain ⟨r3, rfl, hB9, hR3⟩ := round_of B8.out hN
    clear C9 hN B8
    rcases hR3 with ⟨_, rfl⟩ | ⟨h0, _⟩
    case inr => simp [cnt] at h0
    have H9 := hide (And.intro (H7.out.1.below hB9) (H7.out.2.below hB9))
    have B9 := hide (B7.out.trans (hB9.mono B7.out.size))
    clear H7 B7 hB9
    go_wp2
    go_loopw [24, 25] (fun jv iv wr => iv = .int .i64 0 ∧ jv = .int .i64 0 ∧ Hid (Below w9.heap.size w9 wr)) (fun _ _ _ => 0)
    case atStart => exact ⟨rfl, rfl, Below.refl _ _⟩
    case round =>
      obtain ⟨rfl, rfl, hBl⟩ := hrel
      rename World => wi
      go_wp2
      go_loopw [27] (fun iv wr => iv = .int .i64 0 ∧ Hid (Below w9.heap.size w9 wr)) (fun _ _ => 0)
      case atStart => exact ⟨rfl, hBl.out⟩
      case round =>
        clear hBl
        obtain ⟨rfl, hBl⟩ := hrel
        rename World => wi
        go_wp2
        go_loopw [28] (fun iv wr => iv = .int .i64 0 ∧ Hid (Below w9.heap.size w9 wr)) (fun _ _ => 0)
        case atStart => exact ⟨rfl, hBl.out⟩
        case round =>
          clear hBl
          obtain ⟨rfl, hBl⟩ := hrel
          rename World => wi
          go_wp2
          go_quiet (fail)
          go_wp2
          go_quiet (fail)
          go_wp2
          go_ret
          exact ⟨rfl, B9.out.trans (below_drewN (below_drewN (hBl.out.mono B9.out.size) _) _)⟩
end Go.Proofs.Qxb6615896a
