/- zzPermsMatchModel (38). -/
import Derived.Test.Qxb6614755aPgd
namespace Go.Proofs.Qxb6614755a
open Go.RowKit

theorem drewN_below (w : World) (q : Nat) : Below w.heap.size w (w.drewN q) := below_drewN' (Below.refl _ _) q
theorem nil48_in (W : World) (d g o m c : Nat) : (Op.equalIn (d + 1) 48 (.slice (some ⟨g, o, none⟩) m c) (.slice none 0 0)).run Try.prog W = .ok false W := by
  simp [Op.equalIn]
theorem nil48_eq (W : World) (g o m c : Nat) : (Op.equal 48 (.slice (some ⟨g, o, none⟩) m c) (.slice none 0 0)).run Try.prog W = .ok false W := nil48_in W 9999 g o m c
theorem nil48 (W : World) (g o m c : Nat) : (binOp .eql 48 (.slice (some ⟨g, o, none⟩) m c) (.slice none 0 0)).run Try.prog W = .ok (.bool false) W := by
  simp [binOp, nil48_eq]
theorem answers_true {f : Nat} {args : Array Value} {p : Prop} {w : World} (h : Calls Try.prog f args w (Answers p w)) (hp : p) : Calls Try.prog f args w fun e w' => e = .returned (.bool true) ∧ ∃ q, w' = w.drewN q :=
  h.mono fun _ _ ⟨r, he, hr, hq⟩ => ⟨by rw [he, hr.2 hp], hq⟩
theorem answers_false {f : Nat} {args : Array Value} {p : Prop} {w : World} (h : Calls Try.prog f args w (Answers p w)) (hp : ¬ p) : Calls Try.prog f args w fun e w' => e = .returned (.bool false) ∧ ∃ q, w' = w.drewN q :=
  h.mono fun _ _ ⟨r, he, hr, hq⟩ => ⟨by rw [he]; cases r with | false => rfl | true => exact absurd (hr.1 rfl) hp, hq⟩

set_option maxRecDepth 100000 in
set_option maxHeartbeats 2000000 in
theorem match_any (g m pcap : Nat) (P : Nat → Pm) (a a2 : Option Addr) (nu nr cap cap2 : Nat) (U : Nat → UIn) (R : Nat → RIn) (u : ByteArray) (w : World) (hm : m ≤ 1048576) (hnu : nu ≤ 1048576) (hnr : nr ≤ 1048576) (hP : PmsAt w (some ⟨g, 0, none⟩) m P) (h : UsAt w a nu U) (h2 : RsAt w a2 nr R) (hrl : ∀ i, i < nu → (U i).rl ≤ 1048576) (hgl : ∀ k, k < nr → (R k).gl ≤ 1048576)
    (hi : Inc m P) (hy1 : ∀ k, k < m → HitI U nr R u (P k) nu) (hy2 : ∀ p, HitI U nr R u p nu → ∃ k, k < m ∧ P k = p) :
    Calls Try.prog 38 #[.slice (some ⟨g, 0, none⟩) m pcap, .slice a nu cap, .slice a2 nr cap2, .string u] w fun e w' => e = .returned (.bool true) ∧ Below w.heap.size w w' := by
  have H := hide h
  have H2 := hide h2
  have HP := hide hP
  have HY1 := hide hy1
  have HY2 := hide hy2
  have C46 := hide (increasing46 (some ⟨g, 0, none⟩) m pcap P w hm hP hi)
  have hnil := nil48
  clear h h2 hP hy1 hy2 hi
  go_enter Try.func38, Try.ntmps38
  go_wp2_with fail
  refine Calls.mono C46.out ?_
  rintro e w1 ⟨rfl, hb1⟩
  have HB1 := hide hb1
  clear hb1 C46 hnil
  go_wp2
  go_loopw [9] (fun v wr => ∃ k : Nat, k ≤ m ∧ v = .int .i64 k ∧ Hid (Below w.heap.size w wr)) (fun v _ => m - (intOf v).toNat)
  case atStart => exact ⟨0, Nat.zero_le _, rfl, HB1⟩
  case round =>
    clear HB1
    obtain ⟨k, hk, rfl, hB⟩ := hrel
    rename World => wr
    by_cases hlt : k < m
    · obtain ⟨b, off, eb, c0, c1⟩ := (HP.out.below hB.out).at hlt
      cases eb
      obtain ⟨p1, p2, hp⟩ : ∃ p1 p2, P k = (p1, p2) := ⟨_, _, rfl⟩
      have hyes : HitI U nr R u (p1, p2) nu := hp ▸ HY1.out k hlt
      have CG := hide (fun V hV => answers_true (granted_any a a2 nu nr cap cap2 U R u p1 p2 V hnu hnr (H.out.below (hB.out.trans (Below.mono hV hB.out.size))) (H2.out.below (hB.out.trans (Below.mono hV hB.out.size))) hrl hgl) hyes)
      rw [hp] at c0 c1
      dsimp only at c0 c1
      have lb : g < wr.heap.size := cell_in' c0
      have SB := hide (show ∀ V, Below wr.heap.size wr V → V.cell? ⟨g, 0 + k * 2, none⟩ = some (.string p1) ∧ V.cell? ⟨g, 0 + k * 2 + 1, none⟩ = some (.string p2) from fun V hV => ⟨(hV.cell (p := ⟨g, _, none⟩) lb).trans c0, (hV.cell (p := ⟨g, _, none⟩) lb).trans c1⟩)
      simp only [Nat.zero_add] at SB
      have i1 : ((k : Nat) : Int) < ((m : Nat) : Int) := by omega
      clear c0 c1 hp hyes lb
      go_wp2_with fail
      go_region_held3 (fun V => V.cell? ⟨g, k * 2, none⟩ = some (.string p1) ∧ V.cell? ⟨g, k * 2 + 1, none⟩ = some (.string p2))
        (first | exact SB.out _ (bel0 wr) | exact SB.out _ ((bel0 wr).trans (drewN_below _ _)) | exact SB.out _ (drewN_below _ _))
        ((go_at_call 40; refine Calls.mono (CG.out _ (bel0 wr)) ?_; rintro e w' ⟨rfl, q, rfl⟩))
      go_wp2
      go_roundw
      case rel => exact ⟨k + 1, by omega, by go_num, hB.out.trans (Below.mono (by first | exact (bel0 wr).trans (drewN_below _ _) | exact drewN_below _ _) hB.out.size)⟩
      case measure => simp [intOf]; omega
    · have hkm : k = m := by omega
      subst hkm
      clear hlt hk
      go_wp2
      go_loopw [10] (fun v wr => ∃ i : Nat, i ≤ nu ∧ v = .int .i64 i ∧ Hid (Below w.heap.size w wr)) (fun v _ => nu - (intOf v).toNat)
      case atStart => exact ⟨0, Nat.zero_le _, rfl, hB⟩
      case round =>
        clear hB
        obtain ⟨i, hi, rfl, hB⟩ := hrel
        rename World => wr
        by_cases hlt : i < nu
        · obtain ⟨b, off, rfl, ⟨c0, c1⟩, _⟩ := (H.out.below hB.out).at hlt
          have hri := hrl i hlt
          have ii : ((i : Nat) : Int) < ((nu : Nat) : Int) := by omega
          clear c1
          by_cases e : (U i).name = u
          · have t1 := beq_of_eq e
            go_wp2
            clear c0 t1
            go_loopw [11] (fun v wr => ∃ j : Nat, j ≤ (U i).rl ∧ v = .int .i64 j ∧ Hid (Below w.heap.size w wr)) (fun v _ => (U i).rl - (intOf v).toNat)
            case atStart => exact ⟨0, Nat.zero_le _, rfl, hB⟩
            case round =>
              clear hB
              obtain ⟨j, hj, rfl, hB⟩ := hrel
              rename World => wr
              obtain ⟨b', off', eb, ⟨_, c1⟩, hS⟩ := (H.out.below hB.out).at hlt
              cases eb
              by_cases hltj : j < (U i).rl
              · obtain ⟨rb, ro, era, cj⟩ := hS.at hltj
                have jj : ((j : Nat) : Int) < (((U i).rl : Nat) : Int) := by omega
                clear cj hS
                go_wp2
                clear c1
                go_loopw [12] (fun v wr => ∃ k : Nat, k ≤ nr ∧ v = .int .i64 k ∧ Hid (Below w.heap.size w wr)) (fun v _ => nr - (intOf v).toNat)
                case atStart => exact ⟨0, Nat.zero_le _, rfl, hB⟩
                case round =>
                  clear hB
                  obtain ⟨z, hz, rfl, hB⟩ := hrel
                  rename World => wr
                  by_cases hltk : z < nr
                  · obtain ⟨b2, off2, rfl, ⟨d0, d1⟩, _⟩ := (H2.out.below hB.out).at hltk
                    obtain ⟨b', off', eb, ⟨_, c1⟩, hS⟩ := (H.out.below hB.out).at hlt
                    cases eb
                    obtain ⟨rb', ro', era', cj⟩ := hS.at hltj
                    rw [era] at era'
                    cases era'
                    have cj' := cj j hltj
                    have hgk := hgl z hltk
                    have kk : ((z : Nat) : Int) < ((nr : Nat) : Int) := by omega
                    rw [era] at c1
                    clear d1 hS cj
                    by_cases e2 : (R z).name = (U i).R j
                    · have t1 := beq_of_eq e2
                      go_wp2
                      go_quiet (fail)
                      have hB' := hide (hB.out.trans ((drewN_below wr nq).mono hB.out.size))
                      clear hB c1 cj' d0 t1
                      go_wp2
                      go_loopw [13] (fun v wr => ∃ q : Nat, q ≤ (R z).gl ∧ v = .int .i64 q ∧ Hid (Below w.heap.size w wr)) (fun v _ => (R z).gl - (intOf v).toNat)
                      case atStart => exact ⟨0, Nat.zero_le _, rfl, hB'⟩
                      case round =>
                        clear hB'
                        obtain ⟨q, hq, rfl, hB⟩ := hrel
                        rename World => wr
                        obtain ⟨b', off', eb, ⟨_, d1⟩, hPz⟩ := (H2.out.below hB.out).at hltk
                        cases eb
                        by_cases hltq : q < (R z).gl
                        · obtain ⟨gb, go, ega, g0, g1⟩ := hPz.at hltq
                          obtain ⟨p1, p2, hp⟩ : ∃ p1 p2, (R z).G q = (p1, p2) := ⟨_, _, rfl⟩
                          have HYS := hide (HY2.out (p1, p2) ⟨i, hlt, e, j, hltj, z, hltk, e2, q, hltq, hp⟩)
                          have CG := hide (fun V hV => answers_true (hasPerm_any (some ⟨g, 0, none⟩) k pcap P p1 p2 V hm (HP.out.below (hB.out.trans (Below.mono hV hB.out.size)))) HYS.out)
                          have qq : ((q : Nat) : Int) < (((R z).gl : Nat) : Int) := by omega
                          rw [ega] at d1
                          rw [hp] at g0 g1
                          dsimp only at g0 g1
                          have l1 : b2 < wr.heap.size := cell_in' d1
                          have l2 : gb < wr.heap.size := cell_in' g0
                          have SB := hide (show ∀ V, Below wr.heap.size wr V → V.cell? ⟨b2, off2 + z * 2 + 1, none⟩ = some (.slice (some ⟨gb, go, none⟩) (R z).gl (R z).gc) ∧ V.cell? ⟨gb, go + q * 2, none⟩ = some (.string p1) ∧ V.cell? ⟨gb, go + q * 2 + 1, none⟩ = some (.string p2) from fun V hV => ⟨(hV.cell (p := ⟨b2, _, none⟩) l1).trans d1, (hV.cell (p := ⟨gb, _, none⟩) l2).trans g0, (hV.cell (p := ⟨gb, _, none⟩) l2).trans g1⟩)
                          clear g0 g1 l1 l2 hPz
                          go_wp2_with fail
                          go_region_held3 (fun V => V.cell? ⟨b2, off2 + z * 2 + 1, none⟩ = some (.slice (some ⟨gb, go, none⟩) (R z).gl (R z).gc) ∧ V.cell? ⟨gb, go + q * 2, none⟩ = some (.string p1) ∧ V.cell? ⟨gb, go + q * 2 + 1, none⟩ = some (.string p2))
                            (first | exact SB.out _ (bel0 wr) | exact SB.out _ ((bel0 wr).trans (drewN_below _ _)) | exact SB.out _ (drewN_below _ _))
                            ((go_at_call 52; refine Calls.mono (CG.out _ (bel0 wr)) ?_; rintro e w' ⟨rfl, q', rfl⟩))
                          go_wp2
                          go_roundw
                          case rel => exact ⟨q + 1, by omega, by go_num, hB.out.trans (Below.mono (by first | exact (bel0 wr).trans (drewN_below _ _) | exact drewN_below _ _) hB.out.size)⟩
                          case measure => simp [intOf]; omega
                        · clear hPz
                          go_wp2
                          go_roundw
                          case rel => exact ⟨z + 1, by omega, by go_num, hB⟩
                          case measure => simp [intOf]; omega
                    · have t1 := beq_of_ne e2
                      go_wp2
                      go_quiet (fail)
                      go_wp2
                      go_roundw
                      case rel => exact ⟨z + 1, by omega, by go_num, hB.out.trans ((drewN_below wr _).mono hB.out.size)⟩
                      case measure => simp [intOf]; omega
                  · go_wp2
                    go_roundw
                    case rel => exact ⟨j + 1, by omega, by go_num, hB⟩
                    case measure => simp [intOf]; omega
              · clear hS
                go_wp2
                go_roundw
                case rel => exact ⟨i + 1, by omega, by go_num, hB⟩
                case measure => simp [intOf]; omega
          · have t1 := beq_of_ne e
            go_wp2
            go_roundw
            case rel => exact ⟨i + 1, by omega, by go_num, hB⟩
            case measure => simp [intOf]; omega
        · go_wp2
          go_ret
          exact ⟨rfl, hB.out⟩
end Go.Proofs.Qxb6614755a
