/- sort.Slice's family at a 'less' that lays blocks: partition_func (93). -/
import Derived.Test.Qxb6614755aPs1
import Derived.Sort.WalkC
namespace Go.Proofs.Qxb6614755a
open Go.RowKit Go.Sort
section
variable {blk off pv cap n : Nat} {wB wr w' : World} {dk : Array Pm}

theorem pl_step {a i j i1 j1 : Nat} {d : Array Pm} (hu : scanUp (fun x => ltPm x d[a]!) d j i = i1) (hd : scanDown (fun x => !ltPm x d[a]!) d i1 j = j1) :
    partLoop ltPm a i j d = if i1 > j1 then (j1, d) else partLoop ltPm a (i1 + 1) (j1 - 1) (swp d i1 j1) := by rw [partLoop_eq, hu, hd]
theorem pt_done {a b pivot i1 j1 : Nat} {d d0 : Array Pm} (h0 : swp d a pivot = d0) (hu : scanUp (fun x => ltPm x d0[a]!) d0 (b - 1) (a + 1) = i1) (hd : scanDown (fun x => !ltPm x d0[a]!) d0 i1 (b - 1) = j1) (h : i1 > j1) :
    partition ltPm d a b pivot = (j1, true, swp d0 j1 a) := by
  unfold partition
  simp only [h0, hu, hd]
  rw [if_pos h]
theorem pt_go {a b pivot i1 j1 m : Nat} {d d0 dr : Array Pm} (h0 : swp d a pivot = d0) (hu : scanUp (fun x => ltPm x d0[a]!) d0 (b - 1) (a + 1) = i1) (hd : scanDown (fun x => !ltPm x d0[a]!) d0 i1 (b - 1) = j1) (h : ¬ i1 > j1) (hr : partLoop ltPm a (i1 + 1) (j1 - 1) (swp d0 i1 j1) = (m, dr)) :
    partition ltPm d a b pivot = (m, false, swp dr m a) := by
  unfold partition
  simp only [h0, hu, hd]
  rw [if_neg h, hr]

set_option maxRecDepth 100000 in
set_option maxHeartbeats 1000000 in
theorem part_any (hne : pv ≠ blk) {sf : Nat} {sb : Array Value} (hsw : SwapSwapsK Try.prog sf sb encPm 2 blk off n) (hn : n ≤ 1048576) (a b pivot : Nat) (d : Array Pm) (W : World) (h : Rw blk off pv cap d W) (hd : d.size = n) (hap : a ≤ pivot) (hpb : pivot < b) (hb : b ≤ n) :
    Calls Try.prog 93 #[.agg (dat pv sf sb), .int .i64 a, .int .i64 b, .int .i64 pivot] W fun e w' => e = .returned (.tuple #[.int .i64 (partition ltPm d a b pivot).1, .bool (partition ltPm d a b pivot).2.1]) ∧ Mv blk off pv cap n W (partition ltPm d a b pivot).2.2 w' := by
  subst hd
  have HSW := hide hsw
  have hlt := h.lt
  have hbx : W.heap.size ≠ blk := by omega
  obtain ⟨wB, hwB⟩ : ∃ wB, wB = W.alloc (.cells (dat pv sf sb) 127) := ⟨_, rfl⟩
  have G0 := hide (show W.grownBy wB (some blk) from hwB ▸ World.grownBy_alloc W _ _)
  have H0 := hide (show Mv blk off pv cap d.size wB d wB from Mv.start (h.below (hwB ▸ (Below.refl _ _).alloc (Nat.le_refl _) _)))
  have b0 : wB.cell? ⟨W.heap.size, 0, none⟩ = some (.func (.func 66) #[] #[.pointer (some ⟨pv, 0, none⟩)]) := by rw [hwB]; simp [dat]
  have b1 : wB.cell? ⟨W.heap.size, 1, none⟩ = some (.func (.func sf) #[] sb) := by rw [hwB]; simp [dat]
  have BX := hide (And.intro b0 b1)
  clear h hsw b0 b1
  unfold dat at *
  go_enter Try.func93, Try.ntmps93
  have hs := hide (H0.out.swap hne HSW.out a pivot (by omega) (by omega))
  have c1 := BX.out.2
  rw [hwB] at c1
  go_wp2
  rw [← hwB, hs.out.1 _ _ rfl rfl, Oper.upon_value]
  clear hwB c1
  obtain ⟨d0, hd0⟩ : ∃ d0, swp d a pivot = d0 := ⟨_, rfl⟩
  have E0 := hide hd0
  have M0 := hide hs.out.2
  rw [hd0] at M0
  clear hs H0 hd0
  generalize swW blk off d a pivot wB = w0 at M0
  go_wp2
  go_loopw [10] (fun vi wr => ∃ i1 : Nat, vi = .int .i64 i1 ∧ (a + 1) ≤ i1 ∧ i1 ≤ (b - 1) + 1 ∧ Hid (Mv blk off pv cap d.size wB d0 wr) ∧ Hid (scanUp (fun x => ltPm x d0[a]!) d0 ((b - 1)) i1 = scanUp (fun x => ltPm x d0[a]!) d0 ((b - 1)) ((a + 1)))) (fun vi _ => (b - 1) + 1 - (intOf vi).toNat)
  case atStart => exact ⟨(a + 1), by go_num, Nat.le_refl _, by omega, M0, rfl⟩
  case round =>
    obtain ⟨i1, rfl, hi1, hi1j, hN, HU⟩ := hrel
    clear M0
    rename World => wr1
    by_cases hle : i1 ≤ (b - 1)
    · have c0 := hN.out.box BX.out.1 hbx
      have hl := hide (hN.out.less (i1) (a) (by omega) (by omega))
      go_wp2_with fail
      refine Calls.mono (hl.out _ _ (by omega) (by omega)) ?_
      rintro e m1w ⟨rfl, hM⟩
      have M1 := hide hM
      clear hM hl
      cases hlv : ltPm d0[i1]! d0[a]! with
      | true =>
        go_wp2
        go_roundw
        case rel => exact ⟨i1 + 1, by go_num, by omega, by omega, M1, hide (by rw [← HU.out]; exact (scanUp_go _ _ _ _ hle hlv).symm)⟩
        case measure => simp [intOf]; omega
      | false =>
        have hu := hide (show scanUp (fun x => ltPm x d0[a]!) d0 ((b - 1)) ((a + 1)) = i1 by rw [← HU.out]; exact scanUp_end _ _ _ _ (Or.inr hlv))
        clear HU
        go_wp2
        go_loopw [11] (fun vj wr => ∃ j1 : Nat, vj = .int .i64 j1 ∧ j1 ≤ (b - 1) ∧ i1 ≤ j1 + 1 ∧ Hid (Mv blk off pv cap d.size wB d0 wr) ∧ Hid (scanDown (fun x => !ltPm x d0[a]!) d0 i1 j1 = scanDown (fun x => !ltPm x d0[a]!) d0 i1 ((b - 1)))) (fun vj _ => (intOf vj).toNat)
        case atStart => exact ⟨(b - 1), by congr 1; omega, Nat.le_refl _, hi1j, M1, rfl⟩
        case round =>
          obtain ⟨j1, rfl, hj1, hij1, hN2, HD⟩ := hrel
          clear M1
          rename World => wr2
          by_cases hle2 : i1 ≤ j1
          · have c0 := hN2.out.box BX.out.1 hbx
            have hl := hide (hN2.out.less (j1) (a) (by omega) (by omega))
            go_wp2_with fail
            refine Calls.mono (hl.out _ _ (by omega) (by omega)) ?_
            rintro e m2w ⟨rfl, hM⟩
            have M2 := hide hM
            clear hM hl
            cases hlv2 : ltPm d0[j1]! d0[a]! with
            | false =>
              go_wp2
              go_roundw
              case rel => exact ⟨j1 - 1, by congr 1; omega, by omega, by omega, M2, hide (by rw [← HD.out]; exact (scanDown_go _ _ _ _ hle2 (by omega) (by simp [hlv2])).symm)⟩
              case measure => simp [intOf]; omega
            | true =>
              have hdn := hide (show scanDown (fun x => !ltPm x d0[a]!) d0 i1 ((b - 1)) = j1 by rw [← HD.out]; exact scanDown_end _ _ _ _ (Or.inr (by simp [hlv2])))
              clear HD
              have hij2 : i1 ≠ j1 := by rintro rfl; rw [hlv] at hlv2; cases hlv2
              have hs := hide (M2.out.swap hne HSW.out (i1) (j1) (by omega) (by omega))
              have c1 := M2.out.box BX.out.2 hbx
              go_wp2
              rw [hs.out.1]
              rotate_left
              · omega
              · omega
              rw [Oper.upon_value]
              go_wp2
              have M3 := hide hs.out.2
              clear hs c1
              obtain ⟨⟨mid, dr⟩, hr⟩ : ∃ r, partLoop ltPm a (i1 + 1) (j1 - 1) (swp d0 i1 j1) = r := ⟨_, rfl⟩
              have HP := hide (pt_go E0.out hu.out hdn.out (by omega) hr)
              have HR := hide hr
              clear hr
              have hi3 : i1 < j1 := by omega
              have hj3 : j1 < b := by omega
              have hi3a : a < i1 := by omega
              clear hu hdn hlv hlv2 hij2 hle hle2 hN hN2 M2 c0
              go_loopw [10, 11] (fun vi vj wr => ∃ (i j : Nat) (dk : Array Pm), vi = .int .i64 i ∧ vj = .int .i64 j ∧ a < i ∧ i ≤ j + 1 ∧ j < b ∧ Hid (Mv blk off pv cap d.size wB dk wr) ∧ Hid (partLoop ltPm a i j dk = (mid, dr))) (fun vi vj _ => (intOf vj + 1 - intOf vi).toNat)
              case atStart => exact ⟨i1 + 1, j1 - 1, _, by go_num, by congr 1; omega, by omega, by omega, by omega, M3, HR⟩
              case round =>
                clear M3 HR
                obtain ⟨i, j, dk, rfl, rfl, hai, hij, hjb, hM, HO⟩ := hrel
                rename World => wr
                clear hi1 hi1j hj1 hij1
                go_wp2
                go_loopw [10] (fun vi wr => ∃ k1 : Nat, vi = .int .i64 k1 ∧ i ≤ k1 ∧ k1 ≤ j + 1 ∧ Hid (Mv blk off pv cap d.size wB dk wr) ∧ Hid (scanUp (fun x => ltPm x dk[a]!) dk (j) k1 = scanUp (fun x => ltPm x dk[a]!) dk (j) (i))) (fun vi _ => j + 1 - (intOf vi).toNat)
                case atStart => exact ⟨i, rfl, Nat.le_refl _, by omega, hM, rfl⟩
                case round =>
                  obtain ⟨k1, rfl, hk1, hk1j, hN, HU⟩ := hrel
                  clear hM
                  rename World => wr1
                  by_cases hle : k1 ≤ j
                  · have c0 := hN.out.box BX.out.1 hbx
                    have hl := hide (hN.out.less (k1) (a) (by omega) (by omega))
                    go_wp2_with fail
                    refine Calls.mono (hl.out _ _ (by omega) (by omega)) ?_
                    rintro e m1w ⟨rfl, hM⟩
                    have M1 := hide hM
                    clear hM hl
                    cases hlv : ltPm dk[k1]! dk[a]! with
                    | true =>
                      go_wp2
                      go_roundw
                      case rel => exact ⟨k1 + 1, by go_num, by omega, by omega, M1, hide (by rw [← HU.out]; exact (scanUp_go _ _ _ _ hle hlv).symm)⟩
                      case measure => simp [intOf]; omega
                    | false =>
                      have hu := hide (show scanUp (fun x => ltPm x dk[a]!) dk (j) (i) = k1 by rw [← HU.out]; exact scanUp_end _ _ _ _ (Or.inr hlv))
                      clear HU
                      go_wp2
                      go_loopw [11] (fun vj wr => ∃ m1 : Nat, vj = .int .i64 m1 ∧ m1 ≤ j ∧ k1 ≤ m1 + 1 ∧ Hid (Mv blk off pv cap d.size wB dk wr) ∧ Hid (scanDown (fun x => !ltPm x dk[a]!) dk k1 m1 = scanDown (fun x => !ltPm x dk[a]!) dk k1 (j))) (fun vj _ => (intOf vj).toNat)
                      case atStart => exact ⟨j, rfl, Nat.le_refl _, hk1j, M1, rfl⟩
                      case round =>
                        obtain ⟨m1, rfl, hm1, him1, hN2, HD⟩ := hrel
                        clear M1
                        rename World => wr2
                        by_cases hle2 : k1 ≤ m1
                        · have c0 := hN2.out.box BX.out.1 hbx
                          have hl := hide (hN2.out.less (m1) (a) (by omega) (by omega))
                          go_wp2_with fail
                          refine Calls.mono (hl.out _ _ (by omega) (by omega)) ?_
                          rintro e m2w ⟨rfl, hM⟩
                          have M2 := hide hM
                          clear hM hl
                          cases hlv2 : ltPm dk[m1]! dk[a]! with
                          | false =>
                            go_wp2
                            go_roundw
                            case rel => exact ⟨m1 - 1, by congr 1; omega, by omega, by omega, M2, hide (by rw [← HD.out]; exact (scanDown_go _ _ _ _ hle2 (by omega) (by simp [hlv2])).symm)⟩
                            case measure => simp [intOf]; omega
                          | true =>
                            have hdn := hide (show scanDown (fun x => !ltPm x dk[a]!) dk k1 (j) = m1 by rw [← HD.out]; exact scanDown_end _ _ _ _ (Or.inr (by simp [hlv2])))
                            clear HD
                            have hij2 : k1 ≠ m1 := by rintro rfl; rw [hlv] at hlv2; cases hlv2
                            have hs := hide (M2.out.swap hne HSW.out (k1) (m1) (by omega) (by omega))
                            have c1 := M2.out.box BX.out.2 hbx
                            go_wp2
                            rw [hs.out.1]
                            rotate_left
                            · omega
                            · omega
                            rw [Oper.upon_value]
                            go_wp2
                            go_roundw
                            case rel => exact ⟨k1 + 1, m1 - 1, _, by go_num, by congr 1; omega, by omega, by omega, by omega, hs.out.2, hide (by rw [← HO.out, pl_step hu.out hdn.out, if_neg (by omega)])⟩
                            case measure => simp [intOf]; omega
                        · have hdn := hide (show scanDown (fun x => !ltPm x dk[a]!) dk k1 (j) = m1 by rw [← HD.out]; exact scanDown_end _ _ _ _ (Or.inl hle2))
                          clear HD
                          have hs := hide (hN2.out.swap hne HSW.out (m1) (a) (by omega) (by omega))
                          have c1 := hN2.out.box BX.out.2 hbx
                          go_wp2
                          rw [hs.out.1]
                          rotate_left
                          · omega
                          · omega
                          rw [Oper.upon_value]
                          go_wp2
                          go_ret2
                          have hE : (mid, dr) = (m1, dk) := by rw [← HO.out, pl_step hu.out hdn.out, if_pos (by omega)]
                          cases hE
                          exact ⟨by rw [HP.out]; rfl, by rw [HP.out]; exact hs.out.2.from G0.out⟩
                  · have hu := hide (show scanUp (fun x => ltPm x dk[a]!) dk (j) (i) = k1 by rw [← HU.out]; exact scanUp_end _ _ _ _ (Or.inl hle))
                    clear HU
                    go_wp2
                    go_loopw [11] (fun vj wr => vj = .int .i64 ((j : Nat) : Int) ∧ Hid (Mv blk off pv cap d.size wB dk wr)) (fun _ _ => 0)
                    case atStart => exact ⟨rfl, hN⟩
                    case round =>
                      obtain ⟨rfl, hN2⟩ := hrel
                      clear hN
                      rename World => wr2
                      have hs := hide (hN2.out.swap hne HSW.out (j) (a) (by omega) (by omega))
                      have c1 := hN2.out.box BX.out.2 hbx
                      go_wp2
                      rw [hs.out.1]
                      rotate_left
                      · omega
                      · omega
                      rw [Oper.upon_value]
                      go_wp2
                      go_ret2
                      have hE : (mid, dr) = (j, dk) := by rw [← HO.out, pl_step hu.out (scanDown_end _ _ _ _ (Or.inl hle)), if_pos (by omega)]
                      cases hE
                      exact ⟨by rw [HP.out]; rfl, by rw [HP.out]; exact hs.out.2.from G0.out⟩
          · have hdn := hide (show scanDown (fun x => !ltPm x d0[a]!) d0 i1 ((b - 1)) = j1 by rw [← HD.out]; exact scanDown_end _ _ _ _ (Or.inl hle2))
            clear HD
            have hs := hide (hN2.out.swap hne HSW.out (j1) (a) (by omega) (by omega))
            have c1 := hN2.out.box BX.out.2 hbx
            go_wp2
            rw [hs.out.1]
            rotate_left
            · omega
            · omega
            rw [Oper.upon_value]
            go_wp2
            go_ret2
            have hE := pt_done E0.out hu.out hdn.out (by omega)
            exact ⟨by rw [hE]; rfl, by rw [hE]; exact hs.out.2.from G0.out⟩
    · have hu := hide (show scanUp (fun x => ltPm x d0[a]!) d0 ((b - 1)) ((a + 1)) = i1 by rw [← HU.out]; exact scanUp_end _ _ _ _ (Or.inl hle))
      clear HU
      go_wp2
      go_loopw [11] (fun vj wr => vj = .int .i64 (((b - 1) : Nat) : Int) ∧ Hid (Mv blk off pv cap d.size wB d0 wr)) (fun _ _ => 0)
      case atStart => exact ⟨by congr 1; omega, hN⟩
      case round =>
        obtain ⟨rfl, hN2⟩ := hrel
        clear hN
        rename World => wr2
        have hs := hide (hN2.out.swap hne HSW.out ((b - 1)) (a) (by omega) (by omega))
        have c1 := hN2.out.box BX.out.2 hbx
        go_wp2
        rw [hs.out.1]
        rotate_left
        · omega
        · omega
        rw [Oper.upon_value]
        go_wp2
        go_ret2
        have hE := pt_done E0.out hu.out (scanDown_end _ _ _ _ (Or.inl hle)) (by omega)
        exact ⟨by rw [hE]; rfl, by rw [hE]; exact hs.out.2.from G0.out⟩
end
end Go.Proofs.Qxb6614755a
