/- sort.Slice's family at a 'less' that lays blocks: partitionEqual_func (92). -/
import Derived.Test.Qxb6614755aPs1
import Derived.Sort.WalkC
namespace Go.Proofs.Qxb6614755a
open Go.RowKit Go.Sort
section
variable {blk off pv cap n : Nat} {wB wr w' : World} {dk : Array Pm}

theorem pe_step {a i j i1 j1 : Nat} {d : Array Pm} (hu : scanUp (fun x => !ltPm d[a]! x) d j i = i1) (hd : scanDown (fun x => ltPm d[a]! x) d i1 j = j1) :
    partEqLoop ltPm a i j d = if i1 > j1 then (i1, d) else partEqLoop ltPm a (i1 + 1) (j1 - 1) (swp d i1 j1) := by rw [partEqLoop_eq, hu, hd]

set_option maxRecDepth 100000 in
set_option maxHeartbeats 1000000 in
theorem partEq_any (hne : pv ≠ blk) {sf : Nat} {sb : Array Value} (hsw : SwapSwapsK Try.prog sf sb encPm 2 blk off n) (hn : n ≤ 1048576) (a b pivot : Nat) (d : Array Pm) (W : World) (h : Rw blk off pv cap d W) (hd : d.size = n) (hap : a ≤ pivot) (hpb : pivot < b) (hb : b ≤ n) :
    Calls Try.prog 92 #[.agg (dat pv sf sb), .int .i64 a, .int .i64 b, .int .i64 pivot] W fun e w' => e = .returned (.int .i64 (partitionEqual ltPm d a b pivot).1) ∧ Mv blk off pv cap n W (partitionEqual ltPm d a b pivot).2 w' := by
  obtain ⟨⟨mid, dr⟩, hr⟩ : ∃ r, partitionEqual ltPm d a b pivot = r := ⟨_, rfl⟩
  rw [hr]
  unfold partitionEqual at hr
  have HR := hide hr
  clear hr
  subst hd
  have HSW := hide hsw
  have hlt := h.lt
  have hbx : W.heap.size ≠ blk := by omega
  obtain ⟨wB, hwB⟩ : ∃ wB, wB = W.alloc (.cells (dat pv sf sb) 127) := ⟨_, rfl⟩
  have G0 := hide (show W.grownBy wB (some blk) from hwB ▸ World.grownBy_alloc W _ _)
  have H0 := hide (show Mv blk off pv cap d.size wB d wB from Mv.start (h.below (hwB ▸ (Below.refl _ _).alloc (Nat.le_refl _) _)))
  have b0 : wB.cell? ⟨W.heap.size, 0, none⟩ = some (.func (.func 66) #[] #[.pointer (some ⟨pv, 0, none⟩)]) := by rw [hwB]; simp [dat]
  have b1 : wB.cell? ⟨W.heap.size, 1, none⟩ = some (.func (.func sf) #[] sb) := by rw [hwB]; simp [dat]
  have BX := hide (And.intro b0 b1)
  clear h hsw b0 b1
  unfold dat at *
  go_enter Try.func92, Try.ntmps92
  have hs := hide (H0.out.swap hne HSW.out a pivot (by omega) (by omega))
  have c1 := BX.out.2
  rw [hwB] at c1
  go_wp2
  rw [← hwB, hs.out.1 _ _ rfl rfl, Oper.upon_value]
  clear hwB c1
  have M0 := hide hs.out.2
  clear hs H0
  generalize swW blk off d a pivot wB = w0 at M0
  go_wp2
  go_loopw [9, 10] (fun vi vj wr => ∃ (i j : Nat) (dk : Array Pm), vi = .int .i64 i ∧ vj = .int .i64 j ∧ a < i ∧ i ≤ j + 1 ∧ j < b ∧ Hid (Mv blk off pv cap d.size wB dk wr) ∧ Hid (partEqLoop ltPm a i j dk = (mid, dr))) (fun vi vj _ => (intOf vj + 1 - intOf vi).toNat)
  case atStart => exact ⟨a + 1, b - 1, _, by go_num, by congr 1; omega, by omega, by omega, by omega, M0, HR⟩
  case round =>
    obtain ⟨i, j, dk, rfl, rfl, hai, hij, hjb, hM, HO⟩ := hrel
    rename World => wr
    clear M0 HR
    go_wp2
    go_loopw [9] (fun vi wr => ∃ i1 : Nat, vi = .int .i64 i1 ∧ i ≤ i1 ∧ i1 ≤ j + 1 ∧ Hid (Mv blk off pv cap d.size wB dk wr) ∧ Hid (scanUp (fun x => !ltPm dk[a]! x) dk j i1 = scanUp (fun x => !ltPm dk[a]! x) dk j i)) (fun vi _ => j + 1 - (intOf vi).toNat)
    case atStart => exact ⟨i, rfl, Nat.le_refl _, hij, hM, rfl⟩
    case round =>
      obtain ⟨i1, rfl, hi1, hi1j, hN, HU⟩ := hrel
      clear hM
      rename World => wr1
      by_cases hle : i1 ≤ j
      · have c0 := hN.out.box BX.out.1 hbx
        have hl := hide (hN.out.less (a) (i1) (by omega) (by omega))
        go_wp2_with fail
        refine Calls.mono (hl.out _ _ (by omega) (by omega)) ?_
        rintro e m1w ⟨rfl, hM⟩
        have M1 := hide hM
        clear hM hl
        cases hlv : ltPm dk[a]! dk[i1]! with
        | false =>
          go_wp2
          go_roundw
          case rel => exact ⟨i1 + 1, by go_num, by omega, by omega, M1, hide (by rw [← HU.out]; exact (scanUp_go _ _ _ _ hle (by simp [hlv])).symm)⟩
          case measure => simp [intOf]; omega
        | true =>
          have hu := hide (show scanUp (fun x => !ltPm dk[a]! x) dk j i = i1 by rw [← HU.out]; exact scanUp_end _ _ _ _ (Or.inr (by simp [hlv])))
          clear HU
          go_wp2
          go_loopw [10] (fun vj wr => ∃ j1 : Nat, vj = .int .i64 j1 ∧ j1 ≤ j ∧ i1 ≤ j1 + 1 ∧ Hid (Mv blk off pv cap d.size wB dk wr) ∧ Hid (scanDown (fun x => ltPm dk[a]! x) dk i1 j1 = scanDown (fun x => ltPm dk[a]! x) dk i1 j)) (fun vj _ => (intOf vj).toNat)
          case atStart => exact ⟨j, rfl, Nat.le_refl _, hi1j, M1, rfl⟩
          case round =>
            obtain ⟨j1, rfl, hj1, hij1, hN2, HD⟩ := hrel
            clear M1
            rename World => wr2
            by_cases hle2 : i1 ≤ j1
            · have c0 := hN2.out.box BX.out.1 hbx
              have hl := hide (hN2.out.less (a) (j1) (by omega) (by omega))
              go_wp2_with fail
              refine Calls.mono (hl.out _ _ (by omega) (by omega)) ?_
              rintro e m2w ⟨rfl, hM⟩
              have M2 := hide hM
              clear hM hl
              cases hlv2 : ltPm dk[a]! dk[j1]! with
              | true =>
                go_wp2
                go_roundw
                case rel => exact ⟨j1 - 1, by congr 1; omega, by omega, by omega, M2, hide (by rw [← HD.out]; exact (scanDown_go _ _ _ _ hle2 (by omega) hlv2).symm)⟩
                case measure => simp [intOf]; omega
              | false =>
                have hdn := hide (show scanDown (fun x => ltPm dk[a]! x) dk i1 j = j1 by rw [← HD.out]; exact scanDown_end _ _ _ _ (Or.inr hlv2))
                clear HD
                have hij2 : i1 ≠ j1 := by rintro rfl; rw [hlv] at hlv2; cases hlv2
                have hs := hide (M2.out.swap hne HSW.out (i1) (j1) (by omega) (by omega))
                have c1 := M2.out.box BX.out.2 hbx
                go_wp2
                rw [hs.out.1]
                rotate_left
                · omega
                · omega
                rw [Oper.upon_value]
                go_wp2
                go_roundw
                case rel => exact ⟨i1 + 1, j1 - 1, _, by go_num, by congr 1; omega, by omega, by omega, by omega, hs.out.2, hide (by rw [← HO.out, pe_step hu.out hdn.out, if_neg (by omega)])⟩
                case measure => simp [intOf]; omega
            · have hdn := hide (show scanDown (fun x => ltPm dk[a]! x) dk i1 j = j1 by rw [← HD.out]; exact scanDown_end _ _ _ _ (Or.inl hle2))
              clear HD
              go_wp2
              go_ret
              have hE : (mid, dr) = (i1, dk) := by rw [← HO.out, pe_step hu.out hdn.out, if_pos (by omega)]
              cases hE
              exact ⟨rfl, hN2.out.from G0.out⟩
      · have hu := hide (show scanUp (fun x => !ltPm dk[a]! x) dk j i = i1 by rw [← HU.out]; exact scanUp_end _ _ _ _ (Or.inl hle))
        clear HU
        go_wp2
        go_loopw [10] (fun vj wr => vj = .int .i64 j ∧ Hid (Mv blk off pv cap d.size wB dk wr)) (fun _ _ => 0)
        case atStart => exact ⟨rfl, hN⟩
        case round =>
          obtain ⟨rfl, hN2⟩ := hrel
          clear hN
          rename World => wr2
          go_wp2
          go_ret
          have hE : (mid, dr) = (i1, dk) := by rw [← HO.out, pe_step hu.out (scanDown_end _ _ _ _ (Or.inl hle)), if_pos (by omega)]
          cases hE
          exact ⟨rfl, hN2.out.from G0.out⟩
end
end Go.Proofs.Qxb6614755a
