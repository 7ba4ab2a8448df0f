/- sort.Slice's family at a 'less' that lays blocks: partialInsertionSort_func (91). -/
import Derived.Test.Qxb6614755aPs1
import Derived.Sort.WalkA6
namespace Go.Proofs.Qxb6614755a
open Go.RowKit Go.Sort
section
variable {blk off pv cap n : Nat} {wB wr w' : World} {dk : Array Pm}

theorem pi_end {a b i i1 s : Nat} {d : Array Pm} (hs : scanSorted ltPm d b i = i1) (h1 : i1 = b) : partialIns ltPm a b (s + 1) i d = (d, true) := by
  rw [partialIns_succ, hs, if_pos h1]
theorem pi_short {a b i i1 s : Nat} {d : Array Pm} (hs : scanSorted ltPm d b i = i1) (h1 : ¬ i1 = b) (h2 : b - a < 50) : partialIns ltPm a b (s + 1) i d = (d, false) := by
  rw [partialIns_succ, hs, if_neg h1, if_pos h2]
theorem pi_step {a b i i1 s : Nat} {d d2 d3 : Array Pm} (hs : scanSorted ltPm d b i = i1) (h1 : ¬ i1 = b) (h2 : ¬ b - a < 50) (hd : (if i1 - a ≥ 2 then shiftDown ltPm (i1 - 1) (swp d i1 (i1 - 1)) else swp d i1 (i1 - 1)) = d2) (hu : (if b - i1 ≥ 2 then shiftUp ltPm b (i1 + 1) d2 else d2) = d3) :
    partialIns ltPm a b (s + 1) i d = partialIns ltPm a b s i1 d3 := by
  rw [partialIns_succ, hs, if_neg h1, if_neg h2]
  unfold fixUp fixDown
  rw [hd, hu]

set_option maxRecDepth 100000 in
set_option maxHeartbeats 1000000 in
theorem pins_any (hne : pv ≠ blk) {sf : Nat} {sb : Array Value} (hsw : SwapSwapsK Try.prog sf sb encPm 2 blk off n) (hn : n ≤ 1048576) (a b : Nat) (d : Array Pm) (W : World) (h : Rw blk off pv cap d W) (hd : d.size = n) (hab : a < b) (hb : b ≤ n) :
    Calls Try.prog 91 #[.agg (dat pv sf sb), .int .i64 a, .int .i64 b] W fun e w' => e = .returned (.bool (partialInsertionSort ltPm d a b).2) ∧ Mv blk off pv cap n W (partialInsertionSort ltPm d a b).1 w' := by
  obtain ⟨⟨dr, rb⟩, hr⟩ : ∃ r, partialInsertionSort ltPm d a b = r := ⟨_, rfl⟩
  rw [hr]
  unfold partialInsertionSort at hr
  have HR := hide hr
  clear hr
  subst hd
  have HSW := hide hsw
  have hlt := h.lt
  have hbx : W.heap.size ≠ blk := by omega
  obtain ⟨wB, hwB⟩ : ∃ wB, wB = W.alloc (.cells (dat pv sf sb) 127) := ⟨_, rfl⟩
  have G0 := hide (show W.grownBy wB (some blk) from hwB ▸ World.grownBy_alloc W _ _)
  have H0 := hide (show Mv blk off pv cap d.size wB d wB from Mv.start (h.below (hwB ▸ (Below.refl _ _).alloc (Nat.le_refl _) _)))
  have b0 : wB.cell? ⟨W.heap.size, 0, none⟩ = some (.func (.func 66) #[] #[.pointer (some ⟨pv, 0, none⟩)]) := by rw [hwB]; simp [dat]
  have b1 : wB.cell? ⟨W.heap.size, 1, none⟩ = some (.func (.func sf) #[] sb) := by rw [hwB]; simp [dat]
  have BX := hide (And.intro b0 b1)
  clear h hsw b0 b1
  unfold dat at *
  go_enter Try.func91, Try.ntmps91
  go_wp2
  rw [← hwB]
  clear hwB
  go_loopw [7, 8] (fun vi vj wr => ∃ (i r : Nat) (dk : Array Pm), vi = .int .i64 i ∧ vj = .int .i64 r ∧ r ≤ 5 ∧ a < i ∧ i ≤ b ∧ Hid (Mv blk off pv cap d.size wB dk wr) ∧ Hid (partialIns ltPm a b (5 - r) i dk = (dr, rb))) (fun _ vj _ => (5 - intOf vj).toNat)
  case atStart => exact ⟨a + 1, 0, d, by go_num, rfl, by omega, by omega, by omega, H0, HR⟩
  case round =>
    obtain ⟨i, r, dk, rfl, rfl, hs5, hai, hib, hM, HO⟩ := hrel
    rename World => wr
    clear H0 HR
    by_cases hr5 : r = 5
    · subst hr5
      have hE : (dk, false) = (dr, rb) := HO.out
      cases hE
      go_wp2
      go_ret
      exact ⟨rfl, hM.out.from G0.out⟩
    · obtain ⟨s, hs⟩ : ∃ s, s = 4 - r := ⟨_, rfl⟩
      rw [show 5 - r = s + 1 by omega] at HO
      have hr5' : ((r : Nat) : Int) < 5 := by omega
      go_wp2
      go_loopw [7] (fun vi wr => ∃ i1 : Nat, vi = .int .i64 i1 ∧ i ≤ i1 ∧ i1 ≤ b ∧ Hid (Mv blk off pv cap d.size wB dk wr) ∧ Hid (scanSorted ltPm dk b i1 = scanSorted ltPm dk b i)) (fun vi _ => b - (intOf vi).toNat)
      case atStart => exact ⟨i, rfl, Nat.le_refl _, hib, hM, rfl⟩
      case round =>
        clear hM
        obtain ⟨i1, rfl, hi1, hi1b, hN, HU⟩ := hrel
        rename World => wr1
        by_cases hlb : i1 < b
        · have c0 := hN.out.box BX.out.1 hbx
          have hl := hide (hN.out.less (i1) (i1 - 1) (by omega) (by omega))
          go_wp2_with fail
          refine Calls.mono (hl.out _ _ (by omega) (by omega)) ?_
          rintro e m1w ⟨rfl, hM⟩
          have M1 := hide hM
          clear hM hl
          cases hlv : ltPm dk[i1]! dk[i1 - 1]! with
          | false =>
            go_wp2
            go_roundw
            case rel => exact ⟨i1 + 1, by go_num, by omega, by omega, M1, hide (by rw [← HU.out]; exact (scanSorted_go _ _ _ _ hlb hlv).symm)⟩
            case measure => simp [intOf]; omega
          | true =>
            have hu := hide (show scanSorted ltPm dk b i = i1 by rw [← HU.out]; exact scanSorted_stop _ _ _ _ (Or.inr hlv))
            clear HU
            by_cases hib2 : i1 = b
            · have e : (i1 : Int) = (b : Int) := by omega
              have hE := (pi_end (a := a) (s := s) hu.out hib2).symm.trans HO.out
              cases hE
              have e' : ((i1 : Int) == (b : Int)) = true := by rw [e]; exact beq_self_eq_true _
              go_wp2
              go_ret
              exact ⟨rfl, M1.out.from G0.out⟩
            have e' : ((i1 : Int) == (b : Int)) = false := beq_eq_false_iff_ne.2 (by omega)
            by_cases h50 : b - a < 50
            · have hE := (pi_short (a := a) (s := s) hu.out hib2 h50).symm.trans HO.out
              cases hE
              go_wp2
              go_ret
              exact ⟨rfl, M1.out.from G0.out⟩
            have hs := hide (M1.out.swap hne HSW.out (i1) (i1 - 1) (by omega) (by omega))
            have c1 := M1.out.box BX.out.2 hbx
            go_wp2
            rw [hs.out.1]
            rotate_left
            · omega
            · omega
            rw [Oper.upon_value]
            have M2 := hide hs.out.2
            clear hs c1
            generalize swW blk off dk i1 (i1 - 1) m1w = w5 at M2
            by_cases hia : 2 ≤ i1 - a
            · have hiaI : decide ((2 : Int) ≤ (i1 : Int) - (a : Int)) = true := decide_eq_true (by omega)
              go_wp2
              go_loopw [9] (fun vj wr => ∃ (j : Nat) (dj : Array Pm), vj = .int .i64 j ∧ j ≤ i1 - 1 ∧ Hid (Mv blk off pv cap d.size wB dj wr) ∧ Hid (shiftDown ltPm j dj = shiftDown ltPm (i1 - 1) (swp dk i1 (i1 - 1)))) (fun vj _ => (intOf vj).toNat)
              case atStart => exact ⟨i1 - 1, _, by congr 1; omega, Nat.le_refl _, M2, rfl⟩
              case round =>
                clear M2
                obtain ⟨j, d2, rfl, hj1, hM2, HS2⟩ := hrel
                rename World => wr3
                by_cases hj0 : j = 0
                · subst hj0
                  have HD2 := hide (show (if i1 - a ≥ 2 then shiftDown ltPm (i1 - 1) (swp dk i1 (i1 - 1)) else swp dk i1 (i1 - 1)) = d2 by rw [if_pos hia, ← HS2.out]; exact shiftDown_stop _ _ _ (Or.inl rfl))
                  rw [show (((0 : Nat) : Int)) = 0 from rfl]
                  by_cases hbi : 2 ≤ b - i1
                  · have hbiI : decide ((2 : Int) ≤ (b : Int) - (i1 : Int)) = true := decide_eq_true (by omega)
                    go_wp2
                    go_loopw [10] (fun vj wr => ∃ (j : Nat) (dj : Array Pm), vj = .int .i64 j ∧ i1 + 1 ≤ j ∧ j ≤ b ∧ Hid (Mv blk off pv cap d.size wB dj wr) ∧ Hid (shiftUp ltPm b j dj = shiftUp ltPm b (i1 + 1) d2)) (fun vj _ => b - (intOf vj).toNat)
                    case atStart => exact ⟨i1 + 1, d2, by go_num, Nat.le_refl _, by omega, hM2, rfl⟩
                    case round =>
                      clear hM2
                      obtain ⟨j, dj, rfl, hj1, hj2, hM, HS⟩ := hrel
                      rename World => wr4
                      by_cases hjb : j < b
                      · have c0 := hM.out.box BX.out.1 hbx
                        have hl := hide (hM.out.less (j) (j - 1) (by omega) (by omega))
                        go_wp2_with fail
                        refine Calls.mono (hl.out _ _ (by omega) (by omega)) ?_
                        rintro e m4w ⟨rfl, hM⟩
                        have M4 := hide hM
                        clear hM hl
                        cases hlv4 : ltPm dj[j]! dj[j - 1]! with
                        | true =>
                          have hs := hide (M4.out.swap hne HSW.out (j) (j - 1) (by omega) (by omega))
                          have c1 := M4.out.box BX.out.2 hbx
                          go_wp2
                          rw [hs.out.1]
                          rotate_left
                          · omega
                          · omega
                          rw [Oper.upon_value]
                          go_wp2
                          go_roundw
                          case rel => exact ⟨j + 1, _, by go_num, by omega, by omega, hs.out.2, hide (by rw [← HS.out]; exact (shiftUp_go _ _ _ _ hjb hlv4).symm)⟩
                          case measure => simp [intOf]; omega
                        | false =>
                          go_wp2
                          go_roundw
                          case rel => exact ⟨i1, r + 1, dj, rfl, by go_num, by omega, by omega, by omega, M4, hide (by rw [← HO.out, show 5 - (r + 1) = s by omega]; exact (pi_step hu.out hib2 h50 HD2.out (by rw [if_pos hbi, ← HS.out]; exact shiftUp_stop _ _ _ _ (Or.inr hlv4))).symm)⟩
                          case measure => simp [intOf]; omega
                      · go_wp2
                        go_roundw
                        case rel => exact ⟨i1, r + 1, dj, rfl, by go_num, by omega, by omega, by omega, hM, hide (by rw [← HO.out, show 5 - (r + 1) = s by omega]; exact (pi_step hu.out hib2 h50 HD2.out (by rw [if_pos hbi, ← HS.out]; exact shiftUp_stop _ _ _ _ (Or.inl hjb))).symm)⟩
                        case measure => simp [intOf]; omega
                  · go_wp2
                    go_roundw
                    case rel => exact ⟨i1, r + 1, d2, rfl, by go_num, by omega, by omega, by omega, hM2, hide (by rw [← HO.out, show 5 - (r + 1) = s by omega]; exact (pi_step hu.out hib2 h50 HD2.out (if_neg hbi)).symm)⟩
                    case measure => simp [intOf]; omega
                · have c0 := hM2.out.box BX.out.1 hbx
                  have hl := hide (hM2.out.less (j) (j - 1) (by omega) (by omega))
                  go_wp2_with fail
                  refine Calls.mono (hl.out _ _ (by omega) (by omega)) ?_
                  rintro e m3w ⟨rfl, hM⟩
                  have M3 := hide hM
                  clear hM hl
                  cases hlv3 : ltPm d2[j]! d2[j - 1]! with
                  | true =>
                    have hs := hide (M3.out.swap hne HSW.out (j) (j - 1) (by omega) (by omega))
                    have c1 := M3.out.box BX.out.2 hbx
                    go_wp2
                    rw [hs.out.1]
                    rotate_left
                    · omega
                    · omega
                    rw [Oper.upon_value]
                    go_wp2
                    go_roundw
                    case rel => exact ⟨j - 1, _, by congr 1; omega, by omega, hs.out.2, hide (by rw [← HS2.out]; exact (shiftDown_go _ _ _ (by omega) hlv3).symm)⟩
                    case measure => simp [intOf]; omega
                  | false =>
                    have HD2 := hide (show (if i1 - a ≥ 2 then shiftDown ltPm (i1 - 1) (swp dk i1 (i1 - 1)) else swp dk i1 (i1 - 1)) = d2 by rw [if_pos hia, ← HS2.out]; exact shiftDown_stop _ _ _ (Or.inr hlv3))
                    by_cases hbi : 2 ≤ b - i1
                    · have hbiI : decide ((2 : Int) ≤ (b : Int) - (i1 : Int)) = true := decide_eq_true (by omega)
                      go_wp2
                      go_loopw [10] (fun vj wr => ∃ (j : Nat) (dj : Array Pm), vj = .int .i64 j ∧ i1 + 1 ≤ j ∧ j ≤ b ∧ Hid (Mv blk off pv cap d.size wB dj wr) ∧ Hid (shiftUp ltPm b j dj = shiftUp ltPm b (i1 + 1) d2)) (fun vj _ => b - (intOf vj).toNat)
                      case atStart => exact ⟨i1 + 1, d2, by go_num, Nat.le_refl _, by omega, M3, rfl⟩
                      case round =>
                        clear M3
                        obtain ⟨j, dj, rfl, hj1, hj2, hM, HS⟩ := hrel
                        rename World => wr4
                        by_cases hjb : j < b
                        · have c0 := hM.out.box BX.out.1 hbx
                          have hl := hide (hM.out.less (j) (j - 1) (by omega) (by omega))
                          go_wp2_with fail
                          refine Calls.mono (hl.out _ _ (by omega) (by omega)) ?_
                          rintro e m4w ⟨rfl, hM⟩
                          have M4 := hide hM
                          clear hM hl
                          cases hlv4 : ltPm dj[j]! dj[j - 1]! with
                          | true =>
                            have hs := hide (M4.out.swap hne HSW.out (j) (j - 1) (by omega) (by omega))
                            have c1 := M4.out.box BX.out.2 hbx
                            go_wp2
                            rw [hs.out.1]
                            rotate_left
                            · omega
                            · omega
                            rw [Oper.upon_value]
                            go_wp2
                            go_roundw
                            case rel => exact ⟨j + 1, _, by go_num, by omega, by omega, hs.out.2, hide (by rw [← HS.out]; exact (shiftUp_go _ _ _ _ hjb hlv4).symm)⟩
                            case measure => simp [intOf]; omega
                          | false =>
                            go_wp2
                            go_roundw
                            case rel => exact ⟨i1, r + 1, dj, rfl, by go_num, by omega, by omega, by omega, M4, hide (by rw [← HO.out, show 5 - (r + 1) = s by omega]; exact (pi_step hu.out hib2 h50 HD2.out (by rw [if_pos hbi, ← HS.out]; exact shiftUp_stop _ _ _ _ (Or.inr hlv4))).symm)⟩
                            case measure => simp [intOf]; omega
                        · go_wp2
                          go_roundw
                          case rel => exact ⟨i1, r + 1, dj, rfl, by go_num, by omega, by omega, by omega, hM, hide (by rw [← HO.out, show 5 - (r + 1) = s by omega]; exact (pi_step hu.out hib2 h50 HD2.out (by rw [if_pos hbi, ← HS.out]; exact shiftUp_stop _ _ _ _ (Or.inl hjb))).symm)⟩
                          case measure => simp [intOf]; omega
                    · go_wp2
                      go_roundw
                      case rel => exact ⟨i1, r + 1, d2, rfl, by go_num, by omega, by omega, by omega, M3, hide (by rw [← HO.out, show 5 - (r + 1) = s by omega]; exact (pi_step hu.out hib2 h50 HD2.out (if_neg hbi)).symm)⟩
                      case measure => simp [intOf]; omega
            · have hiaI : decide ((2 : Int) ≤ (i1 : Int) - (a : Int)) = false := decide_eq_false (by omega)
              have HD2 := hide (show (if i1 - a ≥ 2 then shiftDown ltPm (i1 - 1) (swp dk i1 (i1 - 1)) else swp dk i1 (i1 - 1)) = swp dk i1 (i1 - 1) from if_neg hia)
              by_cases hbi : 2 ≤ b - i1
              · have hbiI : decide ((2 : Int) ≤ (b : Int) - (i1 : Int)) = true := decide_eq_true (by omega)
                go_wp2
                go_loopw [10] (fun vj wr => ∃ (j : Nat) (dj : Array Pm), vj = .int .i64 j ∧ i1 + 1 ≤ j ∧ j ≤ b ∧ Hid (Mv blk off pv cap d.size wB dj wr) ∧ Hid (shiftUp ltPm b j dj = shiftUp ltPm b (i1 + 1) (swp dk i1 (i1 - 1)))) (fun vj _ => b - (intOf vj).toNat)
                case atStart => exact ⟨i1 + 1, (swp dk i1 (i1 - 1)), by go_num, Nat.le_refl _, by omega, M2, rfl⟩
                case round =>
                  clear M2
                  obtain ⟨j, dj, rfl, hj1, hj2, hM, HS⟩ := hrel
                  rename World => wr4
                  by_cases hjb : j < b
                  · have c0 := hM.out.box BX.out.1 hbx
                    have hl := hide (hM.out.less (j) (j - 1) (by omega) (by omega))
                    go_wp2_with fail
                    refine Calls.mono (hl.out _ _ (by omega) (by omega)) ?_
                    rintro e m4w ⟨rfl, hM⟩
                    have M4 := hide hM
                    clear hM hl
                    cases hlv4 : ltPm dj[j]! dj[j - 1]! with
                    | true =>
                      have hs := hide (M4.out.swap hne HSW.out (j) (j - 1) (by omega) (by omega))
                      have c1 := M4.out.box BX.out.2 hbx
                      go_wp2
                      rw [hs.out.1]
                      rotate_left
                      · omega
                      · omega
                      rw [Oper.upon_value]
                      go_wp2
                      go_roundw
                      case rel => exact ⟨j + 1, _, by go_num, by omega, by omega, hs.out.2, hide (by rw [← HS.out]; exact (shiftUp_go _ _ _ _ hjb hlv4).symm)⟩
                      case measure => simp [intOf]; omega
                    | false =>
                      go_wp2
                      go_roundw
                      case rel => exact ⟨i1, r + 1, dj, rfl, by go_num, by omega, by omega, by omega, M4, hide (by rw [← HO.out, show 5 - (r + 1) = s by omega]; exact (pi_step hu.out hib2 h50 HD2.out (by rw [if_pos hbi, ← HS.out]; exact shiftUp_stop _ _ _ _ (Or.inr hlv4))).symm)⟩
                      case measure => simp [intOf]; omega
                  · go_wp2
                    go_roundw
                    case rel => exact ⟨i1, r + 1, dj, rfl, by go_num, by omega, by omega, by omega, hM, hide (by rw [← HO.out, show 5 - (r + 1) = s by omega]; exact (pi_step hu.out hib2 h50 HD2.out (by rw [if_pos hbi, ← HS.out]; exact shiftUp_stop _ _ _ _ (Or.inl hjb))).symm)⟩
                    case measure => simp [intOf]; omega
              · exfalso; omega
        · have hu := hide (show scanSorted ltPm dk b i = i1 by rw [← HU.out]; exact scanSorted_stop _ _ _ _ (Or.inl hlb))
          clear HU
          have hib2 : i1 = b := by omega
          have e : (i1 : Int) = (b : Int) := by omega
          have hE := (pi_end (a := a) (s := s) hu.out hib2).symm.trans HO.out
          cases hE
          have e' : ((i1 : Int) == (b : Int)) = true := by rw [e]; exact beq_self_eq_true _
          go_wp2
          go_ret
          exact ⟨rfl, hN.out.from G0.out⟩
end
end Go.Proofs.Qxb6614755a
