/- sort.Slice's family at a 'less' that lays blocks: choosePivot_func (89). -/
import Derived.Test.Qxb6614755aPs3
namespace Go.Proofs.Qxb6614755a
open Go.RowKit Go.Sort
section
variable {blk off pv cap n : Nat} {wB wr w' : World} {dk : Array Pm}

def hintNo : Hint → Int
  | .unknown => 0
  | .increasing => 1
  | .decreasing => 2
theorem quarter (a b : Nat) (h : a ≤ b) : ((b : Int) - (a : Int)).tdiv 4 = (((b - a) / 4 : Nat) : Int) := by
  rw [show (b : Int) - (a : Int) = ((b - a : Nat) : Int) by omega]
  rfl
variable {sp s : Nat} {d : Array Pm}
/-- The counter lay in new memory: what was there has not turned. -/
theorem Cn.mv {W : World} (h : Cn blk off pv cap n sp wB d s wr) (hb : Below W.heap.size W wB) (hsp : W.heap.size ≤ sp) : Mv blk off pv cap n W d wr :=
  ⟨h.size, h.rw, h.grown.os.trans hb.os, h.grown.tape.trans hb.tape, h.grown.output.trans hb.output, Nat.le_trans hb.size h.grown.size, fun k hk _ => (h.grown.block k (Nat.lt_of_lt_of_le hk hb.size) (by simp; omega)).trans (hb.block k hk)⟩

set_option maxRecDepth 100000 in
set_option maxHeartbeats 1000000 in
theorem pivot_any (sf : Nat) (sb : Array Value) (hn : n ≤ 1048576) (a b : Nat) (W : World) (h : Rw blk off pv cap d W) (hd : d.size = n) (hab : a + 12 < b) (hb : b ≤ n) :
    Calls Try.prog 89 #[.agg (dat pv sf sb), .int .i64 a, .int .i64 b] W fun e w' => e = .returned (.tuple #[.int .i64 (choosePivot ltPm d a b).1, .int .i64 (hintNo (choosePivot ltPm d a b).2)]) ∧ Mv blk off pv cap n W d w' := by
  have hlt := h.lt
  have hpv := cell_in' h.var
  have h1 : W.heap.size + 1 ≠ blk := by omega
  have h2 : W.heap.size + 1 ≠ pv := by have : pv < W.heap.size := hpv; omega
  have hbx : W.heap.size ≠ W.heap.size + 1 := by omega
  obtain ⟨wB, hwB⟩ : ∃ wB, wB = (W.alloc (.cells (dat pv sf sb) 127)).alloc (.cells #[.int .i64 0] 3) := ⟨_, rfl⟩
  have hBel : Below W.heap.size W wB := hwB ▸ (((Below.refl _ _).alloc (Nat.le_refl _) _).alloc (by simp) _)
  have HB := hide hBel
  have b0 : wB.cell? ⟨W.heap.size, 0, none⟩ = some (.func (.func 66) #[] #[.pointer (some ⟨pv, 0, none⟩)]) := by rw [hwB]; simp [dat]
  have b1 : wB.cell? ⟨W.heap.size, 1, none⟩ = some (.func (.func sf) #[] sb) := by rw [hwB]; simp [dat]
  have BX := hide (And.intro b0 b1)
  have H0 := hide (show Cn blk off pv cap n (W.heap.size + 1) wB d 0 wB from ⟨hd, h.below hBel, by rw [hwB]; simp, by rw [hwB]; simp, World.grownBy.refl _ _⟩)
  clear h b0 b1 hBel hpv
  unfold dat at *
  obtain ⟨q, hq⟩ : ∃ q, q = (b - a) / 4 := ⟨_, rfl⟩
  have hq4 : q * 4 ≤ b - a ∧ b - a < q * 4 + 4 := by omega
  have qq := quarter a b (by omega)
  rw [← hq] at qq
  by_cases h50 : 50 ≤ b - a
  · obtain ⟨⟨mi, si⟩, ri⟩ : ∃ r, medianAdjacent ltPm d (a + q * 1) 0 = r := ⟨_, rfl⟩
    obtain ⟨⟨mj, sj⟩, rj⟩ : ∃ r, medianAdjacent ltPm d (a + q * 2) si = r := ⟨_, rfl⟩
    obtain ⟨⟨mk, sk⟩, rk⟩ : ∃ r, medianAdjacent ltPm d (a + q * 3) sj = r := ⟨_, rfl⟩
    obtain ⟨⟨mm, ss⟩, rm⟩ : ∃ r, median ltPm d mi mj mk sk = r := ⟨_, rfl⟩
    have Li := med_lt (m := n) ri (by omega) (by omega) (by omega)
    have Lj := med_lt (m := n) rj (by omega) (by omega) (by omega)
    have Lk := med_lt (m := n) rk (by omega) (by omega) (by omega)
    have hm : choosePivot ltPm d a b = (mm, if ss = 0 then .increasing else if ss = 12 then .decreasing else .unknown) := by
      unfold choosePivot
      simp only [← hq, ri, rj, rk, rm, if_pos h50, if_pos (show b - a ≥ 8 by omega)]
    rw [hm]
    clear hm
    go_enter Try.func89, Try.ntmps89
    have hl := hide (H0.out.medianAdj h1 h2 sf sb (a + q * 1) mi si (by omega) hn (by omega) (by omega) ri)
    unfold dat at hl
    go_wp2_with fail
    rw [← hwB]
    clear hwB
    refine Calls.mono (hl.out _ (by omega)) ?_
    rintro e m1w ⟨rfl, hM⟩
    have M1 := hide hM
    clear hM hl
    have c0 := M1.out.box BX.out.1 hbx
    have c1 := M1.out.box BX.out.2 hbx
    have hl := hide (M1.out.medianAdj h1 h2 sf sb (a + q * 2) mj sj (by omega) hn (by omega) (by omega) rj)
    unfold dat at hl
    go_wp2_with fail
    refine Calls.mono (hl.out _ (by omega)) ?_
    rintro e m2w ⟨rfl, hM⟩
    have M2 := hide hM
    clear hM hl c0 c1
    have c0 := M2.out.box BX.out.1 hbx
    have c1 := M2.out.box BX.out.2 hbx
    have hl := hide (M2.out.medianAdj h1 h2 sf sb (a + q * 3) mk sk (by omega) hn (by omega) (by omega) rk)
    unfold dat at hl
    go_wp2_with fail
    refine Calls.mono (hl.out _ (by omega)) ?_
    rintro e m3w ⟨rfl, hM⟩
    have M3 := hide hM
    clear hM hl c0 c1
    have c0 := M3.out.box BX.out.1 hbx
    have c1 := M3.out.box BX.out.2 hbx
    have hl := hide (M3.out.median h1 h2 sf sb mi mj mk mm ss (by omega) Li.1 Lj.1 Lk.1 rm)
    unfold dat at hl
    go_wp2_with fail
    refine Calls.mono (hl.out _ _ _ (by omega) (by omega) (by omega)) ?_
    rintro e m4w ⟨rfl, hM⟩
    have M4 := hide hM
    clear hM hl c0 c1
    have k1 := M4.out.cnt
    by_cases h0 : ss = 0
    · subst h0
      go_wp2
      go_ret2
      exact ⟨by simp [hintNo], M4.out.mv HB.out (by simp)⟩
    by_cases h12 : ss = 12
    · subst h12
      go_wp2
      go_ret2
      exact ⟨by simp [hintNo], M4.out.mv HB.out (by simp)⟩
    · have h0' : ((ss : Int) == 0) = false := beq_eq_false_iff_ne.2 (by omega)
      have h12' : ((ss : Int) == 12) = false := beq_eq_false_iff_ne.2 (by omega)
      go_wp2
      go_ret2
      exact ⟨by simp [hintNo], M4.out.mv HB.out (by simp)⟩
  · obtain ⟨⟨mm, ss⟩, rm⟩ : ∃ r, median ltPm d (a + q * 1) (a + q * 2) (a + q * 3) 0 = r := ⟨_, rfl⟩
    have hm : choosePivot ltPm d a b = (mm, if ss = 0 then .increasing else if ss = 12 then .decreasing else .unknown) := by
      unfold choosePivot
      simp only [← hq, rm, if_neg h50, if_pos (show b - a ≥ 8 by omega)]
    rw [hm]
    clear hm
    go_enter Try.func89, Try.ntmps89
    have hl := hide (H0.out.median h1 h2 sf sb (a + q * 1) (a + q * 2) (a + q * 3) mm ss (by omega) (by omega) (by omega) (by omega) rm)
    unfold dat at hl
    go_wp2_with fail
    rw [← hwB]
    clear hwB
    refine Calls.mono (hl.out _ _ _ (by omega) (by omega) (by omega)) ?_
    rintro e m4w ⟨rfl, hM⟩
    have M4 := hide hM
    clear hM hl
    have k1 := M4.out.cnt
    by_cases h0 : ss = 0
    · subst h0
      go_wp2
      go_ret2
      exact ⟨by simp [hintNo], M4.out.mv HB.out (by simp)⟩
    by_cases h12 : ss = 12
    · subst h12
      go_wp2
      go_ret2
      exact ⟨by simp [hintNo], M4.out.mv HB.out (by simp)⟩
    · have h0' : ((ss : Int) == 0) = false := beq_eq_false_iff_ne.2 (by omega)
      have h12' : ((ss : Int) == 12) = false := beq_eq_false_iff_ne.2 (by omega)
      go_wp2
      go_ret2
      exact ⟨by simp [hintNo], M4.out.mv HB.out (by simp)⟩
end
end Go.Proofs.Qxb6614755a
