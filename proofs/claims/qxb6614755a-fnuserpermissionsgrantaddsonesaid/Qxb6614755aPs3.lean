/- sort.Slice's family at a 'less' that lays blocks: order2_func (114), median_func (107), medianAdjacent_func (106). -/
import Derived.Test.Qxb6614755aPs1
import Derived.Sort.LotD4
namespace Go.Proofs.Qxb6614755a
open Go.RowKit Go.Sort
section
variable {blk off pv cap n : Nat} {wB wr w' : World} {dk : Array Pm}

/-- Behind wB the row holds d still, the counter in block sp stands at s; but for the counter and new blocks nothing has turned. -/
structure Cn (blk off pv cap n sp : Nat) (wB : World) (d : Array Pm) (s : Nat) (wr : World) : Prop where
  size : d.size = n
  rw : Rw blk off pv cap d wr
  cnt : wr.cell? ⟨sp, 0, none⟩ = some (.int .i64 s)
  frz : wr.frozen? ⟨sp, 0, none⟩ = false
  grown : wB.grownBy wr (some sp)

theorem frozen_below {W W' : World} (hb : Below W.heap.size W W') {a : Addr} (h : a.block < W.heap.size) : W'.frozen? a = W.frozen? a := World.frozen?_of_block (hb.block a.block h)
theorem Rw.other {d : Array Pm} {W W' : World} {sp : Nat} (h : Rw blk off pv cap d W) (hg : W.grownBy W' (some sp)) (h1 : sp ≠ blk) (h2 : sp ≠ pv) : Rw blk off pv cap d W' :=
  ⟨holdsK_block h.holds (hg.block blk h.lt (by simpa using Ne.symm h1)), Nat.lt_of_lt_of_le h.lt hg.size, hg.cell h.var (by simpa using Ne.symm h2), h.small⟩
variable {sp s : Nat} {d : Array Pm}
theorem Cn.below (h : Cn blk off pv cap n sp wB d s wr) (hb : Below wr.heap.size wr w') : Cn blk off pv cap n sp wB d s w' :=
  ⟨h.size, h.rw.below hb, (hb.cell (p := ⟨sp, 0, none⟩) (cell_in' h.cnt)).trans h.cnt, (frozen_below hb (a := ⟨sp, 0, none⟩) (cell_in' h.cnt)).trans h.frz, h.grown.trans (grownBy_of_below hb _)⟩
theorem Cn.less (h : Cn blk off pv cap n sp wB d s wr) (i j : Nat) (hi : i < n) (hj : j < n) (x y : Int) (hx : x = i) (hy : y = j) :
    Calls Try.prog 66 #[.int .i64 x, .int .i64 y, .pointer (some ⟨pv, 0, none⟩)] wr fun e w' => e = .returned (.bool (ltPm d[i]! d[j]!)) ∧ Cn blk off pv cap n sp wB d s w' := by
  subst hx hy
  exact (less_any i j h.rw (by rw [h.size]; exact hi) (by rw [h.size]; exact hj)).mono fun _ _ ⟨he, hb⟩ => ⟨he, h.below hb⟩
theorem Cn.box (h : Cn blk off pv cap n sp wB d s wr) {a : Addr} {v : Value} (hc : wB.cell? a = some v) (hne : a.block ≠ sp) : wr.cell? a = some v := h.grown.cell hc (by simpa using hne)
theorem Cn.from (h : Cn blk off pv cap n sp wB d s wr) {w0 : World} (hg : w0.grownBy wB (some sp)) : Cn blk off pv cap n sp w0 d s wr := ⟨h.size, h.rw, h.cnt, h.frz, hg.trans h.grown⟩
theorem Cn.bump (h : Cn blk off pv cap n sp wB d s wr) (h1 : sp ≠ blk) (h2 : sp ≠ pv) (s' : Nat) : Cn blk off pv cap n sp wB d s' (wr.setCell ⟨sp, 0, none⟩ (.int .i64 s')) :=
  have hg := grownBy_setCell wr sp 0 (.int .i64 s')
  ⟨h.size, h.rw.other hg h1 h2, World.cell?_setCell_same wr _ _ h.cnt, by rw [World.frozen?_setCell]; exact h.frz, h.grown.trans hg⟩

set_option maxRecDepth 100000 in
set_option maxHeartbeats 1000000 in
theorem order2_any (h1 : sp ≠ blk) (h2 : sp ≠ pv) (sf : Nat) (sb : Array Value) (a b : Nat) (W : World) (h : Cn blk off pv cap n sp W d s W) (hs : s ≤ 1048576) (ha : a < n) (hb : b < n) :
    Calls Try.prog 114 #[.agg (dat pv sf sb), .int .i64 a, .int .i64 b, .pointer (some ⟨sp, 0, none⟩)] W fun e w' => e = .returned (.tuple #[.int .i64 (order2 ltPm d a b s).1, .int .i64 (order2 ltPm d a b s).2.1]) ∧ Cn blk off pv cap n sp W d (order2 ltPm d a b s).2.2 w' := by
  have hlt := h.rw.lt
  have hsp := cell_in' h.cnt
  have hbx : W.heap.size ≠ sp := by show _ ≠ (⟨sp, 0, none⟩ : Addr).block; omega
  obtain ⟨wB, hwB⟩ : ∃ wB, wB = W.alloc (.cells (dat pv sf sb) 127) := ⟨_, rfl⟩
  have G0 := hide (show W.grownBy wB (some sp) from hwB ▸ World.grownBy_alloc W _ _)
  have H0 := hide (show Cn blk off pv cap n sp wB d s wB from ⟨h.size, (h.below (hwB ▸ (Below.refl _ _).alloc (Nat.le_refl _) _)).rw, (h.below (hwB ▸ (Below.refl _ _).alloc (Nat.le_refl _) _)).cnt, (h.below (hwB ▸ (Below.refl _ _).alloc (Nat.le_refl _) _)).frz, World.grownBy.refl _ _⟩)
  have b0 : wB.cell? ⟨W.heap.size, 0, none⟩ = some (.func (.func 66) #[] #[.pointer (some ⟨pv, 0, none⟩)]) := by rw [hwB]; simp [dat]
  have b1 : wB.cell? ⟨W.heap.size, 1, none⟩ = some (.func (.func sf) #[] sb) := by rw [hwB]; simp [dat]
  have BX := hide (And.intro b0 b1)
  clear h b0 b1 hsp
  unfold dat at *
  go_enter Try.func114, Try.ntmps114
  have c0 := BX.out.1
  rw [hwB] at c0
  go_wp2_with fail
  rw [← hwB]
  clear hwB c0
  have hl := hide (H0.out.less b a hb ha)
  refine Calls.mono (hl.out _ _ rfl rfl) ?_
  rintro e w2 ⟨rfl, hM⟩
  have M := hide hM
  clear hM hl
  cases hlv : ltPm d[b]! d[a]! with
  | true =>
    have k1 := M.out.cnt
    have k2 := M.out.frz
    go_wp2
    go_ret2
    have e : order2 ltPm d a b s = (b, a, s + 1) := by unfold order2; rw [if_pos hlv]
    rw [e]
    exact ⟨rfl, (M.out.bump h1 h2 (s + 1)).from G0.out⟩
  | false =>
    go_wp2
    go_ret2
    have e : order2 ltPm d a b s = (a, b, s) := by unfold order2; rw [if_neg (by rw [hlv]; decide)]
    rw [e]
    exact ⟨rfl, M.out.from G0.out⟩

theorem Cn.here (h : Cn blk off pv cap n sp wB d s wr) : Cn blk off pv cap n sp wr d s wr := ⟨h.size, h.rw, h.cnt, h.frz, World.grownBy.refl _ _⟩
theorem Cn.order2 (h : Cn blk off pv cap n sp wB d s wr) (h1 : sp ≠ blk) (h2 : sp ≠ pv) (sf : Nat) (sb : Array Value) (a b a1 b1 s1 : Nat) (hs : s ≤ 1048000) (ha : a < n) (hb : b < n) (hr : Sort.order2 ltPm d a b s = (a1, b1, s1)) (x y : Int) (hx : x = a) (hy : y = b) :
    Calls Try.prog 114 #[.agg (dat pv sf sb), .int .i64 x, .int .i64 y, .pointer (some ⟨sp, 0, none⟩)] wr fun e w' => e = .returned (.tuple #[.int .i64 a1, .int .i64 b1]) ∧ Cn blk off pv cap n sp wB d s1 w' := by
  subst hx hy
  refine (order2_any h1 h2 sf sb a b wr h.here (by omega) ha hb).mono fun _ _ ⟨he, hm⟩ => ?_
  rw [hr] at he hm
  exact ⟨he, hm.from h.grown⟩
theorem ord_lt {a b s a1 b1 s1 m : Nat} (h : Sort.order2 ltPm d a b s = (a1, b1, s1)) (ha : a < m) (hb : b < m) : a1 < m ∧ b1 < m ∧ s1 ≤ s + 1 := by
  unfold Sort.order2 at h
  split at h <;> (cases h; omega)

set_option maxRecDepth 100000 in
set_option maxHeartbeats 1000000 in
theorem median_any (h1 : sp ≠ blk) (h2 : sp ≠ pv) (sf : Nat) (sb : Array Value) (a b c : Nat) (W : World) (h : Cn blk off pv cap n sp W d s W) (hs : s ≤ 1000) (ha : a < n) (hb : b < n) (hc : c < n) :
    Calls Try.prog 107 #[.agg (dat pv sf sb), .int .i64 a, .int .i64 b, .int .i64 c, .pointer (some ⟨sp, 0, none⟩)] W fun e w' => e = .returned (.int .i64 (median ltPm d a b c s).1) ∧ Cn blk off pv cap n sp W d (median ltPm d a b c s).2 w' := by
  obtain ⟨⟨a1, b1, s1⟩, hr1⟩ : ∃ r, Sort.order2 ltPm d a b s = r := ⟨_, rfl⟩
  obtain ⟨⟨b2, c2, s2⟩, hr2⟩ : ∃ r, Sort.order2 ltPm d b1 c s1 = r := ⟨_, rfl⟩
  obtain ⟨⟨a3, b3, s3⟩, hr3⟩ : ∃ r, Sort.order2 ltPm d a1 b2 s2 = r := ⟨_, rfl⟩
  have L1 := ord_lt hr1 ha hb
  have L2 := ord_lt hr2 L1.2.1 hc
  have L3 := ord_lt hr3 L1.1 L2.1
  have hm : median ltPm d a b c s = (b3, s3) := by unfold median; simp only [hr1, hr2, hr3]
  rw [hm]
  clear hm
  have hlt := h.rw.lt
  have hsp := cell_in' h.cnt
  have hbx : W.heap.size ≠ sp := by show _ ≠ (⟨sp, 0, none⟩ : Addr).block; omega
  obtain ⟨wB, hwB⟩ : ∃ wB, wB = W.alloc (.cells (dat pv sf sb) 127) := ⟨_, rfl⟩
  have G0 := hide (show W.grownBy wB (some sp) from hwB ▸ World.grownBy_alloc W _ _)
  have H0 := hide (show Cn blk off pv cap n sp wB d s wB from ⟨h.size, (h.below (hwB ▸ (Below.refl _ _).alloc (Nat.le_refl _) _)).rw, (h.below (hwB ▸ (Below.refl _ _).alloc (Nat.le_refl _) _)).cnt, (h.below (hwB ▸ (Below.refl _ _).alloc (Nat.le_refl _) _)).frz, World.grownBy.refl _ _⟩)
  have b0 : wB.cell? ⟨W.heap.size, 0, none⟩ = some (.func (.func 66) #[] #[.pointer (some ⟨pv, 0, none⟩)]) := by rw [hwB]; simp [dat]
  have b1 : wB.cell? ⟨W.heap.size, 1, none⟩ = some (.func (.func sf) #[] sb) := by rw [hwB]; simp [dat]
  have BX := hide (And.intro b0 b1)
  clear h b0 b1 hsp
  unfold dat at *
  go_enter Try.func107, Try.ntmps107
  go_wp2_with fail
  rw [← hwB]
  clear hwB
  have hl := hide (H0.out.order2 h1 h2 sf sb a b a1 b1 s1 (by omega) ha hb hr1)
  unfold dat at hl
  refine Calls.mono (hl.out _ _ rfl rfl) ?_
  rintro e w2 ⟨rfl, hM⟩
  have M := hide hM
  clear hM hl
  have c0 := M.out.box BX.out.1 hbx
  have c1 := M.out.box BX.out.2 hbx
  have hl := hide (M.out.order2 h1 h2 sf sb b1 c b2 c2 s2 (by omega) L1.2.1 hc hr2)
  unfold dat at hl
  go_wp2_with fail
  refine Calls.mono (hl.out _ _ rfl rfl) ?_
  rintro e w3 ⟨rfl, hM⟩
  have M2 := hide hM
  clear hM hl c0 c1 M
  have c0 := M2.out.box BX.out.1 hbx
  have c1 := M2.out.box BX.out.2 hbx
  have hl := hide (M2.out.order2 h1 h2 sf sb a1 b2 a3 b3 s3 (by omega) L1.1 L2.1 hr3)
  unfold dat at hl
  go_wp2_with fail
  refine Calls.mono (hl.out _ _ rfl rfl) ?_
  rintro e w4 ⟨rfl, hM⟩
  have M3 := hide hM
  clear hM hl c0 c1 M2
  go_wp2
  go_ret
  exact ⟨rfl, M3.out.from G0.out⟩

theorem med_lt {a b c s m1 s1 m : Nat} (h : median ltPm d a b c s = (m1, s1)) (ha : a < m) (hb : b < m) (hc : c < m) : m1 < m ∧ s1 ≤ s + 3 := by
  have h1 := median_mem ltPm d a b c s
  have h2 := median_count ltPm d a b c s
  rw [h] at h1 h2
  dsimp only at h1 h2
  omega
theorem Cn.median (h : Cn blk off pv cap n sp wB d s wr) (h1 : sp ≠ blk) (h2 : sp ≠ pv) (sf : Nat) (sb : Array Value) (a b c m1 s1 : Nat) (hs : s ≤ 1000) (ha : a < n) (hb : b < n) (hc : c < n) (hr : Sort.median ltPm d a b c s = (m1, s1)) (x y z : Int) (hx : x = a) (hy : y = b) (hz : z = c) :
    Calls Try.prog 107 #[.agg (dat pv sf sb), .int .i64 x, .int .i64 y, .int .i64 z, .pointer (some ⟨sp, 0, none⟩)] wr fun e w' => e = .returned (.int .i64 m1) ∧ Cn blk off pv cap n sp wB d s1 w' := by
  subst hx hy hz
  refine (median_any h1 h2 sf sb a b c wr h.here hs ha hb hc).mono fun _ _ ⟨he, hm⟩ => ?_
  rw [hr] at he hm
  exact ⟨he, hm.from h.grown⟩

set_option maxRecDepth 100000 in
set_option maxHeartbeats 1000000 in
theorem medianAdj_any (h1 : sp ≠ blk) (h2 : sp ≠ pv) (sf : Nat) (sb : Array Value) (a : Nat) (W : World) (h : Cn blk off pv cap n sp W d s W) (hs : s ≤ 1000) (hn : n ≤ 1048576) (ha0 : 0 < a) (ha : a + 1 < n) :
    Calls Try.prog 106 #[.agg (dat pv sf sb), .int .i64 a, .pointer (some ⟨sp, 0, none⟩)] W fun e w' => e = .returned (.int .i64 (medianAdjacent ltPm d a s).1) ∧ Cn blk off pv cap n sp W d (medianAdjacent ltPm d a s).2 w' := by
  obtain ⟨⟨m1, s1⟩, hr1⟩ : ∃ r, medianAdjacent ltPm d a s = r := ⟨_, rfl⟩
  rw [hr1]
  have hlt := h.rw.lt
  have hsp := cell_in' h.cnt
  have hbx : W.heap.size ≠ sp := by show _ ≠ (⟨sp, 0, none⟩ : Addr).block; omega
  obtain ⟨wB, hwB⟩ : ∃ wB, wB = W.alloc (.cells (dat pv sf sb) 127) := ⟨_, rfl⟩
  have G0 := hide (show W.grownBy wB (some sp) from hwB ▸ World.grownBy_alloc W _ _)
  have H0 := hide (show Cn blk off pv cap n sp wB d s wB from ⟨h.size, (h.below (hwB ▸ (Below.refl _ _).alloc (Nat.le_refl _) _)).rw, (h.below (hwB ▸ (Below.refl _ _).alloc (Nat.le_refl _) _)).cnt, (h.below (hwB ▸ (Below.refl _ _).alloc (Nat.le_refl _) _)).frz, World.grownBy.refl _ _⟩)
  have b0 : wB.cell? ⟨W.heap.size, 0, none⟩ = some (.func (.func 66) #[] #[.pointer (some ⟨pv, 0, none⟩)]) := by rw [hwB]; simp [dat]
  have b1 : wB.cell? ⟨W.heap.size, 1, none⟩ = some (.func (.func sf) #[] sb) := by rw [hwB]; simp [dat]
  have BX := hide (And.intro b0 b1)
  clear h b0 b1 hsp
  unfold dat at *
  go_enter Try.func106, Try.ntmps106
  go_wp2_with fail
  rw [← hwB]
  clear hwB
  have hl := hide (H0.out.median h1 h2 sf sb (a - 1) a (a + 1) m1 s1 hs (by omega) (by omega) (by omega) hr1)
  unfold dat at hl
  refine Calls.mono (hl.out _ _ _ (by omega) (by omega) (by omega)) ?_
  rintro e w2 ⟨rfl, hM⟩
  have M := hide hM
  clear hM hl
  go_wp2
  go_ret
  exact ⟨rfl, M.out.from G0.out⟩
theorem Cn.medianAdj (h : Cn blk off pv cap n sp wB d s wr) (h1 : sp ≠ blk) (h2 : sp ≠ pv) (sf : Nat) (sb : Array Value) (a m1 s1 : Nat) (hs : s ≤ 1000) (hn : n ≤ 1048576) (ha0 : 0 < a) (ha : a + 1 < n) (hr : medianAdjacent ltPm d a s = (m1, s1)) (x : Int) (hx : x = a) :
    Calls Try.prog 106 #[.agg (dat pv sf sb), .int .i64 x, .pointer (some ⟨sp, 0, none⟩)] wr fun e w' => e = .returned (.int .i64 m1) ∧ Cn blk off pv cap n sp wB d s1 w' := by
  subst hx
  refine (medianAdj_any h1 h2 sf sb a wr h.here hs hn ha0 ha).mono fun _ _ ⟨he, hm⟩ => ?_
  rw [hr] at he hm
  exact ⟨he, hm.from h.grown⟩

end
end Go.Proofs.Qxb6614755a
