/- sort.Slice's family at a 'less' that lays blocks: siftDown_func (103), heapSort_func (87). -/
import Derived.Test.Qxb6614755aPs1
namespace Go.Proofs.Qxb6614755a
open Go.RowKit Go.Sort
section
variable {blk off pv cap n : Nat} {wB wr w' : World} {dk : Array Pm}

theorem sift_stop (hi first root : Nat) (d : Array Pm) (h : hi ≤ 2 * root + 1) : siftDown ltPm hi first root d = d := by rw [siftDown, dif_pos h]
theorem sift_right (hi first root : Nat) (d : Array Pm) (h : 2 * root + 2 < hi) (h1 : ltPm d[first + (2 * root + 1)]! d[first + (2 * root + 2)]! = true) : siftDown ltPm hi first root d = if ltPm d[first + root]! d[first + (2 * root + 2)]! = true then siftDown ltPm hi first (2 * root + 2) (swp d (first + root) (first + (2 * root + 2))) else d := by
  have h1' : ltPm d[first + (2 * root + 1)]! d[first + (2 * root + 1) + 1]! = true := h1
  rw [siftDown, dif_neg (by omega), if_pos (by simp [h1', show 2 * root + 1 + 1 < hi by omega]), dif_pos h]
  cases ltPm d[first + root]! d[first + (2 * root + 2)]! <;> simp
theorem sift_left (hi first root : Nat) (d : Array Pm) (h : 2 * root + 1 < hi) (h1 : ¬ (2 * root + 2 < hi) ∨ ltPm d[first + (2 * root + 1)]! d[first + (2 * root + 2)]! = false) : siftDown ltPm hi first root d = if ltPm d[first + root]! d[first + (2 * root + 1)]! = true then siftDown ltPm hi first (2 * root + 1) (swp d (first + root) (first + (2 * root + 1))) else d := by
  have h1' : ¬ (2 * root + 1 + 1 < hi) ∨ ltPm d[first + (2 * root + 1)]! d[first + (2 * root + 1) + 1]! = false := h1
  have hc : ¬ ((decide (2 * root + 1 + 1 < hi) && ltPm d[first + (2 * root + 1)]! d[first + (2 * root + 1) + 1]!) = true) := by
    rcases h1' with h1' | h1'
    · simp [h1']
    · simp [h1']
  rw [siftDown, dif_neg (by omega), if_neg hc]
  cases ltPm d[first + root]! d[first + (2 * root + 1)]! <;> simp

set_option maxRecDepth 100000 in
set_option maxHeartbeats 1000000 in
theorem sift_any (hne : pv ≠ blk) {sf : Nat} {sb : Array Value} (hsw : SwapSwapsK Try.prog sf sb encPm 2 blk off n) (hn : n ≤ 1048576) (lo hi first : Nat) (d : Array Pm) (W : World) (h : Rw blk off pv cap d W) (hd : d.size = n) (hlo : lo ≤ n) (hhi : first + hi ≤ n) :
    Calls Try.prog 103 #[.agg (dat pv sf sb), .int .i64 lo, .int .i64 hi, .int .i64 first] W (Does blk off pv cap n W (siftDown ltPm hi first lo d)) := by
  subst hd
  have HSW := hide hsw
  have hlt := h.lt
  have hbx : W.heap.size ≠ blk := by omega
  obtain ⟨wB, hwB⟩ : ∃ wB, wB = W.alloc (.cells (dat pv sf sb) 127) := ⟨_, rfl⟩
  have G0 := hide (show W.grownBy wB (some blk) from hwB ▸ World.grownBy_alloc W _ _)
  have H0 := hide (show Mv blk off pv cap d.size wB d wB from Mv.start (h.below (hwB ▸ (Below.refl _ _).alloc (Nat.le_refl _) _)))
  have b0 : wB.cell? ⟨W.heap.size, 0, none⟩ = some (.func (.func 66) #[] #[.pointer (some ⟨pv, 0, none⟩)]) := by rw [hwB]; simp [dat]
  have b1 : wB.cell? ⟨W.heap.size, 1, none⟩ = some (.func (.func sf) #[] sb) := by rw [hwB]; simp [dat]
  have BX := hide (And.intro b0 b1)
  clear h hsw b0 b1
  unfold dat at *
  go_enter Try.func103, Try.ntmps103
  go_wp2
  rw [← hwB]
  clear hwB
  go_loopw [8] (fun vi wr => ∃ (root : Nat) (dk : Array Pm), vi = .int .i64 root ∧ root ≤ d.size ∧ Hid (Mv blk off pv cap d.size wB dk wr) ∧ Hid (siftDown ltPm hi first root dk = siftDown ltPm hi first lo d)) (fun vi _ => d.size - (intOf vi).toNat)
  case atStart => exact ⟨lo, d, rfl, hlo, H0, rfl⟩
  case round =>
    obtain ⟨root, dk, rfl, hr, hM, HO⟩ := hrel
    rename World => wr
    clear H0
    by_cases h1 : hi ≤ 2 * root + 1
    · go_wp2
      go_end0
      exact ⟨rfl, by have := hM.out.from G0.out; rw [← HO.out, sift_stop _ _ _ _ h1]; exact this⟩
    have c0 := hM.out.box BX.out.1 hbx
    by_cases h2 : 2 * root + 2 < hi
    · have hl := hide (hM.out.less (first + (2 * root + 1)) (first + (2 * root + 2)) (by omega) (by omega))
      go_wp2_with fail
      refine Calls.mono (hl.out _ _ (by omega) (by omega)) ?_
      rintro e m1w ⟨rfl, hM⟩
      have M1 := hide hM
      clear hM hl
      have c0' := M1.out.box BX.out.1 hbx
      cases hlc : ltPm dk[first + (2 * root + 1)]! dk[first + (2 * root + 2)]! with
      | true =>
        have hl := hide (M1.out.less (first + root) (first + (2 * root + 2)) (by omega) (by omega))
        go_wp2_with fail
        refine Calls.mono (hl.out _ _ (by omega) (by omega)) ?_
        rintro e m2w ⟨rfl, hM⟩
        have M2 := hide hM
        clear hM hl
        cases hlv : ltPm dk[first + root]! dk[first + (2 * root + 2)]! with
        | false =>
          go_wp2
          go_end0
          exact ⟨rfl, by have := M2.out.from G0.out; rw [← HO.out, sift_right _ _ _ _ h2 hlc, if_neg (by rw [hlv]; decide)]; exact this⟩
        | true =>
          have hs := hide (M2.out.swap hne HSW.out (first + root) (first + (2 * root + 2)) (by omega) (by omega))
          have c1 := M2.out.box BX.out.2 hbx
          go_wp2
          rw [hs.out.1]
          rotate_left
          · omega
          · omega
          rw [Oper.upon_value]
          go_wp2
          go_roundw
          case rel => exact ⟨2 * root + 2, swp dk (first + root) (first + (2 * root + 2)), by go_num, by omega, hs.out.2, hide (by rw [← HO.out, sift_right _ _ _ _ h2 hlc, if_pos hlv])⟩
          case measure => simp [intOf]; omega
      | false =>
        have hl := hide (M1.out.less (first + root) (first + (2 * root + 1)) (by omega) (by omega))
        go_wp2_with fail
        refine Calls.mono (hl.out _ _ (by omega) (by omega)) ?_
        rintro e m2w ⟨rfl, hM⟩
        have M2 := hide hM
        clear hM hl
        cases hlv : ltPm dk[first + root]! dk[first + (2 * root + 1)]! with
        | false =>
          go_wp2
          go_end0
          exact ⟨rfl, by have := M2.out.from G0.out; rw [← HO.out, sift_left _ _ _ _ (by omega) (Or.inr hlc), if_neg (by rw [hlv]; decide)]; exact this⟩
        | true =>
          have hs := hide (M2.out.swap hne HSW.out (first + root) (first + (2 * root + 1)) (by omega) (by omega))
          have c1 := M2.out.box BX.out.2 hbx
          go_wp2
          rw [hs.out.1]
          rotate_left
          · omega
          · omega
          rw [Oper.upon_value]
          go_wp2
          go_roundw
          case rel => exact ⟨2 * root + 1, swp dk (first + root) (first + (2 * root + 1)), by go_num, by omega, hs.out.2, hide (by rw [← HO.out, sift_left _ _ _ _ (by omega) (Or.inr hlc), if_pos hlv])⟩
          case measure => simp [intOf]; omega
    · have hl := hide (hM.out.less (first + root) (first + (2 * root + 1)) (by omega) (by omega))
      go_wp2_with fail
      refine Calls.mono (hl.out _ _ (by omega) (by omega)) ?_
      rintro e m2w ⟨rfl, hM⟩
      have M2 := hide hM
      clear hM hl
      cases hlv : ltPm dk[first + root]! dk[first + (2 * root + 1)]! with
      | false =>
        go_wp2
        go_end0
        exact ⟨rfl, by have := M2.out.from G0.out; rw [← HO.out, sift_left _ _ _ _ (by omega) (Or.inl h2), if_neg (by rw [hlv]; decide)]; exact this⟩
      | true =>
        have hs := hide (M2.out.swap hne HSW.out (first + root) (first + (2 * root + 1)) (by omega) (by omega))
        have c1 := M2.out.box BX.out.2 hbx
        go_wp2
        rw [hs.out.1]
        rotate_left
        · omega
        · omega
        rw [Oper.upon_value]
        go_wp2
        go_roundw
        case rel => exact ⟨2 * root + 1, swp dk (first + root) (first + (2 * root + 1)), by go_num, by omega, hs.out.2, hide (by rw [← HO.out, sift_left _ _ _ _ (by omega) (Or.inl h2), if_pos hlv])⟩
        case measure => simp [intOf]; omega

theorem Mv.sift (h : Mv blk off pv cap n wB dk wr) (hne : pv ≠ blk) {sf : Nat} {sb : Array Value} (hsw : SwapSwapsK Try.prog sf sb encPm 2 blk off n) (hn : n ≤ 1048576) (lo hi first : Nat) (hlo : lo ≤ n) (hhi : first + hi ≤ n) (x y z : Int) (hx : x = lo) (hy : y = hi) (hz : z = first) :
    Calls Try.prog 103 #[.agg (dat pv sf sb), .int .i64 x, .int .i64 y, .int .i64 z] wr (Does blk off pv cap n wB (siftDown ltPm hi first lo dk)) := by
  subst hx hy hz
  exact (sift_any hne hsw hn lo hi first dk wr h.rw h.size hlo hhi).mono fun _ _ ⟨he, hm⟩ => ⟨he, hm.from h.grown⟩
theorem half_nat (a b : Nat) (h : a ≤ b) : ((b : Int) - (a : Int) - 1).tdiv 2 = (((b - a - 1) / 2 : Nat) : Int) := by
  rcases Nat.eq_or_lt_of_le h with rfl | h
  · simp
  · rw [show (b : Int) - (a : Int) - 1 = ((b - a - 1 : Nat) : Int) by omega]
    rfl

set_option maxRecDepth 100000 in
set_option maxHeartbeats 1000000 in
theorem heap_any (hne : pv ≠ blk) {sf : Nat} {sb : Array Value} (hsw : SwapSwapsK Try.prog sf sb encPm 2 blk off n) (hn : n ≤ 1048576) (a b : Nat) (d : Array Pm) (W : World) (h : Rw blk off pv cap d W) (hd : d.size = n) (hab : a ≤ b) (hb : b ≤ n) :
    Calls Try.prog 87 #[.agg (dat pv sf sb), .int .i64 a, .int .i64 b] W (Does blk off pv cap n W (heapSort ltPm d a b)) := by
  subst hd
  have HSW := hide hsw
  have hlt := h.lt
  have hbx : W.heap.size ≠ blk := by omega
  obtain ⟨wB, hwB⟩ : ∃ wB, wB = W.alloc (.cells (dat pv sf sb) 127) := ⟨_, rfl⟩
  have G0 := hide (show W.grownBy wB (some blk) from hwB ▸ World.grownBy_alloc W _ _)
  have H0 := hide (show Mv blk off pv cap d.size wB d wB from Mv.start (h.below (hwB ▸ (Below.refl _ _).alloc (Nat.le_refl _) _)))
  have b0 : wB.cell? ⟨W.heap.size, 0, none⟩ = some (.func (.func 66) #[] #[.pointer (some ⟨pv, 0, none⟩)]) := by rw [hwB]; simp [dat]
  have b1 : wB.cell? ⟨W.heap.size, 1, none⟩ = some (.func (.func sf) #[] sb) := by rw [hwB]; simp [dat]
  have BX := hide (And.intro b0 b1)
  clear h hsw b0 b1
  unfold dat at *
  have ediv := half_nat a b hab
  go_enter Try.func87, Try.ntmps87
  go_wp2
  rw [← hwB]
  clear hwB
  clear ediv
  have hh := Nat.div_le_self (b - a - 1) 2
  go_loopw [9] (fun vi wr => ∃ (q : Nat) (dk : Array Pm), vi = .int .i64 ((q : Int) - 1) ∧ q ≤ (b - a - 1) / 2 + 1 ∧ Hid (Mv blk off pv cap d.size wB dk wr) ∧ Hid (heapBuild ltPm (b - a) a q dk = heapBuild ltPm (b - a) a ((b - a - 1) / 2 + 1) d)) (fun vi _ => (intOf vi + 1).toNat)
  case atStart => exact ⟨(b - a - 1) / 2 + 1, d, by congr 1; omega, Nat.le_refl _, H0, rfl⟩
  case round =>
    obtain ⟨q, dk, rfl, hq, hM, HO⟩ := hrel
    rename World => wr
    clear H0
    cases q with
    | succ q =>
      have c0 := hM.out.box BX.out.1 hbx
      have c1 := hM.out.box BX.out.2 hbx
      have hl := hide (hM.out.sift hne HSW.out hn q (b - a) a (by omega) (by omega))
      unfold dat at hl
      go_wp2_with fail
      refine Calls.mono (hl.out _ _ _ (by omega) (by omega) (by omega)) ?_
      rintro e w2 ⟨rfl, hM2⟩
      have M2 := hide hM2
      clear hM2 hl
      go_wp2
      go_roundw
      case rel => exact ⟨q, _, by go_num, by omega, M2, hide (by rw [← HO.out]; rfl)⟩
      case measure => simp [intOf]
    | zero =>
      have HB := hide (show heapBuild ltPm (b - a) a ((b - a - 1) / 2 + 1) d = dk from HO.out.symm)
      clear HO hq
      rw [show (((0 : Nat) : Int) - 1) = -1 from rfl]
      go_wp2
      go_loopw [10] (fun vi wr => ∃ (q : Nat) (dj : Array Pm), vi = .int .i64 ((q : Int) - 1) ∧ q ≤ b - a ∧ Hid (Mv blk off pv cap d.size wB dj wr) ∧ Hid (heapPop ltPm a q dj = heapPop ltPm a (b - a) dk)) (fun vi _ => (intOf vi + 1).toNat)
      case atStart => exact ⟨b - a, dk, by congr 1; omega, Nat.le_refl _, hM, rfl⟩
      case round =>
        clear hM
        obtain ⟨q, dj, rfl, hq, hM, HO⟩ := hrel
        rename World => wr
        cases q with
        | zero =>
          go_wp2
          go_end0
          exact ⟨rfl, by have := hM.out.from G0.out; rw [heapSort, HB.out, ← HO.out]; exact this⟩
        | succ q =>
          have hs := hide (hM.out.swap hne HSW.out (a) (a + q) (by omega) (by omega))
          have c1 := hM.out.box BX.out.2 hbx
          go_wp2
          rw [hs.out.1]
          rotate_left
          · omega
          · omega
          rw [Oper.upon_value]
          have M1 := hide hs.out.2
          clear hs c1
          have c0 := M1.out.box BX.out.1 hbx
          have c1 := M1.out.box BX.out.2 hbx
          generalize swW blk off dj a (a + q) wr = wq at M1 c0 c1
          have hl := hide (M1.out.sift hne HSW.out hn 0 q a (by omega) (by omega))
          unfold dat at hl
          go_wp2_with fail
          refine Calls.mono (hl.out _ _ _ (by omega) (by omega) (by omega)) ?_
          rintro e w2 ⟨rfl, hM2⟩
          have M2 := hide hM2
          clear hM2 hl
          go_wp2
          go_roundw
          case rel => exact ⟨q, _, by go_num, by omega, M2, hide (by rw [← HO.out]; rfl)⟩
          case measure => simp [intOf]
end
end Go.Proofs.Qxb6614755a
