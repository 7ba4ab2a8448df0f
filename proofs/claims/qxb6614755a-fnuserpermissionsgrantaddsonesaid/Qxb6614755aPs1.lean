/- sort.Slice's family at a 'less' that lays blocks: what each function is told (Mv); insertionSort_func (86). -/
import Derived.Test.Qxb6614755aPs0
import Derived.Sort.WalkA
namespace Go.Proofs.Qxb6614755a
open Go.RowKit Go.Sort

/-- 'data': the closure and Swapper's literal. -/
def dat (pv sf : Nat) (sb : Array Value) : Array Value := #[.func (.func 66) #[] #[.pointer (some ⟨pv, 0, none⟩)], .func (.func sf) #[] sb]

/-- Behind wB the row holds dk; but for the row's block and new blocks nothing has turned. -/
structure Mv (blk off pv cap n : Nat) (wB : World) (dk : Array Pm) (wr : World) : Prop where
  size : dk.size = n
  rw : Rw blk off pv cap dk wr
  grown : wB.grownBy wr (some blk)

theorem grownBy_of_below {w w' : World} (h : Below w.heap.size w w') (r : Option Nat) : w.grownBy w' r := ⟨h.os, h.tape, h.output, h.size, fun k hk _ => h.block k hk⟩

section
variable {blk off pv cap n : Nat} {wB wr w' : World} {dk : Array Pm}

theorem Mv.start (h : Rw blk off pv cap dk wB) : Mv blk off pv cap dk.size wB dk wB := ⟨rfl, h, World.grownBy.refl _ _⟩
theorem Mv.below (h : Mv blk off pv cap n wB dk wr) (hb : Below wr.heap.size wr w') : Mv blk off pv cap n wB dk w' := ⟨h.size, h.rw.below hb, h.grown.trans (grownBy_of_below hb _)⟩
theorem Mv.alloc (h : Mv blk off pv cap n wB dk wr) (o : Obj) : Mv blk off pv cap n wB dk (wr.alloc o) := h.below ((Below.refl _ _).alloc (Nat.le_refl _) _)
theorem Mv.drew (h : Mv blk off pv cap n wB dk wr) : Mv blk off pv cap n wB dk wr.drew := h.below (bel0 _)
theorem Mv.less (h : Mv blk off pv cap n wB dk wr) (i j : Nat) (hi : i < n) (hj : j < n) (x y : Int) (hx : x = i) (hy : y = j) :
    Calls Try.prog 66 #[.int .i64 x, .int .i64 y, .pointer (some ⟨pv, 0, none⟩)] wr fun e w' => e = .returned (.bool (ltPm dk[i]! dk[j]!)) ∧ Mv blk off pv cap n wB dk w' := by
  subst hx hy
  exact (less_any i j h.rw (by rw [h.size]; exact hi) (by rw [h.size]; exact hj)).mono fun _ _ ⟨he, hb⟩ => ⟨he, h.below hb⟩
theorem Mv.swap (h : Mv blk off pv cap n wB dk wr) (hne : pv ≠ blk) {sf : Nat} {sb : Array Value} (hsw : SwapSwapsK Try.prog sf sb encPm 2 blk off n) (i j : Nat) (hi : i < n) (hj : j < n) :
    (∀ x y : Int, x = i → y = j → (callFunc sf (#[.int .i64 x, .int .i64 y] ++ sb)).run Try.prog wr = .ok (.value (.tuple #[])) (swW blk off dk i j wr)) ∧ Mv blk off pv cap n wB (swp dk i j) (swW blk off dk i j wr) :=
  ⟨fun x y hx hy => by subst hx hy; exact hsw wr dk h.rw.holds h.size i j hi hj, by rw [size_swp]; exact h.size, h.rw.swap hne (by rw [h.size]; exact hi) (by rw [h.size]; exact hj), h.grown.trans (swW_grown i j)⟩
theorem Mv.box (h : Mv blk off pv cap n wB dk wr) {a : Addr} {v : Value} (hc : wB.cell? a = some v) (hne : a.block ≠ blk) : wr.cell? a = some v := h.grown.cell hc (by simpa using hne)
theorem Mv.from (h : Mv blk off pv cap n wB dk wr) {w0 : World} (hg : w0.grownBy wB (some blk)) : Mv blk off pv cap n w0 dk wr := ⟨h.size, h.rw, hg.trans h.grown⟩

/-- What a function of the family that hands nothing back does. -/
def Does (blk off pv cap n : Nat) (W : World) (d' : Array Pm) (e : Ending) (w' : World) : Prop := e = .returned (.tuple #[]) ∧ Mv blk off pv cap n W d' w'

set_option maxRecDepth 100000 in
set_option maxHeartbeats 1000000 in
theorem ins_any (hne : pv ≠ blk) {sf : Nat} {sb : Array Value} (hsw : SwapSwapsK Try.prog sf sb encPm 2 blk off n) (hn : n ≤ 1048576) (a b : Nat) (d : Array Pm) (W : World) (h : Rw blk off pv cap d W) (hd : d.size = n) (hab : a ≤ b) (hb : b ≤ n) :
    Calls Try.prog 86 #[.agg (dat pv sf sb), .int .i64 a, .int .i64 b] W (Does blk off pv cap n W (insertionSort ltPm d a b)) := by
  subst hd
  have HSW := hide hsw
  have hlt := h.lt
  have hbx : W.heap.size ≠ blk := by omega
  obtain ⟨wB, hwB⟩ : ∃ wB, wB = W.alloc (.cells (dat pv sf sb) 127) := ⟨_, rfl⟩
  have G0 := hide (show W.grownBy wB (some blk) from hwB ▸ World.grownBy_alloc W _ _)
  have H0 := hide (show Mv blk off pv cap d.size wB d wB from Mv.start (h.below (hwB ▸ (Below.refl _ _).alloc (Nat.le_refl _) _)))
  have b0 : wB.cell? ⟨W.heap.size, 0, none⟩ = some (.func (.func 66) #[] #[.pointer (some ⟨pv, 0, none⟩)]) := by rw [hwB]; simp [dat]
  have b1 : wB.cell? ⟨W.heap.size, 1, none⟩ = some (.func (.func sf) #[] sb) := by rw [hwB]; simp [dat]
  have BX := hide (And.intro b0 b1)
  clear h hsw b0 b1
  unfold dat at *
  go_enter Try.func86, Try.ntmps86
  go_wp2
  rw [← hwB]
  clear hwB
  go_loopw [6] (fun vi wr => ∃ (i : Nat) (dk : Array Pm), vi = .int .i64 i ∧ a < i ∧ i ≤ b + 1 ∧ Hid (Mv blk off pv cap d.size wB dk wr) ∧ Hid (insOuter ltPm a b i dk = insOuter ltPm a b (a + 1) d)) (fun vi _ => b + 1 - (intOf vi).toNat)
  case atStart => exact ⟨a + 1, d, by go_num, by omega, by omega, H0, rfl⟩
  case round =>
    obtain ⟨i, dk, rfl, hai, hib, hM, HO⟩ := hrel
    rename World => wr
    by_cases hib' : i < b
    · go_wp2
      go_loopw [7] (fun vj wr2 => ∃ (j : Nat) (dj : Array Pm), vj = .int .i64 j ∧ a ≤ j ∧ j ≤ i ∧ Hid (Mv blk off pv cap d.size wB dj wr2) ∧ Hid (insInner ltPm a j dj = insInner ltPm a i dk)) (fun vj _ => (intOf vj).toNat)
      case atStart => exact ⟨i, dk, rfl, by omega, Nat.le_refl _, hM, rfl⟩
      case round =>
        obtain ⟨j, dj, rfl, haj, hji, hN, HI⟩ := hrel
        clear hM
        rename World => wr2
        have c0 := hN.out.box BX.out.1 hbx
        have OUT := hide (fun (hs : j ≤ a ∨ ltPm dj[j]! dj[j - 1]! = false) => (show insOuter ltPm a b (i + 1) dj = insOuter ltPm a b (a + 1) d by rw [← HO.out, insOuter_go _ _ _ _ _ hib', ← HI.out, insInner_stop _ _ _ _ hs]))
        by_cases hja : a < j
        · obtain ⟨q, rfl⟩ : ∃ q, j = q + 1 := ⟨j - 1, by omega⟩
          have hl := hide (hN.out.less (q + 1) q (by omega) (by omega))
          go_wp2_with fail
          refine Calls.mono (hl.out _ _ (by omega) (by omega)) ?_
          rintro e w3 ⟨rfl, hM3⟩
          have M3 := hide hM3
          clear hM3 hl
          cases hlv : ltPm dj[q + 1]! dj[q]! with
          | true =>
            have hs := hide (M3.out.swap hne HSW.out (q + 1) q (by omega) (by omega))
            have c1 := M3.out.box BX.out.2 hbx
            go_wp2
            rw [hs.out.1]
            rotate_left
            · omega
            · omega
            rw [Oper.upon_value]
            go_wp2
            go_roundw
            case rel => exact ⟨q, swp dj (q + 1) q, by go_num, by omega, by omega, hs.out.2, by rw [← HI.out, insInner_go ltPm a (q + 1) dj hja hlv]; rfl⟩
            case measure => simp [intOf]
          | false =>
            go_wp2
            go_roundw
            case rel => exact ⟨i + 1, dj, by go_num, by omega, by omega, M3, OUT.out (Or.inr hlv)⟩
            case measure => simp [intOf]; omega
        · go_wp2
          go_roundw
          case rel => exact ⟨i + 1, dj, by go_num, by omega, by omega, hN, OUT.out (Or.inl (by omega))⟩
          case measure => simp [intOf]; omega
    · go_wp2
      go_end0
      exact ⟨rfl, by have := hM.out.from G0.out; unfold insertionSort; rw [← HO.out, insOuter_stop _ _ _ _ _ hib']; exact this⟩
end
end Go.Proofs.Qxb6614755a
