/- ZZgrant (36) on the policy in memory. -/
import Derived.Test.Qxb6614755aPop
namespace Go.Proofs.Qxb6614755a
open Go.RowKit Go.Maps Go.WideMaps

theorem grown_drew (w : World) : w.grownBy w.drew none := grown_of_below (bel0 w)

set_option maxRecDepth 100000 in
set_option maxHeartbeats 1000000 in
theorem grant_st {w0 w : World} {T : Nat} {tag : Nat → Tg} {g : Gh} (h : St w0 w T tag g) (hT : T ≤ 16777208) (y op obj : ByteArray) (hy : y.size ≤ maxLen) (ho : op.size ≤ maxLen) (hj : obj.size ≤ maxLen) (hR : g.R y.toList) :
    Calls Try.prog 36 #[.pointer (some ⟨g.bp, 0, none⟩), .string y, .string op, .string obj] w (Turns w0 T 4 g.bp fun g' => (∀ u, g'.U u ↔ g.U u) ∧ (∀ u v, g'.asg u v ↔ g.asg u v) ∧ (∀ u, g'.R u ↔ g.R u) ∧ ∀ u p, g'.gr u p ↔ g.gr u p ∨ (u = y.toList ∧ p = (op, obj))) := by
  obtain ⟨c, hc⟩ := hR
  obtain ⟨w1, hw1⟩ : ∃ w1, w1 = w.alloc (.cells #[.string op, .string obj] 58) := ⟨_, rfl⟩
  have v0 : w1.cell? ⟨w.heap.size, 0, none⟩ = some (.string op) := by rw [hw1]; simp
  have v1 : w1.cell? ⟨w.heap.size, 1, none⟩ = some (.string obj) := by rw [hw1]; simp
  have h1 : St w0 w1 T tag g := h.stays (hw1 ▸ World.grownBy_alloc _ _ _)
  have low : ∀ {b : Nat} {t : Tg}, tag b = t → t ≠ .no → some w.heap.size ≠ some b := fun hb ht e => by have := Option.some.inj e; have := h.in hb ht; omega
  obtain ⟨s1, k1⟩ := h1.ops
  obtain ⟨w2, hr2, hs2, hg2⟩ := k1.put Try.underlying36 (by omega) op ho
  have h2 := h1.putO ⟨_, hs2⟩ hg2
  obtain ⟨s2, k2⟩ := h2.objs
  obtain ⟨w3, hr3, hs3, hg3⟩ := k2.put Try.underlying36 (by omega) obj hj
  have h3 := (h2.putJ ⟨_, hs3⟩ hg3).stays (grown_drew w3)
  obtain ⟨s3, k3⟩ := h3.r2 _ c hc
  obtain ⟨w4, hr4, hs4, hg4⟩ := k3.put Try.underlying74 (by omega) (op, obj) ho hj
  have h4' := h3.putRg hc ⟨_, hs4⟩ hg4
  have h4 := h4'.stays (grown_drew w4)
  obtain ⟨w5, hr5, hs5, hg5⟩ := (h4.r5 _ c hc).put Try.underlying75 (by omega) (op, obj) ho hj
  have h5 := h4.putRp hc hs5 hg5
  have hN := hide h5
  have d0 : w3.drew.cell? ⟨w.heap.size, 0, none⟩ = some (.string op) := (grown_drew w3).cell (hg3.cell (hg2.cell v0 (low h.to (by simp))) (low h.tj (by simp))) (by simp)
  have d1 : w3.drew.cell? ⟨w.heap.size, 1, none⟩ = some (.string obj) := (grown_drew w3).cell (hg3.cell (hg2.cell v1 (low h.to (by simp))) (low h.tj (by simp))) (by simp)
  have f0 : w4.drew.cell? ⟨w.heap.size, 0, none⟩ = some (.string op) := (grown_drew w4).cell (hg4.cell d0 (low (h.rt _ c hc).2.2.1 (by simp))) (by simp)
  have f1 : w4.drew.cell? ⟨w.heap.size, 1, none⟩ = some (.string obj) := (grown_drew w4).cell (hg4.cell d1 (low (h.rt _ c hc).2.2.1 (by simp))) (by simp)
  have S3 := hide (And.intro h3.c3 (And.intro (h3.rm.look Try.underlying65 (zero71 _) y hy hc) (And.intro (h3.rc _ c hc).2.1 (And.intro d0 d1))))
  have S4 := hide (And.intro h4.c3 (And.intro (h4.rm.look Try.underlying65 (zero71 _) y hy hc) (And.intro (h4.rc _ c hc).2.2 (And.intro f0 f1))))
  have e0 := hg4.cell d0 (low (h.rt _ c hc).2.2.1 (by simp))
  have e1 := hg4.cell d1 (low (h.rt _ c hc).2.2.1 (by simp))
  have S3b := hide (And.intro h4'.c3 (And.intro (h4'.rm.look Try.underlying65 (zero71 _) y hy hc) (And.intro (h4'.rc _ c hc).2.1 (And.intro e0 e1))))
  have S4b := hide (And.intro h5.c3 (And.intro (h5.rm.look Try.underlying65 (zero71 _) y hy hc) (And.intro (h5.rc _ c hc).2.2 (And.intro (hg5.cell f0 (low (h.rt _ c hc).2.2.2 (by simp))) (hg5.cell f1 (low (h.rt _ c hc).2.2.2 (by simp)))))))
  have c0 := h1.c0
  have c1 := h2.c1
  unfold pmV at hr4 hr5
  dsimp only at hr4 hr5
  rw [hw1] at hr2 c0
  clear h h1 h2 h3 h4 h4' h5 e0 e1 k1 k2 k3 hs2 hg2 hs3 hg3 hs4 hg4 hs5 hg5 v0 v1 d0 d1 f0 f1 low
  go_enter Try.func36, Try.ntmps36
  go_wp2
  go_region_held3 (fun V => V.cell? ⟨g.bp, 3, none⟩ = some (.map (some g.br)) ∧ (Instr.lookup 65 (.map (some g.br)) (.string y) false).run Try.prog V = .ok (.pointer (some ⟨c, 0, none⟩)) V ∧ V.cell? ⟨c, 2, none⟩ = some (.map (some (g.rg y.toList))) ∧ V.cell? ⟨w.heap.size, 0, none⟩ = some (.string op) ∧ V.cell? ⟨w.heap.size, 1, none⟩ = some (.string obj))
    (first | exact S3.out | exact S3b.out) (fail)
  go_wp2
  go_region_held3 (fun V => V.cell? ⟨g.bp, 3, none⟩ = some (.map (some g.br)) ∧ (Instr.lookup 65 (.map (some g.br)) (.string y) false).run Try.prog V = .ok (.pointer (some ⟨c, 0, none⟩)) V ∧ V.cell? ⟨c, 5, none⟩ = some (.map (some (g.rp y.toList))) ∧ V.cell? ⟨w.heap.size, 0, none⟩ = some (.string op) ∧ V.cell? ⟨w.heap.size, 1, none⟩ = some (.string obj))
    (first | exact S4.out | exact S4b.out) (fail)
  go_wp2
  go_end0
  refine ⟨rfl, _, _, hN.out, rfl, fun u => Iff.rfl, fun u v => Iff.rfl, fun u => Iff.rfl, fun u p => ?_⟩
  dsimp only
  by_cases e : u = y.toList
  · subst e; simp
  · simp [e]
end Go.Proofs.Qxb6614755a
