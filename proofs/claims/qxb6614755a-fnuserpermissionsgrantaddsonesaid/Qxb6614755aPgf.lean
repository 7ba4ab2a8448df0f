/- ZZgrant (36): what is no part of the policy stays. -/
import Derived.Test.Qxb6614755aPjl
namespace Go.Proofs.Qxb6614755a
open Go.RowKit Go.Maps Go.WideMaps

set_option maxRecDepth 100000 in
set_option maxHeartbeats 1000000 in
theorem grant_fr {w0 w : World} {T : Nat} {tag : Nat → Tg} {g : Gh} (h : St w0 w T tag g) (hT : T ≤ 16777208) (y op obj : ByteArray) (hy : y.size ≤ maxLen) (ho : op.size ≤ maxLen) (hj : obj.size ≤ maxLen) (hR : g.R y.toList) :
    Calls Try.prog 36 #[.pointer (some ⟨g.bp, 0, none⟩), .string y, .string op, .string obj] w fun e w' => e = .returned (.tuple #[]) ∧ ∃ g', St w0 w' (T + 4) tag g' ∧ g'.bp = g.bp ∧ ((∀ u, g'.U u ↔ g.U u) ∧ (∀ u v, g'.asg u v ↔ g.asg u v) ∧ (∀ u, g'.R u ↔ g.R u) ∧ ∀ u p, g'.gr u p ↔ g.gr u p ∨ (u = y.toList ∧ p = (op, obj))) ∧ w.heap.size ≤ w'.heap.size ∧ ∀ j, j < w.heap.size → tag j = .no → w'.heap[j]? = w.heap[j]? := by
  obtain ⟨c, hc⟩ := hR
  obtain ⟨w1, hw1⟩ : ∃ w1, w1 = w.alloc (.cells #[.string op, .string obj] 58) := ⟨_, rfl⟩
  have v0 : w1.cell? ⟨w.heap.size, 0, none⟩ = some (.string op) := by rw [hw1]; simp
  have v1 : w1.cell? ⟨w.heap.size, 1, none⟩ = some (.string obj) := by rw [hw1]; simp
  have h1 : St w0 w1 T tag g := h.stays (hw1 ▸ World.grownBy_alloc _ _ _)
  have low : ∀ {b : Nat} {t : Tg}, tag b = t → t ≠ .no → some w.heap.size ≠ some b := fun hb ht e => by have := Option.some.inj e; have := h.in hb ht; omega
  obtain ⟨s1, k1⟩ := h1.ops
  obtain ⟨w2, hr2, hs2, hg2⟩ := k1.put Try.underlying36 (by omega) op ho
  have h2 := h1.putO ⟨_, hs2⟩ hg2
  obtain ⟨s2, k2⟩ := h2.objs
  obtain ⟨w3, hr3, hs3, hg3⟩ := k2.put Try.underlying36 (by omega) obj hj
  have h3 := (h2.putJ ⟨_, hs3⟩ hg3).stays (grown_drew w3)
  obtain ⟨s3, k3⟩ := h3.r2 _ c hc
  obtain ⟨w4, hr4, hs4, hg4⟩ := k3.put Try.underlying74 (by omega) (op, obj) ho hj
  have h4' := h3.putRg hc ⟨_, hs4⟩ hg4
  have h4 := h4'.stays (grown_drew w4)
  obtain ⟨w5, hr5, hs5, hg5⟩ := (h4.r5 _ c hc).put Try.underlying75 (by omega) (op, obj) ho hj
  have h5 := h4.putRp hc hs5 hg5
  have hN := hide h5
  have hg1 : w.grownBy w1 none := hw1 ▸ World.grownBy_alloc _ _ _
  have z1 := hg1.size
  have z2 := Nat.le_trans z1 hg2.size
  have z3 := Nat.le_trans z2 hg3.size
  have z4 := Nat.le_trans z3 hg4.size
  have z5 := Nat.le_trans z4 hg5.size
  have tb : ∀ {j b : Nat} {t : Tg}, tag j = .no → tag b = t → t ≠ .no → some j ≠ some b := fun hj hb ht e => by cases e; exact ht (hb.symm.trans hj)
  have HFr := hide (And.intro z5 (show ∀ j, j < w.heap.size → tag j = .no → w5.heap[j]? = w.heap[j]? from fun j hj ht =>
    (hg5.block j (Nat.lt_of_lt_of_le hj z4) (tb ht (h.rt _ c hc).2.2.2 (by simp))).trans ((hg4.block j (Nat.lt_of_lt_of_le hj z3) (tb ht (h.rt _ c hc).2.2.1 (by simp))).trans ((hg3.block j (Nat.lt_of_lt_of_le hj z2) (tb ht h.tj (by simp))).trans ((hg2.block j (Nat.lt_of_lt_of_le hj z1) (tb ht h.to (by simp))).trans (hg1.block j hj (by simp)))))))
  clear z1 z2 z3 z4 z5 tb hg1
  have d0 : w3.drew.cell? ⟨w.heap.size, 0, none⟩ = some (.string op) := (grown_drew w3).cell (hg3.cell (hg2.cell v0 (low h.to (by simp))) (low h.tj (by simp))) (by simp)
  have d1 : w3.drew.cell? ⟨w.heap.size, 1, none⟩ = some (.string obj) := (grown_drew w3).cell (hg3.cell (hg2.cell v1 (low h.to (by simp))) (low h.tj (by simp))) (by simp)
  have f0 : w4.drew.cell? ⟨w.heap.size, 0, none⟩ = some (.string op) := (grown_drew w4).cell (hg4.cell d0 (low (h.rt _ c hc).2.2.1 (by simp))) (by simp)
  have f1 : w4.drew.cell? ⟨w.heap.size, 1, none⟩ = some (.string obj) := (grown_drew w4).cell (hg4.cell d1 (low (h.rt _ c hc).2.2.1 (by simp))) (by simp)
  have S3 := hide (And.intro h3.c3 (And.intro (h3.rm.look Try.underlying65 (zero71 _) y hy hc) (And.intro (h3.rc _ c hc).2.1 (And.intro d0 d1))))
  have S4 := hide (And.intro h4.c3 (And.intro (h4.rm.look Try.underlying65 (zero71 _) y hy hc) (And.intro (h4.rc _ c hc).2.2 (And.intro f0 f1))))
  have e0 := hg4.cell d0 (low (h.rt _ c hc).2.2.1 (by simp))
  have e1 := hg4.cell d1 (low (h.rt _ c hc).2.2.1 (by simp))
  have S3b := hide (And.intro h4'.c3 (And.intro (h4'.rm.look Try.underlying65 (zero71 _) y hy hc) (And.intro (h4'.rc _ c hc).2.1 (And.intro e0 e1))))
  have S4b := hide (And.intro h5.c3 (And.intro (h5.rm.look Try.underlying65 (zero71 _) y hy hc) (And.intro (h5.rc _ c hc).2.2 (And.intro (hg5.cell f0 (low (h.rt _ c hc).2.2.2 (by simp))) (hg5.cell f1 (low (h.rt _ c hc).2.2.2 (by simp)))))))
  have c0 := h1.c0
  have c1 := h2.c1
  unfold pmV at hr4 hr5
  dsimp only at hr4 hr5
  rw [hw1] at hr2 c0
  clear h h1 h2 h3 h4 h4' h5 e0 e1 k1 k2 k3 hs2 hg2 hs3 hg3 hs4 hg4 hs5 hg5 v0 v1 d0 d1 f0 f1 low
  go_enter Try.func36, Try.ntmps36
  go_wp2
  go_region_held3 (fun V => V.cell? ⟨g.bp, 3, none⟩ = some (.map (some g.br)) ∧ (Instr.lookup 65 (.map (some g.br)) (.string y) false).run Try.prog V = .ok (.pointer (some ⟨c, 0, none⟩)) V ∧ V.cell? ⟨c, 2, none⟩ = some (.map (some (g.rg y.toList))) ∧ V.cell? ⟨w.heap.size, 0, none⟩ = some (.string op) ∧ V.cell? ⟨w.heap.size, 1, none⟩ = some (.string obj))
    (first | exact S3.out | exact S3b.out) (fail)
  go_wp2
  go_region_held3 (fun V => V.cell? ⟨g.bp, 3, none⟩ = some (.map (some g.br)) ∧ (Instr.lookup 65 (.map (some g.br)) (.string y) false).run Try.prog V = .ok (.pointer (some ⟨c, 0, none⟩)) V ∧ V.cell? ⟨c, 5, none⟩ = some (.map (some (g.rp y.toList))) ∧ V.cell? ⟨w.heap.size, 0, none⟩ = some (.string op) ∧ V.cell? ⟨w.heap.size, 1, none⟩ = some (.string obj))
    (first | exact S4.out | exact S4b.out) (fail)
  go_wp2
  go_end0
  refine ⟨rfl, _, hN.out, rfl, ⟨fun u => Iff.rfl, fun u v => Iff.rfl, fun u => Iff.rfl, fun u p => ?_⟩, HFr.out⟩
  dsimp only
  by_cases e : u = y.toList
  · subst e; simp
  · simp [e]

/-- A built policy, and a block that is no part of it. -/
structure BuiltX (w0 : World) (bp T : Nat) (pu : Bs → Prop) (pa : Bs → Bs → Prop) (pr : Bs → Prop) (pg : Bs → Pm → Prop) (L : Nat) (w : World) : Prop where
  ex : ∃ tag g, St w0 w T tag g ∧ g.bp = bp ∧ (∀ x, g.U x ↔ pu x) ∧ (∀ x y, g.asg x y ↔ pa x y) ∧ (∀ y, g.R y ↔ pr y) ∧ (∀ y p, g.gr y p ↔ pg y p) ∧ tag L = .no
def GotPermsX (w0 : World) (bp T : Nat) (pu : Bs → Prop) (pa : Bs → Bs → Prop) (pr : Bs → Prop) (pg : Bs → Pm → Prop) (s : Pm → Prop) (w : World) (e : Ending) (w' : World) : Prop :=
  ∃ (b cap m : Nat) (P : Nat → Pm), e = .returned (.tuple #[.slice (some ⟨b, 0, none⟩) m cap, .bool false, .string ⟨#[]⟩]) ∧ m ≤ 1048576 ∧ SRow w' b m P s ∧ BuiltX w0 bp T pu pa pr pg b w' ∧ Below w.heap.size w w' ∧ b < w'.heap.size
section
variable {w0 w : World} {bp T : Nat} {pu : Bs → Prop} {pa : Bs → Bs → Prop} {pr : Bs → Prop} {pg : Bs → Pm → Prop}
theorem Built.permsX (h : Built w0 bp T pu pa pr pg w) (x : ByteArray) (hx : x.size ≤ maxLen) (hv : Valid x) (ha : pu x.toList) (Ls : List Pm) (hLs : ∀ y p, pg y p → p ∈ Ls) (hL : Ls.length ≤ 1048576) (hp : ∀ y p, pg y p → VPm p) (s : Pm → Prop) (hs : ∀ p, (∃ y, pa x.toList y ∧ pg y p) ↔ s p) :
    Calls Try.prog 35 #[.pointer (some ⟨bp, 0, none⟩), .string x] w (GotPermsX w0 bp T pu pa pr pg s w) := by
  obtain ⟨t, g, k1, rfl, k3, k4, k5, k6⟩ := h.ex
  refine (zzPerms_yes k1 x hx hv ((k3 _).2 ha) Ls (fun y p q => hLs y p ((k6 y p).1 q)) hL (fun y p q => vpm_sm (hp y p ((k6 y p).1 q)))).mono ?_
  rintro e w' ⟨b, cap, m, P, rfl, hm, hr, hb, hlt⟩
  have hs' : ∀ p, (∃ y, g.asg x.toList y ∧ g.gr y p) ↔ s p := fun p => Iff.trans ⟨fun ⟨y, a, b⟩ => ⟨y, (k4 _ _).1 a, (k6 _ _).1 b⟩, fun ⟨y, a, b⟩ => ⟨y, (k4 _ _).2 a, (k6 _ _).2 b⟩⟩ (hs p)
  have hr' : PermRow w' b m P s := ⟨hr.lt, hr.c0, hr.c1, hr.asc, hr.once, fun p h1 h2 => (hs' p).symm.trans (hr.mem p h1 h2), hr.small⟩
  exact ⟨b, cap, m, P, rfl, by omega, srow_of hr' (fun p q => by obtain ⟨y, _, z⟩ := (hs p).2 q; exact hp y p z), ⟨t, g, k1.stays (grown_of_below hb), rfl, k3, k4, k5, k6, Classical.byContradiction fun hn => by have := (k1.rng b hn).2; omega⟩, hb, hr.lt⟩
theorem BuiltX.grant {L : Nat} (h : BuiltX w0 bp T pu pa pr pg L w) (hT : T ≤ 16777208) (y op obj : ByteArray) (hy : y.size ≤ maxLen) (ho : op.size ≤ maxLen) (hj : obj.size ≤ maxLen) (hR : pr y.toList) (hL : L < w.heap.size) :
    Calls Try.prog 36 #[.pointer (some ⟨bp, 0, none⟩), .string y, .string op, .string obj] w fun e w' => e = .returned (.tuple #[]) ∧ Built w0 bp (T + 4) pu pa pr (fun u p => pg u p ∨ (u = y.toList ∧ p = (op, obj))) w' ∧ L < w'.heap.size ∧ w'.heap[L]? = w.heap[L]? := by
  obtain ⟨t, g, k1, rfl, k3, k4, k5, k6, k7⟩ := h.ex
  refine (grant_fr k1 hT y op obj hy ho hj ((k5 _).2 hR)).mono fun e w' ⟨he, g', j1, j2, ⟨j3, j4, j5, j6⟩, j7, j8⟩ => ⟨he, ⟨t, g', j1, j2, fun u => (j3 u).trans (k3 u), fun u v => (j4 u v).trans (k4 u v), fun u => (j5 u).trans (k5 u), fun u p => (j6 u p).trans (or_congr_left (k6 u p))⟩, Nat.lt_of_lt_of_le hL j7, j8 L hL k7⟩
end
theorem SRow.block {w w' : World} {g m : Nat} {P : Nat → Pm} {s : Pm → Prop} (h : SRow w g m P s) (hl : g < w'.heap.size) (hb : w'.heap[g]? = w.heap[g]?) : SRow w' g m P s := by
  refine ⟨?_, h.inc, h.mem, h.v⟩
  rcases h.row with h1 | ⟨b, off, e, _, h3⟩
  · exact .inl h1
  · cases e
    exact .inr ⟨g, 0, rfl, hl, fun j hj => ⟨(World.cell?_of_block (a := ⟨g, _, none⟩) hb).trans (h3 j hj).1, (World.cell?_of_block (a := ⟨g, _, none⟩) hb).trans (h3 j hj).2⟩⟩
end Go.Proofs.Qxb6614755a
