/- ZZaddUser (44), ZZaddRole (13), ZZassign (45), ZZgrant (36) on the policy in memory. -/
import Derived.Test.Qxb6614755aPst2
import Derived.Deep.RegionHeld3
namespace Go.Proofs.Qxb6614755a
open Go.RowKit Go.Maps Go.WideMaps

/-- What the policy says: its users, its roles, who is assigned, what is granted. -/
def Gh.U (g : Gh) (x : Bs) : Prop := ∃ a, g.ua x = some a
def Gh.R (g : Gh) (y : Bs) : Prop := ∃ a, g.ra y = some a

/-- Behind a call that hands nothing back: the policy stands, and says what 'says' says. -/
def Turns (w0 : World) (T k : Nat) (bp : Nat) (says : Gh → Prop) (e : Ending) (w' : World) : Prop := e = .returned (.tuple #[]) ∧ ∃ tag g, St w0 w' (T + k) tag g ∧ g.bp = bp ∧ says g

theorem heap_push' (w : World) (o : Obj) : (w.alloc o).heap = w.heap.push o := rfl

theorem cell_top (w : World) (cs : Array Value) (t : TypeId) (i H : Nat) (hH : w.heap.size = H) : (w.alloc (.cells cs t)).cell? ⟨H, i, none⟩ = cs[i]? := by
  subst hH
  unfold World.cell?
  rw [heap_alloc_new w (.cells cs t)]
  rfl

set_option maxRecDepth 100000 in
set_option maxHeartbeats 1000000 in
theorem addUser_st {w0 w : World} {T : Nat} {tag : Nat → Tg} {g : Gh} (h : St w0 w T tag g) (hT : T ≤ 16777216) (x : ByteArray) (hx : x.size ≤ maxLen) :
    Calls Try.prog 44 #[.pointer (some ⟨g.bp, 0, none⟩), .string x] w (Turns w0 T 1 g.bp fun g' => (∀ y, g'.U y ↔ g.U y ∨ y = x.toList) ∧ (∀ y v, g'.asg y v ↔ y ≠ x.toList ∧ g.asg y v) ∧ (∀ y, g'.R y ↔ g.R y) ∧ ∀ y p, g'.gr y p ↔ g.gr y p) := by
  have hmm := @run_makeMap Try.prog
  have hg1 : w.grownBy (((w.alloc (.map #[] 0)).alloc (.map #[] 0)).alloc (.cells #[.map (some w.heap.size), .map (some (w.heap.size + 1))] 98)) none := ((World.grownBy_alloc _ _ _).trans (World.grownBy_alloc _ _ _)).trans (World.grownBy_alloc _ _ _)
  obtain ⟨w', hr, hs, hg⟩ := (h.um.keep hg1 (by simp) (Nat.le_refl _)).put Try.underlying64 hT x hx (w.heap.size + 2)
  have hN := hide (h.newU x.toList hg1 (by simp) (by simp only [heap_push', Array.getElem?_push, Array.size_push]; repeat (first | rw [if_pos (by omega)] | rw [if_neg (by omega)] | rw [if_pos trivial])) (cell_top _ _ _ _ _ (by simp)) hs hg)
  have c2 := h.c2
  clear h hs hg hg1
  go_enter Try.func44, Try.ntmps44
  go_wp2
  go_end0
  refine ⟨rfl, _, _, hN.out, rfl, fun y => ?_, fun y v => ?_, fun y => Iff.rfl, fun y p => Iff.rfl⟩
  · unfold Gh.U
    dsimp only
    by_cases e : y = x.toList <;> simp [e]
  · dsimp only
    by_cases e : y = x.toList <;> simp [e]

set_option maxRecDepth 100000 in
set_option maxHeartbeats 1000000 in
theorem addRole_st {w0 w : World} {T : Nat} {tag : Nat → Tg} {g : Gh} (h : St w0 w T tag g) (hT : T ≤ 16777216) (x : ByteArray) (hx : x.size ≤ maxLen) :
    Calls Try.prog 13 #[.pointer (some ⟨g.bp, 0, none⟩), .string x] w (Turns w0 T 1 g.bp fun g' => (∀ y, g'.R y ↔ g.R y ∨ y = x.toList) ∧ (∀ y p, g'.gr y p ↔ y ≠ x.toList ∧ g.gr y p) ∧ (∀ y, g'.U y ↔ g.U y) ∧ ∀ y v, g'.asg y v ↔ g.asg y v) := by
  have hmm := @run_makeMap Try.prog
  have hg1 : w.grownBy ((((((w.alloc (.map #[] 0)).alloc (.map #[] 0)).alloc (.map #[] 0)).alloc (.map #[] 0)).alloc (.map #[] 0)).alloc (.cells #[.string x, .map (some w.heap.size), .map (some (w.heap.size + 1)), .map (some (w.heap.size + 2)), .map (some (w.heap.size + 3)), .map (some (w.heap.size + 4))] 77)) none := (((((World.grownBy_alloc _ _ _).trans (World.grownBy_alloc _ _ _)).trans (World.grownBy_alloc _ _ _)).trans (World.grownBy_alloc _ _ _)).trans (World.grownBy_alloc _ _ _)).trans (World.grownBy_alloc _ _ _)
  obtain ⟨w', hr, hs, hg⟩ := (h.rm.keep hg1 (by simp) (Nat.le_refl _)).put Try.underlying65 hT x hx (w.heap.size + 5)
  have hN := hide (h.newR x.toList hg1 (by simp) (by simp only [heap_push', Array.getElem?_push, Array.size_push]; repeat (first | rw [if_pos (by omega)] | rw [if_neg (by omega)] | rw [if_pos trivial])) (by simp only [heap_push', Array.getElem?_push, Array.size_push]; repeat (first | rw [if_pos (by omega)] | rw [if_neg (by omega)] | rw [if_pos trivial])) (by simp only [heap_push', Array.getElem?_push, Array.size_push]; repeat (first | rw [if_pos (by omega)] | rw [if_neg (by omega)] | rw [if_pos trivial])) (cell_top _ _ _ _ _ (by simp)) (cell_top _ _ _ _ _ (by simp)) (cell_top _ _ _ _ _ (by simp)) hs hg)
  have c3 := h.c3
  clear h hs hg hg1
  go_enter Try.func13, Try.ntmps13
  go_wp2
  go_end0
  refine ⟨rfl, _, _, hN.out, rfl, fun y => ?_, fun y v => ?_, fun y => Iff.rfl, fun y p => Iff.rfl⟩
  · unfold Gh.R
    dsimp only
    by_cases e : y = x.toList <;> simp [e]
  · dsimp only
    by_cases e : y = x.toList <;> simp [e]

set_option maxRecDepth 100000 in
set_option maxHeartbeats 1000000 in
theorem assign_st {w0 w : World} {T : Nat} {tag : Nat → Tg} {g : Gh} (h : St w0 w T tag g) (hT : T ≤ 16777214) (x y : ByteArray) (hx : x.size ≤ maxLen) (hy : y.size ≤ maxLen) (hU : g.U x.toList) (hR : g.R y.toList) :
    Calls Try.prog 45 #[.pointer (some ⟨g.bp, 0, none⟩), .string x, .string y] w (Turns w0 T 2 g.bp fun g' => (∀ u, g'.U u ↔ g.U u) ∧ (∀ u v, g'.asg u v ↔ g.asg u v ∨ (u = x.toList ∧ v = y.toList)) ∧ (∀ u, g'.R u ↔ g.R u) ∧ ∀ u p, g'.gr u p ↔ g.gr u p) := by
  obtain ⟨a, ha⟩ := hU
  obtain ⟨c, hc⟩ := hR
  have hl1 := h.um.look Try.underlying64 (zero96 w) x hx ha
  have ca := h.uc _ a ha
  obtain ⟨w1, hr1, hs1, hg1⟩ := (h.us _ a ha).put Try.underlying72 (by omega) y hy
  have h1 := h.putU ha ⟨c, hc⟩ hs1 hg1
  have hl2 := h1.rm.look Try.underlying65 (zero71 w1) y hy (a := c) hc
  have cc := (h1.rc _ c hc).1
  obtain ⟨s2, hs2⟩ := h1.r1 _ c hc
  obtain ⟨w2, hr2, hs2', hg2⟩ := hs2.put Try.underlying72 (by omega) x hx
  have hN := hide (h1.putRu hc ⟨_, hs2'⟩ hg2)
  have c2 := h.c2
  have c3 := h1.c3
  dsimp only at hl2 cc hr2 c3
  clear h h1 hs1 hg1 hs2 hs2' hg2
  go_enter Try.func45, Try.ntmps45
  go_wp2
  go_end0
  refine ⟨rfl, _, _, hN.out, rfl, fun u => Iff.rfl, fun u v => ?_, fun u => Iff.rfl, fun u p => Iff.rfl⟩
  dsimp only
  by_cases e : u = x.toList
  · subst e; simp
  · simp [e]
end Go.Proofs.Qxb6614755a
