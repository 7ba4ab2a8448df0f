/- The policy and its sets: ZZnewPolicy (12), ZZaddRole (13), ZZaddDsd (14), ZZaddSsd (15), refuse (64), checkNames (57), set (61), remove (54), DeleteDsdSet (48), ZZdeleteDsdSet (16), ZZdsdNames (17), ZZssdNames (18). -/
import Derived.Test.Qxb6614755aKeys2
import Derived.Test.Qxb6614755aValid2
namespace Go.Proofs.Qxb6614755a
open Go.RowKit Go.Maps Go.Sort Go.WideMaps

/-- The policy at block bp: where its roles, its SSD sets, its DSD sets lie. -/
structure Pol (w : World) (bp br bs bd : Nat) : Prop where
  roles : w.cell? ⟨bp, 3, none⟩ = some (.map (some br))
  ssd : w.cell? ⟨bp, 5, none⟩ = some (.map (some bs))
  dsd : w.cell? ⟨bp, 6, none⟩ = some (.map (some bd))

theorem newPolicy_any (w : World) : Calls Try.prog 12 #[] w fun e w' => e = .returned (.pointer (some ⟨w.heap.size + 7, 0, none⟩)) ∧
    w' = (((((((w.alloc (.map #[] 0)).alloc (.map #[] 0)).alloc (.map #[] 0)).alloc (.map #[] 0)).alloc (.map #[] 0)).alloc (.map #[] 0)).alloc (.map #[] 0)).alloc (.cells #[.map (some w.heap.size), .map (some (w.heap.size + 1)), .map (some (w.heap.size + 2)), .map (some (w.heap.size + 3)), .map (some (w.heap.size + 4)), .map (some (w.heap.size + 5)), .map (some (w.heap.size + 6))] 70) := by
  have hmm := @run_makeMap Try.prog
  go_enter Try.func12, Try.ntmps12
  go_wp2
  go_ret
  exact ⟨rfl, rfl⟩

theorem refuse_any (c nm : ByteArray) (w : World) : Calls Try.prog 64 #[.string c, .string nm] w fun e w' => e = .returned (.iface 84 (.pointer (some ⟨w.heap.size, 0, none⟩))) ∧ w' = w.alloc (.cells #[.string c, .string nm] 87) := by
  go_enter Try.func64, Try.ntmps64
  go_wp2
  go_ret
  exact ⟨rfl, rfl⟩

theorem cell_in {w : World} {a : Addr} {v : Value} (h : w.cell? a = some v) : a.block < w.heap.size := by
  by_cases hb : a.block < w.heap.size
  · exact hb
  · rw [World.cell?, Array.getElem?_eq_none (by omega)] at h
    cases h

/-- What a store of a new pointer at the key x leaves: the map with that key; nothing else has turned but new blocks. -/
def PutsTo (b n : Nat) (D : DataW (Option Addr)) (x : ByteArray) (w : World) (e : Ending) (w' : World) : Prop :=
  e = .returned (.tuple #[]) ∧ ∃ a : Option Addr, w'.ownsMap Try.prog 9 ptrElem b (n + 1) (D.put (.string x.toList) (.held a)) ∧ w.grownBy w' (some b)

theorem key9 (x : ByteArray) (hx : x.size ≤ maxLen) : keyOf Try.prog 9 (.string x) = some (.string x.toList) := by
  rw [ByteArray.toList_eq]; exact keyOf_string_mk Try.underlying9 hx

set_option maxRecDepth 100000 in
set_option maxHeartbeats 1000000 in
theorem addRole_any (bp br n : Nat) (D : DataW (Option Addr)) (x : ByteArray) (w : World) (hc : w.cell? ⟨bp, 3, none⟩ = some (.map (some br))) (hown : w.ownsMap Try.prog 9 ptrElem br n D) (hn : n ≤ 4194304) (hx : x.size ≤ maxLen) :
    Calls Try.prog 13 #[.pointer (some ⟨bp, 0, none⟩), .string x] w (PutsTo br n D x w) := by
  have hmm := @run_makeMap Try.prog
  have hkey := key9 x hx
  have hb := hown.lt
  go_enter Try.func13, Try.ntmps13
  go_wp2_with (at_mapUpdate; refine wpList_mapUpdate_own _ rfl _ _ _ 65 rfl 9 71 law9 Try.underlying65 ptrElem br n _ rfl ((((((hown.alloc _).alloc _).alloc _).alloc _).alloc _).alloc _) (by unfold maxLen; omega) _ _ _ rfl rfl hkey _ [] (ptrElem_mk _) ?_; intro w2 how2 hg2)
  go_end0
  refine ⟨rfl, _, how2, ?_⟩
  exact ((((((World.grownBy_alloc _ _ (some br)).trans (World.grownBy_alloc _ _ _)).trans (World.grownBy_alloc _ _ _)).trans (World.grownBy_alloc _ _ _)).trans (World.grownBy_alloc _ _ _)).trans (World.grownBy_alloc _ _ _)).trans hg2

set_option maxRecDepth 100000 in
set_option maxHeartbeats 1000000 in
theorem addDsd_any (bp bd n : Nat) (D : DataW (Option Addr)) (x ra rb : ByteArray) (w : World) (hc : w.cell? ⟨bp, 6, none⟩ = some (.map (some bd))) (hown : w.ownsMap Try.prog 9 ptrElem bd n D) (hn : n ≤ 4194304) (hx : x.size ≤ maxLen) (hra : ra.size ≤ maxLen) (hrb : rb.size ≤ maxLen) :
    Calls Try.prog 14 #[.pointer (some ⟨bp, 0, none⟩), .string x, .string ra, .string rb] w (PutsTo bd n D x w) := by
  have hmm := @run_makeMap Try.prog
  have hb := hown.lt
  have h0 : (w.alloc (.map #[] 0)).drew.ownsMap Try.prog 9 (unitElem (H := Unit)) w.heap.size 0 (.map []) := World.ownsMap_made _ _ _ _
  have g00 := World.grownBy_alloc w (.map #[] 0) (some bd)
  have g0 : w.grownBy (w.alloc (.map #[] 0)).drew (some bd) := ⟨g00.os, g00.tape, g00.output, g00.size, g00.block⟩
  have hown1 : (w.alloc (.map #[] 0)).drew.ownsMap Try.prog 9 ptrElem bd n D := (hown.alloc _).drew
  have hc1 : (w.alloc (.map #[] 0)).drew.cell? ⟨bp, 6, none⟩ = some (.map (some bd)) := (World.grownBy_alloc w _ none).cell hc (by simp)
  have hbp : bp < w.heap.size := cell_in hc
  obtain ⟨wA, rA, oA, gA⟩ := h0.update law9 Try.underlying72 (by unfold maxLen; omega) (key9 ra hra) (unitElem_mk (H := Unit))
  obtain ⟨wB, rB, oB, gB⟩ := h0.update law9 Try.underlying72 (by unfold maxLen; omega) (key9 rb hrb) (unitElem_mk (H := Unit))
  obtain ⟨wAB, rAB, oAB, gAB⟩ := oA.update law9 Try.underlying72 (by unfold maxLen; omega) (key9 rb hrb) (unitElem_mk (H := Unit))
  obtain ⟨wBA, rBA, oBA, gBA⟩ := oB.update law9 Try.underlying72 (by unfold maxLen; omega) (key9 ra hra) (unitElem_mk (H := Unit))
  have k1 : w.grownBy wAB (some bd) := (g0.andThen gA (fun j hj => by cases hj; exact .inl (Nat.le_refl _))).andThen gAB (fun j hj => by cases hj; exact .inl (Nat.le_refl _))
  have k2 : w.grownBy wBA (some bd) := (g0.andThen gB (fun j hj => by cases hj; exact .inl (Nat.le_refl _))).andThen gBA (fun j hj => by cases hj; exact .inl (Nat.le_refl _))
  have hD : ∀ (W : World), w.grownBy W none → W.ownsMap Try.prog 9 ptrElem bd n D := fun W hW => hown.kept hW (by simp)
  have hneB : bd ≠ w.heap.size := by omega
  have j1 : wAB.ownsMap Try.prog 9 ptrElem bd n D := ((hown1.kept gA (by simp [hneB])).kept gAB (by simp [hneB]))
  have j2 : wBA.ownsMap Try.prog 9 ptrElem bd n D := ((hown1.kept gB (by simp [hneB])).kept gBA (by simp [hneB]))
  obtain ⟨w1, r1, o1, q1⟩ := (j1.alloc (.cells #[.map (some w.heap.size), .int .i64 2] 80)).update law9 Try.underlying68 (by unfold maxLen; omega) (key9 x hx) (ptrElem_mk (some ⟨wAB.heap.size, 0, none⟩))
  obtain ⟨w2, r2, o2, q2⟩ := (j2.alloc (.cells #[.map (some w.heap.size), .int .i64 2] 80)).update law9 Try.underlying68 (by unfold maxLen; omega) (key9 x hx) (ptrElem_mk (some ⟨wBA.heap.size, 0, none⟩))
  have f1 := hide (And.intro o1 ((k1.trans (World.grownBy_alloc _ _ _)).trans q1))
  have f2 := hide (And.intro o2 ((k2.trans (World.grownBy_alloc _ _ _)).trans q2))
  have hcA : wA.cell? ⟨bp, 6, none⟩ = some (.map (some bd)) := gA.cell hc1 (by simp; omega)
  have hcB : wB.cell? ⟨bp, 6, none⟩ = some (.map (some bd)) := gB.cell hc1 (by simp; omega)
  have hcAB : wAB.cell? ⟨bp, 6, none⟩ = some (.map (some bd)) := gAB.cell hcA (by simp; omega)
  have hcBA : wBA.cell? ⟨bp, 6, none⟩ = some (.map (some bd)) := gBA.cell hcB (by simp; omega)
  have hcAB' := (World.grownBy_alloc wAB (.cells #[.map (some w.heap.size), .int .i64 2] 80) none).cell hcAB (by simp)
  have hcBA' := (World.grownBy_alloc wBA (.cells #[.map (some w.heap.size), .int .i64 2] 80) none).cell hcBA (by simp)
  clear hown1 g00 oA oB oAB oBA gA gB gAB gBA k1 k2 hD hneB j1 j2 o1 o2 q1 q2 h0 g0
  go_enter Try.func14, Try.ntmps14
  go_wp2
  go_region
  all_goals go_end0
  all_goals first | exact ⟨rfl, _, f1.out⟩ | exact ⟨rfl, _, f2.out⟩
set_option maxRecDepth 100000 in
set_option maxHeartbeats 1000000 in
theorem addSsd_any (bp bd n : Nat) (D : DataW (Option Addr)) (x ra rb : ByteArray) (w : World) (hc : w.cell? ⟨bp, 5, none⟩ = some (.map (some bd))) (hown : w.ownsMap Try.prog 9 ptrElem bd n D) (hn : n ≤ 4194304) (hx : x.size ≤ maxLen) (hra : ra.size ≤ maxLen) (hrb : rb.size ≤ maxLen) :
    Calls Try.prog 15 #[.pointer (some ⟨bp, 0, none⟩), .string x, .string ra, .string rb] w (PutsTo bd n D x w) := by
  have hmm := @run_makeMap Try.prog
  have hb := hown.lt
  have h0 : (w.alloc (.map #[] 0)).drew.ownsMap Try.prog 9 (unitElem (H := Unit)) w.heap.size 0 (.map []) := World.ownsMap_made _ _ _ _
  have g00 := World.grownBy_alloc w (.map #[] 0) (some bd)
  have g0 : w.grownBy (w.alloc (.map #[] 0)).drew (some bd) := ⟨g00.os, g00.tape, g00.output, g00.size, g00.block⟩
  have hown1 : (w.alloc (.map #[] 0)).drew.ownsMap Try.prog 9 ptrElem bd n D := (hown.alloc _).drew
  have hc1 : (w.alloc (.map #[] 0)).drew.cell? ⟨bp, 5, none⟩ = some (.map (some bd)) := (World.grownBy_alloc w _ none).cell hc (by simp)
  have hbp : bp < w.heap.size := cell_in hc
  obtain ⟨wA, rA, oA, gA⟩ := h0.update law9 Try.underlying72 (by unfold maxLen; omega) (key9 ra hra) (unitElem_mk (H := Unit))
  obtain ⟨wB, rB, oB, gB⟩ := h0.update law9 Try.underlying72 (by unfold maxLen; omega) (key9 rb hrb) (unitElem_mk (H := Unit))
  obtain ⟨wAB, rAB, oAB, gAB⟩ := oA.update law9 Try.underlying72 (by unfold maxLen; omega) (key9 rb hrb) (unitElem_mk (H := Unit))
  obtain ⟨wBA, rBA, oBA, gBA⟩ := oB.update law9 Try.underlying72 (by unfold maxLen; omega) (key9 ra hra) (unitElem_mk (H := Unit))
  have k1 : w.grownBy wAB (some bd) := (g0.andThen gA (fun j hj => by cases hj; exact .inl (Nat.le_refl _))).andThen gAB (fun j hj => by cases hj; exact .inl (Nat.le_refl _))
  have k2 : w.grownBy wBA (some bd) := (g0.andThen gB (fun j hj => by cases hj; exact .inl (Nat.le_refl _))).andThen gBA (fun j hj => by cases hj; exact .inl (Nat.le_refl _))
  have hD : ∀ (W : World), w.grownBy W none → W.ownsMap Try.prog 9 ptrElem bd n D := fun W hW => hown.kept hW (by simp)
  have hneB : bd ≠ w.heap.size := by omega
  have j1 : wAB.ownsMap Try.prog 9 ptrElem bd n D := ((hown1.kept gA (by simp [hneB])).kept gAB (by simp [hneB]))
  have j2 : wBA.ownsMap Try.prog 9 ptrElem bd n D := ((hown1.kept gB (by simp [hneB])).kept gBA (by simp [hneB]))
  obtain ⟨w1, r1, o1, q1⟩ := (j1.alloc (.cells #[.map (some w.heap.size), .int .i64 2] 80)).update law9 Try.underlying68 (by unfold maxLen; omega) (key9 x hx) (ptrElem_mk (some ⟨wAB.heap.size, 0, none⟩))
  obtain ⟨w2, r2, o2, q2⟩ := (j2.alloc (.cells #[.map (some w.heap.size), .int .i64 2] 80)).update law9 Try.underlying68 (by unfold maxLen; omega) (key9 x hx) (ptrElem_mk (some ⟨wBA.heap.size, 0, none⟩))
  have f1 := hide (And.intro o1 ((k1.trans (World.grownBy_alloc _ _ _)).trans q1))
  have f2 := hide (And.intro o2 ((k2.trans (World.grownBy_alloc _ _ _)).trans q2))
  have hcA : wA.cell? ⟨bp, 5, none⟩ = some (.map (some bd)) := gA.cell hc1 (by simp; omega)
  have hcB : wB.cell? ⟨bp, 5, none⟩ = some (.map (some bd)) := gB.cell hc1 (by simp; omega)
  have hcAB : wAB.cell? ⟨bp, 5, none⟩ = some (.map (some bd)) := gAB.cell hcA (by simp; omega)
  have hcBA : wBA.cell? ⟨bp, 5, none⟩ = some (.map (some bd)) := gBA.cell hcB (by simp; omega)
  have hcAB' := (World.grownBy_alloc wAB (.cells #[.map (some w.heap.size), .int .i64 2] 80) none).cell hcAB (by simp)
  have hcBA' := (World.grownBy_alloc wBA (.cells #[.map (some w.heap.size), .int .i64 2] 80) none).cell hcBA (by simp)
  clear hown1 g00 oA oB oAB oBA gA gB gAB gBA k1 k2 hD hneB j1 j2 o1 o2 q1 q2 h0 g0
  go_enter Try.func15, Try.ntmps15
  go_wp2
  go_region
  all_goals go_end0
  all_goals first | exact ⟨rfl, _, f1.out⟩ | exact ⟨rfl, _, f2.out⟩
end Go.Proofs.Qxb6614755a
