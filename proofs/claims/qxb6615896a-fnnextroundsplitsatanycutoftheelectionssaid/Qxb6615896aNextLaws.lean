/- NextRound (13): its appends and its map, as laws for the walk. -/
import Derived.Test.Qxb6615896aNext
import Derived.Deep.RegionHeld3
namespace Go.Proofs.Qxb6615896a
open Go.RowKit Go.Maps Go.WideMaps

theorem law9 : Keyed Try.prog 9 := string_keyed Try.underlying9
theorem info73 : (Try.prog.info? 73).map (fun i => (i.zero, i.size, i.bytes)) = some (some (.agg #[.string ⟨#[]⟩, .string ⟨#[]⟩]), 2, 32) := by kernel_rfl
theorem info51 : (Try.prog.info? 51).map (fun i => (i.zero, i.size, i.bytes)) = some (some (.agg #[.string ⟨#[]⟩, .string ⟨#[]⟩, .int .i64 0, .slice none 0 0, .string ⟨#[]⟩]), 5, 80) := by kernel_rfl
theorem info85 : (Try.prog.info? 85).map (fun i => (i.zero, i.size, i.bytes)) = some (some (.agg #[.string ⟨#[]⟩, .int .i64 0, .int .i64 0, .int .i64 0, .int .i64 0, .int .i64 0]), 6, 56) := by kernel_rfl
theorem parts_of {t : TypeId} {z : Value} {s b : Nat} (h : (Try.prog.info? t).map (fun i => (i.zero, i.size, i.bytes)) = some (some z, s, b)) : ∃ i, Try.prog.info? t = some i ∧ i.zero = some z ∧ i.size = s ∧ i.bytes = b := by
  obtain ⟨i, h1, h2⟩ := Option.map_eq_some_iff.1 h
  simp only [Prod.mk.injEq] at h2
  exact ⟨i, h1, h2.1, h2.2.1, h2.2.2⟩

theorem append_pair (w : World) {ops : Array Oper} {rest : List Oper} {o : Oper} {a : Act} {Q : Exit → Act → World → Prop} (hgd : o.guard = none) (s x : Operand)
    (ho : o.op = .call { callee := .builtin .append, args := #[s, x], argTypes := #[49, 49] })
    (base : Nat) (v : Value) (n : Nat) (xs : List Value) (hs : a.eval s = v) (hown : w.ownsRow base 73 2 v n xs) (hn : n ≤ 1048576) (b c : Nat) (s1 s2 : ByteArray) (hx : a.eval x = .slice (some ⟨b, 0, none⟩) 1 c)
    (hc : w.heap[b]? = some (.cells #[.string s1, .string s2] 73 (0, 0))) (hbase : base ≤ w.heap.size) (H : Nat) (hH : w.heap.size = H)
    (h : ∀ g cap w', w'.ownsRow base 73 2 (.slice (some ⟨g, 0, none⟩) (n + 1) cap) (n + 1) (xs ++ [.string s1, .string s2]) → w.grownBy w' v.ownBlock → (v.ownBlock = some g ∨ g = H) → g < w'.heap.size → wpList Try.prog ops Q rest (a.put o.dst (.slice (some ⟨g, 0, none⟩) (n + 1) cap)) w') :
    wpList Try.prog ops Q (o :: rest) a w := by
  obtain ⟨i, h1, h2, h3, h4⟩ := parts_of info73
  exact wpList_append_lies w hgd s x 49 ho base 73 i _ 2 32 (by kernel_rfl) h1 h2 h3 h4 (by rfl) (by omega) v n xs hs hown ⟨b, 0, none⟩ 1 c [.string s1, .string s2] hx (by rfl) (World.news_of_block hc) (by simp [Value.oneCell']) (by omega) (by unfold maxLen; omega) (by omega) hbase H hH h

theorem step_append_elec (w : World) {ops : Array Oper} {o : Oper} {a : Act} {K : Act → World → Prop} {Q : Exit → Act → World → Prop} {E : Prop} (hgd : o.guard = none) (s x : Operand)
    (ho : o.op = .call { callee := .builtin .append, args := #[s, x], argTypes := #[37, 37] })
    (base : Nat) (v : Value) (n : Nat) (xs : List Value) (hs : a.eval s = v) (hown : w.ownsRow base 51 5 v n xs) (hn : n ≤ 1048576) (b c : Nat) (oe : OutE) (cv : Value) (hcv : cv.oneCell' = true) (hx : a.eval x = .slice (some ⟨b, 0, none⟩) 1 c)
    (hc : w.heap[b]? = some (.cells (outCells oe cv).toArray 51 (0, 0))) (hbase : base ≤ w.heap.size) (H : Nat) (hH : w.heap.size = H)
    (h : ∀ g cap w', w'.ownsRow base 51 5 (.slice (some ⟨g, 0, none⟩) (n + 1) cap) (n + 1) (xs ++ outCells oe cv) → w.grownBy w' v.ownBlock → (v.ownBlock = some g ∨ g = H) → g < w'.heap.size → K (a.put o.dst (.slice (some ⟨g, 0, none⟩) (n + 1) cap)) w') :
    if Region.wanted o (yielded ops a.tmps) = true then Oper.wp Try.prog o a w K Q else E := by
  obtain ⟨i, h1, h2, h3, h4⟩ := parts_of info51
  exact step_append_lies w hgd s x 37 ho base 51 i _ 5 80 (by kernel_rfl) h1 h2 h3 h4 (by rfl) (by omega) v n xs hs hown ⟨b, 0, none⟩ 1 c (outCells oe cv) hx (by rfl) (World.news_of_block hc) (by intro u hu; simp only [outCells, List.mem_cons, List.not_mem_nil, or_false] at hu; rcases hu with rfl | rfl | rfl | rfl | rfl <;> first | rfl | exact hcv) (by omega) (by unfold maxLen; omega) (by omega) hbase H hH h

theorem step_append_bod (w : World) {ops : Array Oper} {o : Oper} {a : Act} {K : Act → World → Prop} {Q : Exit → Act → World → Prop} {E : Prop} (hgd : o.guard = none) (s x : Operand)
    (ho : o.op = .call { callee := .builtin .append, args := #[s, x], argTypes := #[43, 43] })
    (base : Nat) (v : Value) (n : Nat) (xs : List Value) (hs : a.eval s = v) (hown : w.ownsRow base 85 6 v n xs) (hn : n ≤ 1048576) (b c : Nat) (cs : List Value) (hl : cs.length = 6) (hcv : ∀ u ∈ cs, u.oneCell' = true) (hx : a.eval x = .slice (some ⟨b, 0, none⟩) 1 c)
    (hc : w.heap[b]? = some (.cells cs.toArray 85 (0, 0))) (hbase : base ≤ w.heap.size) (H : Nat) (hH : w.heap.size = H)
    (h : ∀ g cap w', w'.ownsRow base 85 6 (.slice (some ⟨g, 0, none⟩) (n + 1) cap) (n + 1) (xs ++ cs) → w.grownBy w' v.ownBlock → (v.ownBlock = some g ∨ g = H) → g < w'.heap.size → K (a.put o.dst (.slice (some ⟨g, 0, none⟩) (n + 1) cap)) w') :
    if Region.wanted o (yielded ops a.tmps) = true then Oper.wp Try.prog o a w K Q else E := by
  obtain ⟨i, h1, h2, h3, h4⟩ := parts_of info85
  exact step_append_lies w hgd s x 43 ho base 85 i _ 6 56 (by kernel_rfl) h1 h2 h3 h4 (by rfl) (by omega) v n xs hs hown ⟨b, 0, none⟩ 1 c cs hx (by omega) (World.news_of_block hc) hcv (by omega) (by unfold maxLen; omega) (by omega) hbase H hH h

theorem zero4 (w : World) : (zeroValue 4).run Try.prog w = .ok (.bool false) w := by kernel_rfl
theorem plain4_inv {v : Value} {z : DataW Unit × List MemPlace} (h : plainElem (H := Unit) Try.prog 4 v = some z) : ∃ x, v = .bool x := by
  simp only [plainElem, Try.underlying4] at h
  split at h
  · exact ⟨_, rfl⟩
  · rename_i heq; cases heq
  · rename_i heq; cases heq
  · cases h
theorem look88 (w : World) (b n : Nat) (D : DataW Unit) (hown : w.ownsMap Try.prog 9 (plainElem (H := Unit) Try.prog 4) b n D) (s : ByteArray) (hs : s.size ≤ maxLen) : ∃ x, (Instr.lookup 88 (.map (some b)) (.string s) false).run Try.prog w = .ok (.bool x) w := by
  obtain ⟨v, ps, hrun, hv⟩ := hown.lookup law9 (t := 88) (e := 4) (by kernel_rfl) (zero4 w) (plainElem_bool Try.underlying4 false) (keyOf_string_mk Try.underlying9 hs)
  obtain ⟨x, rfl⟩ := plain4_inv hv
  exact ⟨x, hrun⟩
theorem under88 : Try.prog.underlying 88 = some (.map 9 4) := by kernel_rfl
end Go.Proofs.Qxb6615896a
