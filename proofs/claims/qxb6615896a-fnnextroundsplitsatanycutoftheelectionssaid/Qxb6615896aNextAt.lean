/- NextRound (13): what it hands over. -/
import Derived.Test.Qxb6615896aNextLaws
namespace Go.Proofs.Qxb6615896a
open Go.RowKit Go.Maps Go.WideMaps

/-- The strings that are keys. -/
def Keys (n : Nat) (E : Nat → Elec) (m : Nat) (B : Nat → Bod) : Prop := (∀ j, j < n → (E j).body.size ≤ maxLen) ∧ ∀ j, j < m → (B j).id.size ≤ maxLen

/-- The elections of the next round, behind a pointer to block b. -/
def NextAt (w : World) (b : Nat) (z1 : Int) (L : List OutE) : Prop :=
  ∃ g cap, b < w.heap.size ∧ w.cell? ⟨b, 1, none⟩ = some (.int .i64 z1) ∧ w.cell? ⟨b, 6, none⟩ = some (.slice (some ⟨g, 0, none⟩) L.length cap) ∧ g < w.heap.size ∧
    ∀ j o, L[j]? = some o → ∃ a c C, w.rangeAt g (j * 5) (outCells o (.slice a o.cands.length c)) ∧ PairsAt w a o.cands.length C ∧ ∀ i p, o.cands[i]? = some p → C i = p
def NextPost (w : World) (z1 : Int) (n : Nat) (E : Nat → Elec) (e : Ending) (w' : World) : Prop :=
  Below w.heap.size w w' ∧ ((cnt E n = 0 ∧ e = .returned (.pointer none)) ∨ (0 < cnt E n ∧ ∃ b, e = .returned (.pointer (some ⟨b, 0, none⟩)) ∧ NextAt w' b (wrap64 (z1 + 1)) (sel E n)))

theorem top2 (w : World) (a b : Obj) : ((w.alloc a).alloc b).heap[w.heap.size + 1]? = some b := by
  have := heap_alloc_new (w.alloc a) b
  simpa using this
theorem ownsRow_slice {w : World} {base : Nat} {e : TypeId} {size : Nat} {v : Value} {n : Nat} {xs : List Value} (h : w.ownsRow base e size v n xs) : ∃ a L c, n = L ∧ v = .slice a L c := by
  rcases h.2 with ⟨h1, h2⟩ | ⟨g, cap, cur, h1, _⟩
  · exact ⟨none, 0, 0, h2, h1⟩
  · exact ⟨_, n, cap, rfl, h1⟩

theorem ownsRow_lo {w0 w : World} {E : Nat → Elec} {k : Nat} {v : Value} (h : NR w0 E k v w) {j : Nat} (hj : v.ownBlock = some j) : j < w.heap.size := by
  obtain ⟨xs, h1, _⟩ := h.row
  exact (h1.lt j hj).2

theorem NR.push2 {w0 wi w2 w3 : World} {o : Obj} {E : Nat → Elec} {k : Nat} {v cv : Value} {xs : List Value} {g cap : Nat} (h : NR w0 E k v wi) (hO : wi.ownsRow (w0.heap.size + 1) 51 5 v (sel E k).length xs ∧ Outs (w0.heap.size + 1) v.ownBlock wi xs (sel E k))
    (hR : wi.ownsRow (w0.heap.size + 1) 73 2 cv (outOf (E k)).cands.length (pairs (outOf (E k)).cands) ∧ (cv.ownBlock = none ∨ cv.ownBlock ≠ v.ownBlock)) (hva : isVa (E k) = true)
    (ho : w2.ownsRow (w0.heap.size + 1) 51 5 (.slice (some ⟨g, 0, none⟩) ((sel E k).length + 1) cap) ((sel E k).length + 1) (xs ++ outCells (outOf (E k)) cv)) (hg : (wi.alloc o).drew.grownBy w2 v.ownBlock) (hgg : v.ownBlock = some g ∨ g = wi.heap.size + 1)
    {D : DataW Unit} (hm : w3.ownsMap Try.prog 9 (plainElem (H := Unit) Try.prog 4) w0.heap.size (k + 1) D) (hg3 : w2.grownBy w3 (some w0.heap.size)) : NR w0 E (k + 1) (.slice (some ⟨g, 0, none⟩) ((sel E k).length + 1) cap) w3 := by
  have hlt := h.lt
  have e : (wi.alloc o).drew.heap.size = wi.heap.size + 1 := by show (wi.heap.push o).size = _; simp
  refine NR.push (w := (wi.alloc o).drew) (h.below.alloc (by omega) _).drew (by omega) (hO.2.move fun j _ hj hne => ⟨Below.heap_alloc wi o j hj, hne⟩) (hO.1.alloc _) hva (hR.1.alloc _) hR.2 ho hg (by rw [e]; exact hgg) hm hg3

theorem map_kept {wi w3 : World} {o : Obj} {row : Option Nat} {b n : Nat} {D : DataW Unit} (h : wi.ownsMap Try.prog 9 (plainElem (H := Unit) Try.prog 4) b n D) (hg : (wi.alloc o).drew.grownBy w3 row) (hne : some b ≠ row) : w3.ownsMap Try.prog 9 (plainElem (H := Unit) Try.prog 4) b n D := by
  have h2 : (wi.alloc o).drew.ownsMap Try.prog 9 (plainElem (H := Unit) Try.prog 4) b n D := h.alloc o
  exact h2.kept hg hne

/-- The loop over the bodies: the meeting lies in block wo.heap.size. -/
structure BS (wo : World) (z : Int) (s6 : Value) (q : Nat) (w : World) : Prop where
  below : Below wo.heap.size wo w
  lt : wo.heap.size < w.heap.size
  c1 : w.cell? ⟨wo.heap.size, 1, none⟩ = some (.int .i64 z)
  c6 : w.cell? ⟨wo.heap.size, 6, none⟩ = some s6
  fr : w.frozen? ⟨wo.heap.size, 5, none⟩ = false
  row : ∃ v j xs, w.cell? ⟨wo.heap.size, 5, none⟩ = some v ∧ j ≤ q ∧ w.ownsRow (wo.heap.size + 1) 85 6 v j xs
theorem BS.down {wo w w' : World} {z : Int} {s6 : Value} {q : Nat} (h : BS wo z s6 q w) (hb : Below w.heap.size w w') : BS wo z s6 q w' := by
  obtain ⟨h1, h2, h3, h4, h5, v, j, xs, h6, h7, h8⟩ := h
  have hc : ∀ i, w'.cell? ⟨wo.heap.size, i, none⟩ = w.cell? ⟨wo.heap.size, i, none⟩ := fun i => hb.cell (p := ⟨wo.heap.size, i, none⟩) h2
  exact ⟨h1.trans (hb.mono (by omega)), Nat.lt_of_lt_of_le h2 hb.size, (hc 1).trans h3, (hc 6).trans h4, (hb.frozen (p := ⟨wo.heap.size, 5, none⟩) h2).trans h5, v, j, xs, (hc 5).trans h6, h7, ownsRow_block h8 fun k hk => hb.block k (h8.lt k hk).2⟩
theorem BS.le {wo w : World} {z : Int} {s6 : Value} {q q' : Nat} (h : BS wo z s6 q w) (hq : q ≤ q') : BS wo z s6 q' w := by
  obtain ⟨h1, h2, h3, h4, h5, v, j, xs, h6, h7, h8⟩ := h
  exact ⟨h1, h2, h3, h4, h5, v, j, xs, h6, by omega, h8⟩
theorem BS.start (wo : World) (a b d e : Value) (z : Int) (s6 : Value) : BS wo z s6 0 (wo.alloc (.cells #[a, .int .i64 z, b, d, e, .slice none 0 0, s6] 45)).drew := by
  have hr : (wo.alloc (.cells #[a, .int .i64 z, b, d, e, .slice none 0 0, s6] 45)).rangeAt wo.heap.size 0 [a, .int .i64 z, b, d, e, .slice none 0 0, s6] := range_made wo _ 45
  have ht := there_made wo #[a, .int .i64 z, b, d, e, .slice none 0 0, s6] 45 7 (by simp)
  refine ⟨((Below.refl _ _).alloc (Nat.le_refl _) _).drew, by show _ < (wo.heap.push _).size; simp, hr 1 _ rfl, hr 6 _ rfl, (ht 5 (by omega)).2, _, 0, [], hr 5 _ rfl, Nat.le_refl _, World.ownsRow_nil _ _ _ _⟩

theorem BS.put {wo W2 w3 : World} {o : Obj} {z : Int} {s6 : Value} {q : Nat} (h : BS wo z s6 q W2) {v : Value} {j : Nat} {xs : List Value} (hj : j ≤ q) (hown : W2.ownsRow (wo.heap.size + 1) 85 6 v j xs) (hc5 : W2.cell? ⟨wo.heap.size, 5, none⟩ = some v)
    (hg : (W2.alloc o).drew.grownBy w3 v.ownBlock) {v' : Value} {xs' : List Value} (ho : w3.ownsRow (wo.heap.size + 1) 85 6 v' (j + 1) xs') : BS wo z s6 (q + 1) (w3.setCell ⟨wo.heap.size, 5, none⟩ v') := by
  have hlt := h.lt
  have x1 : some wo.heap.size ≠ v.ownBlock := fun e => by have := (hown.lt _ e.symm).1; omega
  have e : (W2.alloc o).drew.heap.size = W2.heap.size + 1 := by show (W2.heap.push o).size = _; simp
  have hblk : w3.heap[wo.heap.size]? = W2.heap[wo.heap.size]? := (hg.block _ (by omega) x1).trans (Below.heap_alloc W2 o _ hlt)
  have hc : ∀ i, w3.cell? ⟨wo.heap.size, i, none⟩ = W2.cell? ⟨wo.heap.size, i, none⟩ := fun i => World.cell?_of_block (a := ⟨wo.heap.size, i, none⟩) hblk
  have ht : w3.there wo.heap.size 5 1 := fun j hj => by
    obtain rfl : j = 0 := by omega
    exact ⟨by rw [Nat.add_zero, hc 5, hc5]; rfl, by rw [Nat.add_zero]; exact (World.frozen?_of_block (a := ⟨wo.heap.size, 5, none⟩) hblk).trans h.fr⟩
  have hb1 := (h.below.alloc (by omega) o).drew.grown hg (by omega) (fun k hk => by have := (hown.lt k hk).1; omega)
  have h1 : ∀ i x, i ≠ 5 → W2.cell? ⟨wo.heap.size, i, none⟩ = some x → (w3.setCell ⟨wo.heap.size, 5, none⟩ v').cell? ⟨wo.heap.size, i, none⟩ = some x := fun i x hi hx => by
    have hs : (w3.setCells wo.heap.size 5 [v']).rangeAt wo.heap.size i [x] := World.rangeAt_setCells_apart (fun q y hy => by
      cases q with
      | zero => cases hy; exact (hc i).trans hx
      | succ q => simp at hy) _ _ _ (by simp; omega)
    exact hs 0 x rfl
  refine ⟨hb1.setCell (Nat.le_refl _) _, ?_, h1 1 _ (by omega) h.c1, h1 6 _ (by omega) h.c6, ?_, v', j + 1, xs', ?_, by omega, ownsRow_setCell_below ho (Nat.lt_succ_self _) _⟩
  · have := hg.size
    have h3 : (w3.setCell ⟨wo.heap.size, 5, none⟩ v').heap.size = w3.heap.size := heap_setCells_size _ [v'] _ _
    omega
  · exact ((World.there_setCells ht wo.heap.size 5 [v']) 0 (by omega)).2
  · exact World.rangeAt_setCells_same w3 wo.heap.size 5 [v'] ht 0 v' rfl

theorem Outs.length {base : Nat} {own : Option Nat} {w : World} {xs : List Value} {L : List OutE} (h : Outs base own w xs L) : xs.length = L.length * 5 := by
  induction h with
  | nil => rfl
  | snoc h1 h2 h3 ih => simp [ih, outCells]; omega
theorem Outs.read {base : Nat} {own : Option Nat} {w : World} {xs : List Value} {L : List OutE} (h : Outs base own w xs L) : ∀ j o, L[j]? = some o → ∃ cv, (∀ i x, (outCells o cv)[i]? = some x → xs[j * 5 + i]? = some x) ∧ w.ownsRow base 73 2 cv o.cands.length (pairs o.cands) := by
  induction h with
  | nil => intro j o hj; simp at hj
  | snoc h1 h2 h3 ih =>
    rename_i L o' cv
    intro j o hj
    have hl := h1.length
    by_cases hlt : j < L.length
    · rw [List.getElem?_append_left hlt] at hj
      obtain ⟨cv', g1, g2⟩ := ih j o hj
      refine ⟨cv', fun i x hx => ?_, g2⟩
      have hi : i < 5 := by have := (List.getElem?_eq_some_iff.1 hx).1; simpa [outCells] using this
      rw [List.getElem?_append_left (by omega)]
      exact g1 i x hx
    · have hj2 : j = L.length := by
        have := (List.getElem?_eq_some_iff.1 hj).1
        simp at this
        omega
      subst hj2
      simp at hj
      subst hj
      refine ⟨cv, fun i x hx => ?_, h2⟩
      rw [List.getElem?_append_right (by omega), show L.length * 5 + i - _ = i by omega]
      exact hx
theorem pairsAt_of {base : Nat} {w : World} {cv : Value} {cs : List (ByteArray × ByteArray)} (h : w.ownsRow base 73 2 cv cs.length (pairs cs)) : ∃ a c, cv = .slice a cs.length c ∧ PairsAt w a cs.length (fun i => cs.getD i (⟨#[]⟩, ⟨#[]⟩)) := by
  rcases h.2 with ⟨h1, h2⟩ | ⟨g, cap, cur, h1, h3⟩
  · exact ⟨none, 0, by rw [h1, h2], .inl h2⟩
  · refine ⟨_, cap, h1, .inr ⟨g, 0, rfl, (h.lt g (by rw [h1]; rfl)).2, fun j hj => ?_⟩⟩
    have hc := h.cells (g := g) (by rw [h1]; rfl)
    have hp := pairs_at cs j cs[j] (List.getElem?_eq_getElem hj)
    have e1 := hc _ _ hp.1
    have e2 := hc _ _ hp.2
    rw [Go.WideShapes.add_plain] at e1 e2
    simp only [List.getD, List.getElem?_eq_getElem hj, Option.getD_some]
    exact ⟨e1, by rw [Nat.add_assoc]; exact e2⟩

theorem next_at {wo wi : World} {base : Nat} {a3 : Option Addr} {L3 c3 q : Nat} {xs : List Value} {L : List OutE} {z : Int} (hO : wo.ownsRow base 51 5 (.slice a3 L3 c3) L.length xs ∧ Outs base (Value.slice a3 L3 c3).ownBlock wo xs L) (hL : L.length = L3) (h0 : 0 < L3) (hS : BS wo z (.slice a3 L3 c3) q wi) : NextAt wi wo.heap.size z L := by
  obtain ⟨hr, hO⟩ := hO
  rcases hr.2 with ⟨h1, h2⟩ | ⟨g, cap, cur, h1, h3⟩
  · omega
  · simp only [Value.slice.injEq] at h1
    obtain ⟨rfl, rfl, rfl⟩ := h1
    have hg := (hr.lt g rfl).2
    refine ⟨g, c3, hS.lt, hS.c1, hS.c6, Nat.lt_of_lt_of_le hg hS.below.size, fun j o hj => ?_⟩
    obtain ⟨cv, g1, g2⟩ := hO.read j o hj
    obtain ⟨a, c, rfl, hp⟩ := pairsAt_of g2
    refine ⟨a, c, _, range_below hS.below hg (fun i x hx => ?_), hp.below hS.below, fun i p hi => by simp [List.getD, hi]⟩
    have := hr.cells rfl _ _ (g1 i x hx)
    rw [Go.WideShapes.add_plain, Nat.zero_add] at this
    exact this
end Go.Proofs.Qxb6615896a
