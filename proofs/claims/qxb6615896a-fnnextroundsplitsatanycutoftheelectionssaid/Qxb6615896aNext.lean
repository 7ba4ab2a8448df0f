/- NextRound (13): what it gathers. -/
import Derived.Test.Qxb6615896aBuildWalk
import Derived.Test.Qxb6615896aSame
import Derived.Maps.OwnSet
import Derived.Maps.OwnOps
import Derived.Deep.AppendLies
namespace Go.Proofs.Qxb6615896a
open Go.RowKit Go.Maps

/-! ### Plain -/
def tiedB : List UInt8 := [116, 105, 101, 100]
def notB : List UInt8 := [110, 111, 116, 45, 101, 108, 101, 99, 116, 101, 100]
def pick (st : List UInt8) (e : Elec) (q : Nat) : List (ByteArray × ByteArray) := ((List.range q).filter fun j => (e.C j).status.toList == st).map fun j => ((e.C j).id, (e.C j).name)
theorem pick_yes {st : List UInt8} {e : Elec} {q : Nat} (h : ((e.C q).status.toList == st) = true) : pick st e (q + 1) = pick st e q ++ [((e.C q).id, (e.C q).name)] := by
  simp [pick, List.range_succ, List.filter_append, h]
theorem pick_no {st : List UInt8} {e : Elec} {q : Nat} (h : ((e.C q).status.toList == st) = false) : pick st e (q + 1) = pick st e q := by
  simp [pick, List.range_succ, List.filter_append, h]
theorem pick_le (st : List UInt8) (e : Elec) (q : Nat) : (pick st e q).length ≤ q := by
  have := List.length_filter_le (fun j => (e.C j).status.toList == st) (List.range q)
  simpa [pick] using this

structure OutE where
  id : ByteArray
  title : ByteArray
  body : ByteArray
  unf : Int
  cands : List (ByteArray × ByteArray)
def outOf (e : Elec) : OutE := ⟨e.id, e.title, e.body, e.unf, if (pick tiedB e e.cl).length = 0 then pick notB e e.cl else pick tiedB e e.cl⟩
def sel (E : Nat → Elec) (k : Nat) : List OutE := ((List.range k).filter fun j => isVa (E j)).map fun j => outOf (E j)
theorem sel_yes {E : Nat → Elec} {k : Nat} (h : isVa (E k) = true) : sel E (k + 1) = sel E k ++ [outOf (E k)] := by simp [sel, List.range_succ, List.filter_append, h]
theorem sel_no {E : Nat → Elec} {k : Nat} (h : isVa (E k) = false) : sel E (k + 1) = sel E k := by simp [sel, List.range_succ, List.filter_append, h]
theorem sel_len (E : Nat → Elec) : ∀ k, (sel E k).length = cnt E k
  | 0 => rfl
  | k + 1 => by
    cases h : isVa (E k) with
    | true => rw [sel_yes h, List.length_append, sel_len E k]; simp [cnt, h]
    | false => rw [sel_no h, sel_len E k]; simp [cnt, h]

/-! ### In memory -/
def pairs : List (ByteArray × ByteArray) → List Value
  | [] => []
  | p :: ps => .string p.1 :: .string p.2 :: pairs ps
theorem pairs_append : ∀ (a b : List (ByteArray × ByteArray)), pairs (a ++ b) = pairs a ++ pairs b
  | [], _ => rfl
  | p :: ps, b => by simp [pairs, pairs_append ps b]
theorem pairs_length : ∀ a : List (ByteArray × ByteArray), (pairs a).length = a.length * 2
  | [] => rfl
  | p :: ps => by simp [pairs, pairs_length ps]; omega
theorem pairs_at : ∀ (a : List (ByteArray × ByteArray)) (j : Nat) (p : ByteArray × ByteArray), a[j]? = some p → (pairs a)[j * 2]? = some (.string p.1) ∧ (pairs a)[j * 2 + 1]? = some (.string p.2)
  | [], j, p, h => by simp at h
  | x :: xs, 0, p, h => by simp at h; subst h; simp [pairs]
  | x :: xs, j + 1, p, h => by
    have := pairs_at xs j p (by simpa using h)
    rw [show (j + 1) * 2 = j * 2 + 1 + 1 by omega]
    simpa [pairs] using this

theorem ownsRow_mono {w : World} {base base' : Nat} {e : TypeId} {size : Nat} {v : Value} {n : Nat} {xs : List Value} (h : w.ownsRow base e size v n xs) (hb : base' ≤ base) : w.ownsRow base' e size v n xs := by
  obtain ⟨h1, h2⟩ := h
  refine ⟨h1, ?_⟩
  rcases h2 with h2 | ⟨g, cap, cur, hv, hg, r⟩
  · exact .inl h2
  · exact .inr ⟨g, cap, cur, hv, by omega, r⟩
/-- A row stays where its block stays. -/
theorem ownsRow_block {w w' : World} {base : Nat} {e : TypeId} {size : Nat} {v : Value} {n : Nat} {xs : List Value} (h : w.ownsRow base e size v n xs) (hb : ∀ k, v.ownBlock = some k → w'.heap[k]? = w.heap[k]?) : w'.ownsRow base e size v n xs := by
  obtain ⟨h1, h2⟩ := h
  refine ⟨h1, ?_⟩
  rcases h2 with h2 | ⟨g, cap, cur, hv, hg, hh, r⟩
  · exact .inl h2
  · exact .inr ⟨g, cap, cur, hv, hg, by rw [hb g (by rw [hv]; rfl)]; exact hh, r⟩
theorem below_grown {w w' : World} (h : Below w.heap.size w w') : w.grownBy w' none := ⟨h.os, h.tape, h.output, h.size, fun k hk _ => h.block k hk⟩

def outCells (o : OutE) (cv : Value) : List Value := [.string o.id, .string o.title, .int .i64 o.unf, cv, .string o.body]
/-- The cells xs are those of the elections L, whose candidates lie in rows of their own, apart from block own. -/
inductive Outs (base : Nat) (own : Option Nat) (w : World) : List Value → List OutE → Prop
  | nil : Outs base own w [] []
  | snoc {xs : List Value} {L : List OutE} {o : OutE} {cv : Value} : Outs base own w xs L → w.ownsRow base 73 2 cv o.cands.length (pairs o.cands) → (cv.ownBlock = none ∨ cv.ownBlock ≠ own) → Outs base own w (xs ++ outCells o cv) (L ++ [o])

theorem Outs.move {base : Nat} {own own' : Option Nat} {w w' : World} {xs : List Value} {L : List OutE} (h : Outs base own w xs L) (hk : ∀ k, base ≤ k → k < w.heap.size → some k ≠ own → w'.heap[k]? = w.heap[k]? ∧ some k ≠ own') : Outs base own' w' xs L := by
  induction h with
  | nil => exact .nil
  | snoc h1 h2 h3 ih =>
    refine .snoc ih (ownsRow_block h2 fun k hv => ?_) ?_
    · have := h2.lt k hv
      exact (hk k this.1 this.2 (by rcases h3 with h3 | h3 <;> simp_all)).1
    · rename_i cv
      cases hv : cv.ownBlock with
      | none => exact .inl rfl
      | some k =>
        have := h2.lt k hv
        exact .inr (hk k this.1 this.2 (by rcases h3 with h3 | h3 <;> simp_all)).2
theorem Outs.push {base : Nat} {own : Option Nat} {w w' : World} {xs : List Value} {L : List OutE} (h : Outs base own w xs L) (hg : w.grownBy w' own) {g : Nat} (hgg : own = some g ∨ g = w.heap.size) {cv : Value} {o : OutE}
    (hrow : w.ownsRow base 73 2 cv o.cands.length (pairs o.cands)) (hap : cv.ownBlock = none ∨ cv.ownBlock ≠ own) : Outs base (some g) w' (xs ++ outCells o cv) (L ++ [o]) :=
  (Outs.snoc h hrow hap).move fun k _ hk hne => ⟨hg.block k hk hne, fun e => by
    rcases hgg with rfl | rfl
    · exact hne e
    · cases e; omega⟩

/-- The state of the loop over the elections. -/
structure NR (w0 : World) (E : Nat → Elec) (k : Nat) (v : Value) (w : World) : Prop where
  below : Below w0.heap.size w0 w
  lt : w0.heap.size < w.heap.size
  map : ∃ D, w.ownsMap Try.prog 9 (plainElem (H := Unit) Try.prog 4) w0.heap.size k D
  row : ∃ xs, w.ownsRow (w0.heap.size + 1) 51 5 v (sel E k).length xs ∧ Outs (w0.heap.size + 1) v.ownBlock w xs (sel E k)

theorem NR.down {w0 w w' : World} {E : Nat → Elec} {k : Nat} {v : Value} (h : NR w0 E k v w) (hb : Below w.heap.size w w') : NR w0 E k v w' := by
  obtain ⟨h1, h2, ⟨D, h3⟩, xs, h4, h5⟩ := h
  refine ⟨h1.trans (hb.mono (by omega)), Nat.lt_of_lt_of_le h2 hb.size, ⟨D, h3.kept (below_grown hb) (by simp)⟩, xs, ownsRow_block h4 fun k hk => hb.block k (h4.lt k hk).2, h5.move fun k _ hk hne => ⟨hb.block k hk, hne⟩⟩
theorem ownsMap_le {w : World} {R : Value → Option (DataW Unit × List MemPlace)} {b n n' : Nat} {D : DataW Unit} (h : w.ownsMap Try.prog 9 R b n D) (hn : n ≤ n') : w.ownsMap Try.prog 9 R b n' D := by
  obtain ⟨es, c, h1, h2, h3, h4⟩ := h
  exact ⟨es, c, h1, h2, by omega, h4⟩
theorem NR.skip {w0 w : World} {E : Nat → Elec} {k : Nat} {v : Value} (h : NR w0 E k v w) (hv : isVa (E k) = false) : NR w0 E (k + 1) v w := by
  obtain ⟨h1, h2, ⟨D, h3⟩, h4⟩ := h
  exact ⟨h1, h2, ⟨D, ownsMap_le h3 (by omega)⟩, by rw [sel_no hv]; exact h4⟩
theorem NR.start (w0 : World) (E : Nat → Elec) : NR w0 E 0 (.slice none 0 0) (w0.alloc (.map #[] 0)) :=
  ⟨(Below.refl _ _).alloc (Nat.le_refl _) _, by simp, ⟨_, World.ownsMap_made w0 Try.prog 9 _⟩, [], World.ownsRow_nil _ _ _ _, .nil⟩

/-- The rows of candidates of one election while they are gathered. -/
structure CI (w1 : World) (e : Elec) (q : Nat) (v7 v8 : Value) (w : World) : Prop where
  below : Below w1.heap.size w1 w
  tied : w.ownsRow w1.heap.size 73 2 v7 (pick tiedB e q).length (pairs (pick tiedB e q))
  rest : w.ownsRow w1.heap.size 73 2 v8 (pick notB e q).length (pairs (pick notB e q))
  apart : v7.ownBlock = none ∨ v7.ownBlock ≠ v8.ownBlock
theorem CI.start (w1 : World) (e : Elec) : CI w1 e 0 (.slice none 0 0) (.slice none 0 0) w1 := ⟨Below.refl _ _, World.ownsRow_nil _ _ _ _, World.ownsRow_nil _ _ _ _, .inl rfl⟩
theorem CI.alloc {w1 w : World} {e : Elec} {q : Nat} {v7 v8 : Value} (h : CI w1 e q v7 v8 w) (o : Obj) : CI w1 e q v7 v8 (w.alloc o) :=
  ⟨h.below.alloc h.below.size _, h.tied.alloc _, h.rest.alloc _, h.apart⟩
theorem CI.pass {w1 w : World} {e : Elec} {q : Nat} {v7 v8 : Value} (h : CI w1 e q v7 v8 w) (h1 : ((e.C q).status.toList == tiedB) = false) (h2 : ((e.C q).status.toList == notB) = false) : CI w1 e (q + 1) v7 v8 w := by
  obtain ⟨a, b, c, d⟩ := h
  exact ⟨a, by rw [pick_no h1]; exact b, by rw [pick_no h2]; exact c, d⟩
theorem CI.tie {w1 w w' : World} {e : Elec} {q : Nat} {v7 v8 : Value} (h : CI w1 e q v7 v8 w) (h1 : ((e.C q).status.toList == tiedB) = true) {g cap : Nat}
    (ho : w'.ownsRow w1.heap.size 73 2 (.slice (some ⟨g, 0, none⟩) ((pick tiedB e q).length + 1) cap) ((pick tiedB e q).length + 1) (pairs (pick tiedB e q) ++ [.string (e.C q).id, .string (e.C q).name])) (hg : w.grownBy w' v7.ownBlock) (hgg : v7.ownBlock = some g ∨ g = w.heap.size) :
    CI w1 e (q + 1) (.slice (some ⟨g, 0, none⟩) ((pick tiedB e q).length + 1) cap) v8 w' := by
  obtain ⟨a, b, c, d⟩ := h
  have h2 : ((e.C q).status.toList == notB) = false := by
    rw [beq_iff_eq] at h1
    rw [h1]
    decide
  refine ⟨a.grown hg a.size (fun k hk => (b.lt k hk).1), ?_, ?_, .inr ?_⟩
  · rw [pick_yes h1, pairs_append]
    simpa [pairs] using ho
  · rw [pick_no h2]
    refine ownsRow_block c fun k hk => hg.block k (c.lt k hk).2 fun e' => ?_
    rcases d with d | d
    · rw [d] at e'; cases e'
    · exact d (e'.symm.trans hk.symm)
  · intro hh
    change some g = v8.ownBlock at hh
    rcases hgg with h7 | rfl
    · rcases d with d | d
      · rw [d] at h7; cases h7
      · exact d (h7.trans hh)
    · have := (c.lt _ hh.symm).2
      omega
theorem CI.lose {w1 w w' : World} {e : Elec} {q : Nat} {v7 v8 : Value} (h : CI w1 e q v7 v8 w) (h2 : ((e.C q).status.toList == notB) = true) {g cap : Nat}
    (ho : w'.ownsRow w1.heap.size 73 2 (.slice (some ⟨g, 0, none⟩) ((pick notB e q).length + 1) cap) ((pick notB e q).length + 1) (pairs (pick notB e q) ++ [.string (e.C q).id, .string (e.C q).name])) (hg : w.grownBy w' v8.ownBlock) (hgg : v8.ownBlock = some g ∨ g = w.heap.size) :
    CI w1 e (q + 1) v7 (.slice (some ⟨g, 0, none⟩) ((pick notB e q).length + 1) cap) w' := by
  obtain ⟨a, b, c, d⟩ := h
  have h1 : ((e.C q).status.toList == tiedB) = false := by
    rw [beq_iff_eq] at h2
    rw [h2]
    decide
  refine ⟨a.grown hg a.size (fun k hk => (c.lt k hk).1), ?_, ?_, ?_⟩
  · rw [pick_no h1]
    refine ownsRow_block b fun k hk => hg.block k (b.lt k hk).2 fun e' => ?_
    rcases d with d | d
    · rw [d] at hk; cases hk
    · exact d (hk.trans e')
  · rw [pick_yes h2, pairs_append]
    simpa [pairs] using ho
  · cases h7 : v7.ownBlock with
    | none => exact .inl rfl
    | some k =>
      refine .inr fun hh => ?_
      change some k = some g at hh
      cases hh
      rcases hgg with h8 | rfl
      · rcases d with d | d
        · rw [d] at h7; cases h7
        · exact d (h7.trans h8.symm)
      · have := (b.lt _ h7).2
        omega
/-- The row that is taken. -/
theorem CI.taken {w1 w : World} {e : Elec} {v7 v8 cv : Value} (h : CI w1 e e.cl v7 v8 w) (hcv : cv = if (pick tiedB e e.cl).length = 0 then v8 else v7) : w.ownsRow w1.heap.size 73 2 cv (outOf e).cands.length (pairs (outOf e).cands) := by
  subst hcv
  unfold outOf
  split
  · exact h.rest
  · exact h.tied

/-- One more election. -/
theorem NR.push {w0 w w2 w3 : World} {E : Nat → Elec} {k : Nat} {v cv : Value} {xs : List Value} {g cap : Nat} (h1 : Below w0.heap.size w0 w) (hlt : w0.heap.size < w.heap.size) (h5 : Outs (w0.heap.size + 1) v.ownBlock w xs (sel E k)) (hown : w.ownsRow (w0.heap.size + 1) 51 5 v (sel E k).length xs)
    (hva : isVa (E k) = true) (hrow : w.ownsRow (w0.heap.size + 1) 73 2 cv (outOf (E k)).cands.length (pairs (outOf (E k)).cands)) (hap : cv.ownBlock = none ∨ cv.ownBlock ≠ v.ownBlock)
    (ho : w2.ownsRow (w0.heap.size + 1) 51 5 (.slice (some ⟨g, 0, none⟩) ((sel E k).length + 1) cap) ((sel E k).length + 1) (xs ++ outCells (outOf (E k)) cv)) (hg : w.grownBy w2 v.ownBlock) (hgg : v.ownBlock = some g ∨ g = w.heap.size)
    {D : DataW Unit} (hm : w3.ownsMap Try.prog 9 (plainElem (H := Unit) Try.prog 4) w0.heap.size (k + 1) D) (hg3 : w2.grownBy w3 (some w0.heap.size)) : NR w0 E (k + 1) (.slice (some ⟨g, 0, none⟩) ((sel E k).length + 1) cap) w3 := by
  have hb2 := h1.grown hg (by omega) (fun j hj => by have := (hown.lt j hj).1; omega)
  refine ⟨hb2.grown hg3 hb2.size (fun j hj => by cases hj; omega), by have := hg.size; have := hg3.size; omega, ⟨D, hm⟩, xs ++ outCells (outOf (E k)) cv, ?_, ?_⟩
  · rw [sel_yes hva]
    rw [List.length_append]
    refine ownsRow_block ho fun j hj => hg3.block j (ho.lt j hj).2 fun e => ?_
    cases e
    have := (ho.lt _ hj).1
    omega
  · rw [sel_yes hva]
    exact (h5.push hg hgg hrow hap).move fun j hj hlj hne => ⟨hg3.block j hlj (fun e => by cases e; omega), hne⟩
end Go.Proofs.Qxb6615896a
