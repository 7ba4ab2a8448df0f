/- FnNextRoundSplitsAtAnyCutOfTheElections: the plain part, and what the walk is handed. -/
import Derived.Test.Qxb6615896aNextWalk
namespace Go.Proofs.Qxb6615896a
open Go.RowKit Go.Maps Go.WideMaps

def shift (E : Nat → Elec) (k : Nat) : Nat → Elec := fun j => E (k + j)
theorem sel_split (E : Nat → Elec) (k : Nat) : ∀ d, sel E (k + d) = sel E k ++ sel (shift E k) d
  | 0 => by simp [sel]
  | d + 1 => by
    cases h : isVa (E (k + d)) with
    | true => rw [← Nat.add_assoc, sel_yes h, sel_split E k d, sel_yes (show isVa (shift E k d) = true from h), List.append_assoc]; rfl
    | false => rw [← Nat.add_assoc, sel_no h, sel_split E k d, sel_no (show isVa (shift E k d) = false from h)]
theorem cnt_split (E : Nat → Elec) (k d : Nat) : cnt E (k + d) = cnt E k + cnt (shift E k) d := by
  rw [← sel_len, ← sel_len, ← sel_len, sel_split, List.length_append]
theorem sel_at (E : Nat → Elec) {i n : Nat} (hi : i < n) (h : isVa (E i) = true) : (sel E n)[cnt E i]? = some (outOf (E i)) := by
  obtain ⟨d, rfl⟩ : ∃ d, n = i + 1 + d := ⟨n - (i + 1), by omega⟩
  rw [sel_split, sel_yes h, List.getElem?_append_left (by simp [sel_len]), List.getElem?_append_right (by simp [sel_len]), sel_len]
  simp
theorem cnt_lt (E : Nat → Elec) {i n : Nat} (hi : i < n) (h : isVa (E i) = true) : cnt E i < cnt E n := by
  have := (List.getElem?_eq_some_iff.1 (sel_at E hi h)).1
  rwa [sel_len] at this
theorem sel_cands {E : Nat → Elec} {n : Nat} (hc : ∀ j, j < n → (E j).cl ≤ 1048576) {o : OutE} {i : Nat} (ho : (sel E n)[i]? = some o) : o.cands.length ≤ 1048576 := by
  have hm := List.mem_of_getElem? ho
  simp only [sel, List.mem_map, List.mem_filter, List.mem_range] at hm
  obtain ⟨j, ⟨hj, _⟩, rfl⟩ := hm
  refine Nat.le_trans ?_ (hc j hj)
  unfold outOf
  dsimp only
  split
  · exact pick_le _ _ _
  · exact pick_le _ _ _

/-- The slice a holds the elections L. -/
def OutAt (w : World) (a : Option Addr) (L : List OutE) : Prop :=
  ∀ j o, L[j]? = some o → ∃ g a2 c C, a = some ⟨g, 0, none⟩ ∧ g < w.heap.size ∧ w.rangeAt g (j * 5) (outCells o (.slice a2 o.cands.length c)) ∧ PairsAt w a2 o.cands.length C ∧ ∀ i p, o.cands[i]? = some p → C i = p
theorem OutAt.below {w w' : World} (h : Below w.heap.size w w') {a : Option Addr} {L : List OutE} (ho : OutAt w a L) : OutAt w' a L := fun j o hj => by
  obtain ⟨g, a2, c, C, h1, h2, h3, h4, h5⟩ := ho j o hj
  exact ⟨g, a2, c, C, h1, Nat.lt_of_lt_of_le h2 h.size, range_below h h2 h3, h4.below h, h5⟩
theorem outAt_nil (w : World) : OutAt w none [] := fun j o hj => by simp at hj

/-- What a call of NextRound has left behind: r its answer. -/
def Ans (w : World) (z1 : Int) (L : List OutE) (r : Value) (b : Nat) (a : Option Addr) (c : Nat) : Prop :=
  r = .pointer (some ⟨b, 0, none⟩) ∧ b < w.heap.size ∧ w.cell? ⟨b, 1, none⟩ = some (.int .i64 (wrap64 (z1 + 1))) ∧ w.cell? ⟨b, 6, none⟩ = some (.slice a L.length c) ∧ OutAt w a L
theorem Ans.below {w w' : World} (h : Below w.heap.size w w') {z1 : Int} {L : List OutE} {r : Value} {b : Nat} {a : Option Addr} {c : Nat} (ha : Ans w z1 L r b a c) : Ans w' z1 L r b a c := by
  obtain ⟨h1, h2, h3, h4, h5⟩ := ha
  exact ⟨h1, Nat.lt_of_lt_of_le h2 h.size, (h.cell (p := ⟨b, 1, none⟩) h2).trans h3, (h.cell (p := ⟨b, 6, none⟩) h2).trans h4, h5.below h⟩
theorem ans_of {w : World} {b : Nat} {z1 : Int} {L : List OutE} (h : NextAt w b (wrap64 (z1 + 1)) L) : ∃ g c, Ans w z1 L (.pointer (some ⟨b, 0, none⟩)) b (some ⟨g, 0, none⟩) c := by
  obtain ⟨g, cap, h1, h2, h3, h4, h5⟩ := h
  refine ⟨g, cap, rfl, h1, h2, h3, fun j o hj => ?_⟩
  obtain ⟨a, c, C, g1, g2, g3⟩ := h5 j o hj
  exact ⟨g, a, c, C, rfl, h4, g1, g2, g3⟩

/-- One build, and its next round. -/
def Round (w : World) (z1 : Int) (n : Nat) (E : Nat → Elec) (r : Value) (w' : World) : Prop :=
  Below w.heap.size w w' ∧ ((cnt E n = 0 ∧ r = .pointer none) ∨ (0 < cnt E n ∧ ∃ b g c, Ans w' z1 (sel E n) r b (some ⟨g, 0, none⟩) c))
theorem round_of {w w1 w2 : World} {z1 : Int} {n : Nat} {E : Nat → Elec} {e : Ending} (h1 : Below w.heap.size w w1) (h : NextPost w1 z1 n E e w2) : ∃ r, e = .returned r ∧ Round w z1 n E r w2 := by
  obtain ⟨hb, ⟨h2, rfl⟩ | ⟨h2, b, rfl, h3⟩⟩ := h
  · exact ⟨_, rfl, h1.trans (hb.mono h1.size), .inl ⟨h2, rfl⟩⟩
  · obtain ⟨g, c, h4⟩ := ans_of h3
    exact ⟨_, rfl, h1.trans (hb.mono h1.size), .inr ⟨h2, b, g, c, h4⟩⟩
end Go.Proofs.Qxb6615896a
