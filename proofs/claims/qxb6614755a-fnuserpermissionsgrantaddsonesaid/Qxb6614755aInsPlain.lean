/- Plain facts on strictly sorted lists: they are told by their members; one member more. No Go in sight. -/
namespace Go.Proofs.Qxb6614755a

section
variable {α : Type} {lt : α → α → Prop}

theorem sorted_unique (irr : ∀ a, ¬ lt a a) (tr : ∀ a b c, lt a b → lt b c → lt a c) : ∀ (l1 l2 : List α), l1.Pairwise lt → l2.Pairwise lt → (∀ x, x ∈ l1 ↔ x ∈ l2) → l1 = l2
  | [], [], _, _, _ => rfl
  | [], b :: u, _, _, h => by have := (h b).2 (by simp); simp at this
  | a :: t, [], _, _, h => by have := (h a).1 (by simp); simp at this
  | a :: t, b :: u, h1, h2, h => by
    have p1 := List.pairwise_cons.1 h1
    have p2 := List.pairwise_cons.1 h2
    have hab : a = b := by
      have ha := (h a).1 (by simp)
      have hb := (h b).2 (by simp)
      rcases List.mem_cons.1 ha with e | e
      · exact e
      · rcases List.mem_cons.1 hb with e' | e'
        · exact e'.symm
        · exact absurd (tr _ _ _ (p1.1 b e') (p2.1 a e)) (irr a)
    subst hab
    have := sorted_unique irr tr t u p1.2 p2.2 (fun x => by
      constructor
      · intro hx
        rcases List.mem_cons.1 ((h x).1 (by simp [hx])) with e | e
        · subst e; exact absurd (p1.1 x hx) (irr x)
        · exact e
      · intro hx
        rcases List.mem_cons.1 ((h x).2 (by simp [hx])) with e | e
        · subst e; exact absurd (p2.1 x hx) (irr x)
        · exact e)
    rw [this]

theorem split_at (tr : ∀ a b c, lt a b → lt b c → lt a c) (x : α) : ∀ l : List α, l.Pairwise lt → (∀ y ∈ l, lt y x ∨ lt x y) → ∃ A B, l = A ++ B ∧ (∀ y ∈ A, lt y x) ∧ ∀ y ∈ B, lt x y
  | [], _, _ => ⟨[], [], rfl, by simp, by simp⟩
  | a :: t, h, hx => by
    have p := List.pairwise_cons.1 h
    rcases hx a (by simp) with h1 | h1
    · obtain ⟨A, B, e, hA, hB⟩ := split_at tr x t p.2 (fun y hy => hx y (by simp [hy]))
      refine ⟨a :: A, B, by rw [e]; rfl, fun y hy => ?_, hB⟩
      rcases List.mem_cons.1 hy with e' | e'
      · subst e'; exact h1
      · exact hA y e'
    · refine ⟨[], a :: t, rfl, by simp, fun y hy => ?_⟩
      rcases List.mem_cons.1 hy with e' | e'
      · subst e'; exact h1
      · exact tr _ _ _ h1 (p.1 y e')

theorem insert_split (irr : ∀ a, ¬ lt a a) (tr : ∀ a b c, lt a b → lt b c → lt a c) {l1 l2 : List α} {x : α} (h1 : l1.Pairwise lt) (h2 : l2.Pairwise lt) (hm : ∀ y, y ∈ l2 ↔ y ∈ l1 ∨ y = x) (hx : ∀ y ∈ l1, lt y x ∨ lt x y) :
    ∃ A B, l1 = A ++ B ∧ l2 = A ++ x :: B ∧ (∀ y ∈ A, lt y x) ∧ ∀ y ∈ B, lt x y := by
  obtain ⟨A, B, e, hA, hB⟩ := split_at (lt := lt) tr x l1 h1 hx
  refine ⟨A, B, e, ?_, hA, hB⟩
  rw [e, List.pairwise_append] at h1
  refine sorted_unique (lt := lt) irr tr _ _ h2 ?_ (fun y => ?_)
  · rw [List.pairwise_append]
    refine ⟨h1.1, List.pairwise_cons.2 ⟨hB, h1.2.1⟩, fun a ha b hb => ?_⟩
    rcases List.mem_cons.1 hb with e' | e'
    · subst e'; exact hA a ha
    · exact h1.2.2 a ha b e'
  · rw [hm y, e]
    simp only [List.mem_append, List.mem_cons]
    constructor
    · rintro ((h | h) | h) <;> simp [h]
    · rintro (h | h | h) <;> simp [h]

variable {n1 n2 : Nat} {S1 S2 : Nat → α} {x : α}

theorem range_get {n : Nat} {S : Nat → α} {j : Nat} (hj : j < n) : ((List.range n).map S)[j]? = some (S j) := by simp [hj]

theorem range_sorted {n : Nat} {S : Nat → α} (h : ∀ i j, i < j → j < n → lt (S i) (S j)) : ((List.range n).map S).Pairwise lt := by
  rw [List.pairwise_iff_getElem]
  intro i j hi hj hij
  simp at hi hj ⊢
  exact h i j hij hj

/-- Two rows of the same members are one row. -/
theorem rows_same (irr : ∀ a, ¬ lt a a) (tr : ∀ a b c, lt a b → lt b c → lt a c) (h1 : ∀ i j, i < j → j < n1 → lt (S1 i) (S1 j)) (h2 : ∀ i j, i < j → j < n2 → lt (S2 i) (S2 j)) (hm : ∀ y, (∃ j, j < n1 ∧ S1 j = y) ↔ (∃ j, j < n2 ∧ S2 j = y)) :
    n1 = n2 ∧ ∀ j, j < n1 → S1 j = S2 j := by
  have e := sorted_unique (lt := lt) irr tr _ _ (range_sorted h1) (range_sorted h2) (fun y => by simpa using hm y)
  have hl : n1 = n2 := by simpa using congrArg List.length e
  subst hl
  refine ⟨rfl, fun j hj => ?_⟩
  have := congrArg (fun l => l[j]?) e
  simpa [hj] using this

/-- One member more: it stands at its place, the others about it. -/
theorem rows_insert (irr : ∀ a, ¬ lt a a) (tr : ∀ a b c, lt a b → lt b c → lt a c) (h1 : ∀ i j, i < j → j < n1 → lt (S1 i) (S1 j)) (h2 : ∀ i j, i < j → j < n2 → lt (S2 i) (S2 j)) (hm : ∀ y, (∃ j, j < n2 ∧ S2 j = y) ↔ (∃ j, j < n1 ∧ S1 j = y) ∨ y = x)
    (hx : ∀ j, j < n1 → lt (S1 j) x ∨ lt x (S1 j)) :
    n2 = n1 + 1 ∧ ∃ p, p ≤ n1 ∧ (∀ j, j < p → lt (S1 j) x) ∧ (∀ j, p ≤ j → j < n1 → ¬ lt (S1 j) x) ∧ (∀ j, j < p → S2 j = S1 j) ∧ S2 p = x ∧ ∀ j, p ≤ j → j < n1 → S2 (j + 1) = S1 j := by
  obtain ⟨A, B, e1, e2, hA, hB⟩ := insert_split (lt := lt) irr tr (x := x) (range_sorted h1) (range_sorted h2) (fun y => by simpa using hm y) (fun y hy => by
    obtain ⟨j, hj, rfl⟩ := List.mem_map.1 hy
    exact hx j (by simpa using hj))
  have l1 : n1 = A.length + B.length := by simpa using congrArg List.length e1
  have l2 : n2 = A.length + (B.length + 1) := by simpa using congrArg List.length e2
  have g1 : ∀ j, j < n1 → (A ++ B)[j]? = some (S1 j) := fun j hj => by rw [← e1]; exact range_get hj
  have g2 : ∀ j, j < n2 → (A ++ x :: B)[j]? = some (S2 j) := fun j hj => by rw [← e2]; exact range_get hj
  refine ⟨by omega, A.length, by omega, fun j hj => ?_, fun j hj hj' hlt => ?_, fun j hj => ?_, ?_, fun j hj hj' => ?_⟩
  · have := g1 j (by omega)
    rw [List.getElem?_append_left hj] at this
    exact hA _ (List.mem_of_getElem? this)
  · have := g1 j hj'
    rw [List.getElem?_append_right hj] at this
    exact irr _ (tr _ _ _ hlt (hB _ (List.mem_of_getElem? this)))
  · have q1 := g1 j (by omega)
    have q2 := g2 j (by omega)
    rw [List.getElem?_append_left hj] at q1 q2
    rw [q1] at q2
    exact (Option.some.inj q2).symm
  · have q2 := g2 A.length (by omega)
    rw [List.getElem?_append_right (Nat.le_refl _)] at q2
    simp at q2
    exact q2.symm
  · have q1 := g1 j hj'
    have q2 := g2 (j + 1) (by omega)
    rw [List.getElem?_append_right hj] at q1
    rw [List.getElem?_append_right (by omega), show j + 1 - A.length = (j - A.length) + 1 by omega, List.getElem?_cons_succ, q1] at q2
    exact (Option.some.inj q2).symm
end

end Go.Proofs.Qxb6614755a
