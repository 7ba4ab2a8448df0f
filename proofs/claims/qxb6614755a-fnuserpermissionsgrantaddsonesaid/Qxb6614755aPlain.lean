/- Plain facts on lists of byte strings: no Go in sight. -/
namespace Go.Proofs.Qxb6614755a

abbrev Bs := List UInt8

theorem bs_tri (a b : Bs) : a < b ∨ a = b ∨ b < a := by
  by_cases h : a < b
  · exact .inl h
  · by_cases h2 : b < a
    · exact .inr (.inr h2)
    · exact .inr (.inl (List.le_antisymm (List.not_lt.1 h2) (List.not_lt.1 h)))

theorem bs_irrefl (a : Bs) : ¬ a < a := List.lt_irrefl a
theorem bs_trans {a b c : Bs} (h : a < b) (h2 : b < c) : a < c := List.lt_trans h h2
theorem bs_asymm {a b : Bs} (h : a < b) : ¬ b < a := fun h2 => bs_irrefl a (bs_trans h h2)

/-- c is the sorted union of the sorted a and b, each member once. -/
structure Un (c a b : List Bs) : Prop where
  sc : c.Pairwise (· < ·)
  sa : a.Pairwise (· < ·)
  sb : b.Pairwise (· < ·)
  mem : ∀ x, x ∈ c ↔ x ∈ a ∨ x ∈ b

theorem un_nil {c : List Bs} (h : Un c [] []) : c = [] := by
  cases c with
  | nil => rfl
  | cons x t => have := (h.mem x).1 (by simp); simp at this

/-- The least of both stands first. -/
theorem un_head {c a b : List Bs} (h : Un c a b) (x : Bs) (hx : x ∈ a ∨ x ∈ b) (ha : ∀ y ∈ a, x < y ∨ x = y) (hb : ∀ y ∈ b, x < y ∨ x = y) : ∃ c', c = x :: c' ∧ (∀ y ∈ c', x < y) ∧ c'.Pairwise (· < ·) := by
  have hxc : x ∈ c := (h.mem x).2 hx
  cases c with
  | nil => simp at hxc
  | cons y t =>
    have hs := List.pairwise_cons.1 h.sc
    have hy : x < y ∨ x = y := by
      rcases (h.mem y).1 (by simp) with h1 | h1
      · exact ha y h1
      · exact hb y h1
    have hyx : y = x := by
      rcases hy with h1 | h1
      · rcases List.mem_cons.1 hxc with h2 | h2
        · exact h2.symm
        · exact absurd (hs.1 x h2) (bs_asymm h1)
      · exact h1.symm
    subst hyx
    exact ⟨t, rfl, hs.1, hs.2⟩

theorem un_left {c a' b : List Bs} {x : Bs} (h : Un c (x :: a') b) (hb : ∀ y ∈ b, x < y) : ∃ c', c = x :: c' ∧ Un c' a' b := by
  have hsa := List.pairwise_cons.1 h.sa
  obtain ⟨c', rfl, h1, h2⟩ := un_head h x (.inl (by simp)) (fun y hy => by
    rcases List.mem_cons.1 hy with e | e
    · exact .inr e.symm
    · exact .inl (hsa.1 y e)) (fun y hy => .inl (hb y hy))
  refine ⟨c', rfl, h2, hsa.2, h.sb, fun z => ?_⟩
  constructor
  · intro hz
    rcases (h.mem z).1 (by simp [hz]) with h3 | h3
    · rcases List.mem_cons.1 h3 with e | e
      · subst e; exact absurd (h1 z hz) (bs_irrefl z)
      · exact .inl e
    · exact .inr h3
  · intro hz
    have hlt : x < z := by
      rcases hz with h3 | h3
      · exact hsa.1 z h3
      · exact hb z h3
    have := (h.mem z).2 (hz.imp (fun q => by simp [q]) id)
    rcases List.mem_cons.1 this with e | e
    · subst e; exact absurd hlt (bs_irrefl z)
    · exact e

theorem un_symm {c a b : List Bs} (h : Un c a b) : Un c b a := ⟨h.sc, h.sb, h.sa, fun x => (h.mem x).trans Or.comm⟩

theorem un_right {c a b' : List Bs} {x : Bs} (h : Un c a (x :: b')) (ha : ∀ y ∈ a, x < y) : ∃ c', c = x :: c' ∧ Un c' a b' := by
  obtain ⟨c', e, h'⟩ := un_left (un_symm h) ha
  exact ⟨c', e, un_symm h'⟩

theorem un_both {c a' b' : List Bs} {x : Bs} (h : Un c (x :: a') (x :: b')) : ∃ c', c = x :: c' ∧ Un c' a' b' := by
  have hsb := List.pairwise_cons.1 h.sb
  have h' : Un c (x :: a') b' := ⟨h.sc, h.sa, hsb.2, fun z => by
    rw [h.mem z]; simp only [List.mem_cons]
    constructor
    · rintro ((e | e) | (e | e)) <;> simp [e]
    · rintro ((e | e) | e) <;> simp [e]⟩
  exact un_left h' hsb.1

/-- What an indexed row of strings holds, as a list. -/
def lst (n : Nat) (S : Nat → Bs) : List Bs := (List.range n).map S

theorem lst_length (n : Nat) (S : Nat → Bs) : (lst n S).length = n := by simp [lst]
theorem mem_lst {n : Nat} {S : Nat → Bs} {x : Bs} : x ∈ lst n S ↔ ∃ j, j < n ∧ S j = x := by simp [lst]
theorem lst_drop {n : Nat} {S : Nat → Bs} {k : Nat} (hk : k < n) : (lst n S).drop k = S k :: (lst n S).drop (k + 1) := by
  rw [List.drop_eq_getElem_cons (by simpa [lst] using hk)]
  simp [lst]
theorem lst_drop_end (n : Nat) (S : Nat → Bs) : (lst n S).drop n = [] := by simp [lst]
theorem lst_sorted {n : Nat} {S : Nat → Bs} (h : ∀ i j, i < j → j < n → S i < S j) : (lst n S).Pairwise (· < ·) := by
  rw [List.pairwise_iff_getElem]
  intro i j hi hj hij
  simp [lst] at hi hj ⊢
  exact h i j hij hj
theorem drop_sorted {l : List Bs} (h : l.Pairwise (· < ·)) (k : Nat) : (l.drop k).Pairwise (· < ·) := h.sublist (List.drop_sublist k l)
theorem mem_lst_drop {n : Nat} {S : Nat → Bs} {x : Bs} {k : Nat} : x ∈ (lst n S).drop k → ∃ j, k ≤ j ∧ j < n ∧ S j = x := by
  intro h
  obtain ⟨i, hi, e⟩ := List.getElem_of_mem h
  simp [lst] at hi e
  exact ⟨k + i, by omega, by omega, e⟩


section
variable {na nb nc i j k : Nat} {A B C : Nat → Bs}

theorem un_less {c a b' : List Bs} {x y : Bs} (h : Un c a (y :: b')) (hxy : x < y) : ∀ z ∈ y :: b', x < z := fun z hz => by
  rcases List.mem_cons.1 hz with e | e
  · subst e; exact hxy
  · exact bs_trans hxy ((List.pairwise_cons.1 h.sb).1 z e)

theorem drop_lt {c : Bs} {t : List Bs} (h : (lst nc C).drop k = c :: t) : k < nc ∧ C k = c ∧ (lst nc C).drop (k + 1) = t := by
  have hk : k < nc := by
    by_cases hk : k < nc
    · exact hk
    · rw [List.drop_eq_nil_of_le (by rw [lst_length]; omega)] at h; cases h
  rw [lst_drop hk] at h
  injection h with h1 h2
  exact ⟨hk, h1, h2⟩

theorem un_stepL (h : Un ((lst nc C).drop k) ((lst na A).drop i) ((lst nb B).drop j)) (hi : i < na) (hj : nb ≤ j ∨ (j < nb ∧ A i < B j)) :
    k < nc ∧ C k = A i ∧ Un ((lst nc C).drop (k + 1)) ((lst na A).drop (i + 1)) ((lst nb B).drop j) := by
  rw [lst_drop hi] at h
  obtain ⟨c', e, hu⟩ := un_left h (by
    rcases hj with hj | ⟨hj, hl⟩
    · rw [List.drop_eq_nil_of_le (by rw [lst_length]; omega)]; simp
    · rw [lst_drop hj] at h ⊢; exact un_less h hl)
  obtain ⟨h1, h2, h3⟩ := drop_lt e
  exact ⟨h1, h2, by rw [h3]; exact hu⟩

theorem un_stepR (h : Un ((lst nc C).drop k) ((lst na A).drop i) ((lst nb B).drop j)) (hj : j < nb) (hi : na ≤ i ∨ (i < na ∧ B j < A i)) :
    k < nc ∧ C k = B j ∧ Un ((lst nc C).drop (k + 1)) ((lst na A).drop i) ((lst nb B).drop (j + 1)) := by
  obtain ⟨h1, h2, h3⟩ := un_stepL (un_symm h) hj hi
  exact ⟨h1, h2, un_symm h3⟩

theorem un_stepB (h : Un ((lst nc C).drop k) ((lst na A).drop i) ((lst nb B).drop j)) (hi : i < na) (hj : j < nb) (he : A i = B j) :
    k < nc ∧ C k = A i ∧ Un ((lst nc C).drop (k + 1)) ((lst na A).drop (i + 1)) ((lst nb B).drop (j + 1)) := by
  rw [lst_drop hi, lst_drop hj, ← he] at h
  obtain ⟨c', e, hu⟩ := un_both h
  obtain ⟨h1, h2, h3⟩ := drop_lt e
  exact ⟨h1, h2, by rw [h3]; exact hu⟩

theorem un_end (h : Un ((lst nc C).drop k) ((lst na A).drop i) ((lst nb B).drop j)) (hi : na ≤ i) (hj : nb ≤ j) (hk : k ≤ nc) : k = nc := by
  have e1 : (lst na A).drop i = [] := List.drop_eq_nil_of_le (by rw [lst_length]; omega)
  have e2 : (lst nb B).drop j = [] := List.drop_eq_nil_of_le (by rw [lst_length]; omega)
  rw [e1, e2] at h
  have := congrArg List.length (un_nil h)
  simp [lst] at this
  omega
end

end Go.Proofs.Qxb6614755a
