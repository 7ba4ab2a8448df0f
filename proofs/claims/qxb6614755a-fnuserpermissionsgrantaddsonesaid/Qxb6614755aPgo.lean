/- Policy.grantsOf (59). -/
import Derived.Test.Qxb6614755aPgr
namespace Go.Proofs.Qxb6614755a
open Go.RowKit Go.Maps Go.WideMaps

theorem key9_inv {v : Value} {l : Lit} (h : keyOf Try.prog 9 v = some l) : ∃ s : ByteArray, v = .string s ∧ s.size ≤ maxLen ∧ l = .string s.toList := by
  simp only [keyOf, mapKey, Try.underlying9] at h
  cases v <;> simp at h
  exact ⟨_, rfl, h.1, by rw [← h.2, ByteArray.toList_eq]⟩

theorem nodup_len {α : Type} : ∀ (l m : List α), l.Nodup → (∀ x ∈ l, x ∈ m) → l.length ≤ m.length
  | [], _, _, _ => Nat.zero_le _
  | x :: l, m, h, hs => by
    obtain ⟨m1, m2, rfl⟩ := List.append_of_mem (hs x (by simp))
    have h' := List.nodup_cons.1 h
    have := nodup_len l (m1 ++ m2) h'.2 (fun y hy => by
      have := hs y (by simp [hy])
      simp only [List.mem_append, List.mem_cons] at this ⊢
      rcases this with h1 | h1 | h1
      · exact .inl h1
      · subst h1; exact absurd hy h'.1
      · exact .inr h1)
    simp at this ⊢
    omega

/-- A map of permissions has no more entries than there are permissions that it can hold. -/
theorem Set58.tight {w : World} {b n : Nat} {s : Pm → Prop} (h : Set58 w b n s) (Ls : List Pm) (hLs : ∀ p : Pm, p.1.size ≤ maxLen → p.2.size ≤ maxLen → s p → p ∈ Ls) : Set58 w b Ls.length s := by
  obtain ⟨D, hown, hs⟩ := h
  refine ⟨D, ?_, hs⟩
  have hsz : Maps.size D ≤ Ls.length := by
    obtain ⟨es, hD, hpw, hkl⟩ := hown.entries law58
    obtain ⟨es', hD', hko⟩ := hown.keysOf
    obtain rfl : es = es' := by rw [hD] at hD'; simpa using hD'
    have hl := nodup_len (es.map (·.1)) (Ls.map fun q => Lit.string (kb q)) (List.pairwise_map.2 hpw) (fun l hl => by
      obtain ⟨e, he, rfl⟩ := List.mem_map.1 hl
      obtain ⟨v, hv⟩ := hko e he
      obtain ⟨q, _, h1, h2, h3⟩ := keyPm_inv hv
      refine List.mem_map.2 ⟨q, hLs q h1 h2 ((hs q h1 h2).1 ?_), h3.symm⟩
      rw [← h3, hD]
      simp only [Maps.has, List.any_eq_true]
      exact ⟨e, he, WideAt.sameKey_self (hkl e he)⟩)
    rw [hD]
    simpa [Maps.size] using hl
  obtain ⟨es, clock, h1, h2, h3, h4⟩ := hown
  refine ⟨es, clock, h1, h2, ?_, h4⟩
  subst h4
  simpa [Maps.size, length_sorted] using hsz

def Unites (x : Bs) (g : Gh) (Ls : List Pm) (w : World) (e : Ending) (w' : World) : Prop :=
  ∃ b, e = .returned (.map (some b)) ∧ Set58 w' b Ls.length (fun p => ∃ y, g.asg x y ∧ g.gr y p) ∧ Below w.heap.size w w' ∧ w.heap.size ≤ b

set_option maxRecDepth 100000 in
set_option maxHeartbeats 1000000 in
theorem grantsOf_st {w0 w : World} {T : Nat} {tag : Nat → Tg} {g : Gh} (h : St w0 w T tag g) (x : Bs) (a : Nat) (ha : g.ua x = some a) (Ls : List Pm) (hLs : ∀ y p, g.gr y p → p ∈ Ls) (hL : Ls.length ≤ 1048576) :
    Calls Try.prog 59 #[.pointer (some ⟨g.bp, 0, none⟩), .map (some (g.ur x))] w (Unites x g Ls w) := by
  have hmm := @run_makeMap Try.prog
  obtain ⟨Dx, hown, hDx⟩ := h.us x a ha
  have hbl := hown.lt
  have hown1 := hown.alloc (.map #[] 0)
  have hU0 : Set58 (w.alloc (.map #[] 0)) w.heap.size Ls.length (fun _ => False) := Set58.new (heap_alloc_new w _) _
  go_enter Try.func59, Try.ntmps59
  go_wp2_with (first
    | (at_range; refine wpList_range_own _ rfl _ 72 rfl 9 37 law9 Try.underlying72 _ (g.ur x) T _ rfl hown1 ?_; intro w1 hrg1 hg1 hs1)
    | go_in)
  go_frame
  have eR : (w.alloc (.map #[] 0)).heap.size = w.heap.size + 1 := by simp
  rw [eR] at hrg1 hs1 ⊢
  have hU1 := hU0.keep hg1 (by simp) (Nat.le_refl _)
  have hB1 : Below w.heap.size w w1 := ((Below.refl _ _).alloc (Nat.le_refl _) _).grown hg1 (by simp) (fun j hj => by cases hj)
  clear hown hown1 hU0 hg1
  go_loopw [] (fun wr => ∃ (left : Lit → Bool) (cnt : Nat), wr.ranges Try.prog 9 (unitElem (H := Unit)) (g.ur x) (w.heap.size + 1) T Dx left cnt ∧
      Set58 wr w.heap.size Ls.length (fun p => ∃ y, g.asg x y ∧ left (.string y) = false ∧ g.gr y p) ∧ Below w.heap.size w wr ∧ w.heap.size + 2 ≤ wr.heap.size)
    (fun wr => wr.rangeLeft (g.ur x) (w.heap.size + 1))
  case atStart =>
    refine ⟨_, _, hrg1, ?_, hB1, by omega⟩
    obtain ⟨D, k1, k2⟩ := hU1
    refine ⟨D, k1, fun p h1 h2 => (k2 p h1 h2).trans ⟨fun k => k.elim, ?_⟩⟩
    rintro ⟨y, hy, hl, _⟩
    have := (hDx y).2 hy
    rw [hl] at this
    cases this
  case round =>
    obtain ⟨left, cnt, hrg, hU, hnx, hsz⟩ := hrel
    rename World => wr
    clear hrg1 hU1 hB1 hs1
    go_wp2_with (first
      | (at_next; refine wpList_next_ranges _ rfl _ rfl 9 law9 (unitElem (H := Unit)) Value.string (fun _ : Unit => Value.agg #[]) (fun key kl hk => by obtain ⟨s, hs, _⟩ := key9_inv hk; exact ⟨s, hs⟩) (fun v y hv => ⟨(), (unitElem_inv hv).1⟩) (g.ur x) (w.heap.size + 1) T _ _ _ rfl hrg ?_ ?_)
      | go_in)
    · intro hc0 hl0
      go_wp2
      go_ret
      refine ⟨_, rfl, ?_, hnx, Nat.le_refl _⟩
      obtain ⟨D, k1, k2⟩ := hU
      exact ⟨D, k1, fun p h1 h2 => (k2 p h1 h2).trans ⟨fun ⟨y, q1, _, q2⟩ => ⟨y, q1, q2⟩, fun ⟨y, q1, q2⟩ => ⟨y, q1, hl0 _, q2⟩⟩⟩
    · intro y kl yd yp w2 cnt2 hkey hlk hv hat hrg2 hlt hg2 hs2 hen
      obtain ⟨y', hy', hysz, hkl⟩ := key9_inv hkey
      cases hy'
      subst hkl
      have hasg : g.asg x y.toList := (hDx _).1 (has_true_of_atKey hat)
      obtain ⟨c, hc⟩ := h.dcl x a _ ha hasg
      have hnx2 := hnx.grown hg2 hnx.size (fun j hj => by cases hj; omega)
      have h2 := h.stays (grown_of_below hnx2)
      have hlook := h2.rm.look Try.underlying65 (zero71 _) y hysz hc
      have c3 := h2.c3
      have cc := (h2.rc _ c hc).2.2
      obtain ⟨Dy, hown2, hDy⟩ := h2.r5 _ c hc
      have hU2 := hU.keep hg2 (by simp) (Nat.le_refl _)
      go_wp2_with (first
        | (at_range; refine wpList_range_own _ rfl _ 75 rfl 58 3 law58 Try.underlying75 _ (g.rp y.toList) T _ rfl hown2 ?_; intro w3 hrg3 hg3 hs3)
        | go_in)
      go_frame
      have hU3 := hU2.keep hg3 (by simp) (Nat.le_refl _)
      have hnx3 := hnx2.grown hg3 hnx2.size (fun j hj => by cases hj)
      have hrgO := hrg2.kept hg3 (by simp) (by simp)
      have hw2 : w.heap.size + 2 ≤ w2.heap.size := by have := hg2.size; omega
      have hux := (h.ut x a ha).2
      have hpy := (h.rt _ c hc).2.2.2
      have hlux := h.in hux (by simp)
      have hlpy := h.in hpy (by simp)
      clear hU2 hown2 hg3 hlook c3 cc h2 hU hen hs2 hg2 hrg2 hnx hnx2
      go_loopw [] (fun wq => ∃ (left2 : Lit → Bool) (cnt3 : Nat), wq.ranges Try.prog 58 (plainElem (H := Unit) Try.prog 3) (g.rp y.toList) w2.heap.size T Dy left2 cnt3 ∧ wq.ranges Try.prog 9 (unitElem (H := Unit)) (g.ur x) (w.heap.size + 1) T Dx (fun z => left z && !z.sameKey (.string y.toList)) cnt2 ∧
          Set58 wq w.heap.size Ls.length (fun p => (∃ u, g.asg x u ∧ left (.string u) = false ∧ g.gr u p) ∨ (g.gr y.toList p ∧ left2 (.string (kb p)) = false)) ∧ Below w.heap.size w wq ∧ w2.heap.size + 1 ≤ wq.heap.size)
        (fun wq => wq.rangeLeft (g.rp y.toList) w2.heap.size)
      case atStart =>
        refine ⟨_, _, hrg3, hrgO, ?_, hnx3, by omega⟩
        obtain ⟨D, k1, k2⟩ := hU3
        refine ⟨D, k1, fun p h1 h2 => (k2 p h1 h2).trans ⟨Or.inl, ?_⟩⟩
        rintro (k | ⟨q1, q2⟩)
        · exact k
        · have := (hDy p h1 h2).2 q1
          rw [q2] at this
          cases this
      case round =>
        obtain ⟨left2, cnt3, hrgq, hrgo, hUq, hnxq, hszq⟩ := hrel
        rename World => wq
        clear hrg3 hrgO hU3 hnx3 hs3
        go_wp2_with (first
          | (at_next; refine wpList_next_ranges _ rfl _ rfl 58 law58 (plainElem (H := Unit) Try.prog 3) pmV (fun z : Int => Value.int .i64 z) (fun key kl hk => by obtain ⟨x, hx, _⟩ := keyPm_inv hk; exact ⟨x, hx⟩) (fun v y hv => by obtain ⟨z, hz, _⟩ := plainElem_int_inv Try.underlying3 hv; exact ⟨z, hz⟩) (g.rp y.toList) w2.heap.size T _ _ _ rfl hrgq ?_ ?_)
          | go_in)
        · intro hc0 hl0
          go_wp2
          go_roundw
          case rel =>
            refine ⟨_, cnt2, hrgo, ?_, hnxq, by omega⟩
            obtain ⟨D, k1, k2⟩ := hUq
            refine ⟨D, k1, fun p h1 h2 => (k2 p h1 h2).trans ⟨?_, ?_⟩⟩
            · rintro (⟨u, q1, q2, q3⟩ | ⟨q1, _⟩)
              · exact ⟨u, q1, by simp [q2], q3⟩
              · exact ⟨y.toList, hasg, by simp [Lit.sameKey], q1⟩
            · rintro ⟨u, q1, q2, q3⟩
              by_cases e : u = y.toList
              · subst e; exact Or.inr ⟨q3, hl0 _⟩
              · refine Or.inl ⟨u, q1, ?_, q3⟩
                simpa [Lit.sameKey, e] using q2
          case measure => rw [hrgo.left_eq, hrg.left_eq]; exact hlt
        · intro x1 x2 z kl2 yd2 yp2 w4 cnt4 hkey2 hlk2 hv2 hat2 hrg4 hlt4 hg4 hs4 hen4
          obtain ⟨p0, hp0', hz1', hz2', hkl⟩ := keyPm_inv (show keyOf Try.prog 58 (pmV (x1, x2)) = some kl2 from hkey2)
          obtain rfl : p0 = (x1, x2) := by
            obtain ⟨y1, y2⟩ := p0
            simp [pmV] at hp0'
            rw [hp0'.1, hp0'.2]
          subst hkl
          simp only [pmV] at hen4 ⊢
          have hgr : g.gr y.toList (x1, x2) := (hDy _ hz1' hz2').1 (has_true_of_atKey hat2)
          have hU4 := (hUq.keep hg4 (by simp; omega) (Nat.le_refl _)).keep (World.grownBy_alloc w4 (.cells #[.string x1, .string x2] 58) none) (by simp) (Nat.le_refl _)
          obtain ⟨w5, hr5, hs5, hg5⟩ := hU4.put Try.underlying74 (by omega) (x1, x2) hz1' hz2'
          have hU5 := hs5.tight Ls (fun p h1 h2 hp => by
            rcases hp with (⟨u, _, _, q3⟩ | ⟨q1, _⟩) | rfl
            · exact hLs _ _ q3
            · exact hLs _ _ q1
            · exact hLs _ _ hgr)
          have hnx4 := (hnxq.grown hg4 hnxq.size (fun j hj => by cases hj; omega)).alloc (by have := hnxq.size; have := hg4.size; omega) (.cells #[.string x1, .string x2] 58)
          have hnx5 := hnx4.grown hg5 hnx4.size (fun j hj => by cases hj; exact Nat.le_refl _)
          have hrg5 := (hrg4.alloc (.cells #[.string x1, .string x2] 58)).kept hg5 (by simp; omega) (by simp; omega)
          have hrgo5 := ((hrgo.kept hg4 (by simp; omega) (by simp; omega)).alloc (.cells #[.string x1, .string x2] 58)).kept hg5 (by simp; omega) (by simp)
          have hsz5 : w2.heap.size + 1 ≤ w5.heap.size := by have := hg4.size; have := hg5.size; simp at this; omega
          simp only [pmV] at hr5
          clear hs5 hg5 hU4 hnx4 hs4
          go_wp2
          go_roundw
          case rel =>
            refine ⟨_, cnt4, hrg5, hrgo5, ?_, hnx5, hsz5⟩
            obtain ⟨D, k1, k2⟩ := hU5
            refine ⟨D, k1, fun p h1 h2 => (k2 p h1 h2).trans ⟨?_, ?_⟩⟩
            · rintro ((k | ⟨q1, q2⟩) | rfl)
              · exact Or.inl k
              · exact Or.inr ⟨q1, by simp [q2]⟩
              · exact Or.inr ⟨hgr, by simp [Lit.sameKey]⟩
            · rintro (k | ⟨q1, q2⟩)
              · exact Or.inl (Or.inl k)
              · by_cases e : p = (x1, x2)
                · exact Or.inr e
                · refine Or.inl (Or.inr ⟨q1, ?_⟩)
                  have hne : kb p ≠ kb (x1, x2) := fun hk => e (kb_inj h1 h2 hz1' hz2' hk)
                  simpa [Lit.sameKey, hne] using q2
          case measure => rw [hrg5.left_eq, hrgq.left_eq]; exact hlt4
end Go.Proofs.Qxb6614755a
