/- The policy in memory: a new user, a new role. -/
import Derived.Test.Qxb6614755aPst
namespace Go.Proofs.Qxb6614755a
open Go.RowKit Go.Maps Go.WideMaps

theorem ownsMap_new {H : Type} {w : World} {b : Nat} (h : w.heap[b]? = some (.map #[] 0)) (P : Program) (k : TypeId) (R : Value → Option (DataW H × List MemPlace)) : w.ownsMap P k R b 0 (.map []) :=
  ⟨#[], 0, h, ⟨by simp, Go.MapKept.stamped_empty 0, by simp⟩, Nat.le_refl _, rfl⟩
theorem Set9.new {w : World} {b : Nat} (h : w.heap[b]? = some (.map #[] 0)) (T : Nat) : Set9 w b T (fun _ => False) := ⟨_, (ownsMap_new h _ _ _).mono (Nat.zero_le _), fun x => by simp [Maps.has]⟩
theorem Set58.new {w : World} {b : Nat} (h : w.heap[b]? = some (.map #[] 0)) (T : Nat) : Set58 w b T (fun _ => False) := ⟨_, (ownsMap_new h _ _ _).mono (Nat.zero_le _), fun x _ _ => by simp [Maps.has]⟩
theorem Int58.new {w : World} {b : Nat} (h : w.heap[b]? = some (.map #[] 0)) (T : Nat) : Int58 w b T (fun _ => False) := ⟨_, (ownsMap_new h _ _ _).mono (Nat.zero_le _), fun x _ _ => by simp [Maps.has]⟩
theorem Ptr9.new {w : World} {b : Nat} (h : w.heap[b]? = some (.map #[] 0)) (T : Nat) : Ptr9 w b T (fun _ => none) := ⟨_, (ownsMap_new h _ _ _).mono (Nat.zero_le _), fun x => by simp [Maps.has], fun x a h => by cases h⟩

section
variable {w0 w w1 w' : World} {T : Nat} {tag : Nat → Tg} {g : Gh}

def tagU (tag : Nat → Tg) (H : Nat) (x : Bs) : Nat → Tg := fun b => if b = H then .ur x else if b = H + 2 then .us x else tag b
theorem tagU_old {H b : Nat} {x : Bs} (h : b < H) : tagU tag H x b = tag b := by unfold tagU; rw [if_neg (by omega), if_neg (by omega)]
def tagR (tag : Nat → Tg) (H : Nat) (y : Bs) : Nat → Tg := fun b => if b = H then .ru y else if b = H + 1 then .rg y else if b = H + 4 then .rp y else if b = H + 5 then .rs y else tag b
theorem tagR_old {H b : Nat} {x : Bs} (h : b < H) : tagR tag H x b = tag b := by unfold tagR; rw [if_neg (by omega), if_neg (by omega), if_neg (by omega), if_neg (by omega)]
theorem St.in (h : St w0 w T tag g) {b : Nat} {t : Tg} (hb : tag b = t) (ht : t ≠ .no) : b < w.heap.size := (h.rng b (by rw [hb]; exact ht)).2

theorem St.newU (h : St w0 w T tag g) (x : Bs) (hg1 : w.grownBy w1 none) (hsz : w.heap.size + 3 ≤ w1.heap.size) (e0 : w1.heap[w.heap.size]? = some (.map #[] 0)) (e2 : w1.cell? ⟨w.heap.size + 2, 0, none⟩ = some (.map (some w.heap.size))) (hs : Ptr9 w' g.bu (T + 1) (fun y => if y = x then some (w.heap.size + 2) else g.ua y)) (hg : w1.grownBy w' (some g.bu)) : St w0 w' (T + 1) (tagU tag w.heap.size x) { g with ua := fun y => if y = x then some (w.heap.size + 2) else g.ua y, ur := fun y => if y = x then w.heap.size else g.ur y, asg := fun y v => if y = x then False else g.asg y v } := by
  have h1 := h.stays hg1
  have tm := h.tu
  have hmlt := h.in tm (by simp)
  have old : ∀ {b : Nat} {t : Tg}, tag b = t → t ≠ .no → tagU tag w.heap.size x b = t := fun hb ht => (tagU_old (h.in hb ht)).trans hb
  have new : ∀ k, k < 3 → some (w.heap.size + k) ≠ some g.bu := fun k _ e => by have := Option.some.inj e; omega
  have new0 : some w.heap.size ≠ some g.bu := fun e => by have := Option.some.inj e; omega
  have hle := Nat.le_succ T
  exact {
    bel := h1.bel.grown hg h1.bel.size (fun j hj => by cases hj; exact (h.rng _ (by rw [tm]; simp)).1)
    rng := fun b hb => by
      have hs1 := hg.size
      have hb0 := h.bel.size
      by_cases hlt : b < w.heap.size
      · rw [tagU_old hlt] at hb
        exact ⟨(h.rng b hb).1, by omega⟩
      · have : b < w.heap.size + 3 := by
          rcases Nat.lt_or_ge b (w.heap.size + 3) with h2 | h2
          · exact h2
          · refine absurd ?_ hb
            unfold tagU
            rw [if_neg (by omega), if_neg (by omega)]
            have hno : ¬ tag b ≠ .no := fun h3 => by have := (h.rng b h3).2; omega
            exact Classical.not_not.1 hno
        omega
    tp := old h.tp (by simp)
    to := old h.to (by simp)
    tj := old h.tj (by simp)
    tu := old h.tu (by simp)
    tr := old h.tr (by simp)
    c0 := hg.cell h1.c0 (tag_ne tm h.tp (by simp))
    c1 := hg.cell h1.c1 (tag_ne tm h.tp (by simp))
    c2 := hg.cell h1.c2 (tag_ne tm h.tp (by simp))
    c3 := hg.cell h1.c3 (tag_ne tm h.tp (by simp))
    ops := h1.ops.imp fun _ q => q.keep hg (tag_ne tm h.to (by simp)) hle
    objs := h1.objs.imp fun _ q => q.keep hg (tag_ne tm h.tj (by simp)) hle
    um := hs
    rm := h1.rm.keep hg (tag_ne tm h.tr (by simp)) hle
    ut := fun y a k => by
      by_cases e : y = x
      · subst e
        simp only [if_true, Option.some.injEq] at k
        subst k
        simp [tagU]
      · simp only [if_neg e] at k ⊢
        exact ⟨old (h.ut y a k).1 (by simp), old (h.ut y a k).2 (by simp)⟩
    uc := fun y a k => by
      by_cases e : y = x
      · subst e
        simp only [if_true, Option.some.injEq] at k
        subst k
        simpa using hg.cell e2 (new 2 (by omega))
      · simp only [if_neg e] at k ⊢
        exact hg.cell (h1.uc y a k) (tag_ne tm (h.ut y a k).1 (by simp))
    us := fun y a k => by
      by_cases e : y = x
      · subst e
        simp only [if_true, Option.some.injEq] at k
        subst k
        simpa using (Set9.new e0 T).keep hg new0 hle
      · simp only [if_neg e] at k ⊢
        exact (h1.us y a k).keep hg (tag_ne tm (h.ut y a k).2 (by simp)) hle
    rt := fun y a k => ⟨old (h.rt y a k).1 (by simp), old (h.rt y a k).2.1 (by simp), old (h.rt y a k).2.2.1 (by simp), old (h.rt y a k).2.2.2 (by simp)⟩
    rc := fun y a k => ⟨hg.cell (h1.rc y a k).1 (tag_ne tm (h.rt y a k).1 (by simp)), hg.cell (h1.rc y a k).2.1 (tag_ne tm (h.rt y a k).1 (by simp)), hg.cell (h1.rc y a k).2.2 (tag_ne tm (h.rt y a k).1 (by simp))⟩
    r1 := fun y a k => (h1.r1 y a k).imp fun _ q => q.keep hg (tag_ne tm (h.rt y a k).2.1 (by simp)) hle
    r2 := fun y a k => (h1.r2 y a k).imp fun _ q => q.keep hg (tag_ne tm (h.rt y a k).2.2.1 (by simp)) hle
    r5 := fun y a k => (h1.r5 y a k).keep hg (tag_ne tm (h.rt y a k).2.2.2 (by simp)) hle
    dcl := fun y a v k hv => by
      by_cases e : y = x
      · simp [e] at hv
      · simp only [if_neg e] at k hv
        exact h.dcl y a v k hv
  }
theorem St.newR (h : St w0 w T tag g) (x : Bs) (hg1 : w.grownBy w1 none) (hsz : w.heap.size + 6 ≤ w1.heap.size) (e0 : w1.heap[w.heap.size]? = some (.map #[] 0)) (e1 : w1.heap[w.heap.size + 1]? = some (.map #[] 0)) (e4 : w1.heap[w.heap.size + 4]? = some (.map #[] 0)) (k1 : w1.cell? ⟨w.heap.size + 5, 1, none⟩ = some (.map (some w.heap.size))) (k2 : w1.cell? ⟨w.heap.size + 5, 2, none⟩ = some (.map (some (w.heap.size + 1)))) (k5 : w1.cell? ⟨w.heap.size + 5, 5, none⟩ = some (.map (some (w.heap.size + 4)))) (hs : Ptr9 w' g.br (T + 1) (fun y => if y = x then some (w.heap.size + 5) else g.ra y)) (hg : w1.grownBy w' (some g.br)) : St w0 w' (T + 1) (tagR tag w.heap.size x) { g with ra := fun y => if y = x then some (w.heap.size + 5) else g.ra y, ru := fun y => if y = x then w.heap.size else g.ru y, rg := fun y => if y = x then w.heap.size + 1 else g.rg y, rp := fun y => if y = x then w.heap.size + 4 else g.rp y, gr := fun y q => if y = x then False else g.gr y q } := by
  have h1 := h.stays hg1
  have tm := h.tr
  have hmlt := h.in tm (by simp)
  have old : ∀ {b : Nat} {t : Tg}, tag b = t → t ≠ .no → tagR tag w.heap.size x b = t := fun hb ht => (tagR_old (h.in hb ht)).trans hb
  have new : ∀ k, k < 6 → some (w.heap.size + k) ≠ some g.br := fun k _ e => by have := Option.some.inj e; omega
  have new0 : some w.heap.size ≠ some g.br := fun e => by have := Option.some.inj e; omega
  have hle := Nat.le_succ T
  exact {
    bel := h1.bel.grown hg h1.bel.size (fun j hj => by cases hj; exact (h.rng _ (by rw [tm]; simp)).1)
    rng := fun b hb => by
      have hs1 := hg.size
      have hb0 := h.bel.size
      by_cases hlt : b < w.heap.size
      · rw [tagR_old hlt] at hb
        exact ⟨(h.rng b hb).1, by omega⟩
      · have : b < w.heap.size + 6 := by
          rcases Nat.lt_or_ge b (w.heap.size + 6) with h2 | h2
          · exact h2
          · refine absurd ?_ hb
            unfold tagR
            rw [if_neg (by omega), if_neg (by omega), if_neg (by omega), if_neg (by omega)]
            have hno : ¬ tag b ≠ .no := fun h3 => by have := (h.rng b h3).2; omega
            exact Classical.not_not.1 hno
        omega
    tp := old h.tp (by simp)
    to := old h.to (by simp)
    tj := old h.tj (by simp)
    tu := old h.tu (by simp)
    tr := old h.tr (by simp)
    c0 := hg.cell h1.c0 (tag_ne tm h.tp (by simp))
    c1 := hg.cell h1.c1 (tag_ne tm h.tp (by simp))
    c2 := hg.cell h1.c2 (tag_ne tm h.tp (by simp))
    c3 := hg.cell h1.c3 (tag_ne tm h.tp (by simp))
    ops := h1.ops.imp fun _ q => q.keep hg (tag_ne tm h.to (by simp)) hle
    objs := h1.objs.imp fun _ q => q.keep hg (tag_ne tm h.tj (by simp)) hle
    um := h1.um.keep hg (tag_ne tm h.tu (by simp)) hle
    rm := hs
    ut := fun y a k => ⟨old (h.ut y a k).1 (by simp), old (h.ut y a k).2 (by simp)⟩
    uc := fun y a k => hg.cell (h1.uc y a k) (tag_ne tm (h.ut y a k).1 (by simp))
    us := fun y a k => (h1.us y a k).keep hg (tag_ne tm (h.ut y a k).2 (by simp)) hle
    rt := fun y a k => by
      by_cases e : y = x
      · subst e
        simp only [if_true, Option.some.injEq] at k
        subst k
        simp [tagR]
      · simp only [if_neg e] at k ⊢
        exact ⟨old (h.rt y a k).1 (by simp), old (h.rt y a k).2.1 (by simp), old (h.rt y a k).2.2.1 (by simp), old (h.rt y a k).2.2.2 (by simp)⟩
    rc := fun y a k => by
      by_cases e : y = x
      · subst e
        simp only [if_true, Option.some.injEq] at k
        subst k
        simpa using ⟨hg.cell k1 (new 5 (by omega)), hg.cell k2 (new 5 (by omega)), hg.cell k5 (new 5 (by omega))⟩
      · simp only [if_neg e] at k ⊢
        exact ⟨hg.cell (h1.rc y a k).1 (tag_ne tm (h.rt y a k).1 (by simp)), hg.cell (h1.rc y a k).2.1 (tag_ne tm (h.rt y a k).1 (by simp)), hg.cell (h1.rc y a k).2.2 (tag_ne tm (h.rt y a k).1 (by simp))⟩
    r1 := fun y a k => by
      by_cases e : y = x
      · subst e
        simp only [if_true, Option.some.injEq] at k
        subst k
        exact ⟨_, by simpa using (Set9.new e0 T).keep hg new0 hle⟩
      · simp only [if_neg e] at k ⊢
        exact (h1.r1 y a k).imp fun _ q => q.keep hg (tag_ne tm (h.rt y a k).2.1 (by simp)) hle
    r2 := fun y a k => by
      by_cases e : y = x
      · subst e
        simp only [if_true, Option.some.injEq] at k
        subst k
        exact ⟨_, by simpa using (Set58.new e1 T).keep hg (new 1 (by omega)) hle⟩
      · simp only [if_neg e] at k ⊢
        exact (h1.r2 y a k).imp fun _ q => q.keep hg (tag_ne tm (h.rt y a k).2.2.1 (by simp)) hle
    r5 := fun y a k => by
      by_cases e : y = x
      · subst e
        simp only [if_true, Option.some.injEq] at k
        subst k
        simpa using (Int58.new e4 T).keep hg (new 4 (by omega)) hle
      · simp only [if_neg e] at k ⊢
        exact (h1.r5 y a k).keep hg (tag_ne tm (h.rt y a k).2.2.2 (by simp)) hle
    dcl := fun y a v k hv => by
      obtain ⟨c, hc⟩ := h.dcl y a v k hv
      by_cases e : v = x
      · exact ⟨w.heap.size + 5, if_pos e⟩
      · exact ⟨c, by simp [e, hc]⟩
  }
end
end Go.Proofs.Qxb6614755a
