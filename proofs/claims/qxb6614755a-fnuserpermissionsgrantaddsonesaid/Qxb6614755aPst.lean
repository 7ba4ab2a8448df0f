/- The policy in memory: what it holds, and how it stands behind each store. -/
import Derived.Test.Qxb6614755aPk
import Derived.Test.Qxb6614755aDsd
namespace Go.Proofs.Qxb6614755a
open Go.RowKit Go.Maps Go.WideMaps

theorem has_put_iff' {H : Type} {D : DataW H} (hm : Maps.IsMap D) (y x : Bs) (d : DataW H) : Maps.has (D.put (.string y) d) (.string x) = true ↔ Maps.has D (.string x) = true ∨ x = y := by
  by_cases e : x = y
  · subst e
    rw [Maps.has_put_same hm (by trivial)]
    simp
  · rw [Maps.has_put_other (fun h => e (by injection h))]
    simp [e]

/-- A set of names; a map from names to pointers; a set of permissions; a map from permissions to numbers. -/
def Set9 (w : World) (b T : Nat) (s : Bs → Prop) : Prop := ∃ D : DataW Unit, w.ownsMap Try.prog 9 (unitElem (H := Unit)) b T D ∧ ∀ x : Bs, has D (.string x) = true ↔ s x
def Ptr9 (w : World) (b T : Nat) (f : Bs → Option Nat) : Prop := ∃ D : DataW (Option Addr), w.ownsMap Try.prog 9 ptrElem b T D ∧ (∀ x : Bs, has D (.string x) = true ↔ ∃ a, f x = some a) ∧ ∀ x a, f x = some a → D.atKey (.string x) (.held none) = .held (some ⟨a, 0, none⟩)
def Set58 (w : World) (b T : Nat) (s : Pm → Prop) : Prop := ∃ D : DataW Unit, w.ownsMap Try.prog 58 (unitElem (H := Unit)) b T D ∧ ∀ p : Pm, p.1.size ≤ maxLen → p.2.size ≤ maxLen → (has D (.string (kb p)) = true ↔ s p)
def Int58 (w : World) (b T : Nat) (s : Pm → Prop) : Prop := ∃ D : DataW Unit, w.ownsMap Try.prog 58 (plainElem Try.prog 3) b T D ∧ ∀ p : Pm, p.1.size ≤ maxLen → p.2.size ≤ maxLen → (has D (.string (kb p)) = true ↔ s p)

section
variable {w w' : World} {b T T' : Nat} {row : Option Nat}
theorem Set9.keep {s : Bs → Prop} (h : Set9 w b T s) (hg : w.grownBy w' row) (hne : some b ≠ row) (hT : T ≤ T') : Set9 w' b T' s := by
  obtain ⟨D, h1, h2⟩ := h; exact ⟨D, (h1.kept hg hne).mono hT, h2⟩
theorem Ptr9.keep {f : Bs → Option Nat} (h : Ptr9 w b T f) (hg : w.grownBy w' row) (hne : some b ≠ row) (hT : T ≤ T') : Ptr9 w' b T' f := by
  obtain ⟨D, h1, h2⟩ := h; exact ⟨D, (h1.kept hg hne).mono hT, h2⟩
theorem Set58.keep {s : Pm → Prop} (h : Set58 w b T s) (hg : w.grownBy w' row) (hne : some b ≠ row) (hT : T ≤ T') : Set58 w' b T' s := by
  obtain ⟨D, h1, h2⟩ := h; exact ⟨D, (h1.kept hg hne).mono hT, h2⟩
theorem Int58.keep {s : Pm → Prop} (h : Int58 w b T s) (hg : w.grownBy w' row) (hne : some b ≠ row) (hT : T ≤ T') : Int58 w' b T' s := by
  obtain ⟨D, h1, h2⟩ := h; exact ⟨D, (h1.kept hg hne).mono hT, h2⟩

theorem Set9.put {s : Bs → Prop} (h : Set9 w b T s) {t : TypeId} (ht : Try.prog.underlying t = some (.map 9 37)) (hT : T ≤ 16777216) (x : ByteArray) (hx : x.size ≤ maxLen) :
    ∃ w', (Instr.mapUpdate t (.map (some b)) (.string x) (.agg #[])).run Try.prog w = .ok () w' ∧ Set9 w' b (T + 1) (fun y => s y ∨ y = x.toList) ∧ w.grownBy w' (some b) := by
  obtain ⟨D, h1, h2⟩ := h
  obtain ⟨w', hr, h3, h4⟩ := h1.update law9 ht (by unfold maxLen; omega) (key9 x hx) (unitElem_mk (H := Unit))
  exact ⟨w', hr, ⟨_, h3, fun y => by rw [has_put_iff' h1.isMap, h2 y]⟩, h4⟩
theorem Ptr9.put {f : Bs → Option Nat} (h : Ptr9 w b T f) {t e : TypeId} (ht : Try.prog.underlying t = some (.map 9 e)) (hT : T ≤ 16777216) (x : ByteArray) (hx : x.size ≤ maxLen) (a : Nat) :
    ∃ w', (Instr.mapUpdate t (.map (some b)) (.string x) (.pointer (some ⟨a, 0, none⟩))).run Try.prog w = .ok () w' ∧ Ptr9 w' b (T + 1) (fun y => if y = x.toList then some a else f y) ∧ w.grownBy w' (some b) := by
  obtain ⟨D, h1, h2, h2'⟩ := h
  obtain ⟨w', hr, h3, h4⟩ := h1.update law9 ht (by unfold maxLen; omega) (key9 x hx) (ptrElem_mk (some ⟨a, 0, none⟩))
  refine ⟨w', hr, ⟨_, h3, fun y => ?_, fun y c hc => ?_⟩, h4⟩
  · rw [has_put_iff' h1.isMap, h2 y]
    by_cases e : y = x.toList
    · simp [e]
    · simp [e]
  · by_cases e : y = x.toList
    · simp only [if_pos e, Option.some.injEq] at hc
      subst e hc
      exact atKey_put_same h1.isMap (by trivial) _ _
    · simp only [if_neg e] at hc
      rw [atKey_put_other (fun h => e (by injection h))]
      exact h2' y c hc
theorem Set58.put {s : Pm → Prop} (h : Set58 w b T s) {t : TypeId} (ht : Try.prog.underlying t = some (.map 58 37)) (hT : T ≤ 16777216) (p : Pm) (h1 : p.1.size ≤ maxLen) (h2 : p.2.size ≤ maxLen) :
    ∃ w', (Instr.mapUpdate t (.map (some b)) (pmV p) (.agg #[])).run Try.prog w = .ok () w' ∧ Set58 w' b (T + 1) (fun q => s q ∨ q = p) ∧ w.grownBy w' (some b) := by
  obtain ⟨D, h3, h4⟩ := h
  obtain ⟨w', hr, h5, h6⟩ := h3.update law58 ht (by unfold maxLen; omega) (keyPm p h1 h2) (unitElem_mk (H := Unit))
  refine ⟨w', hr, ⟨_, h5, fun q hq1 hq2 => ?_⟩, h6⟩
  rw [has_put_iff' h3.isMap, h4 q hq1 hq2]
  exact or_congr_right ⟨fun e => kb_inj hq1 hq2 h1 h2 e, fun e => by rw [e]⟩
theorem Int58.put {s : Pm → Prop} (h : Int58 w b T s) {t : TypeId} (ht : Try.prog.underlying t = some (.map 58 3)) (hT : T ≤ 16777216) (p : Pm) (h1 : p.1.size ≤ maxLen) (h2 : p.2.size ≤ maxLen) :
    ∃ w', (Instr.mapUpdate t (.map (some b)) (pmV p) (.int .i64 1)).run Try.prog w = .ok () w' ∧ Int58 w' b (T + 1) (fun q => s q ∨ q = p) ∧ w.grownBy w' (some b) := by
  obtain ⟨D, h3, h4⟩ := h
  obtain ⟨w', hr, h5, h6⟩ := h3.update law58 ht (by unfold maxLen; omega) (keyPm p h1 h2) (plainElem_int (H := Unit) Try.underlying3 (a := 1) (by decide))
  refine ⟨w', hr, ⟨_, h5, fun q hq1 hq2 => ?_⟩, h6⟩
  rw [has_put_iff' h3.isMap, h4 q hq1 hq2]
  exact or_congr_right ⟨fun e => kb_inj hq1 hq2 h1 h2 e, fun e => by rw [e]⟩
theorem zero71 (w : World) : (zeroValue 71).run Try.prog w = .ok (.pointer none) w := by kernel_rfl
theorem zero96 (w : World) : (zeroValue 96).run Try.prog w = .ok (.pointer none) w := by kernel_rfl
theorem Ptr9.look {f : Bs → Option Nat} (h : Ptr9 w b T f) {t e : TypeId} (ht : Try.prog.underlying t = some (.map 9 e)) (hz : (zeroValue e).run Try.prog w = .ok (.pointer none) w) (x : ByteArray) (hx : x.size ≤ maxLen) {a : Nat} (ha : f x.toList = some a) :
    (Instr.lookup t (.map (some b)) (.string x) false).run Try.prog w = .ok (.pointer (some ⟨a, 0, none⟩)) w := by
  obtain ⟨D, h1, _, h2⟩ := h
  obtain ⟨v, ps, hr, hv⟩ := h1.lookup law9 ht hz (ptrElem_mk none) (key9 x hx)
  obtain ⟨c, rfl, hc⟩ := ptrElem_inv hv
  rw [h2 _ a ha] at hc
  cases hc
  exact hr
end

/-- Where the policy's blocks lie, and what it says. -/
structure Gh where
  bp : Nat
  bo : Nat
  bj : Nat
  bu : Nat
  br : Nat
  ua : Bs → Option Nat
  ur : Bs → Nat
  ra : Bs → Option Nat
  ru : Bs → Nat
  rg : Bs → Nat
  rp : Bs → Nat
  asg : Bs → Bs → Prop
  gr : Bs → Pm → Prop

inductive Tg
  | no | p | o | j | u | r
  | us (x : Bs) | ur (x : Bs) | rs (x : Bs) | ru (x : Bs) | rg (x : Bs) | rp (x : Bs)

structure St (w0 w : World) (T : Nat) (tag : Nat → Tg) (g : Gh) : Prop where
  bel : Below w0.heap.size w0 w
  rng : ∀ b, tag b ≠ .no → w0.heap.size ≤ b ∧ b < w.heap.size
  tp : tag g.bp = .p
  to : tag g.bo = .o
  tj : tag g.bj = .j
  tu : tag g.bu = .u
  tr : tag g.br = .r
  c0 : w.cell? ⟨g.bp, 0, none⟩ = some (.map (some g.bo))
  c1 : w.cell? ⟨g.bp, 1, none⟩ = some (.map (some g.bj))
  c2 : w.cell? ⟨g.bp, 2, none⟩ = some (.map (some g.bu))
  c3 : w.cell? ⟨g.bp, 3, none⟩ = some (.map (some g.br))
  ops : ∃ s, Set9 w g.bo T s
  objs : ∃ s, Set9 w g.bj T s
  um : Ptr9 w g.bu T g.ua
  rm : Ptr9 w g.br T g.ra
  ut : ∀ x a, g.ua x = some a → tag a = .us x ∧ tag (g.ur x) = .ur x
  uc : ∀ x a, g.ua x = some a → w.cell? ⟨a, 0, none⟩ = some (.map (some (g.ur x)))
  us : ∀ x a, g.ua x = some a → Set9 w (g.ur x) T (g.asg x)
  rt : ∀ y a, g.ra y = some a → tag a = .rs y ∧ tag (g.ru y) = .ru y ∧ tag (g.rg y) = .rg y ∧ tag (g.rp y) = .rp y
  rc : ∀ y a, g.ra y = some a → w.cell? ⟨a, 1, none⟩ = some (.map (some (g.ru y))) ∧ w.cell? ⟨a, 2, none⟩ = some (.map (some (g.rg y))) ∧ w.cell? ⟨a, 5, none⟩ = some (.map (some (g.rp y)))
  r1 : ∀ y a, g.ra y = some a → ∃ s, Set9 w (g.ru y) T s
  r2 : ∀ y a, g.ra y = some a → ∃ s, Set58 w (g.rg y) T s
  r5 : ∀ y a, g.ra y = some a → Int58 w (g.rp y) T (g.gr y)
  dcl : ∀ x a y, g.ua x = some a → g.asg x y → ∃ c, g.ra y = some c

section
variable {w0 w w' : World} {T T' : Nat} {tag : Nat → Tg} {g : Gh}
theorem tag_ne {m b : Nat} {t t' : Tg} (hm : tag m = t) (hb : tag b = t') (h : t' ≠ t) : some b ≠ some m := fun e => h (by cases e; rw [← hm, ← hb])

/-- A world in which nothing but new blocks differ. -/
theorem St.stays (h : St w0 w T tag g) (hg : w.grownBy w' none) : St w0 w' T tag g where
  bel := h.bel.grown hg h.bel.size (fun j hj => by cases hj)
  rng b hb := ⟨(h.rng b hb).1, Nat.lt_of_lt_of_le (h.rng b hb).2 hg.size⟩
  tp := h.tp
  to := h.to
  tj := h.tj
  tu := h.tu
  tr := h.tr
  c0 := hg.cell h.c0 (by simp)
  c1 := hg.cell h.c1 (by simp)
  c2 := hg.cell h.c2 (by simp)
  c3 := hg.cell h.c3 (by simp)
  ops := h.ops.imp fun _ k => k.keep hg (by simp) (Nat.le_refl _)
  objs := h.objs.imp fun _ k => k.keep hg (by simp) (Nat.le_refl _)
  um := h.um.keep hg (by simp) (Nat.le_refl _)
  rm := h.rm.keep hg (by simp) (Nat.le_refl _)
  ut := h.ut
  uc x a k := hg.cell (h.uc x a k) (by simp)
  us x a k := (h.us x a k).keep hg (by simp) (Nat.le_refl _)
  rt := h.rt
  rc x a k := ⟨hg.cell (h.rc x a k).1 (by simp), hg.cell (h.rc x a k).2.1 (by simp), hg.cell (h.rc x a k).2.2 (by simp)⟩
  r1 x a k := (h.r1 x a k).imp fun _ k => k.keep hg (by simp) (Nat.le_refl _)
  r2 x a k := (h.r2 x a k).imp fun _ k => k.keep hg (by simp) (Nat.le_refl _)
  r5 x a k := (h.r5 x a k).keep hg (by simp) (Nat.le_refl _)
  dcl := h.dcl
theorem St.putO (h : St w0 w T tag g) (hs : ∃ s, Set9 w' g.bo (T + 1) s) (hg : w.grownBy w' (some g.bo)) : St w0 w' (T + 1) tag g :=
  have tm : tag g.bo = _ := h.to
  {
    bel := h.bel.grown hg h.bel.size (fun j hj => by cases hj; exact (h.rng _ (by rw [tm]; simp)).1)
    rng := fun b hb => ⟨(h.rng b hb).1, Nat.lt_of_lt_of_le (h.rng b hb).2 hg.size⟩
    tp := h.tp
    to := h.to
    tj := h.tj
    tu := h.tu
    tr := h.tr
    c0 := hg.cell h.c0 (tag_ne tm h.tp (by simp))
    c1 := hg.cell h.c1 (tag_ne tm h.tp (by simp))
    c2 := hg.cell h.c2 (tag_ne tm h.tp (by simp))
    c3 := hg.cell h.c3 (tag_ne tm h.tp (by simp))
    ops := hs
    objs := h.objs.imp fun _ k => k.keep hg (tag_ne tm h.tj (by simp)) (Nat.le_succ _)
    um := h.um.keep hg (tag_ne tm h.tu (by simp)) (Nat.le_succ _)
    rm := h.rm.keep hg (tag_ne tm h.tr (by simp)) (Nat.le_succ _)
    ut := h.ut
    uc := fun x a k => hg.cell (h.uc x a k) (tag_ne tm (h.ut x a k).1 (by simp))
    us := fun x a k => (h.us x a k).keep hg (tag_ne tm (h.ut x a k).2 (by simp)) (Nat.le_succ _)
    rt := h.rt
    rc := fun x a k => ⟨hg.cell (h.rc x a k).1 (tag_ne tm (h.rt x a k).1 (by simp)), hg.cell (h.rc x a k).2.1 (tag_ne tm (h.rt x a k).1 (by simp)), hg.cell (h.rc x a k).2.2 (tag_ne tm (h.rt x a k).1 (by simp))⟩
    r1 := fun x a k => (h.r1 x a k).imp fun _ q => q.keep hg (tag_ne tm (h.rt x a k).2.1 (by simp)) (Nat.le_succ _)
    r2 := fun x a k => (h.r2 x a k).imp fun _ q => q.keep hg (tag_ne tm (h.rt x a k).2.2.1 (by simp)) (Nat.le_succ _)
    r5 := fun x a k => (h.r5 x a k).keep hg (tag_ne tm (h.rt x a k).2.2.2 (by simp)) (Nat.le_succ _)
    dcl := h.dcl
  }
theorem St.putJ (h : St w0 w T tag g) (hs : ∃ s, Set9 w' g.bj (T + 1) s) (hg : w.grownBy w' (some g.bj)) : St w0 w' (T + 1) tag g :=
  have tm : tag g.bj = _ := h.tj
  {
    bel := h.bel.grown hg h.bel.size (fun j hj => by cases hj; exact (h.rng _ (by rw [tm]; simp)).1)
    rng := fun b hb => ⟨(h.rng b hb).1, Nat.lt_of_lt_of_le (h.rng b hb).2 hg.size⟩
    tp := h.tp
    to := h.to
    tj := h.tj
    tu := h.tu
    tr := h.tr
    c0 := hg.cell h.c0 (tag_ne tm h.tp (by simp))
    c1 := hg.cell h.c1 (tag_ne tm h.tp (by simp))
    c2 := hg.cell h.c2 (tag_ne tm h.tp (by simp))
    c3 := hg.cell h.c3 (tag_ne tm h.tp (by simp))
    ops := h.ops.imp fun _ k => k.keep hg (tag_ne tm h.to (by simp)) (Nat.le_succ _)
    objs := hs
    um := h.um.keep hg (tag_ne tm h.tu (by simp)) (Nat.le_succ _)
    rm := h.rm.keep hg (tag_ne tm h.tr (by simp)) (Nat.le_succ _)
    ut := h.ut
    uc := fun x a k => hg.cell (h.uc x a k) (tag_ne tm (h.ut x a k).1 (by simp))
    us := fun x a k => (h.us x a k).keep hg (tag_ne tm (h.ut x a k).2 (by simp)) (Nat.le_succ _)
    rt := h.rt
    rc := fun x a k => ⟨hg.cell (h.rc x a k).1 (tag_ne tm (h.rt x a k).1 (by simp)), hg.cell (h.rc x a k).2.1 (tag_ne tm (h.rt x a k).1 (by simp)), hg.cell (h.rc x a k).2.2 (tag_ne tm (h.rt x a k).1 (by simp))⟩
    r1 := fun x a k => (h.r1 x a k).imp fun _ q => q.keep hg (tag_ne tm (h.rt x a k).2.1 (by simp)) (Nat.le_succ _)
    r2 := fun x a k => (h.r2 x a k).imp fun _ q => q.keep hg (tag_ne tm (h.rt x a k).2.2.1 (by simp)) (Nat.le_succ _)
    r5 := fun x a k => (h.r5 x a k).keep hg (tag_ne tm (h.rt x a k).2.2.2 (by simp)) (Nat.le_succ _)
    dcl := h.dcl
  }
theorem St.putU (h : St w0 w T tag g) {y : Bs} {c : Nat} (hy : g.ua y = some c) {z : Bs} (hz : ∃ c, g.ra z = some c) (hs : Set9 w' (g.ur y) (T + 1) (fun v => g.asg y v ∨ v = z)) (hg : w.grownBy w' (some (g.ur y))) : St w0 w' (T + 1) tag { g with asg := fun x v => if x = y then g.asg y v ∨ v = z else g.asg x v } :=
  have tm : tag (g.ur y) = _ := (h.ut y c hy).2
  {
    bel := h.bel.grown hg h.bel.size (fun j hj => by cases hj; exact (h.rng _ (by rw [tm]; simp)).1)
    rng := fun b hb => ⟨(h.rng b hb).1, Nat.lt_of_lt_of_le (h.rng b hb).2 hg.size⟩
    tp := h.tp
    to := h.to
    tj := h.tj
    tu := h.tu
    tr := h.tr
    c0 := hg.cell h.c0 (tag_ne tm h.tp (by simp))
    c1 := hg.cell h.c1 (tag_ne tm h.tp (by simp))
    c2 := hg.cell h.c2 (tag_ne tm h.tp (by simp))
    c3 := hg.cell h.c3 (tag_ne tm h.tp (by simp))
    ops := h.ops.imp fun _ k => k.keep hg (tag_ne tm h.to (by simp)) (Nat.le_succ _)
    objs := h.objs.imp fun _ k => k.keep hg (tag_ne tm h.tj (by simp)) (Nat.le_succ _)
    um := h.um.keep hg (tag_ne tm h.tu (by simp)) (Nat.le_succ _)
    rm := h.rm.keep hg (tag_ne tm h.tr (by simp)) (Nat.le_succ _)
    ut := h.ut
    uc := fun x a k => hg.cell (h.uc x a k) (tag_ne tm (h.ut x a k).1 (by simp))
    us := fun x a k => by
      by_cases e : x = y
      · subst e; simpa using hs
      · simpa [e] using (h.us x a k).keep hg (tag_ne tm (h.ut x a k).2 (by simpa using e)) (Nat.le_succ T)
    rt := h.rt
    rc := fun x a k => ⟨hg.cell (h.rc x a k).1 (tag_ne tm (h.rt x a k).1 (by simp)), hg.cell (h.rc x a k).2.1 (tag_ne tm (h.rt x a k).1 (by simp)), hg.cell (h.rc x a k).2.2 (tag_ne tm (h.rt x a k).1 (by simp))⟩
    r1 := fun x a k => (h.r1 x a k).imp fun _ q => q.keep hg (tag_ne tm (h.rt x a k).2.1 (by simp)) (Nat.le_succ _)
    r2 := fun x a k => (h.r2 x a k).imp fun _ q => q.keep hg (tag_ne tm (h.rt x a k).2.2.1 (by simp)) (Nat.le_succ _)
    r5 := fun x a k => (h.r5 x a k).keep hg (tag_ne tm (h.rt x a k).2.2.2 (by simp)) (Nat.le_succ _)
    dcl := fun x a v k hv => by
      by_cases e : x = y
      · subst e
        simp only [if_pos] at hv
        rcases hv with hv | hv
        · exact h.dcl x a v k hv
        · subst hv; exact hz
      · simp only [if_neg e] at hv
        exact h.dcl x a v k hv
  }
theorem St.putRu (h : St w0 w T tag g) {y : Bs} {c : Nat} (hy : g.ra y = some c) (hs : ∃ s, Set9 w' (g.ru y) (T + 1) s) (hg : w.grownBy w' (some (g.ru y))) : St w0 w' (T + 1) tag g :=
  have tm : tag (g.ru y) = _ := (h.rt y c hy).2.1
  {
    bel := h.bel.grown hg h.bel.size (fun j hj => by cases hj; exact (h.rng _ (by rw [tm]; simp)).1)
    rng := fun b hb => ⟨(h.rng b hb).1, Nat.lt_of_lt_of_le (h.rng b hb).2 hg.size⟩
    tp := h.tp
    to := h.to
    tj := h.tj
    tu := h.tu
    tr := h.tr
    c0 := hg.cell h.c0 (tag_ne tm h.tp (by simp))
    c1 := hg.cell h.c1 (tag_ne tm h.tp (by simp))
    c2 := hg.cell h.c2 (tag_ne tm h.tp (by simp))
    c3 := hg.cell h.c3 (tag_ne tm h.tp (by simp))
    ops := h.ops.imp fun _ k => k.keep hg (tag_ne tm h.to (by simp)) (Nat.le_succ _)
    objs := h.objs.imp fun _ k => k.keep hg (tag_ne tm h.tj (by simp)) (Nat.le_succ _)
    um := h.um.keep hg (tag_ne tm h.tu (by simp)) (Nat.le_succ _)
    rm := h.rm.keep hg (tag_ne tm h.tr (by simp)) (Nat.le_succ _)
    ut := h.ut
    uc := fun x a k => hg.cell (h.uc x a k) (tag_ne tm (h.ut x a k).1 (by simp))
    us := fun x a k => (h.us x a k).keep hg (tag_ne tm (h.ut x a k).2 (by simp)) (Nat.le_succ _)
    rt := h.rt
    rc := fun x a k => ⟨hg.cell (h.rc x a k).1 (tag_ne tm (h.rt x a k).1 (by simp)), hg.cell (h.rc x a k).2.1 (tag_ne tm (h.rt x a k).1 (by simp)), hg.cell (h.rc x a k).2.2 (tag_ne tm (h.rt x a k).1 (by simp))⟩
    r1 := fun x a k => by
      by_cases e : x = y
      · subst e; exact hs
      · exact (h.r1 x a k).imp fun _ q => q.keep hg (tag_ne tm (h.rt x a k).2.1 (by simpa using e)) (Nat.le_succ _)
    r2 := fun x a k => (h.r2 x a k).imp fun _ q => q.keep hg (tag_ne tm (h.rt x a k).2.2.1 (by simp)) (Nat.le_succ _)
    r5 := fun x a k => (h.r5 x a k).keep hg (tag_ne tm (h.rt x a k).2.2.2 (by simp)) (Nat.le_succ _)
    dcl := h.dcl
  }
theorem St.putRg (h : St w0 w T tag g) {y : Bs} {c : Nat} (hy : g.ra y = some c) (hs : ∃ s, Set58 w' (g.rg y) (T + 1) s) (hg : w.grownBy w' (some (g.rg y))) : St w0 w' (T + 1) tag g :=
  have tm : tag (g.rg y) = _ := (h.rt y c hy).2.2.1
  {
    bel := h.bel.grown hg h.bel.size (fun j hj => by cases hj; exact (h.rng _ (by rw [tm]; simp)).1)
    rng := fun b hb => ⟨(h.rng b hb).1, Nat.lt_of_lt_of_le (h.rng b hb).2 hg.size⟩
    tp := h.tp
    to := h.to
    tj := h.tj
    tu := h.tu
    tr := h.tr
    c0 := hg.cell h.c0 (tag_ne tm h.tp (by simp))
    c1 := hg.cell h.c1 (tag_ne tm h.tp (by simp))
    c2 := hg.cell h.c2 (tag_ne tm h.tp (by simp))
    c3 := hg.cell h.c3 (tag_ne tm h.tp (by simp))
    ops := h.ops.imp fun _ k => k.keep hg (tag_ne tm h.to (by simp)) (Nat.le_succ _)
    objs := h.objs.imp fun _ k => k.keep hg (tag_ne tm h.tj (by simp)) (Nat.le_succ _)
    um := h.um.keep hg (tag_ne tm h.tu (by simp)) (Nat.le_succ _)
    rm := h.rm.keep hg (tag_ne tm h.tr (by simp)) (Nat.le_succ _)
    ut := h.ut
    uc := fun x a k => hg.cell (h.uc x a k) (tag_ne tm (h.ut x a k).1 (by simp))
    us := fun x a k => (h.us x a k).keep hg (tag_ne tm (h.ut x a k).2 (by simp)) (Nat.le_succ _)
    rt := h.rt
    rc := fun x a k => ⟨hg.cell (h.rc x a k).1 (tag_ne tm (h.rt x a k).1 (by simp)), hg.cell (h.rc x a k).2.1 (tag_ne tm (h.rt x a k).1 (by simp)), hg.cell (h.rc x a k).2.2 (tag_ne tm (h.rt x a k).1 (by simp))⟩
    r1 := fun x a k => (h.r1 x a k).imp fun _ q => q.keep hg (tag_ne tm (h.rt x a k).2.1 (by simp)) (Nat.le_succ _)
    r2 := fun x a k => by
      by_cases e : x = y
      · subst e; exact hs
      · exact (h.r2 x a k).imp fun _ q => q.keep hg (tag_ne tm (h.rt x a k).2.2.1 (by simpa using e)) (Nat.le_succ _)
    r5 := fun x a k => (h.r5 x a k).keep hg (tag_ne tm (h.rt x a k).2.2.2 (by simp)) (Nat.le_succ _)
    dcl := h.dcl
  }
theorem St.putRp (h : St w0 w T tag g) {y : Bs} {c : Nat} (hy : g.ra y = some c) {p : Pm} (hs : Int58 w' (g.rp y) (T + 1) (fun q => g.gr y q ∨ q = p)) (hg : w.grownBy w' (some (g.rp y))) : St w0 w' (T + 1) tag { g with gr := fun x q => if x = y then g.gr y q ∨ q = p else g.gr x q } :=
  have tm : tag (g.rp y) = _ := (h.rt y c hy).2.2.2
  {
    bel := h.bel.grown hg h.bel.size (fun j hj => by cases hj; exact (h.rng _ (by rw [tm]; simp)).1)
    rng := fun b hb => ⟨(h.rng b hb).1, Nat.lt_of_lt_of_le (h.rng b hb).2 hg.size⟩
    tp := h.tp
    to := h.to
    tj := h.tj
    tu := h.tu
    tr := h.tr
    c0 := hg.cell h.c0 (tag_ne tm h.tp (by simp))
    c1 := hg.cell h.c1 (tag_ne tm h.tp (by simp))
    c2 := hg.cell h.c2 (tag_ne tm h.tp (by simp))
    c3 := hg.cell h.c3 (tag_ne tm h.tp (by simp))
    ops := h.ops.imp fun _ k => k.keep hg (tag_ne tm h.to (by simp)) (Nat.le_succ _)
    objs := h.objs.imp fun _ k => k.keep hg (tag_ne tm h.tj (by simp)) (Nat.le_succ _)
    um := h.um.keep hg (tag_ne tm h.tu (by simp)) (Nat.le_succ _)
    rm := h.rm.keep hg (tag_ne tm h.tr (by simp)) (Nat.le_succ _)
    ut := h.ut
    uc := fun x a k => hg.cell (h.uc x a k) (tag_ne tm (h.ut x a k).1 (by simp))
    us := fun x a k => (h.us x a k).keep hg (tag_ne tm (h.ut x a k).2 (by simp)) (Nat.le_succ _)
    rt := h.rt
    rc := fun x a k => ⟨hg.cell (h.rc x a k).1 (tag_ne tm (h.rt x a k).1 (by simp)), hg.cell (h.rc x a k).2.1 (tag_ne tm (h.rt x a k).1 (by simp)), hg.cell (h.rc x a k).2.2 (tag_ne tm (h.rt x a k).1 (by simp))⟩
    r1 := fun x a k => (h.r1 x a k).imp fun _ q => q.keep hg (tag_ne tm (h.rt x a k).2.1 (by simp)) (Nat.le_succ _)
    r2 := fun x a k => (h.r2 x a k).imp fun _ q => q.keep hg (tag_ne tm (h.rt x a k).2.2.1 (by simp)) (Nat.le_succ _)
    r5 := fun x a k => by
      by_cases e : x = y
      · subst e; simpa using hs
      · simpa [e] using (h.r5 x a k).keep hg (tag_ne tm (h.rt x a k).2.2.2 (by simpa using e)) (Nat.le_succ T)
    dcl := h.dcl
  }
end
end Go.Proofs.Qxb6614755a
