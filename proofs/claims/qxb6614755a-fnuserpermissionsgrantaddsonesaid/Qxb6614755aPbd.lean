/- zzBuild (34). -/
import Derived.Test.Qxb6614755aPgr
import Derived.Test.Qxb6614755aPol
import Derived.Test.Qxb6614755aPrd
namespace Go.Proofs.Qxb6614755a
open Go.RowKit Go.Maps Go.WideMaps

def su (U : Nat → UIn) : Nat → Nat
  | 0 => 0
  | i + 1 => su U i + (U i).rl
def sg (R : Nat → RIn) : Nat → Nat
  | 0 => 0
  | i + 1 => sg R i + (R i).gl
theorem su_le (U : Nat → UIn) {i : Nat} : ∀ {n : Nat}, i < n → su U i + (U i).rl ≤ su U n
  | 0, h => by omega
  | n + 1, h => by
    rcases Nat.lt_or_ge i n with h1 | h1
    · have := su_le U h1; simp only [su]; omega
    · obtain rfl : i = n := by omega
      exact Nat.le_refl _
theorem sg_le (R : Nat → RIn) {i : Nat} : ∀ {n : Nat}, i < n → sg R i + (R i).gl ≤ sg R n
  | 0, h => by omega
  | n + 1, h => by
    rcases Nat.lt_or_ge i n with h1 | h1
    · have := sg_le R h1; simp only [sg]; omega
    · obtain rfl : i = n := by omega
      exact Nat.le_refl _

def prK (R : Nat → RIn) (k : Nat) (y : Bs) : Prop := ∃ i, i < k ∧ (R i).name.toList = y
def puI (U : Nat → UIn) (k : Nat) (x : Bs) : Prop := ∃ i, i < k ∧ (U i).name.toList = x
def paI (U : Nat → UIn) (k : Nat) (x y : Bs) : Prop := ∃ i, i < k ∧ ((U i).name.toList = x ∧ ∃ j, j < (U i).rl ∧ ((U i).R j).toList = y)
def paJ (U : Nat → UIn) (i j : Nat) (x y : Bs) : Prop := paI U i x y ∨ ((U i).name.toList = x ∧ ∃ j', j' < j ∧ ((U i).R j').toList = y)
def pgK (R : Nat → RIn) (k : Nat) (y : Bs) (p : Pm) : Prop := ∃ i, i < k ∧ ((R i).name.toList = y ∧ ∃ q, q < (R i).gl ∧ (R i).G q = p)
def pgQ (R : Nat → RIn) (k q : Nat) (y : Bs) (p : Pm) : Prop := pgK R k y p ∨ ((R k).name.toList = y ∧ ∃ q', q' < q ∧ (R k).G q' = p)
theorem hit_succ {p : Nat → Prop} {k : Nat} : (∃ i, i < k + 1 ∧ p i) ↔ (∃ i, i < k ∧ p i) ∨ p k := by
  constructor
  · rintro ⟨i, h1, h2⟩
    rcases Nat.lt_or_ge i k with h3 | h3
    · exact .inl ⟨i, h3, h2⟩
    · obtain rfl : i = k := by omega
      exact .inr h2
  · rintro (⟨i, h1, h2⟩ | h)
    · exact ⟨i, by omega, h2⟩
    · exact ⟨k, by omega, h⟩
theorem hit_zero {p : Nat → Prop} : (∃ i, i < 0 ∧ p i) ↔ False := ⟨fun ⟨i, h, _⟩ => by omega, False.elim⟩

/-- What the policy says, in the input's words. -/
structure Built (w0 : World) (bp T : Nat) (pu : Bs → Prop) (pa : Bs → Bs → Prop) (pr : Bs → Prop) (pg : Bs → Pm → Prop) (w : World) : Prop where
  ex : ∃ tag g, St w0 w T tag g ∧ g.bp = bp ∧ (∀ x, g.U x ↔ pu x) ∧ (∀ x y, g.asg x y ↔ pa x y) ∧ (∀ y, g.R y ↔ pr y) ∧ ∀ y p, g.gr y p ↔ pg y p
theorem Built.bel {w0 w : World} {bp T : Nat} {pu : Bs → Prop} {pa : Bs → Bs → Prop} {pr : Bs → Prop} {pg : Bs → Pm → Prop} (h : Built w0 bp T pu pa pr pg w) : Below w0.heap.size w0 w := by
  obtain ⟨_, _, h, _⟩ := h.ex; exact h.bel
theorem Built.stays {w0 w w' : World} {bp T : Nat} {pu : Bs → Prop} {pa : Bs → Bs → Prop} {pr : Bs → Prop} {pg : Bs → Pm → Prop} (h : Built w0 bp T pu pa pr pg w) (hg : w.grownBy w' none) : Built w0 bp T pu pa pr pg w' := by
  obtain ⟨t, g, h1, h2⟩ := h.ex; exact ⟨t, g, h1.stays hg, h2⟩
theorem Built.iff {w0 w : World} {bp T : Nat} {pu pu' : Bs → Prop} {pa pa' : Bs → Bs → Prop} {pr pr' : Bs → Prop} {pg pg' : Bs → Pm → Prop} (h : Built w0 bp T pu pa pr pg w) (h1 : ∀ x, pu x ↔ pu' x) (h2 : ∀ x y, pa x y ↔ pa' x y) (h3 : ∀ x, pr x ↔ pr' x) (h4 : ∀ x y, pg x y ↔ pg' x y) : Built w0 bp T pu' pa' pr' pg' w := by
  obtain ⟨t, g, k1, k2, k3, k4, k5, k6⟩ := h.ex
  exact ⟨t, g, k1, k2, fun x => (k3 x).trans (h1 x), fun x y => (k4 x y).trans (h2 x y), fun x => (k5 x).trans (h3 x), fun x y => (k6 x y).trans (h4 x y)⟩

section
variable {w0 w : World} {bp T : Nat} {pu : Bs → Prop} {pa : Bs → Bs → Prop} {pr : Bs → Prop} {pg : Bs → Pm → Prop}
theorem Built.addRole (h : Built w0 bp T pu pa pr pg w) (hT : T ≤ 16777216) (x : ByteArray) (hx : x.size ≤ maxLen) :
    Calls Try.prog 13 #[.pointer (some ⟨bp, 0, none⟩), .string x] w fun e w' => e = .returned (.tuple #[]) ∧ Built w0 bp (T + 1) pu pa (fun y => pr y ∨ y = x.toList) (fun y p => y ≠ x.toList ∧ pg y p) w' := by
  obtain ⟨t, g, k1, rfl, k3, k4, k5, k6⟩ := h.ex
  refine (addRole_st k1 hT x hx).mono fun e w' ⟨he, t', g', j1, j2, j3, j4, j5, j6⟩ => ⟨he, ⟨t', g', j1, j2, fun y => (j5 y).trans (k3 y), fun y v => (j6 y v).trans (k4 y v), fun y => (j3 y).trans (or_congr_left (k5 y)), fun y p => (j4 y p).trans (and_congr_right fun _ => k6 y p)⟩⟩
theorem Built.addUser (h : Built w0 bp T pu pa pr pg w) (hT : T ≤ 16777216) (x : ByteArray) (hx : x.size ≤ maxLen) :
    Calls Try.prog 44 #[.pointer (some ⟨bp, 0, none⟩), .string x] w fun e w' => e = .returned (.tuple #[]) ∧ Built w0 bp (T + 1) (fun y => pu y ∨ y = x.toList) (fun y v => y ≠ x.toList ∧ pa y v) pr pg w' := by
  obtain ⟨t, g, k1, rfl, k3, k4, k5, k6⟩ := h.ex
  refine (addUser_st k1 hT x hx).mono fun e w' ⟨he, t', g', j1, j2, j3, j4, j5, j6⟩ => ⟨he, ⟨t', g', j1, j2, fun y => (j3 y).trans (or_congr_left (k3 y)), fun y v => (j4 y v).trans (and_congr_right fun _ => k4 y v), fun y => (j5 y).trans (k5 y), fun y p => (j6 y p).trans (k6 y p)⟩⟩
theorem Built.assign (h : Built w0 bp T pu pa pr pg w) (hT : T ≤ 16777214) (x y : ByteArray) (hx : x.size ≤ maxLen) (hy : y.size ≤ maxLen) (hU : pu x.toList) (hR : pr y.toList) :
    Calls Try.prog 45 #[.pointer (some ⟨bp, 0, none⟩), .string x, .string y] w fun e w' => e = .returned (.tuple #[]) ∧ Built w0 bp (T + 2) pu (fun u v => pa u v ∨ (u = x.toList ∧ v = y.toList)) pr pg w' := by
  obtain ⟨t, g, k1, rfl, k3, k4, k5, k6⟩ := h.ex
  refine (assign_st k1 hT x y hx hy ((k3 _).2 hU) ((k5 _).2 hR)).mono fun e w' ⟨he, t', g', j1, j2, j3, j4, j5, j6⟩ => ⟨he, ⟨t', g', j1, j2, fun u => (j3 u).trans (k3 u), fun u v => (j4 u v).trans (or_congr_left (k4 u v)), fun u => (j5 u).trans (k5 u), fun u p => (j6 u p).trans (k6 u p)⟩⟩
theorem Built.grant (h : Built w0 bp T pu pa pr pg w) (hT : T ≤ 16777208) (y op obj : ByteArray) (hy : y.size ≤ maxLen) (ho : op.size ≤ maxLen) (hj : obj.size ≤ maxLen) (hR : pr y.toList) :
    Calls Try.prog 36 #[.pointer (some ⟨bp, 0, none⟩), .string y, .string op, .string obj] w fun e w' => e = .returned (.tuple #[]) ∧ Built w0 bp (T + 4) pu pa pr (fun u p => pg u p ∨ (u = y.toList ∧ p = (op, obj))) w' := by
  obtain ⟨t, g, k1, rfl, k3, k4, k5, k6⟩ := h.ex
  refine (grant_st k1 hT y op obj hy ho hj ((k5 _).2 hR)).mono fun e w' ⟨he, t', g', j1, j2, j3, j4, j5, j6⟩ => ⟨he, ⟨t', g', j1, j2, fun u => (j3 u).trans (k3 u), fun u v => (j4 u v).trans (k4 u v), fun u => (j5 u).trans (k5 u), fun u p => (j6 u p).trans (or_congr_left (k6 u p))⟩⟩
end

theorem built_new {w w' : World} (h : NewPol w w') : Built w (w.heap.size + 7) 0 (fun _ => False) (fun _ _ => False) (fun _ => False) (fun _ _ => False) w' := by
  refine ⟨fun b => if b = w.heap.size then .o else if b = w.heap.size + 1 then .j else if b = w.heap.size + 2 then .u else if b = w.heap.size + 3 then .r else if b = w.heap.size + 7 then .p else .no,
    ⟨w.heap.size + 7, w.heap.size, w.heap.size + 1, w.heap.size + 2, w.heap.size + 3, fun _ => none, fun _ => 0, fun _ => none, fun _ => 0, fun _ => 0, fun _ => 0, fun _ _ => False, fun _ _ => False⟩, ?_, rfl, fun x => by simp [Gh.U], fun x y => Iff.rfl, fun y => by simp [Gh.R], fun y p => Iff.rfl⟩
  have hsz := h.size
  exact {
    bel := h.below
    rng := fun b hb => by
      by_cases e0 : b = w.heap.size
      · omega
      by_cases e1 : b = w.heap.size + 1
      · omega
      by_cases e2 : b = w.heap.size + 2
      · omega
      by_cases e3 : b = w.heap.size + 3
      · omega
      by_cases e7 : b = w.heap.size + 7
      · omega
      · simp [e0, e1, e2, e3, e7] at hb
    tp := by simp
    to := by simp
    tj := by simp
    tu := by simp
    tr := by simp
    c0 := h.cells 0 (by omega)
    c1 := h.cells 1 (by omega)
    c2 := h.cells 2 (by omega)
    c3 := h.cells 3 (by omega)
    ops := ⟨_, Set9.new (h.maps 0 (by omega)) _⟩
    objs := ⟨_, Set9.new (h.maps 1 (by omega)) _⟩
    um := Ptr9.new (h.maps 2 (by omega)) _
    rm := Ptr9.new (h.maps 3 (by omega)) _
    ut := fun x a k => by cases k
    uc := fun x a k => by cases k
    us := fun x a k => by cases k
    rt := fun x a k => by cases k
    rc := fun x a k => by cases k
    r1 := fun x a k => by cases k
    r2 := fun x a k => by cases k
    r5 := fun x a k => by cases k
    dcl := fun x a v k => by cases k
  }
end Go.Proofs.Qxb6614755a
