/- The grant of one permission: plain laws. -/
import Derived.Test.Qxb6614755aPjl
import Derived.Test.Qxb6614755aPas
import Derived.Test.Qxb6614755aInsPlain
namespace Go.Proofs.Qxb6614755a
open Go.RowKit

def pgX (R : Nat → RIn) (nr : Nat) (r op ob : ByteArray) (y : Bs) (p : Pm) : Prop := pgK R nr y p ∨ (y = r.toList ∧ p = (op, ob))
theorem hit_grant {nu nr : Nat} {U : Nat → UIn} {R : Nat → RIn} {u r op ob : ByteArray} {p : Pm} : (∃ y, paI U nu u.toList y ∧ pgX R nr r op ob y p) ↔ (HitI U nr R u p nu ∨ (HitA U u r nu ∧ p = (op, ob))) := by
  rw [← hit_user]
  constructor
  · rintro ⟨y, ha, hg | ⟨rfl, hp⟩⟩
    · exact .inl ⟨y, ha, hg⟩
    · obtain ⟨i, hi, e, j, hj, e2⟩ := ha
      exact .inr ⟨⟨i, hi, bytes_eq' e, j, hj, bytes_eq' e2⟩, hp⟩
  · rintro (⟨y, ha, hg⟩ | ⟨⟨i, hi, e, j, hj, e2⟩, hp⟩)
    · exact ⟨y, ha, .inl hg⟩
    · exact ⟨r.toList, ⟨i, hi, by rw [e], j, hj, by rw [e2]⟩, .inr ⟨rfl, hp⟩⟩
theorem pgX_mem {R : Nat → RIn} {n : Nat} {r op ob : ByteArray} {y : Bs} {p : Pm} (h : pgX R n r op ob y p) : p ∈ allG R n ++ [(op, ob)] := by
  rcases h with h | ⟨_, rfl⟩
  · exact List.mem_append_left _ (allG_mem h)
  · exact List.mem_append_right _ (by simp)
theorem allG_len1 (R : Nat → RIn) (n : Nat) (x : Pm) : (allG R n ++ [x]).length = sg R n + 1 := by rw [List.length_append, allG_len]; rfl
theorem pgX_v {nu nr : Nat} {U : Nat → UIn} {R : Nat → RIn} (hf : Fit nu nr U R) {r op ob : ByteArray} (ho : Valid op) (hb : Valid ob) {y : Bs} {p : Pm} (h : pgX R nr r op ob y p) : VPm p := by
  rcases h with h | ⟨_, rfl⟩
  · exact pgK_v hf h
  · exact ⟨ho, hb⟩

def ltP (p q : Pm) : Prop := ltPm p q = true
theorem ltP_irr (p : Pm) : ¬ ltP p p := fun h => bs_irrefl _ (lt_of h)
theorem ltP_tr (p q r : Pm) (h1 : ltP p q) (h2 : ltP q r) : ltP p r := lt_yes (bs_trans (lt_of h1) (lt_of h2))
theorem srow_same {w1 w2 : World} {ga gb na nb : Nat} {A B : Nat → Pm} {sa sb : Pm → Prop} (ha : SRow w1 ga na A sa) (hb : SRow w2 gb nb B sb) (h : ∀ p, sb p ↔ sa p) : na = nb ∧ ∀ j, j < na → A j = B j :=
  rows_same (lt := ltP) ltP_irr ltP_tr ha.inc.asc hb.inc.asc (fun y => (ha.mem y).symm.trans ((h y).symm.trans (hb.mem y)))

/-- The row behind the grant: the one before, and x at its place. -/
structure Ins (na nb p : Nat) (A B : Nat → Pm) (x : Pm) : Prop where
  len : nb = na + 1
  le : p ≤ na
  lo : ∀ j, j < p → ltPm (A j) x = true
  hi : p < na → ltPm (A p) x = false
  low : ∀ j, j < p → B j = A j
  mid : B p = x
  up : ∀ j, p ≤ j → j < na → B (j + 1) = A j
theorem srow_insert {w1 w2 : World} {ga gb na nb : Nat} {A B : Nat → Pm} {sa sb : Pm → Prop} {x : Pm} (ha : SRow w1 ga na A sa) (hb : SRow w2 gb nb B sb) (hx : VPm x) (hno : ¬ sa x) (h : ∀ p, sb p ↔ sa p ∨ p = x) : ∃ p, Ins na nb p A B x := by
  obtain ⟨h1, p, h2, h3, h4, h5, h6, h7⟩ := rows_insert (lt := ltP) (x := x) ltP_irr ltP_tr ha.inc.asc hb.inc.asc (fun y => (hb.mem y).symm.trans ((h y).trans (or_congr_left (ha.mem y)))) (fun j hj => by
    rcases bs_tri (wr8 (A j)).toList (wr8 x).toList with q | q | q
    · exact .inl (lt_yes q)
    · exact absurd ((ha.mem x).2 ⟨j, hj, wr8_inj (ha.v _ ((ha.mem _).2 ⟨j, hj, rfl⟩)) hx q⟩) hno
    · exact .inr (lt_yes q))
  exact ⟨p, h1, h2, h3, fun hp => by
    cases e : ltPm (A p) x with
    | false => rfl
    | true => exact absurd e (h4 p (Nat.le_refl _) hp), h5, h6, h7⟩

section
variable {w0 w : World} {bp T : Nat} {pu : Bs → Prop} {pa : Bs → Bs → Prop} {pr : Bs → Prop} {pg : Bs → Pm → Prop}
/-- Refused: the policy stands. -/
def NoGot (w0 : World) (bp T : Nat) (pu : Bs → Prop) (pa : Bs → Bs → Prop) (pr : Bs → Prop) (pg : Bs → Pm → Prop) (c : ByteArray) (e : Ending) (w' : World) : Prop :=
  e = .returned (.tuple #[.slice none 0 0, .bool true, .string c]) ∧ Built w0 bp T pu pa pr pg w'
theorem Built.permsBad (h : Built w0 bp T pu pa pr pg w) (x : ByteArray) (hx : x.size ≤ maxLen) (hv : ¬ Valid x) :
    Calls Try.prog 35 #[.pointer (some ⟨bp, 0, none⟩), .string x] w (NoGot w0 bp T pu pa pr pg ⟨#[98, 97, 100, 45, 97, 114, 103, 117, 109, 101, 110, 116, 115]⟩) :=
  (zzPerms_bad bp x hx hv).mono fun _ _ ⟨he, hb⟩ => ⟨he, h.stays (grown_of_below hb)⟩
theorem Built.permsNone (h : Built w0 bp T pu pa pr pg w) (x : ByteArray) (hx : x.size ≤ maxLen) (hv : Valid x) (ha : ¬ pu x.toList) :
    Calls Try.prog 35 #[.pointer (some ⟨bp, 0, none⟩), .string x] w (NoGot w0 bp T pu pa pr pg ⟨#[110, 111, 45, 115, 117, 99, 104, 45, 117, 115, 101, 114]⟩) := by
  obtain ⟨t, g, k1, rfl, k3, k4, k5, k6⟩ := h.ex
  exact (zzPerms_none k1 x hx hv (fun z => ha ((k3 _).1 z))).mono fun _ _ ⟨he, hb⟩ => ⟨he, h.stays (grown_of_below hb)⟩
end
end Go.Proofs.Qxb6614755a
