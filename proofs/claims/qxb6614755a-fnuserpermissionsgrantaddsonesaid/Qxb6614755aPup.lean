/- Policy.user (58), UserPermissions (51), ZZuserPermissions (35). -/
import Derived.Test.Qxb6614755aPgo
import Derived.Test.Qxb6614755aPss
import Derived.Test.Qxb6614755aDel
namespace Go.Proofs.Qxb6614755a
open Go.RowKit Go.Maps Go.WideMaps

def noSuchUser : ByteArray := ⟨#[110, 111, 45, 115, 117, 99, 104, 45, 117, 115, 101, 114]⟩

section
variable {w0 w : World} {T : Nat} {tag : Nat → Tg} {g : Gh}

theorem Ptr9.lookOk {b : Nat} {f : Bs → Option Nat} (h : Ptr9 w b T f) {t e : TypeId} (ht : Try.prog.underlying t = some (.map 9 e)) (hz : (zeroValue e).run Try.prog w = .ok (.pointer none) w) (x : ByteArray) (hx : x.size ≤ maxLen) :
    (∀ a, f x.toList = some a → (Instr.lookup t (.map (some b)) (.string x) true).run Try.prog w = .ok (.tuple #[.pointer (some ⟨a, 0, none⟩), .bool true]) w) ∧
    (f x.toList = none → ∃ c, (Instr.lookup t (.map (some b)) (.string x) true).run Try.prog w = .ok (.tuple #[.pointer c, .bool false]) w) := by
  obtain ⟨D, h1, h2, h3⟩ := h
  obtain ⟨v, ps, hr, hv⟩ := h1.look_ok law9 ht hz (ptrElem_mk none) (key9 x hx)
  obtain ⟨c, rfl, hc⟩ := ptrElem_inv hv
  refine ⟨fun a ha => ?_, fun hn => ⟨c, ?_⟩⟩
  · rw [h3 _ a ha] at hc
    cases hc
    rw [hr, (h2 _).2 ⟨a, ha⟩]
  · have : has D (.string x.toList) = false := by
      cases hh : has D (.string x.toList) with
      | false => rfl
      | true =>
        obtain ⟨a, ha⟩ := (h2 _).1 hh
        rw [hn] at ha
        cases ha
    rw [hr, this]

set_option maxRecDepth 100000 in
theorem user_yes (h : St w0 w T tag g) (x : ByteArray) (hx : x.size ≤ maxLen) {a : Nat} (ha : g.ua x.toList = some a) :
    Calls Try.prog 58 #[.pointer (some ⟨g.bp, 0, none⟩), .string x] w fun e w' => e = .returned (.tuple #[.pointer (some ⟨a, 0, none⟩), .nilIface]) ∧ w' = w := by
  have hl := (h.um.lookOk Try.underlying64 (zero96 w) x hx).1 a ha
  have c2 := h.c2
  clear h
  go_enter Try.func58, Try.ntmps58
  go_wp2
  go_ret2
  exact ⟨rfl, rfl⟩

set_option maxRecDepth 100000 in
theorem user_no (h : St w0 w T tag g) (x : ByteArray) (hx : x.size ≤ maxLen) (ha : g.ua x.toList = none) :
    Calls Try.prog 58 #[.pointer (some ⟨g.bp, 0, none⟩), .string x] w fun e w' => e = .returned (.tuple #[.pointer none, .iface 84 (.pointer (some ⟨w.heap.size, 0, none⟩))]) ∧ w' = w.alloc (.cells #[.string noSuchUser, .string x] 87) := by
  obtain ⟨c, hl⟩ := (h.um.lookOk Try.underlying64 (zero96 w) x hx).2 ha
  have c2 := h.c2
  have C2 := hide (refuse_any noSuchUser x w)
  clear h
  go_enter Try.func58, Try.ntmps58
  go_wp2_with (go_at_call 64; refine (unhide C2).mono ?_; rintro e w' ⟨rfl, rfl⟩)
  go_ret2
  exact ⟨rfl, rfl⟩

/-- UserPermissions' refusal. -/
def NoPerms (c : ByteArray) (w : World) (e : Ending) (w' : World) : Prop := ∃ b, e = .returned (.tuple #[.slice none 0 0, .iface 84 (.pointer (some ⟨b, 0, none⟩))]) ∧ w'.cell? ⟨b, 0, none⟩ = some (.string c) ∧ Below w.heap.size w w'

set_option maxRecDepth 100000 in
set_option maxHeartbeats 400000 in
theorem perms_bad (bp : Nat) (x : ByteArray) (hx : x.size ≤ maxLen) (hv : ¬ Valid x) : Calls Try.prog 51 #[.pointer (some ⟨bp, 0, none⟩), .string x] w (NoPerms badArgs w) := by
  go_enter Try.func51, Try.ntmps51
  go_wp2_with fail
  refine (checkNames_no _ x _ (by simp) hx hv).mono ?_
  rintro e w' ⟨rfl, rfl⟩
  go_wp2
  go_ret2
  exact ⟨_, rfl, by simp, ((Below.refl _ _).alloc (Nat.le_refl _) _).alloc (by simp) _⟩

set_option maxRecDepth 100000 in
set_option maxHeartbeats 400000 in
theorem perms_none (h : St w0 w T tag g) (x : ByteArray) (hx : x.size ≤ maxLen) (hv : Valid x) (ha : g.ua x.toList = none) : Calls Try.prog 51 #[.pointer (some ⟨g.bp, 0, none⟩), .string x] w (NoPerms noSuchUser w) := by
  have C := hide (fun o => user_no (h.stays (World.grownBy_alloc w o none)) x hx ha)
  clear h
  go_enter Try.func51, Try.ntmps51
  go_wp2_with fail
  refine (checkNames_yes _ x _ (by simp) hx hv).mono ?_
  rintro e w' ⟨rfl, rfl⟩
  go_wp2_with fail
  refine Calls.mono (C.out _) ?_
  rintro e w' ⟨rfl, rfl⟩
  go_wp2
  go_ret2
  exact ⟨_, rfl, by simp, ((Below.refl _ _).alloc (Nat.le_refl _) _).alloc (by simp) _⟩

/-- UserPermissions' answer. -/
def HasPerms (s : Pm → Prop) (n : Nat) (w : World) (e : Ending) (w' : World) : Prop :=
  ∃ (b cap m : Nat) (P : Nat → Pm), e = .returned (.tuple #[.slice (some ⟨b, 0, none⟩) m cap, .nilIface]) ∧ m ≤ n ∧ PermRow w' b m P s ∧ Below w.heap.size w w' ∧ w.heap.size ≤ b

set_option maxRecDepth 100000 in
set_option maxHeartbeats 1000000 in
theorem perms_yes (h : St w0 w T tag g) (x : ByteArray) (hx : x.size ≤ maxLen) (hv : Valid x) {a : Nat} (ha : g.ua x.toList = some a) (Ls : List Pm) (hLs : ∀ y p, g.gr y p → p ∈ Ls) (hL : Ls.length ≤ 1048576) (hsm : ∀ y p, g.gr y p → SmPm p) :
    Calls Try.prog 51 #[.pointer (some ⟨g.bp, 0, none⟩), .string x] w (HasPerms (fun p => ∃ y, g.asg x.toList y ∧ g.gr y p) Ls.length w) := by
  have C := hide (fun o => user_yes (h.stays (World.grownBy_alloc w o none)) x hx ha)
  have C2 := hide (fun o => grantsOf_st (h.stays (World.grownBy_alloc w o none)) x.toList a ha Ls hLs hL)
  have uc := fun o => (h.stays (World.grownBy_alloc w o none)).uc _ a ha
  clear h
  go_enter Try.func51, Try.ntmps51
  go_wp2_with fail
  refine (checkNames_yes _ x _ (by simp) hx hv).mono ?_
  rintro e w' ⟨rfl, rfl⟩
  go_wp2_with fail
  refine Calls.mono (C.out _) ?_
  rintro e w' ⟨rfl, rfl⟩
  go_wp2_with fail
  refine Calls.mono (C2.out _) ?_
  rintro e w2 ⟨b, rfl, ⟨D, hown, hD⟩, hB, hb⟩
  have C3 := hide (psorted_any b Ls.length D w2 hown hL (fun p h1 h2 hp => by obtain ⟨y, _, q⟩ := (hD p h1 h2).1 hp; exact hsm y p q))
  go_wp2_with fail
  refine Calls.mono C3.out ?_
  rintro e w3 ⟨b3, cap, m, P, rfl, hm, hP, hB3, hb3⟩
  have HH := hide (And.intro hP (And.intro hB3 hB))
  clear hP hB3 C3
  go_wp2
  go_ret2
  have hBw : Below w.heap.size w w3 := (((Below.refl _ _).alloc (Nat.le_refl _) _).trans (HH.out.2.2.mono (by simp))).trans (HH.out.2.1.mono (by have := HH.out.2.2.size; simp at this; omega))
  exact ⟨b3, cap, m, P, rfl, hm, ⟨HH.out.1.lt, HH.out.1.c0, HH.out.1.c1, HH.out.1.asc, HH.out.1.once, fun p h1 h2 => (hD p h1 h2).symm.trans (HH.out.1.mem p h1 h2), HH.out.1.small⟩, hBw, by have := HH.out.2.2.size; simp at this; omega⟩

/-- ZZuserPermissions' two answers. -/
def ZNo (c : ByteArray) (w : World) (e : Ending) (w' : World) : Prop := e = .returned (.tuple #[.slice none 0 0, .bool true, .string c]) ∧ Below w.heap.size w w'
def ZYes (s : Pm → Prop) (n : Nat) (w : World) (e : Ending) (w' : World) : Prop :=
  ∃ (b cap m : Nat) (P : Nat → Pm), e = .returned (.tuple #[.slice (some ⟨b, 0, none⟩) m cap, .bool false, .string ⟨#[]⟩]) ∧ m ≤ n ∧ PermRow w' b m P s ∧ Below w.heap.size w w' ∧ w.heap.size ≤ b

set_option maxRecDepth 100000 in
set_option maxHeartbeats 400000 in
theorem zperms_no (c : ByteArray) (bp : Nat) (nm : ByteArray) (HC : Hid (Calls Try.prog 51 #[.pointer (some ⟨bp, 0, none⟩), .string nm] w (NoPerms c w))) :
    Calls Try.prog 35 #[.pointer (some ⟨bp, 0, none⟩), .string nm] w (ZNo c w) := by
  go_enter Try.func35, Try.ntmps35
  go_wp2_with fail
  refine (unhide HC).mono ?_
  rintro e w' ⟨b, rfl, hcell, hg⟩
  have HG := hide hg
  have has := assert84
  clear hg
  go_wp2
  go_ret3
  exact ⟨rfl, HG.out⟩

set_option maxRecDepth 100000 in
set_option maxHeartbeats 400000 in
theorem zperms_yes (s : Pm → Prop) (n bp : Nat) (nm : ByteArray) (HC : Hid (Calls Try.prog 51 #[.pointer (some ⟨bp, 0, none⟩), .string nm] w (HasPerms s n w))) :
    Calls Try.prog 35 #[.pointer (some ⟨bp, 0, none⟩), .string nm] w (ZYes s n w) := by
  go_enter Try.func35, Try.ntmps35
  go_wp2_with fail
  refine (unhide HC).mono ?_
  rintro e w' ⟨b, cap, m, P, rfl, hr⟩
  have HG := hide hr
  clear hr
  go_wp2
  go_ret3
  exact ⟨b, cap, m, P, rfl, HG.out⟩

theorem zzPerms_bad (bp : Nat) (x : ByteArray) (hx : x.size ≤ maxLen) (hv : ¬ Valid x) : Calls Try.prog 35 #[.pointer (some ⟨bp, 0, none⟩), .string x] w (ZNo badArgs w) := zperms_no _ _ _ (hide (perms_bad bp x hx hv))
theorem zzPerms_none (h : St w0 w T tag g) (x : ByteArray) (hx : x.size ≤ maxLen) (hv : Valid x) (ha : ¬ g.U x.toList) : Calls Try.prog 35 #[.pointer (some ⟨g.bp, 0, none⟩), .string x] w (ZNo noSuchUser w) :=
  zperms_no _ _ _ (hide (perms_none h x hx hv (by cases hh : g.ua x.toList with
    | none => rfl
    | some a => exact absurd ⟨a, hh⟩ ha)))
theorem zzPerms_yes (h : St w0 w T tag g) (x : ByteArray) (hx : x.size ≤ maxLen) (hv : Valid x) (ha : g.U x.toList) (Ls : List Pm) (hLs : ∀ y p, g.gr y p → p ∈ Ls) (hL : Ls.length ≤ 1048576) (hsm : ∀ y p, g.gr y p → SmPm p) :
    Calls Try.prog 35 #[.pointer (some ⟨g.bp, 0, none⟩), .string x] w (ZYes (fun p => ∃ y, g.asg x.toList y ∧ g.gr y p) Ls.length w) := by
  obtain ⟨a, ha⟩ := ha
  exact zperms_yes _ _ _ _ (hide (perms_yes h x hx hv ha Ls hLs hL hsm))
end
end Go.Proofs.Qxb6614755a
