/- Plain laws of rows of permissions; ZZuserPermissions over a built policy. -/
import Derived.Test.Qxb6614755aPmu
import Derived.Test.Qxb6614755aPft
import Derived.Test.Qxb6614755aPup
import Derived.Test.Qxb6614755aPbw
namespace Go.Proofs.Qxb6614755a
open Go.RowKit

def VPm (p : Pm) : Prop := Valid p.1 ∧ Valid p.2

theorem toList_data (x : ByteArray) : x.toList = x.data.toList := ByteArray.toList_eq x
theorem valid_no58 {x : ByteArray} (h : Valid x) : (58 : UInt8) ∉ x.toList := fun hm => by
  rw [toList_data] at hm
  obtain ⟨k, hk, e⟩ := List.getElem_of_mem hm
  have hk' : k < x.size := by simpa using hk
  have := h.2.2 k hk'
  have e2 : x[k] = 58 := by rw [← e]; rfl
  rw [e2] at this
  unfold okI at this
  simp at this
theorem split58 : ∀ {a b c d : List UInt8}, (58 : UInt8) ∉ a → (58 : UInt8) ∉ b → a ++ 58 :: c = b ++ 58 :: d → a = b ∧ c = d
  | [], [], _, _, _, _, h => ⟨rfl, by simpa using h⟩
  | [], y :: b, _, _, _, hb, h => by simp at h; exact absurd (by simp [h.1]) hb
  | x :: a, [], _, _, ha, _, h => by simp at h; exact absurd (by simp [h.1]) ha
  | x :: a, y :: b, c, d, ha, hb, h => by
    simp only [List.cons_append, List.cons.injEq] at h
    obtain ⟨e, h⟩ := h
    obtain ⟨h1, h2⟩ := split58 (fun z => ha (List.mem_cons_of_mem _ z)) (fun z => hb (List.mem_cons_of_mem _ z)) h
    exact ⟨by rw [e, h1], h2⟩
theorem wr8_list (p : Pm) : (wr8 p).toList = p.1.toList ++ 58 :: p.2.toList := by
  rw [toList_data, toList_data, toList_data]
  simp [wr8, ByteArray.data_append]
theorem wr8_inj {p q : Pm} (hp : VPm p) (hq : VPm q) (h : (wr8 p).toList = (wr8 q).toList) : p = q := by
  rw [wr8_list, wr8_list] at h
  obtain ⟨h1, h2⟩ := split58 (valid_no58 hp.1) (valid_no58 hq.1) h
  exact Prod.ext (bytes_eq' h1) (bytes_eq' h2)

theorem lt_of {p q : Pm} (h : ltPm p q = true) : (wr8 p).toList < (wr8 q).toList := Classical.byContradiction fun hn => by rw [lt_no hn] at h; cases h
theorem not_lt_of {p q : Pm} (h : ltPm p q = false) : ¬ (wr8 p).toList < (wr8 q).toList := fun hn => by rw [lt_yes hn] at h; cases h

/-- A row that holds just the permissions of s, in strictly ascending order. -/
structure SRow (w : World) (g m : Nat) (P : Nat → Pm) (s : Pm → Prop) : Prop where
  row : PmsAt w (some ⟨g, 0, none⟩) m P
  inc : Inc m P
  mem : ∀ p, s p ↔ ∃ j, j < m ∧ P j = p
  v : ∀ p, s p → VPm p
theorem SRow.below {w w' : World} {g m : Nat} {P : Nat → Pm} {s : Pm → Prop} (h : SRow w g m P s) (hb : Below w.heap.size w w') : SRow w' g m P s := ⟨h.row.below hb, h.inc, h.mem, h.v⟩

theorem srow_of {w : World} {g m : Nat} {P : Nat → Pm} {s : Pm → Prop} (h : PermRow w g m P s) (hv : ∀ p, s p → VPm p) : SRow w g m P s := by
  have hs : ∀ j, j < m → s (P j) := fun j hj => (h.mem (P j) (by have := (h.small j hj).1; unfold maxLen; omega) (by have := (h.small j hj).2; unfold maxLen; omega)).2 ⟨j, hj, rfl⟩
  refine ⟨.inr ⟨g, 0, rfl, h.lt, fun j hj => ?_⟩, ⟨fun i j hij hj => ?_, h.small⟩, fun p => ⟨fun hp => (h.mem p (by have := (hv p hp).1.2.1; unfold maxLen; omega) (by have := (hv p hp).2.2.1; unfold maxLen; omega)).1 hp, fun ⟨j, hj, e⟩ => e ▸ hs j hj⟩, hv⟩
  · rw [Nat.zero_add]; exact ⟨h.c0 j hj, h.c1 j hj⟩
  · rcases bs_tri (wr8 (P i)).toList (wr8 (P j)).toList with h1 | h1 | h1
    · exact lt_yes h1
    · exact absurd (wr8_inj (hv _ (hs i (by omega))) (hv _ (hs j hj)) h1) (h.once i j hij hj)
    · exact absurd h1 (not_lt_of (h.asc i j hij hj))

theorem SRow.sorted {w : World} {g m : Nat} {P : Nat → Pm} {s : Pm → Prop} (h : SRow w g m P s) : (lst m (wl P)).Pairwise (· < ·) := lst_sorted fun i j hij hj => lt_of (h.inc.asc i j hij hj)
theorem SRow.lst {w : World} {g m : Nat} {P : Nat → Pm} {s : Pm → Prop} (h : SRow w g m P s) (x : Bs) : x ∈ lst m (wl P) ↔ ∃ p, s p ∧ (wr8 p).toList = x := by
  rw [mem_lst]
  exact ⟨fun ⟨j, hj, e⟩ => ⟨P j, (h.mem _).2 ⟨j, hj, rfl⟩, e⟩, fun ⟨p, hp, e⟩ => by obtain ⟨j, hj, e2⟩ := (h.mem p).1 hp; exact ⟨j, hj, by unfold wl; rw [e2]; exact e⟩⟩
theorem un_rows {w1 w2 w3 : World} {gc ga gb nc na nb : Nat} {C A B : Nat → Pm} {sc sa sb : Pm → Prop} (hc : SRow w1 gc nc C sc) (ha : SRow w2 ga na A sa) (hb : SRow w3 gb nb B sb) (h : ∀ p, sc p ↔ sa p ∨ sb p) :
    Un (lst nc (wl C)) (lst na (wl A)) (lst nb (wl B)) := by
  refine ⟨hc.sorted, ha.sorted, hb.sorted, fun x => ?_⟩
  rw [hc.lst, ha.lst, hb.lst]
  constructor
  · rintro ⟨p, hp, e⟩
    rcases (h p).1 hp with q | q
    · exact .inl ⟨p, q, e⟩
    · exact .inr ⟨p, q, e⟩
  · rintro (⟨p, hp, e⟩ | ⟨p, hp, e⟩)
    · exact ⟨p, (h p).2 (.inl hp), e⟩
    · exact ⟨p, (h p).2 (.inr hp), e⟩
theorem inj_rows {w1 w2 : World} {gc ga nc na : Nat} {C A : Nat → Pm} {sc sa : Pm → Prop} (hc : SRow w1 gc nc C sc) (ha : SRow w2 ga na A sa) : ∀ k i, k < nc → i < na → wl C k = wl A i → C k = A i := fun k i hk hi e =>
  wr8_inj (hc.v _ ((hc.mem _).2 ⟨k, hk, rfl⟩)) (ha.v _ ((ha.mem _).2 ⟨i, hi, rfl⟩)) e

/-- All permissions that the roles hold. -/
def allG (R : Nat → RIn) (n : Nat) : List Pm := (List.range n).flatMap fun k => (List.range (R k).gl).map (R k).G
theorem allG_len (R : Nat → RIn) : ∀ n, (allG R n).length = sg R n
  | 0 => rfl
  | n + 1 => by
    have := allG_len R n
    unfold allG at this ⊢
    rw [List.range_succ, List.flatMap_append, List.length_append, this]
    simp [sg]
theorem allG_mem {R : Nat → RIn} {n : Nat} {y : Bs} {p : Pm} (h : pgK R n y p) : p ∈ allG R n := by
  obtain ⟨k, hk, _, q, hq, e⟩ := h
  unfold allG
  rw [List.mem_flatMap]
  exact ⟨k, by simpa using hk, by rw [List.mem_map]; exact ⟨q, by simpa using hq, e⟩⟩
theorem pgK_v {nu nr : Nat} {U : Nat → UIn} {R : Nat → RIn} (hf : Fit nu nr U R) {y : Bs} {p : Pm} (h : pgK R nr y p) : VPm p := by
  obtain ⟨k, hk, _, q, hq, e⟩ := h
  exact e ▸ hf.gv k hk q hq
theorem vpm_sm {p : Pm} (h : VPm p) : SmPm p := ⟨by have := h.1.2.1; omega, by have := h.2.2.1; omega⟩

def GotPerms (w0 : World) (bp T : Nat) (pu : Bs → Prop) (pa : Bs → Bs → Prop) (pr : Bs → Prop) (pg : Bs → Pm → Prop) (s : Pm → Prop) (w : World) (e : Ending) (w' : World) : Prop :=
  ∃ (b cap m : Nat) (P : Nat → Pm), e = .returned (.tuple #[.slice (some ⟨b, 0, none⟩) m cap, .bool false, .string ⟨#[]⟩]) ∧ m ≤ 1048576 ∧ SRow w' b m P s ∧ Built w0 bp T pu pa pr pg w' ∧ Below w.heap.size w w' ∧ w0.heap.size ≤ b
section
variable {w0 w : World} {bp T : Nat} {pu : Bs → Prop} {pa : Bs → Bs → Prop} {pr : Bs → Prop} {pg : Bs → Pm → Prop}
theorem Built.perms (h : Built w0 bp T pu pa pr pg w) (x : ByteArray) (hx : x.size ≤ maxLen) (hv : Valid x) (ha : pu x.toList) (Ls : List Pm) (hLs : ∀ y p, pg y p → p ∈ Ls) (hL : Ls.length ≤ 1048576) (hp : ∀ y p, pg y p → VPm p) (s : Pm → Prop) (hs : ∀ p, (∃ y, pa x.toList y ∧ pg y p) ↔ s p) :
    Calls Try.prog 35 #[.pointer (some ⟨bp, 0, none⟩), .string x] w (GotPerms w0 bp T pu pa pr pg s w) := by
  obtain ⟨t, g, k1, rfl, k3, k4, k5, k6⟩ := h.ex
  refine (zzPerms_yes k1 x hx hv ((k3 _).2 ha) Ls (fun y p q => hLs y p ((k6 y p).1 q)) hL (fun y p q => vpm_sm (hp y p ((k6 y p).1 q)))).mono ?_
  rintro e w' ⟨b, cap, m, P, rfl, hm, hr, hb, hlt⟩
  have hs' : ∀ p, (∃ y, g.asg x.toList y ∧ g.gr y p) ↔ s p := fun p => Iff.trans ⟨fun ⟨y, a, b⟩ => ⟨y, (k4 _ _).1 a, (k6 _ _).1 b⟩, fun ⟨y, a, b⟩ => ⟨y, (k4 _ _).2 a, (k6 _ _).2 b⟩⟩ (hs p)
  have hr' : PermRow w' b m P s := ⟨hr.lt, hr.c0, hr.c1, hr.asc, hr.once, fun p h1 h2 => (hs' p).symm.trans (hr.mem p h1 h2), hr.small⟩
  exact ⟨b, cap, m, P, rfl, by omega, srow_of hr' (fun p q => by obtain ⟨y, _, z⟩ := (hs p).2 q; exact hp y p z), h.stays (grown_of_below hb), hb, Nat.le_trans k1.bel.size hlt⟩
end

theorem hit_user {nu nr : Nat} {U : Nat → UIn} {R : Nat → RIn} {u : ByteArray} {p : Pm} : (∃ y, paI U nu u.toList y ∧ pgK R nr y p) ↔ HitI U nr R u p nu := by
  constructor
  · rintro ⟨y, ⟨i, hi, e, j, hj, e2⟩, k, hk, e3, q, hq, e4⟩
    exact ⟨i, hi, bytes_eq' e, j, hj, k, hk, bytes_eq' (e3.trans e2.symm), q, hq, e4⟩
  · rintro ⟨i, hi, e, j, hj, k, hk, e3, q, hq, e4⟩
    exact ⟨((U i).R j).toList, ⟨i, hi, by rw [e], j, hj, rfl⟩, k, hk, by rw [e3], q, hq, e4⟩

theorem fit_ok {nu nr : Nat} {U : Nat → UIn} {R : Nat → RIn} (hf : Fit nu nr U R) (hs : SzOk nu nr U R) (h1 : nu ≤ 1048576) (h2 : nr ≤ 1048576) (h3 : su U nu + sg R nr ≤ 1048576) : InOk nu nr U R where
  lu := h1
  lr := h2
  sum := h3
  uname := hs.uname
  rname := hs.rname
  roles := fun i hi j hj => ⟨hs.roles i hi j hj, hf.dc i hi j hj⟩
  perms := hs.perms
end Go.Proofs.Qxb6614755a
