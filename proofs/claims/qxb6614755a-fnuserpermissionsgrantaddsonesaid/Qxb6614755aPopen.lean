/- The slices of users and of roles that came in, opened. -/
import Derived.Test.Qxb6614755aOpen
import Derived.Test.Qxb6614755aPft
import Derived.Deep.Fields
import Derived.ProofKit
import Derived.OpenShut
namespace Go.Proofs.Qxb6614755a
open Go.ChangeShapes Go.WideShapes Go.ChangeAt Go.RowKit

/-- A slice of structs, each field one cell: every field of every element. -/
theorem row_open {H : Type} {enc : TypeId × Value → H} {P : Program} {w : World} {base : Nat} {spare : Nat → Bool} {held : Bool} {t e : TypeId} {fs : Array Field} {k fuel : Nat} {a : Option Addr} {len cap : Nat} {x : DataW H × List MemPlace}
    (ht : P.underlying t = some (.slice e)) (he : P.underlying e = some (.struct fs)) (ce : P.cellsOf e = k) (hone : ∀ (i : Nat) f, fs[i]? = some f → f.offset = i ∧ P.cellsOf f.type = 1) (hk : fs.size = k) (hk0 : 0 < k)
    (h : DataW.trod enc P w base spare held fuel t [.slice a len cap] = some x) :
    len ≤ cap ∧ cap ≤ maxLen ∧ ((a = none ∧ len = 0 ∧ cap = 0) ∨
    ∃ x b off n, a = some x ∧ (0 < len → x = ⟨b, off, none⟩ ∧ b < w.heap.size) ∧ ∀ i, i < len → ∀ (j : Nat) f, fs[j]? = some f → ∃ v y, w.cell? ⟨b, off + i * k + j, none⟩ = some v ∧ DataW.trod enc P w base spare held n f.type [v] = some y) := by
  rcases Go.Deep.open_slice ht h with ⟨h0, _⟩ | ⟨a', len', cap', m, n, D, Pl, hc, hb, hl, hm, hmm, _, hx⟩
  · simp at h0
    obtain ⟨rfl, rfl, rfl⟩ := h0
    exact ⟨Nat.le_refl _, Nat.zero_le _, .inl ⟨rfl, rfl, rfl⟩⟩
  · simp at hc
    obtain ⟨rfl, rfl, rfl⟩ := hc
    refine ⟨hl, hm, .inr ?_⟩
    have hlm : len ≤ m := by rw [hmm]; split <;> omega
    have each : ∀ i, i < len → ∀ (j : Nat) f, fs[j]? = some f → ∃ v y, w.cell? (a'.add (i * k + j)) = some v ∧ DataW.trod enc P w base spare held (n - 1) f.type [v] = some y := by
      intro i hi j f hj
      obtain ⟨cs', h1, h2⟩ := hx i (by omega)
      rw [ce] at h1
      obtain ⟨_, hlen, hcell⟩ := World.cells?_some h1
      obtain ⟨xs, q, hq, _, _, hxl, hf⟩ := DataW.trod_struct he h2
      obtain ⟨ho, hc1⟩ := hone j f hj
      have hjs : j < fs.size := (Array.getElem?_eq_some_iff.1 hj).1
      have g := hf j f hj
      rw [ho, hc1, Go.Deep.take1_drop cs' j (Value.bool false) (by omega), List.getElem?_eq_getElem (by omega)] at g
      have e0 := hcell j (by omega)
      rw [Go.Deep.add_add] at e0
      rw [show n - 1 = q by omega]
      refine ⟨_, _, e0.trans ?_, g⟩
      rw [List.getD, List.getElem?_eq_getElem (by omega)]
      rfl
    obtain ⟨b, off, spot⟩ := a'
    have hsp : 0 < len → spot = none ∧ b < w.heap.size := fun h0 => by
      have : ∃ f, fs[0]? = some f := ⟨fs[0]'(by omega), Array.getElem?_eq_getElem (by omega)⟩
      obtain ⟨f, hf⟩ := this
      obtain ⟨v, y, hv, _⟩ := each 0 h0 0 f hf
      have hspot : spot = none := by simpa [Addr.add] using World.cell?_spot hv
      subst hspot
      rw [Go.WideShapes.add_plain] at hv
      exact ⟨rfl, cell_lt hv⟩
    refine ⟨_, b, off, n - 1, rfl, fun h0 => ?_, fun i hi j f hj => ?_⟩
    · obtain ⟨rfl, h1⟩ := hsp h0
      exact ⟨rfl, h1⟩
    · obtain ⟨v, y, hv, hy⟩ := each i hi j f hj
      obtain ⟨rfl, _⟩ := hsp (by omega)
      rw [Go.WideShapes.add_plain, ← Nat.add_assoc] at hv
      exact ⟨v, y, hv, hy⟩

theorem slice_form {H : Type} {enc : TypeId × Value → H} {P : Program} {w : World} {base : Nat} {spare : Nat → Bool} {held : Bool} {t e : TypeId} {fuel : Nat} {v : Value} {x : DataW H × List MemPlace}
    (ht : P.underlying t = some (.slice e)) (h : DataW.trod enc P w base spare held fuel t [v] = some x) : ∃ a l c, v = .slice a l c := by
  rcases Go.Deep.open_slice ht h with ⟨h0, _⟩ | ⟨a', len', cap', m, n, D, Pl, hc, _⟩
  · simp at h0
    exact ⟨_, _, _, h0⟩
  · simp at hc
    exact ⟨_, _, _, hc⟩
theorem str_of {H : Type} {enc : TypeId × Value → H} {w : World} {base : Nat} {spare : Nat → Bool} {held : Bool} {t : TypeId} {fuel : Nat} {v : Value} {x : DataW H × List MemPlace}
    (ht : Try.prog.underlying t = some .string) (h : DataW.trod enc Try.prog w base spare held fuel t [v] = some x) : ∃ s : ByteArray, v = .string s ∧ s.size ≤ maxLen := by
  obtain ⟨s, h1, _, h2⟩ := DataW.trod_string ht h
  simp at h1
  exact ⟨s, h1, h2⟩
instance : Inhabited UIn := ⟨⟨ByteArray.empty, none, 0, 0, fun _ => ByteArray.empty⟩⟩
instance : Inhabited RIn := ⟨⟨ByteArray.empty, none, 0, 0, fun _ => (ByteArray.empty, ByteArray.empty)⟩⟩
theorem cells60 : Try.prog.cellsOf 60 = 2 := by kernel_rfl
theorem cells91 : Try.prog.cellsOf 91 = 2 := by kernel_rfl
theorem cells92 : Try.prog.cellsOf 92 = 2 := by kernel_rfl

section
variable {H : Type} {enc : TypeId × Value → H} {w : World} {fuel : Nat} {a : Option Addr} {len cap : Nat} {x : DataW H × List MemPlace} {spare : Nat → Bool} {held : Bool}

theorem open_perms (h : DataW.trod enc Try.prog w 0 spare held fuel 89 [.slice a len cap] = some x) : ∃ C : Nat → Pm, PmsAt w a len C ∧ len ≤ maxLen ∧ ∀ j, j < len → (C j).1.size ≤ maxLen ∧ (C j).2.size ≤ maxLen := by
  obtain ⟨hl, hm, h1 | ⟨x, b, off, n, rfl, hx, hc⟩⟩ := row_open Try.underlying89 Try.underlying92 cells92 (Go.Deep.hone_of (by kernel_rfl)) rfl (by decide) h
  · exact ⟨fun _ => (ByteArray.empty, ByteArray.empty), .inl h1.2.1, by omega, fun j hj => by omega⟩
  · by_cases h0 : 0 < len
    · obtain ⟨rfl, hb⟩ := hx h0
      have each : ∀ i, i < len → ∃ c : Pm, (w.cell? ⟨b, off + i * 2, none⟩ = some (.string c.1) ∧ w.cell? ⟨b, off + i * 2 + 1, none⟩ = some (.string c.2)) ∧ c.1.size ≤ maxLen ∧ c.2.size ≤ maxLen := fun i hi => by
        obtain ⟨v0, y0, c0, t0⟩ := hc i hi 0 _ rfl
        obtain ⟨v1, y1, c1, t1⟩ := hc i hi 1 _ rfl
        obtain ⟨s0, rfl, z0⟩ := str_of Try.underlying9 t0
        obtain ⟨s1, rfl, z1⟩ := str_of Try.underlying9 t1
        exact ⟨(s0, s1), ⟨c0, c1⟩, z0, z1⟩
      obtain ⟨C, hC⟩ := Go.Deep.choose_lt each
      exact ⟨C, .inr ⟨b, off, rfl, hb, fun j hj => (hC j hj).1⟩, by omega, fun j hj => (hC j hj).2⟩
    · exact ⟨fun _ => (ByteArray.empty, ByteArray.empty), .inl (by omega), by omega, fun j hj => by omega⟩

theorem open_users (h : DataW.trod enc Try.prog w 0 spare held fuel 40 [.slice a len cap] = some x) : ∃ U : Nat → UIn, UsAt w a len U ∧ len ≤ maxLen ∧ (∀ i, i < len → (U i).rl ≤ maxLen) ∧ (∀ i, i < len → (U i).name.size ≤ maxLen) ∧ ∀ i, i < len → ∀ j, j < (U i).rl → ((U i).R j).size ≤ maxLen := by
  obtain ⟨hl, hm, h1 | ⟨x, b, off, n, rfl, hx, hc⟩⟩ := row_open Try.underlying40 Try.underlying60 cells60 (Go.Deep.hone_of (by kernel_rfl)) rfl (by decide) h
  · exact ⟨fun _ => ⟨ByteArray.empty, none, 0, 0, fun _ => ByteArray.empty⟩, .inl h1.2.1, by omega, fun j hj => by omega, fun j hj => by omega, fun j hj => by omega⟩
  · by_cases h0 : 0 < len
    · obtain ⟨rfl, hb⟩ := hx h0
      have each : ∀ i, i < len → ∃ c : UIn, ((w.cell? ⟨b, off + i * 2, none⟩ = some (.string c.name) ∧ w.cell? ⟨b, off + i * 2 + 1, none⟩ = some (.slice c.ra c.rl c.rc)) ∧ Strs w c.ra c.rl c.R) ∧ c.rl ≤ maxLen ∧ c.name.size ≤ maxLen ∧ ∀ j, j < c.rl → (c.R j).size ≤ maxLen := fun i hi => by
        obtain ⟨v0, y0, c0, t0⟩ := hc i hi 0 _ rfl
        obtain ⟨v1, y1, c1, t1⟩ := hc i hi 1 _ rfl
        obtain ⟨s0, rfl, z0⟩ := str_of Try.underlying9 t0
        obtain ⟨a1, l1, p1, rfl⟩ := slice_form Try.underlying22 t1
        obtain ⟨S, hS, hl1, hz1⟩ := open_names (H := H) (enc := enc) (d := y1.1) (p := y1.2) ⟨_, t1⟩
        exact ⟨⟨s0, a1, l1, p1, S⟩, ⟨⟨c0, c1⟩, hS⟩, hl1, z0, hz1⟩
      obtain ⟨C, hC⟩ := Go.Deep.choose_lt each
      exact ⟨C, .inr ⟨b, off, rfl, hb, fun j hj => (hC j hj).1⟩, by omega, fun j hj => (hC j hj).2.1, fun j hj => (hC j hj).2.2.1, fun j hj => (hC j hj).2.2.2⟩
    · exact ⟨fun _ => ⟨ByteArray.empty, none, 0, 0, fun _ => ByteArray.empty⟩, .inl (by omega), by omega, fun j hj => by omega, fun j hj => by omega, fun j hj => by omega⟩

theorem open_roles (h : DataW.trod enc Try.prog w 0 spare held fuel 41 [.slice a len cap] = some x) : ∃ R : Nat → RIn, RsAt w a len R ∧ len ≤ maxLen ∧ (∀ i, i < len → (R i).gl ≤ maxLen) ∧ (∀ i, i < len → (R i).name.size ≤ maxLen) ∧ ∀ i, i < len → ∀ j, j < (R i).gl → ((R i).G j).1.size ≤ maxLen ∧ ((R i).G j).2.size ≤ maxLen := by
  obtain ⟨hl, hm, h1 | ⟨x, b, off, n, rfl, hx, hc⟩⟩ := row_open Try.underlying41 Try.underlying91 cells91 (Go.Deep.hone_of (by kernel_rfl)) rfl (by decide) h
  · exact ⟨fun _ => ⟨ByteArray.empty, none, 0, 0, fun _ => (ByteArray.empty, ByteArray.empty)⟩, .inl h1.2.1, by omega, fun j hj => by omega, fun j hj => by omega, fun j hj => by omega⟩
  · by_cases h0 : 0 < len
    · obtain ⟨rfl, hb⟩ := hx h0
      have each : ∀ i, i < len → ∃ c : RIn, ((w.cell? ⟨b, off + i * 2, none⟩ = some (.string c.name) ∧ w.cell? ⟨b, off + i * 2 + 1, none⟩ = some (.slice c.ga c.gl c.gc)) ∧ PmsAt w c.ga c.gl c.G) ∧ c.gl ≤ maxLen ∧ c.name.size ≤ maxLen ∧ ∀ j, j < c.gl → (c.G j).1.size ≤ maxLen ∧ (c.G j).2.size ≤ maxLen := fun i hi => by
        obtain ⟨v0, y0, c0, t0⟩ := hc i hi 0 _ rfl
        obtain ⟨v1, y1, c1, t1⟩ := hc i hi 1 _ rfl
        obtain ⟨s0, rfl, z0⟩ := str_of Try.underlying9 t0
        obtain ⟨a1, l1, p1, rfl⟩ := slice_form Try.underlying89 t1
        obtain ⟨C, hC, hl1, hz1⟩ := open_perms t1
        exact ⟨⟨s0, a1, l1, p1, C⟩, ⟨⟨c0, c1⟩, hC⟩, hl1, z0, hz1⟩
      obtain ⟨C, hC⟩ := Go.Deep.choose_lt each
      exact ⟨C, .inr ⟨b, off, rfl, hb, fun j hj => (hC j hj).1⟩, by omega, fun j hj => (hC j hj).2.1, fun j hj => (hC j hj).2.2.1, fun j hj => (hC j hj).2.2.2⟩
    · exact ⟨fun _ => ⟨ByteArray.empty, none, 0, 0, fun _ => (ByteArray.empty, ByteArray.empty)⟩, .inl (by omega), by omega, fun j hj => by omega, fun j hj => by omega, fun j hj => by omega⟩

theorem open_both {enc : TypeId × Value → H} {W : World} {a0 a1 : Option Addr} {l0 l1 c0 c1 : Nat} {sp : Nat → Bool} {hd : Bool} {d0 d1 : DataW H} {p0 p1 : List MemPlace} (h0 : DataW.Trod enc Try.prog W 0 sp hd 40 (.slice a0 l0 c0) d0 p0) (h1 : DataW.Trod enc Try.prog W 0 sp hd 41 (.slice a1 l1 c1) d1 p1) :
    ∃ U R, UsAt W a0 l0 U ∧ RsAt W a1 l1 R ∧ l0 ≤ maxLen ∧ l1 ≤ maxLen ∧ (∀ i, i < l0 → (U i).rl ≤ maxLen) ∧ (∀ i, i < l1 → (R i).gl ≤ maxLen) ∧ SzOk l0 l1 U R := by
  obtain ⟨m, hm⟩ := h0
  obtain ⟨k, hk⟩ := h1
  obtain ⟨U, u1, u2, u3, u4, u5⟩ := open_users hm
  obtain ⟨R, r1, r2, r3, r4, r5⟩ := open_roles hk
  exact ⟨U, R, u1, r1, u2, r2, u3, r3, ⟨u4, r4, u5, r5⟩⟩
end
end Go.Proofs.Qxb6614755a
