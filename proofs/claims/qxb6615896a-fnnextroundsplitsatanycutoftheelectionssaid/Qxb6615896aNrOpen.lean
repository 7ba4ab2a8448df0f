/- FnNextRoundSplitsAtAnyCutOfTheElections: the slices that came in, opened. -/
import Derived.Test.Qxb6615896aNr
import Derived.Deep.Fields
import Derived.ProofKit
import Derived.OpenShut
namespace Go.Proofs.Qxb6615896a
open Go.ChangeShapes Go.WideShapes Go.ChangeAt Go.RowKit

theorem nr_cell_lt {w : World} {a : Addr} {v : Value} (h : w.cell? a = some v) : a.block < w.heap.size := by
  by_cases hb : a.block < w.heap.size
  · exact hb
  · rw [World.cell?, Array.getElem?_eq_none (by omega)] at h
    cases h

/-- A slice of structs, each field one cell: every field of every element. -/
theorem row_open {H : Type} {enc : TypeId × Value → H} {P : Program} {w : World} {base : Nat} {spare : Nat → Bool} {held : Bool} {t e : TypeId} {fs : Array Field} {k fuel : Nat} {a : Option Addr} {len cap : Nat} {x : DataW H × List MemPlace}
    (ht : P.underlying t = some (.slice e)) (he : P.underlying e = some (.struct fs)) (ce : P.cellsOf e = k) (hone : ∀ (i : Nat) f, fs[i]? = some f → f.offset = i ∧ P.cellsOf f.type = 1) (hk : fs.size = k) (hk0 : 0 < k)
    (h : DataW.trod enc P w base spare held fuel t [.slice a len cap] = some x) :
    len ≤ cap ∧ cap ≤ maxLen ∧ ((a = none ∧ len = 0 ∧ cap = 0) ∨
    ∃ x b off n, a = some x ∧ (0 < len → x = ⟨b, off, none⟩ ∧ b < w.heap.size) ∧ ∀ i, i < len → ∀ (j : Nat) f, fs[j]? = some f → ∃ v y, w.cell? ⟨b, off + i * k + j, none⟩ = some v ∧ DataW.trod enc P w base spare held n f.type [v] = some y) := by
  rcases Go.Deep.open_slice ht h with ⟨h0, _⟩ | ⟨a', len', cap', m, n, D, Pl, hc, hb, hl, hm, hmm, _, hx⟩
  · simp at h0
    obtain ⟨rfl, rfl, rfl⟩ := h0
    exact ⟨Nat.le_refl _, Nat.zero_le _, .inl ⟨rfl, rfl, rfl⟩⟩
  · simp at hc
    obtain ⟨rfl, rfl, rfl⟩ := hc
    refine ⟨hl, hm, .inr ?_⟩
    have hlm : len ≤ m := by rw [hmm]; split <;> omega
    have each : ∀ i, i < len → ∀ (j : Nat) f, fs[j]? = some f → ∃ v y, w.cell? (a'.add (i * k + j)) = some v ∧ DataW.trod enc P w base spare held (n - 1) f.type [v] = some y := by
      intro i hi j f hj
      obtain ⟨cs', h1, h2⟩ := hx i (by omega)
      rw [ce] at h1
      obtain ⟨_, hlen, hcell⟩ := World.cells?_some h1
      obtain ⟨xs, q, hq, _, _, hxl, hf⟩ := DataW.trod_struct he h2
      obtain ⟨ho, hc1⟩ := hone j f hj
      have hjs : j < fs.size := (Array.getElem?_eq_some_iff.1 hj).1
      have g := hf j f hj
      rw [ho, hc1, Go.Deep.take1_drop cs' j (Value.bool false) (by omega), List.getElem?_eq_getElem (by omega)] at g
      have e0 := hcell j (by omega)
      rw [Go.Deep.add_add] at e0
      rw [show n - 1 = q by omega]
      refine ⟨_, _, e0.trans ?_, g⟩
      rw [List.getD, List.getElem?_eq_getElem (by omega)]
      rfl
    obtain ⟨b, off, spot⟩ := a'
    have hsp : 0 < len → spot = none ∧ b < w.heap.size := fun h0 => by
      have : ∃ f, fs[0]? = some f := ⟨fs[0]'(by omega), Array.getElem?_eq_getElem (by omega)⟩
      obtain ⟨f, hf⟩ := this
      obtain ⟨v, y, hv, _⟩ := each 0 h0 0 f hf
      have hspot : spot = none := by simpa [Addr.add] using World.cell?_spot hv
      subst hspot
      rw [Go.WideShapes.add_plain] at hv
      exact ⟨rfl, nr_cell_lt hv⟩
    refine ⟨_, b, off, n - 1, rfl, fun h0 => ?_, fun i hi j f hj => ?_⟩
    · obtain ⟨rfl, h1⟩ := hsp h0
      exact ⟨rfl, h1⟩
    · obtain ⟨v, y, hv, hy⟩ := each i hi j f hj
      obtain ⟨rfl, _⟩ := hsp (by omega)
      rw [Go.WideShapes.add_plain, ← Nat.add_assoc] at hv
      exact ⟨v, y, hv, hy⟩

theorem slice_form {H : Type} {enc : TypeId × Value → H} {P : Program} {w : World} {base : Nat} {spare : Nat → Bool} {held : Bool} {t e : TypeId} {fuel : Nat} {v : Value} {x : DataW H × List MemPlace}
    (ht : P.underlying t = some (.slice e)) (h : DataW.trod enc P w base spare held fuel t [v] = some x) : ∃ a l c, v = .slice a l c := by
  rcases Go.Deep.open_slice ht h with ⟨h0, _⟩ | ⟨a', len', cap', m, n, D, Pl, hc, _⟩
  · simp at h0
    exact ⟨_, _, _, h0⟩
  · simp at hc
    exact ⟨_, _, _, hc⟩
theorem str_of {H : Type} {enc : TypeId × Value → H} {w : World} {base : Nat} {spare : Nat → Bool} {held : Bool} {t : TypeId} {fuel : Nat} {v : Value} {x : DataW H × List MemPlace}
    (ht : Try.prog.underlying t = some .string) (h : DataW.trod enc Try.prog w base spare held fuel t [v] = some x) : ∃ s : ByteArray, v = .string s ∧ s.size ≤ maxLen := by
  obtain ⟨s, h1, _, h2⟩ := DataW.trod_string ht h
  simp at h1
  exact ⟨s, h1, h2⟩
theorem int_of {H : Type} {enc : TypeId × Value → H} {w : World} {base : Nat} {spare : Nat → Bool} {held : Bool} {t : TypeId} {k : IntKind} {fuel : Nat} {v : Value} {x : DataW H × List MemPlace}
    (ht : Try.prog.underlying t = some (.int k)) (h : DataW.trod enc Try.prog w base spare held fuel t [v] = some x) : ∃ s : Int, v = .int k s := by
  obtain ⟨s, h1, _⟩ := DataW.trod_int ht h
  simp at h1
  exact ⟨s, h1⟩
theorem bool_of {H : Type} {enc : TypeId × Value → H} {w : World} {base : Nat} {spare : Nat → Bool} {held : Bool} {t : TypeId} {fuel : Nat} {v : Value} {x : DataW H × List MemPlace}
    (ht : Try.prog.underlying t = some .bool) (h : DataW.trod enc Try.prog w base spare held fuel t [v] = some x) : ∃ s : Bool, v = .bool s := by
  obtain ⟨s, h1, _⟩ := DataW.trod_bool ht h
  simp at h1
  exact ⟨s, h1⟩
theorem cells62 : Try.prog.cellsOf 62 = 4 := by kernel_rfl
theorem cells64 : Try.prog.cellsOf 64 = 8 := by kernel_rfl
theorem cells48 : Try.prog.cellsOf 48 = 7 := by kernel_rfl
instance : Inhabited Cand := ⟨⟨ByteArray.empty, ByteArray.empty, 0, ByteArray.empty⟩⟩
instance : Inhabited Bod := ⟨⟨ByteArray.empty, 0, 0, 0, 0, 0, 0, false⟩⟩
instance : Inhabited Elec := ⟨⟨ByteArray.empty, ByteArray.empty, 0, ByteArray.empty, none, 0, 0, fun _ => default, 0, ByteArray.empty⟩⟩

section
variable {H : Type} {enc : TypeId × Value → H} {w : World} {base : Nat} {spare : Nat → Bool} {held : Bool} {fuel : Nat} {a : Option Addr} {len cap : Nat} {x : DataW H × List MemPlace}

theorem open_cands (h : DataW.trod enc Try.prog w base spare held fuel 46 [.slice a len cap] = some x) : ∃ C, CandsAt w a len C ∧ len ≤ maxLen := by
  obtain ⟨hl, hm, h1 | ⟨x, b, off, n, rfl, hx, hc⟩⟩ := row_open Try.underlying46 Try.underlying62 cells62 (Go.Deep.hone_of (by kernel_rfl)) rfl (by decide) h
  · exact ⟨default, .inl h1.2.1, by omega⟩
  · by_cases h0 : 0 < len
    · obtain ⟨rfl, hb⟩ := hx h0
      have each : ∀ i, i < len → ∃ c : Cand, CandCells w b (off + i * 4) c := fun i hi => by
        obtain ⟨v0, y0, c0, t0⟩ := hc i hi 0 _ rfl
        obtain ⟨v1, y1, c1, t1⟩ := hc i hi 1 _ rfl
        obtain ⟨v2, y2, c2, t2⟩ := hc i hi 2 _ rfl
        obtain ⟨v3, y3, c3, t3⟩ := hc i hi 3 _ rfl
        obtain ⟨s0, rfl, _⟩ := str_of Try.underlying9 t0
        obtain ⟨s1, rfl, _⟩ := str_of Try.underlying9 t1
        obtain ⟨s2, rfl⟩ := int_of Try.underlying60 t2
        obtain ⟨s3, rfl, _⟩ := str_of Try.underlying9 t3
        exact ⟨⟨s0, s1, s2, s3⟩, c0, c1, c2, c3⟩
      obtain ⟨C, hC⟩ := Go.Deep.choose_lt each
      exact ⟨C, .inr ⟨b, off, rfl, hb, hC⟩, by omega⟩
    · exact ⟨default, .inl (by omega), by omega⟩

theorem open_bods (h : DataW.trod enc Try.prog w base spare held fuel 29 [.slice a len cap] = some x) : ∃ B, BodsAt w a len B ∧ len ≤ maxLen ∧ ∀ j, j < len → (B j).id.size ≤ maxLen := by
  obtain ⟨hl, hm, h1 | ⟨x, b, off, n, rfl, hx, hc⟩⟩ := row_open Try.underlying29 Try.underlying64 cells64 (Go.Deep.hone_of (by kernel_rfl)) rfl (by decide) h
  · exact ⟨default, .inl h1.2.1, by omega, fun j hj => by omega⟩
  · by_cases h0 : 0 < len
    · obtain ⟨rfl, hb⟩ := hx h0
      have each : ∀ i, i < len → ∃ c : Bod, BodCells w b (off + i * 8) c ∧ c.id.size ≤ maxLen := fun i hi => by
        obtain ⟨v0, y0, c0, t0⟩ := hc i hi 0 _ rfl
        obtain ⟨v1, y1, c1, t1⟩ := hc i hi 1 _ rfl
        obtain ⟨v2, y2, c2, t2⟩ := hc i hi 2 _ rfl
        obtain ⟨v3, y3, c3, t3⟩ := hc i hi 3 _ rfl
        obtain ⟨v4, y4, c4, t4⟩ := hc i hi 4 _ rfl
        obtain ⟨v5, y5, c5, t5⟩ := hc i hi 5 _ rfl
        obtain ⟨v6, y6, c6, t6⟩ := hc i hi 6 _ rfl
        obtain ⟨v7, y7, c7, t7⟩ := hc i hi 7 _ rfl
        obtain ⟨s0, rfl, hs⟩ := str_of Try.underlying9 t0
        obtain ⟨s1, rfl⟩ := int_of Try.underlying3 t1
        obtain ⟨s2, rfl⟩ := int_of Try.underlying3 t2
        obtain ⟨s3, rfl⟩ := int_of Try.underlying3 t3
        obtain ⟨s4, rfl⟩ := int_of Try.underlying3 t4
        obtain ⟨s5, rfl⟩ := int_of Try.underlying3 t5
        obtain ⟨s6, rfl⟩ := int_of Try.underlying3 t6
        obtain ⟨s7, rfl⟩ := bool_of Try.underlying4 t7
        exact ⟨⟨s0, s1, s2, s3, s4, s5, s6, s7⟩, ⟨c0, c1, c2, c3, c4, c5, c6, c7⟩, hs⟩
      obtain ⟨C, hC⟩ := Go.Deep.choose_lt each
      exact ⟨C, .inr ⟨b, off, rfl, hb, fun j hj => (hC j hj).1⟩, by omega, fun j hj => (hC j hj).2⟩
    · exact ⟨default, .inl (by omega), by omega, fun j hj => by omega⟩

theorem open_elecs (h : DataW.trod enc Try.prog w base spare held fuel 28 [.slice a len cap] = some x) :
    ∃ E, ElecsAt w a len E ∧ len ≤ cap ∧ cap ≤ maxLen ∧ ((a = none ∧ len = 0 ∧ cap = 0) ∨ ∃ y, a = some y ∧ (0 < len → y.spot = none)) ∧ (∀ j, j < len → (E j).cl ≤ maxLen) ∧ ∀ j, j < len → (E j).body.size ≤ maxLen ∧ (E j).id.size ≤ maxLen := by
  obtain ⟨hl, hm, h1 | ⟨x, b, off, n, rfl, hx, hc⟩⟩ := row_open Try.underlying28 Try.underlying48 cells48 (Go.Deep.hone_of (by kernel_rfl)) rfl (by decide) h
  · exact ⟨default, .inl h1.2.1, hl, hm, .inl h1, fun j hj => by omega, fun j hj => by omega⟩
  · by_cases h0 : 0 < len
    · obtain ⟨rfl, hb⟩ := hx h0
      have each : ∀ i, i < len → ∃ c : Elec, (ElecCells w b (off + i * 7) c ∧ CandsAt w c.ca c.cl c.C) ∧ c.cl ≤ maxLen ∧ c.body.size ≤ maxLen ∧ c.id.size ≤ maxLen := fun i hi => by
        obtain ⟨v0, y0, c0, t0⟩ := hc i hi 0 _ rfl
        obtain ⟨v1, y1, c1, t1⟩ := hc i hi 1 _ rfl
        obtain ⟨v2, y2, c2, t2⟩ := hc i hi 2 _ rfl
        obtain ⟨v3, y3, c3, t3⟩ := hc i hi 3 _ rfl
        obtain ⟨v4, y4, c4, t4⟩ := hc i hi 4 _ rfl
        obtain ⟨v5, y5, c5, t5⟩ := hc i hi 5 _ rfl
        obtain ⟨v6, y6, c6, t6⟩ := hc i hi 6 _ rfl
        obtain ⟨s0, rfl, hs0⟩ := str_of Try.underlying9 t0
        obtain ⟨s1, rfl, _⟩ := str_of Try.underlying9 t1
        obtain ⟨s2, rfl⟩ := int_of Try.underlying3 t2
        obtain ⟨s3, rfl, hs3⟩ := str_of Try.underlying9 t3
        obtain ⟨a4, l4, p4, rfl⟩ := slice_form Try.underlying46 t4
        obtain ⟨C, hC, hl4⟩ := open_cands t4
        obtain ⟨s5, rfl⟩ := int_of Try.underlying3 t5
        obtain ⟨s6, rfl, _⟩ := str_of Try.underlying9 t6
        exact ⟨⟨s0, s1, s2, s3, a4, l4, p4, C, s5, s6⟩, ⟨⟨c0, c1, c2, c3, c4, c5, c6⟩, hC⟩, hl4, hs3, hs0⟩
      obtain ⟨E, hE⟩ := Go.Deep.choose_lt each
      exact ⟨E, .inr ⟨b, off, rfl, hb, fun j hj => (hE j hj).1⟩, hl, hm, .inr ⟨_, rfl, fun _ => rfl⟩, fun j hj => (hE j hj).2.1, fun j hj => (hE j hj).2.2⟩
    · exact ⟨default, .inl (by omega), hl, hm, .inr ⟨_, rfl, fun h => absurd h h0⟩, fun j hj => by omega, fun j hj => by omega⟩
end
end Go.Proofs.Qxb6615896a
