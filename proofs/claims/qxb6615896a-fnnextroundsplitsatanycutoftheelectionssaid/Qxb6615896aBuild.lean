/- nrBuild (12): what it lays. -/
import Derived.Test.Qxb6615896aBig
import Derived.Test.Qxb6615896aCopy
import Derived.Deep.MidRow
import Derived.Laws.MakeOwn
namespace Go.Proofs.Qxb6615896a
open Go.RowKit

/-! ### The rows that 'make' lays -/
def Z81 : Value := .agg #[.pointer none, .int .u64 0, .int .u64 0, .int .i64 0, .int .i64 0, .int .i64 0, .slice none 0 0, .slice none 0 0, .int .i64 0, .string ⟨#[]⟩]
def Z76 : Value := .agg #[.string ⟨#[]⟩, .string ⟨#[]⟩, .int .u64 0, .int .u64 0, .string ⟨#[]⟩]
def Z87 : Value := .agg #[.pointer none, .int .i64 0, .bool false]
theorem info81 : (Try.prog.info? 81).map (fun i => (i.zero, i.size, i.bytes)) = some (some Z81, 10, 120) := by kernel_rfl
theorem info76 : (Try.prog.info? 76).map (fun i => (i.zero, i.size, i.bytes)) = some (some Z76, 5, 64) := by kernel_rfl
theorem info87 : (Try.prog.info? 87).map (fun i => (i.zero, i.size, i.bytes)) = some (some Z87, 3, 24) := by kernel_rfl
def row81 (n : Nat) : Array Value := madeCells Z81.cells (n * 10)
def row76 (n : Nat) : Array Value := madeCells Z76.cells (n * 5)
def row87 (n : Nat) : Array Value := madeCells Z87.cells (n * 3)

theorem make_of (t e : TypeId) (z : Value) (size bytes : Nat) (ht : Try.prog.underlying t = some (.slice e)) (hi : (Try.prog.info? e).map (fun i => (i.zero, i.size, i.bytes)) = some (some z, size, bytes)) (hb : bytes ≤ 120) (n : Nat) (hn : n ≤ 1048576) (w : World) :
    (Instr.makeSlice t (.int .i64 (n : Int)) (.int .i64 (n : Int))).run Try.prog w = .ok (.slice (some ⟨w.heap.size, 0, none⟩) n n) (w.alloc (.cells (madeCells z.cells (n * size)) e)) := by
  obtain ⟨i, h1, h2⟩ := Option.map_eq_some_iff.1 hi
  simp only [Prod.mk.injEq] at h2
  obtain ⟨hz, hs, hby⟩ := h2
  have hb2 : i.bytes * n ≤ 120 * 1048576 := Nat.mul_le_mul (by omega) hn
  have hb' : (i.bytes : Int) * (n : Int) ≤ 281474976710656 := by
    have h : ((i.bytes * n : Nat) : Int) ≤ 281474976710656 := by omega
    rwa [Int.natCast_mul] at h
  have hr := run_make (P := Try.prog) w t e i z ht h1 hz .i64 .i64 n n (by omega) (Int.le_refl _) hb' (by omega)
  simp only [Int.toNat_natCast, hs] at hr
  exact hr
theorem mk65 (n : Nat) (hn : n ≤ 1048576) (w : World) : (Instr.makeSlice 65 (.int .i64 (n : Int)) (.int .i64 (n : Int))).run Try.prog w = .ok (.slice (some ⟨w.heap.size, 0, none⟩) n n) (w.alloc (.cells (row81 n) 81)) := make_of 65 81 Z81 10 120 Try.underlying65 info81 (by omega) n hn w
theorem mk71 (n : Nat) (hn : n ≤ 1048576) (w : World) : (Instr.makeSlice 71 (.int .i64 (n : Int)) (.int .i64 (n : Int))).run Try.prog w = .ok (.slice (some ⟨w.heap.size, 0, none⟩) n n) (w.alloc (.cells (row76 n) 76)) := make_of 71 76 Z76 5 64 Try.underlying71 info76 (by omega) n hn w
theorem mk66 (n : Nat) (hn : n ≤ 1048576) (w : World) : (Instr.makeSlice 66 (.int .i64 (n : Int)) (.int .i64 (n : Int))).run Try.prog w = .ok (.slice (some ⟨w.heap.size, 0, none⟩) n n) (w.alloc (.cells (row87 n) 87)) := make_of 66 87 Z87 3 24 Try.underlying66 info87 (by omega) n hn w

theorem there_made (w : World) (C : Array Value) (t : TypeId) (n : Nat) (hn : n ≤ C.size) : (w.alloc (.cells C t)).there w.heap.size 0 n := fun j hj => by
  have h : (w.alloc (.cells C t)).heap[w.heap.size]? = some (.cells C t) := by
    show (w.heap.push _)[w.heap.size]? = _
    simp
  have h2 : C[j]? = some C[j] := Array.getElem?_eq_getElem (by omega)
  constructor
  · simp only [World.cell?, h, Nat.zero_add, h2]; rfl
  · simp only [World.frozen?, h, Nat.zero_add]; simp
theorem size81 (n : Nat) : (row81 n).size = n * 10 := size_madeCells _ _
theorem size76 (n : Nat) : (row76 n).size = n * 5 := size_madeCells _ _
theorem size87 (n : Nat) : (row87 n).size = n * 3 := size_madeCells _ _

theorem there_sub {w : World} {b n : Nat} (h : w.there b 0 n) {o k : Nat} (hk : o + k ≤ n) : w.there b o k := fun j hj => by
  have := h (o + j) (by omega)
  rwa [Nat.zero_add] at this
theorem there_below {B : Nat} {w w' : World} (hb : Below B w w') {b o n : Nat} (hl : b < B) (h : w.there b o n) : w'.there b o n := fun j hj => by
  rw [hb.cell (p := ⟨b, o + j, none⟩) hl, hb.frozen (p := ⟨b, o + j, none⟩) hl]
  exact h j hj
theorem range_below {B : Nat} {w w' : World} (hb : Below B w w') {b o : Nat} {cs : List Value} (hl : b < B) (h : w.rangeAt b o cs) : w'.rangeAt b o cs := fun j v hv => (hb.cell (p := ⟨b, o + j, none⟩) hl).trans (h j v hv)

/-! ### What lies behind -/
def candRes (c : Cand) : List Value := [.string c.id, .string c.name, .int .u64 c.votes, .int .u64 0, .string c.status]
def elecRes (pe pc : Nat) (e : Elec) : List Value := [.pointer (some ⟨pe, 0, none⟩), .int .u64 0, .int .u64 0, .int .i64 0, .int .i64 0, .int .i64 0, .slice (some ⟨pc, 0, none⟩) e.cl e.cl, .slice none 0 0, .int .i64 e.unf, .string e.next]
def elecBox (e : Elec) : List Value := [.string e.id, .string e.title, .int .i64 e.seats, .slice none 0 0, .string e.body]

/-- An election of the result, at offset o of block bE. -/
def ResElec (w : World) (bE o : Nat) (e : Elec) : Prop := ∃ pe pc, bE < pe ∧ pe < w.heap.size ∧ bE < pc ∧ pc < w.heap.size ∧ w.rangeAt bE o (elecRes pe pc e) ∧ w.rangeAt pe 0 (elecBox e) ∧ ∀ j, j < e.cl → w.rangeAt pc (j * 5) (candRes (e.C j))

theorem ResElec.below {w w' : World} (h : Below w.heap.size w w') {bE o : Nat} {e : Elec} (hr : ResElec w bE o e) : ResElec w' bE o e := by
  obtain ⟨pe, pc, h1, h2, h3, h4, h5, h6, h7⟩ := hr
  exact ⟨pe, pc, h1, Nat.lt_of_lt_of_le h2 h.size, h3, Nat.lt_of_lt_of_le h4 h.size, range_below h (by omega) h5, range_below h h2 h6, fun j hj => range_below h h4 (h7 j hj)⟩

theorem heap_setCells_size (b : Nat) : ∀ (vs : List Value) (o : Nat) (w : World), (w.setCells b o vs).heap.size = w.heap.size
  | [], _, _ => rfl
  | v :: vs, o, w => by
    show ((w.setCell ⟨b, o, none⟩ v).setCells b (o + 1) vs).heap.size = _
    rw [heap_setCells_size b vs]
    simp [World.setCell]

theorem ResElec.set {w : World} {bE o : Nat} {e : Elec} (hr : ResElec w bE o e) (o' : Nat) (vs : List Value) (ho : o + 10 ≤ o') : ResElec (w.setCells bE o' vs) bE o e := by
  obtain ⟨pe, pc, h1, h2, h3, h4, h5, h6, h7⟩ := hr
  refine ⟨pe, pc, h1, by rw [heap_setCells_size]; exact h2, h3, by rw [heap_setCells_size]; exact h4, World.rangeAt_setCells_apart h5 _ _ _ (.inr (.inl ?_)), World.rangeAt_setCells_apart h6 _ _ _ (.inl (by omega)), fun j hj => World.rangeAt_setCells_apart (h7 j hj) _ _ _ (.inl (by omega))⟩
  simpa [elecRes] using ho

/-- A row of candidates (block pc) while it is filled: whatever lay below pc stays. -/
structure CB (pc : Nat) (w0 : World) (cl : Nat) (C : Nat → Cand) (q : Nat) (w : World) : Prop where
  below : Below pc w0 w
  lt : pc < w.heap.size
  room : w.there pc 0 (cl * 5)
  rows : ∀ j, j < q → w.rangeAt pc (j * 5) (candRes (C j))

/-- The row of elections (block bE) while it is filled. -/
structure EB (bE : Nat) (w0 : World) (n : Nat) (E : Nat → Elec) (k : Nat) (w : World) : Prop where
  below : Below bE w0 w
  lt : bE < w.heap.size
  room : w.there bE 0 (n * 10)
  rows : ∀ j, j < k → ResElec w bE (j * 10) (E j)

theorem CB.start {pc : Nat} {w0 : World} (h : w0.heap.size = pc) (cl : Nat) (C : Nat → Cand) : CB pc w0 cl C 0 (w0.alloc (.cells (row76 cl) 76)) := by
  subst h
  exact ⟨(Below.refl _ _).alloc (Nat.le_refl _) _, by simp, there_made _ _ _ _ (by rw [size76]; omega), fun j hj => by omega⟩
theorem EB.start {bE : Nat} {w0 : World} (h : w0.heap.size = bE) (n : Nat) (E : Nat → Elec) : EB bE w0 n E 0 (w0.alloc (.cells (row81 n) 81)) := by
  subst h
  exact ⟨(Below.refl _ _).alloc (Nat.le_refl _) _, by simp, there_made _ _ _ _ (by rw [size81]; omega), fun j hj => by omega⟩

theorem CB.alloc {pc : Nat} {w0 w : World} {cl q : Nat} {C : Nat → Cand} (h : CB pc w0 cl C q w) (o : Obj) : CB pc w0 cl C q (w.alloc o) :=
  ⟨h.below.alloc (by have := h.lt; omega) _, by have := h.lt; simp; omega, World.there_alloc h.room _, fun j hj => World.rangeAt_alloc (h.rows j hj) _⟩
theorem CB.put {pc : Nat} {w0 w : World} {cl q : Nat} {C : Nat → Cand} (h : CB pc w0 cl C q w) (hq : q < cl) : CB pc w0 cl C (q + 1) (w.setCells pc (q * 5) (candRes (C q))) := by
  refine ⟨below_setCells (Nat.le_refl _) _ _ _ h.below, by rw [heap_setCells_size]; exact h.lt, World.there_setCells h.room _ _ _, fun j hj => ?_⟩
  by_cases e : j = q
  · subst e
    exact World.rangeAt_setCells_same _ _ _ _ (there_sub h.room (by simp [candRes]; omega))
  · exact World.rangeAt_setCells_apart (h.rows j (by omega)) _ _ _ (.inr (.inl (by simp [candRes]; omega)))
theorem EB.down {bE : Nat} {w0 w w' : World} {n k : Nat} {E : Nat → Elec} (h : EB bE w0 n E k w) (hb : Below w.heap.size w w') : EB bE w0 n E k w' :=
  ⟨h.below.trans (hb.mono (by have := h.lt; omega)), Nat.lt_of_lt_of_le h.lt hb.size, there_below hb h.lt h.room, fun j hj => (h.rows j hj).below hb⟩
theorem EB.put {bE : Nat} {w0 w : World} {n k : Nat} {E : Nat → Elec} (h : EB bE w0 n E k w) (hk : k < n) {pe pc : Nat} (h1 : bE < pe) (h2 : pe < w.heap.size) (h3 : bE < pc) (h4 : pc < w.heap.size) (h6 : w.rangeAt pe 0 (elecBox (E k))) (h7 : ∀ j, j < (E k).cl → w.rangeAt pc (j * 5) (candRes ((E k).C j))) :
    EB bE w0 n E (k + 1) (w.setCells bE (k * 10) (elecRes pe pc (E k))) := by
  refine ⟨below_setCells (Nat.le_refl _) _ _ _ h.below, by rw [heap_setCells_size]; exact h.lt, World.there_setCells h.room _ _ _, fun j hj => ?_⟩
  by_cases e : j = k
  · subst e
    exact ⟨pe, pc, h1, by rw [heap_setCells_size]; exact h2, h3, by rw [heap_setCells_size]; exact h4, World.rangeAt_setCells_same _ _ _ _ (there_sub h.room (by simp [elecRes]; omega)), World.rangeAt_setCells_apart h6 _ _ _ (.inl (by omega)), fun j hj => World.rangeAt_setCells_apart (h7 j hj) _ _ _ (.inl (by omega))⟩
  · exact (h.rows j (by omega)).set _ _ (by omega)

/-! ### The bodies -/
def bodRes (pb : Nat) (x : Bod) : List Value := [.pointer (some ⟨pb, 0, none⟩), .int .i64 x.members, .bool x.short]
def bodBox (x : Bod) : List Value := [.string x.id, .int .i64 x.size, .int .i64 x.office, .int .i64 x.legal, .int .i64 x.sf, .int .i64 x.rounds]
def ResBod (w : World) (bB o : Nat) (x : Bod) : Prop := ∃ pb, bB < pb ∧ pb < w.heap.size ∧ w.rangeAt bB o (bodRes pb x) ∧ w.rangeAt pb 0 (bodBox x)
theorem ResBod.below {w w' : World} (h : Below w.heap.size w w') {bB o : Nat} {x : Bod} (hr : ResBod w bB o x) : ResBod w' bB o x := by
  obtain ⟨pb, h1, h2, h5, h6⟩ := hr
  exact ⟨pb, h1, Nat.lt_of_lt_of_le h2 h.size, range_below h (by omega) h5, range_below h h2 h6⟩

structure BB (bB : Nat) (w0 : World) (m : Nat) (B : Nat → Bod) (k : Nat) (w : World) : Prop where
  below : Below bB w0 w
  lt : bB < w.heap.size
  room : w.there bB 0 (m * 3)
  rows : ∀ j, j < k → ResBod w bB (j * 3) (B j)
theorem BB.start {bB : Nat} {w0 : World} (h : w0.heap.size = bB) (m : Nat) (B : Nat → Bod) : BB bB w0 m B 0 (w0.alloc (.cells (row87 m) 87)) := by
  subst h
  exact ⟨(Below.refl _ _).alloc (Nat.le_refl _) _, by simp, there_made _ _ _ _ (by rw [size87]; omega), fun j hj => by omega⟩
theorem BB.down {bB : Nat} {w0 w w' : World} {m k : Nat} {B : Nat → Bod} (h : BB bB w0 m B k w) (hb : Below w.heap.size w w') : BB bB w0 m B k w' :=
  ⟨h.below.trans (hb.mono (by have := h.lt; omega)), Nat.lt_of_lt_of_le h.lt hb.size, there_below hb h.lt h.room, fun j hj => (h.rows j hj).below hb⟩
theorem BB.put {bB : Nat} {w0 w : World} {m k : Nat} {B : Nat → Bod} (h : BB bB w0 m B k w) (hk : k < m) {pb : Nat} (h1 : bB < pb) (h2 : pb < w.heap.size) (h6 : w.rangeAt pb 0 (bodBox (B k))) :
    BB bB w0 m B (k + 1) (w.setCells bB (k * 3) (bodRes pb (B k))) := by
  refine ⟨below_setCells (Nat.le_refl _) _ _ _ h.below, by rw [heap_setCells_size]; exact h.lt, World.there_setCells h.room _ _ _, fun j hj => ?_⟩
  by_cases e : j = k
  · subst e
    exact ⟨pb, h1, by rw [heap_setCells_size]; exact h2, World.rangeAt_setCells_same _ _ _ _ (there_sub h.room (by simp [bodRes]; omega)), World.rangeAt_setCells_apart h6 _ _ _ (.inl (by omega))⟩
  · obtain ⟨p, g1, g2, g5, g6⟩ := h.rows j (by omega)
    exact ⟨p, g1, by rw [heap_setCells_size]; exact g2, World.rangeAt_setCells_apart g5 _ _ _ (.inr (.inl (by simp [bodRes]; omega))), World.rangeAt_setCells_apart g6 _ _ _ (.inl (by omega))⟩
end Go.Proofs.Qxb6615896a
