/- 'zzc := make([]byte, len(a)); copy(zzc, a)': what comes of it. -/
import Derived.Test.Qxb6615896aInv
import Derived.Deep.OwnRows
import Derived.Deep.Upon
namespace Go.Proofs.Qxb6615896a
open Go.RowKit

theorem info5 : (Try.prog.info? 5).map (fun i => (i.zero, i.size, i.bytes)) = some (some (.int .u8 0), 1, 1) := by kernel_rfl

theorem below_setCells {B : Nat} {w : World} {b : Nat} (hb : B ≤ b) : ∀ (vs : List Value) (o : Nat) (w' : World), Below B w w' → Below B w (w'.setCells b o vs)
  | [], _, _, h => h
  | v :: vs, o, w', h => below_setCells hb vs (o + 1) (w'.setCell ⟨b, o, none⟩ v) (h.setCell hb v)

/-- The new row, behind the copy. -/
structure Copied (w w2 : World) (n : Nat) (Z : Nat → Int) : Prop where
  byts : Byts w2 (some ⟨w.heap.size, 0, none⟩) n Z
  below : Below w.heap.size w w2

theorem made_cell (w : World) (n : Nat) {j : Nat} (hj : j < n) : (w.alloc (.cells (madeCells #[.int .u8 0] n) 5)).cell? ⟨w.heap.size, j, none⟩ = some (.int .u8 0) := by
  have h : (w.alloc (.cells (madeCells #[.int .u8 0] n) 5)).heap[w.heap.size]? = some (.cells (madeCells #[.int .u8 0] n) 5) := by
    show (w.heap.push _)[w.heap.size]? = _
    simp
  have h2 : (madeCells #[Value.int .u8 0] n)[j]? = some (.int .u8 0) := by
    simp [madeCells, hj, Nat.mod_one]
  simp only [World.cell?, h, h2]
  rfl

theorem copy_bytes (w : World) (x : Addr) (n cap : Nat) (Z : Nat → Int) (h : Byts w (some x) n Z) :
    ∃ w2, (∀ ty, (Builtin.copy_ #[22, 22] ty #[.slice (some ⟨w.heap.size, 0, none⟩) n n, .slice (some x) n cap]).run Try.prog (w.alloc (.cells (madeCells #[.int .u8 0] n) 5)) = .ok (goInt n) w2) ∧ Copied w w2 n Z := by
  have hs : (Try.prog.info? 5).map (·.size) = some 1 := by kernel_rfl
  have hb0 : Below w.heap.size w (w.alloc (.cells (madeCells #[.int .u8 0] n) 5)) := (Below.refl _ _).alloc (Nat.le_refl _) _
  rcases h with rfl | ⟨b, off, e, hbl, hc⟩
  · exact ⟨_, fun ty => run_copy_none _ 22 22 ty 5 _ _ _ _ _ _ Try.underlying22 hs rfl, .inl rfl, hb0⟩
  · cases e
    have hcs : ((List.range n).map fun j => Value.int .u8 (Z j)).length = n := by simp
    refine ⟨_, fun ty => ?_, ?_, below_setCells (Nat.le_refl _) ((List.range n).map fun j => Value.int .u8 (Z j)) 0 _ hb0⟩
    · have := run_copy_cells (P := Try.prog) (w.alloc (.cells (madeCells #[.int .u8 0] n) 5)) 22 22 ty 5 w.heap.size 0 n n ⟨b, off, none⟩ n cap ((List.range n).map fun j => Value.int .u8 (Z j)) Try.underlying22 hs (by simp) (fun j v hj => ?_) (fun j hj => ?_) (fun j hj => ?_) (fun v hv => ?_)
      · rw [hcs] at this
        exact this
      · rw [Go.WideShapes.add_plain]
        have hjn : j < n := by
          have := (List.getElem?_eq_some_iff.1 hj).1
          simpa using this
        simp [hjn] at hj
        subst hj
        exact (hb0.cell (p := ⟨b, off + j, none⟩) hbl).trans (hc j hjn)
      · rw [Nat.zero_add, made_cell w n (by simpa using hj)]
        rfl
      · simp
      · obtain ⟨j, _, rfl⟩ := List.mem_map.1 hv
        rfl
    · refine .inr ⟨_, _, rfl, ?_, fun j hj => ?_⟩
      · have := (below_setCells (b := w.heap.size) (B := 0) (Nat.zero_le _) ((List.range n).map fun j => Value.int .u8 (Z j)) 0 (w.alloc (.cells (madeCells #[.int .u8 0] n) 5)) (Below.refl _ _)).size
        simp at this
        omega
      · have := World.cell?_setCells_in w.heap.size ((List.range n).map fun j => Value.int .u8 (Z j)) 0 (w.alloc (.cells (madeCells #[.int .u8 0] n) 5)) (fun j hj => by rw [Nat.zero_add, made_cell w n (by simpa using hj)]; rfl) j (by simpa using hj)
        simpa using this

/-- The refusal's text. -/
def str (n : Nat) (Z : Nat → Int) : ByteArray := strOfNums ((List.range n).map Z)
def msg (n : Nat) (Z : Nat → Int) : ByteArray := pre ++ str n Z

theorem str_list (n : Nat) (Z : Nat → Int) : (str n Z).toList = (List.range n).map (fun j => UInt8.ofNat (Z j).toNat) := by
  rw [ByteArray.toList_eq, str, strOfNums_data, List.map_map]
  rfl
theorem str_size (n : Nat) (Z : Nat → Int) : (str n Z).size = n := by rw [str, strOfNums_size]; simp
theorem msg_list (n : Nat) (Z : Nat → Int) : (msg n Z).toList = pre.toList ++ (List.range n).map (fun j => UInt8.ofNat (Z j).toNat) := by
  rw [ByteArray.toList_eq, msg, ByteArray.data_append, Array.toList_append, ← ByteArray.toList_eq, ← ByteArray.toList_eq, str_list]
theorem msg_size (n : Nat) (Z : Nat → Int) : (msg n Z).size = 18 + n := by
  rw [msg, ByteArray.size_append, str_size]
  rfl

theorem byte_back {z : Int} (h0 : 0 ≤ z) (h1 : z ≤ 255) : ((UInt8.ofNat z.toNat).toNat : Int) = z := by
  simp [UInt8.toNat_ofNat']
  omega

theorem msg_at {n : Nat} {Z : Nat → Int} (hz : ∀ j, j < n → 0 ≤ Z j ∧ Z j ≤ 255) (j : Nat) (hj : 18 + j < (msg n Z).size) : ((msg n Z)[18 + j].toNat : Int) = Z j := by
  have hjn : j < n := by rw [msg_size] at hj; omega
  have e : (msg n Z)[18 + j] = UInt8.ofNat (Z j).toNat := by
    have h1 : (msg n Z).data.toList[18 + j]? = some (UInt8.ofNat (Z j).toNat) := by
      rw [← ByteArray.toList_eq, msg_list]
      rw [List.getElem?_append_right (by simp [ByteArray.toList_eq, pre])]
      simp [ByteArray.toList_eq, pre, hjn]
    rw [List.getElem?_eq_getElem (by simpa using hj)] at h1
    exact Option.some.inj h1
  rw [e, byte_back (hz j hjn).1 (hz j hjn).2]

theorem msg_eq {n m : Nat} {Z Y : Nat → Int} (hz : ∀ j, j < n → 0 ≤ Z j ∧ Z j ≤ 255) (hy : ∀ j, j < m → 0 ≤ Y j ∧ Y j ≤ 255) : (msg n Z).toList = (msg m Y).toList ↔ (n = m ∧ ∀ j, j < n → Z j = Y j) := by
  rw [msg_list, msg_list, List.append_cancel_left_eq]
  constructor
  · intro h
    have hl : n = m := by simpa using congrArg List.length h
    subst hl
    refine ⟨rfl, fun j hj => ?_⟩
    have := congrArg (fun l : List UInt8 => l[j]?) h
    simp [hj] at this
    have h2 := congrArg (fun c : UInt8 => (c.toNat : Int)) this
    rw [← byte_back (hz j hj).1 (hz j hj).2, ← byte_back (hy j hj).1 (hy j hj).2]
    exact h2
  · rintro ⟨rfl, h⟩
    exact List.map_congr_left (fun j hj => by rw [h j (by simpa using hj)])

theorem conv_some (w : World) (b off n cap : Nat) (Z : Nat → Int) (h : Byts w (some ⟨b, off, none⟩) n Z) : (convert 22 9 (.slice (some ⟨b, off, none⟩) n cap)).run Try.prog w = .ok (.string (str n Z)) w := by
  refine run_convert_bytes_arg w 22 5 Try.underlying22 Try.underlying5 b off n cap ((List.range n).map Z) (by simp) (fun i hi => ?_) 9 Try.underlying9
  obtain ⟨b', off', e, hc⟩ := h.at hi
  cases e
  rw [hc i hi]
  simp [hi]
theorem conv_none (w : World) (l c : Nat) (Z : Nat → Int) : (convert 22 9 (.slice none l c)).run Try.prog w = .ok (.string (str 0 Z)) w :=
  run_convert_bytes_nil w 22 5 Try.underlying22 Try.underlying5 l c 9 Try.underlying9
end Go.Proofs.Qxb6615896a
