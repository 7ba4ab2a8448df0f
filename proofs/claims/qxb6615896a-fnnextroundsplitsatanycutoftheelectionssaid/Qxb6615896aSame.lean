/- nrSameElection (14): two elections whose fields and candidates are the same. -/
import Derived.Test.Qxb6615896aNr
namespace Go.Proofs.Qxb6615896a
open Go.RowKit

/-- A row of candidates as they go out: two cells each. -/
def PairsAt (w : World) (a : Option Addr) (n : Nat) (C : Nat → ByteArray × ByteArray) : Prop :=
  n = 0 ∨ ∃ b off, a = some ⟨b, off, none⟩ ∧ b < w.heap.size ∧ ∀ j, j < n → w.cell? ⟨b, off + j * 2, none⟩ = some (.string (C j).1) ∧ w.cell? ⟨b, off + j * 2 + 1, none⟩ = some (.string (C j).2)
theorem PairsAt.at {w : World} {a : Option Addr} {n k : Nat} {C : Nat → ByteArray × ByteArray} (h : PairsAt w a n C) (hk : k < n) : ∃ b off, a = some ⟨b, off, none⟩ ∧ w.cell? ⟨b, off + k * 2, none⟩ = some (.string (C k).1) ∧ w.cell? ⟨b, off + k * 2 + 1, none⟩ = some (.string (C k).2) := by
  rcases h with h | ⟨b, off, h1, _, h2⟩
  · omega
  · exact ⟨b, off, h1, h2 k hk⟩
theorem PairsAt.below {w w' : World} (h : Below w.heap.size w w') {a : Option Addr} {n : Nat} {C : Nat → ByteArray × ByteArray} (hs : PairsAt w a n C) : PairsAt w' a n C := by
  rcases hs with h1 | ⟨b, off, h1, h2, h3⟩
  · exact .inl h1
  · exact .inr ⟨b, off, h1, Nat.lt_of_lt_of_le h2 h.size, fun j hj => ⟨(h.cell (p := ⟨b, _, none⟩) h2).trans (h3 j hj).1, (h.cell (p := ⟨b, _, none⟩) h2).trans (h3 j hj).2⟩⟩

theorem s73 : Try.prog.stoodInHeld 73 = false := by kernel_rfl
theorem f73 : Try.prog.underlying 73 = some (.struct (Try.prog.fieldsOf 73)) := by kernel_rfl
theorem g73 : Try.prog.eqGuardType Try.prog.depth 73 = false := by kernel_rfl
theorem eqf73 (W : World) (d : Nat) (p q : ByteArray) : (Op.eqFields (d + 1) #[.string p, .string q] #[.string p, .string q] (Try.prog.fieldsOf 73).toList).run Try.prog W = .ok true W := by
  have e1 : ∀ W : World, (part 9 #[Value.string p, .string q] 0).run Try.prog W = .ok (.string p) W := fun W => by kernel_rfl
  have e2 : ∀ W : World, (part 9 #[Value.string p, .string q] 1).run Try.prog W = .ok (.string q) W := fun W => by kernel_rfl
  simp only [Program.fieldsOf, Try.underlying73, Op.eqFields, Sem.run_bind, Sem.run_ite, Sem.run_pure, e1, e2, Result.andThen_ok, run_equalIn_string W d 9 _ _ Try.underlying9]
  simp
theorem ne73 (W : World) (p q : ByteArray) : (binOp .neq 73 (.agg #[.string p, .string q]) (.agg #[.string p, .string q])).run Try.prog W = .ok (.bool false) W := by
  rw [run_neq_struct, run_equalIn_struct W 9999 73 _ _ f73 s73, show (9999 : Nat) = 9998 + 1 from rfl, eqf73]
  rfl

set_option maxRecDepth 100000 in
set_option maxHeartbeats 2000000 in
theorem same_elec (id title body : ByteArray) (seats : Int) (a a2 : Option Addr) (n cap cap2 : Nat) (C D : Nat → ByteArray × ByteArray) (w : World) (hn : n ≤ 1048576) (h : PairsAt w a n C) (h2 : PairsAt w a2 n D) (he : ∀ j, j < n → C j = D j) :
    Calls Try.prog 14 #[.agg #[.string id, .string title, .int .i64 seats, .slice a n cap, .string body], .agg #[.string id, .string title, .int .i64 seats, .slice a2 n cap2, .string body]] w fun e w' => e = .returned (.bool true) ∧ Below w.heap.size w w' := by
  have H := hide (And.intro h (And.intro h2 he))
  clear h h2 he
  go_enter Try.func14, Try.ntmps14
  go_wp2
  have hW : Below w.heap.size w ((w.alloc (.cells #[.string id, .string title, .int .i64 seats, .slice a n cap, .string body] 51)).alloc (.cells #[.string id, .string title, .int .i64 seats, .slice a2 n cap2, .string body] 51)) := ((Below.refl _ _).alloc (Nat.le_refl _) _).alloc (by simp) _
  have c1 : ((w.alloc (.cells #[.string id, .string title, .int .i64 seats, .slice a n cap, .string body] 51)).alloc (.cells #[.string id, .string title, .int .i64 seats, .slice a2 n cap2, .string body] 51)).cell? ⟨w.heap.size, 3, none⟩ = some (.slice a n cap) := by simp
  have c2 : ((w.alloc (.cells #[.string id, .string title, .int .i64 seats, .slice a n cap, .string body] 51)).alloc (.cells #[.string id, .string title, .int .i64 seats, .slice a2 n cap2, .string body] 51)).cell? ⟨w.heap.size + 1, 3, none⟩ = some (.slice a2 n cap2) := by simp
  generalize hw0 : (w.alloc (.cells #[.string id, .string title, .int .i64 seats, .slice a n cap, .string body] 51)).alloc (.cells #[.string id, .string title, .int .i64 seats, .slice a2 n cap2, .string body] 51) = w0 at *
  have HW := hide (And.intro hW (And.intro c1 c2))
  clear hW c1 c2 hw0
  have hne := ne73
  have hg := g73
  go_loopw [5] (fun i wr => ∃ k : Nat, k ≤ n ∧ i = .int .i64 k ∧ Hid (Drew w0 wr)) (fun i _ => n - (intOf i).toNat)
  case atStart => exact ⟨0, Nat.zero_le _, rfl, Drew.refl _⟩
  case round =>
    obtain ⟨k, hk, rfl, hd⟩ := hrel
    have d1 := (hd.out.cell _).trans HW.out.2.1
    have d2 := (hd.out.cell _).trans HW.out.2.2
    by_cases hlt : k < n
    · obtain ⟨b, off, rfl, p0, p1⟩ := (H.out.1.below HW.out.1).at hlt
      obtain ⟨b2, off2, rfl, q0, q1⟩ := (H.out.2.1.below HW.out.1).at hlt
      rw [← H.out.2.2 k hlt] at q0 q1
      have p0 := (hd.out.cell _).trans p0
      have p1 := (hd.out.cell _).trans p1
      have q0 := (hd.out.cell _).trans q0
      have q1 := (hd.out.cell _).trans q1
      generalize (C k).1 = s1 at *
      generalize (C k).2 = s2 at *
      go_wp2
      go_quiet (fail)
      go_wp2
      go_roundw
      case rel => exact ⟨k + 1, by omega, by go_num, hd.out.drewN _⟩
      case measure => simp [intOf]; omega
    · go_wp2
      go_ret
      exact ⟨rfl, HW.out.1.trans (hd.out.below _)⟩
end Go.Proofs.Qxb6615896a
