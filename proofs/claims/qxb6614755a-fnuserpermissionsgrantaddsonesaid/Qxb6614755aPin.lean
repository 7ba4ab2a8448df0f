/- The users and the roles as they come in; zzRoleDeclared (33), zzUserKnown (37), zzHasPerm (52), zzWritten (42). -/
import Derived.Test.Qxb6614755aPss
import Derived.Test.Qxb6614755aValid2
import Derived.Deep.QuietTactic
import Derived.BigQuiet
namespace Go.Proofs.Qxb6614755a
open Go.RowKit

structure UIn where
  name : ByteArray
  ra : Option Addr
  rl : Nat
  rc : Nat
  R : Nat → ByteArray
structure RIn where
  name : ByteArray
  ga : Option Addr
  gl : Nat
  gc : Nat
  G : Nat → Pm

/-- A row of permissions (two strings each). -/
def PmsAt (w : World) (a : Option Addr) (n : Nat) (P : Nat → Pm) : Prop :=
  n = 0 ∨ ∃ b off, a = some ⟨b, off, none⟩ ∧ b < w.heap.size ∧ ∀ j, j < n → w.cell? ⟨b, off + j * 2, none⟩ = some (.string (P j).1) ∧ w.cell? ⟨b, off + j * 2 + 1, none⟩ = some (.string (P j).2)
def UsAt (w : World) (a : Option Addr) (n : Nat) (U : Nat → UIn) : Prop :=
  n = 0 ∨ ∃ b off, a = some ⟨b, off, none⟩ ∧ b < w.heap.size ∧ ∀ j, j < n → (w.cell? ⟨b, off + j * 2, none⟩ = some (.string (U j).name) ∧ w.cell? ⟨b, off + j * 2 + 1, none⟩ = some (.slice (U j).ra (U j).rl (U j).rc)) ∧ Strs w (U j).ra (U j).rl (U j).R
def RsAt (w : World) (a : Option Addr) (n : Nat) (R : Nat → RIn) : Prop :=
  n = 0 ∨ ∃ b off, a = some ⟨b, off, none⟩ ∧ b < w.heap.size ∧ ∀ j, j < n → (w.cell? ⟨b, off + j * 2, none⟩ = some (.string (R j).name) ∧ w.cell? ⟨b, off + j * 2 + 1, none⟩ = some (.slice (R j).ga (R j).gl (R j).gc)) ∧ PmsAt w (R j).ga (R j).gl (R j).G

section
variable {w w' : World} {a : Option Addr} {n k : Nat}
theorem PmsAt.at {P : Nat → Pm} (h : PmsAt w a n P) (hk : k < n) : ∃ b off, a = some ⟨b, off, none⟩ ∧ w.cell? ⟨b, off + k * 2, none⟩ = some (.string (P k).1) ∧ w.cell? ⟨b, off + k * 2 + 1, none⟩ = some (.string (P k).2) := by
  rcases h with h | ⟨b, off, h1, _, h2⟩
  · omega
  · exact ⟨b, off, h1, h2 k hk⟩
theorem UsAt.at {U : Nat → UIn} (h : UsAt w a n U) (hk : k < n) : ∃ b off, a = some ⟨b, off, none⟩ ∧ (w.cell? ⟨b, off + k * 2, none⟩ = some (.string (U k).name) ∧ w.cell? ⟨b, off + k * 2 + 1, none⟩ = some (.slice (U k).ra (U k).rl (U k).rc)) ∧ Strs w (U k).ra (U k).rl (U k).R := by
  rcases h with h | ⟨b, off, h1, _, h2⟩
  · omega
  · exact ⟨b, off, h1, h2 k hk⟩
theorem RsAt.at {R : Nat → RIn} (h : RsAt w a n R) (hk : k < n) : ∃ b off, a = some ⟨b, off, none⟩ ∧ (w.cell? ⟨b, off + k * 2, none⟩ = some (.string (R k).name) ∧ w.cell? ⟨b, off + k * 2 + 1, none⟩ = some (.slice (R k).ga (R k).gl (R k).gc)) ∧ PmsAt w (R k).ga (R k).gl (R k).G := by
  rcases h with h | ⟨b, off, h1, _, h2⟩
  · omega
  · exact ⟨b, off, h1, h2 k hk⟩
theorem strs_bel (h : Below w.heap.size w w') {S : Nat → ByteArray} (hs : Strs w a n S) : Strs w' a n S := by
  rcases hs with h1 | ⟨b, off, h1, h2, h3⟩
  · exact .inl h1
  · exact .inr ⟨b, off, h1, Nat.lt_of_lt_of_le h2 h.size, fun j hj => (h.cell (p := ⟨b, _, none⟩) h2).trans (h3 j hj)⟩
theorem PmsAt.below (h : Below w.heap.size w w') {P : Nat → Pm} (hs : PmsAt w a n P) : PmsAt w' a n P := by
  rcases hs with h1 | ⟨b, off, h1, h2, h3⟩
  · exact .inl h1
  · exact .inr ⟨b, off, h1, Nat.lt_of_lt_of_le h2 h.size, fun j hj => ⟨(h.cell (p := ⟨b, _, none⟩) h2).trans (h3 j hj).1, (h.cell (p := ⟨b, _, none⟩) h2).trans (h3 j hj).2⟩⟩
theorem UsAt.below (h : Below w.heap.size w w') {U : Nat → UIn} (hs : UsAt w a n U) : UsAt w' a n U := by
  rcases hs with h1 | ⟨b, off, h1, h2, h3⟩
  · exact .inl h1
  · exact .inr ⟨b, off, h1, Nat.lt_of_lt_of_le h2 h.size, fun j hj => ⟨⟨(h.cell (p := ⟨b, _, none⟩) h2).trans (h3 j hj).1.1, (h.cell (p := ⟨b, _, none⟩) h2).trans (h3 j hj).1.2⟩, strs_bel h (h3 j hj).2⟩⟩
theorem RsAt.below (h : Below w.heap.size w w') {R : Nat → RIn} (hs : RsAt w a n R) : RsAt w' a n R := by
  rcases hs with h1 | ⟨b, off, h1, h2, h3⟩
  · exact .inl h1
  · exact .inr ⟨b, off, h1, Nat.lt_of_lt_of_le h2 h.size, fun j hj => ⟨⟨(h.cell (p := ⟨b, _, none⟩) h2).trans (h3 j hj).1.1, (h.cell (p := ⟨b, _, none⟩) h2).trans (h3 j hj).1.2⟩, (h3 j hj).2.below h⟩⟩
end

theorem bytes_eq' {a b : ByteArray} (h : a.toList = b.toList) : a = b := by
  rw [ByteArray.toList_eq, ByteArray.toList_eq] at h
  cases a; cases b
  simp at h
  rw [h]
theorem beq_of_eq {a b : ByteArray} (h : a = b) : (a.toList == b.toList) = true := by rw [h]; exact beq_self_eq_true _
theorem beq_of_ne {a b : ByteArray} (h : a ≠ b) : (a.toList == b.toList) = false := by
  cases hh : (a.toList == b.toList) with
  | false => rfl
  | true => exact absurd (bytes_eq' (eq_of_beq hh)) h

/-- A test's answer. -/
def Answers (p : Prop) (w : World) (e : Ending) (w' : World) : Prop := ∃ r : Bool, e = .returned (.bool r) ∧ (r = true ↔ p) ∧ ∃ q, w' = w.drewN q
theorem answers_yes {p : Prop} {w : World} (h : p) (q : Nat) : Answers p w (.returned (.bool true)) (w.drewN q) := ⟨true, rfl, by simp [h], q, rfl⟩
theorem answers_no {p : Prop} {w : World} (h : ¬ p) (q : Nat) : Answers p w (.returned (.bool false)) (w.drewN q) := ⟨false, rfl, by simp [h], q, rfl⟩

set_option maxRecDepth 100000 in
set_option maxHeartbeats 400000 in
theorem declared_any (a : Option Addr) (n cap : Nat) (R : Nat → RIn) (x : ByteArray) (w : World) (hn : n ≤ 1048576) (h : RsAt w a n R) :
    Calls Try.prog 33 #[.slice a n cap, .string x] w (Answers (∃ k, k < n ∧ (R k).name = x) w) := by
  have H := hide h
  clear h
  go_enter Try.func33, Try.ntmps33
  go_wp2
  go_loop [5] (fun i => ∃ k : Nat, k ≤ n ∧ i = .int .i64 k ∧ ∀ j, j < k → (R j).name ≠ x) (fun i => n - (intOf i).toNat)
  case atStart => exact ⟨0, Nat.zero_le _, rfl, fun j hj => by omega⟩
  case round =>
    obtain ⟨k, hk, rfl, hno⟩ := hrel
    by_cases hlt : k < n
    · obtain ⟨b, off, rfl, ⟨c0, _⟩, _⟩ := H.out.at hlt
      by_cases e : (R k).name = x
      · have t1 := beq_of_eq e
        go_wp2
        go_ret
        exact answers_yes ⟨k, hlt, e⟩ 0
      · have t1 := beq_of_ne e
        go_wp2
        go_round
        case rel => exact ⟨k + 1, by omega, by go_num, fun j hj => by rcases Nat.lt_or_ge j k with h | h; · exact hno j h
                                                                      · obtain rfl : j = k := by omega
                                                                        exact e⟩
        case measure => simp [intOf]; omega
    · go_wp2
      go_ret
      exact answers_no (fun ⟨j, h1, h2⟩ => hno j (by omega) h2) 0

set_option maxRecDepth 100000 in
set_option maxHeartbeats 400000 in
theorem known_any (a : Option Addr) (n cap : Nat) (U : Nat → UIn) (x : ByteArray) (w : World) (hn : n ≤ 1048576) (h : UsAt w a n U) :
    Calls Try.prog 37 #[.slice a n cap, .string x] w (Answers (∃ k, k < n ∧ (U k).name = x) w) := by
  have H := hide h
  clear h
  go_enter Try.func37, Try.ntmps37
  go_wp2
  go_loop [5] (fun i => ∃ k : Nat, k ≤ n ∧ i = .int .i64 k ∧ ∀ j, j < k → (U j).name ≠ x) (fun i => n - (intOf i).toNat)
  case atStart => exact ⟨0, Nat.zero_le _, rfl, fun j hj => by omega⟩
  case round =>
    obtain ⟨k, hk, rfl, hno⟩ := hrel
    by_cases hlt : k < n
    · obtain ⟨b, off, rfl, ⟨c0, _⟩, _⟩ := H.out.at hlt
      by_cases e : (U k).name = x
      · have t1 := beq_of_eq e
        go_wp2
        go_ret
        exact answers_yes ⟨k, hlt, e⟩ 0
      · have t1 := beq_of_ne e
        go_wp2
        go_round
        case rel => exact ⟨k + 1, by omega, by go_num, fun j hj => by rcases Nat.lt_or_ge j k with h | h; · exact hno j h
                                                                      · obtain rfl : j = k := by omega
                                                                        exact e⟩
        case measure => simp [intOf]; omega
    · go_wp2
      go_ret
      exact answers_no (fun ⟨j, h1, h2⟩ => hno j (by omega) h2) 0

set_option maxRecDepth 100000 in
set_option maxHeartbeats 400000 in
theorem hasPerm_any (a : Option Addr) (n cap : Nat) (P : Nat → Pm) (x y : ByteArray) (w : World) (hn : n ≤ 1048576) (h : PmsAt w a n P) :
    Calls Try.prog 52 #[.slice a n cap, .string x, .string y] w (Answers (∃ k, k < n ∧ P k = (x, y)) w) := by
  have H := hide h
  clear h
  go_enter Try.func52, Try.ntmps52
  go_wp2
  go_loop [7] (fun i => ∃ k : Nat, k ≤ n ∧ i = .int .i64 k ∧ ∀ j, j < k → P j ≠ (x, y)) (fun i => n - (intOf i).toNat)
  case atStart => exact ⟨0, Nat.zero_le _, rfl, fun j hj => by omega⟩
  case round =>
    obtain ⟨k, hk, rfl, hno⟩ := hrel
    by_cases hlt : k < n
    · obtain ⟨b, off, rfl, c0, c1⟩ := H.out.at hlt
      have step : ∀ (_ : P k ≠ (x, y)), ∀ j, j < k + 1 → P j ≠ (x, y) := fun e j hj => by
        rcases Nat.lt_or_ge j k with h | h
        · exact hno j h
        · obtain rfl : j = k := by omega
          exact e
      by_cases e1 : (P k).1 = x
      · have t1 := beq_of_eq e1
        by_cases e2 : (P k).2 = y
        · have t2 := beq_of_eq e2
          go_wp2
          go_ret
          exact answers_yes ⟨k, hlt, Prod.ext e1 e2⟩ 0
        · have t2 := beq_of_ne e2
          go_wp2
          go_round
          case rel => exact ⟨k + 1, by omega, by go_num, step (fun e => e2 (by rw [e]))⟩
          case measure => simp [intOf]; omega
      · have t1 := beq_of_ne e1
        go_wp2
        go_round
        case rel => exact ⟨k + 1, by omega, by go_num, step (fun e => e1 (by rw [e]))⟩
        case measure => simp [intOf]; omega
    · go_wp2
      go_ret
      exact answers_no (fun ⟨j, h1, h2⟩ => hno j (by omega) h2) 0

set_option maxRecDepth 100000 in
theorem written_any (p q : ByteArray) (w : World) (h1 : p.size ≤ 1048576) (h2 : q.size ≤ 1048576) : Calls Try.prog 42 #[.string p, .string q] w fun e w' => e = .returned (.string (p ++ ⟨#[58]⟩ ++ q)) ∧ w' = w := by
  go_enter Try.func42, Try.ntmps42
  go_wp2
  go_ret
  exact ⟨rfl, rfl⟩
end Go.Proofs.Qxb6614755a
