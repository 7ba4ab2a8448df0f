/- What the walks of this seat share: how a slice of strings lies in memory; small plain facts. -/
import Derived.Test.Qxb6614755aProg
import Derived.WalkKit
import Derived.Below
import Derived.BigQuiet
import Derived.Deep.QuietTactic
namespace Go.Proofs.Qxb6614755a
open Go.RowKit

theorem hide {p : Prop} (h : p) : Hid p := h
theorem unhide {p : Prop} (h : Hid p) : p := h.out

/-- The first n cells that a slice leads to hold the strings S 0, S 1, .. -/
def Strs (w : World) (a : Option Addr) (n : Nat) (S : Nat → ByteArray) : Prop :=
  n = 0 ∨ ∃ b off, a = some ⟨b, off, none⟩ ∧ b < w.heap.size ∧ ∀ j, j < n → w.cell? ⟨b, off + j, none⟩ = some (.string (S j))

theorem Strs.at {w : World} {a : Option Addr} {n k : Nat} {S : Nat → ByteArray} (h : Strs w a n S) (hk : k < n) :
    ∃ b off, a = some ⟨b, off, none⟩ ∧ ∀ j, j < n → w.cell? ⟨b, off + j, none⟩ = some (.string (S j)) := by
  rcases h with h | ⟨b, off, h1, _, h2⟩
  · omega
  · exact ⟨b, off, h1, h2⟩

/-- w' is w but for some draws. -/
def Drew (w w' : World) : Prop := ∃ q, w' = w.drewN q
theorem Drew.refl (w : World) : Drew w w := ⟨0, rfl⟩
theorem Drew.trans {w w' w'' : World} (h : Drew w w') (h' : Drew w' w'') : Drew w w'' := by
  obtain ⟨q, rfl⟩ := h
  obtain ⟨r, rfl⟩ := h'
  exact ⟨q + r, by rw [World.drewN_drewN]⟩
theorem Drew.drewN {w w' : World} (h : Drew w w') (n : Nat) : Drew w (w'.drewN n) := h.trans ⟨n, rfl⟩
theorem Drew.cell {w w' : World} (h : Drew w w') (p : Addr) : w'.cell? p = w.cell? p := by
  obtain ⟨q, rfl⟩ := h
  simp
theorem Drew.heap {w w' : World} (h : Drew w w') : w'.heap = w.heap := by
  obtain ⟨q, rfl⟩ := h
  simp
theorem Drew.strs {w w' : World} (h : Drew w w') {a : Option Addr} {n : Nat} {S : Nat → ByteArray} (hs : Strs w a n S) : Strs w' a n S := by
  rcases hs with h1 | ⟨b, off, h1, h2, h3⟩
  · exact .inl h1
  · exact .inr ⟨b, off, h1, by rw [h.heap]; exact h2, fun j hj => (h.cell _).trans (h3 j hj)⟩

/-- Is x among the first n? -/
def hasB (n : Nat) (S : Nat → ByteArray) (x : ByteArray) : Bool := (List.range n).any fun i => (S i).toList == x.toList
theorem hasB_true {n : Nat} {S : Nat → ByteArray} {x : ByteArray} {k : Nat} (hk : k < n) (h : ((S k).toList == x.toList) = true) : hasB n S x = true := by
  unfold hasB; rw [List.any_eq_true]; exact ⟨k, by simpa using hk, h⟩
theorem hasB_false {n : Nat} {S : Nat → ByteArray} {x : ByteArray} (h : ∀ j, j < n → ((S j).toList == x.toList) = false) : hasB n S x = false := by
  unfold hasB; rw [List.any_eq_false]; intro j hj; rw [h j (by simpa using hj)]; exact Bool.false_ne_true

theorem ret_bool {a b : Bool} (h : a = b) : Ending.returned (.bool a) = .returned (.bool b) := by rw [h]

set_option maxHeartbeats 400000 in
theorem contains_any (a : Option Addr) (n cap : Nat) (S : Nat → ByteArray) (x : ByteArray) (w : World) (hn : n ≤ maxLen) (h : Strs w a n S) :
    Calls Try.prog 19 #[.slice a n cap, .string x] w fun e w' => e = .returned (.bool (hasB n S x)) ∧ w' = w := by
  unfold maxLen at hn
  have H : Hid (Strs w a n S) := h
  clear h
  go_enter Try.func19, Try.ntmps19
  go_wp2
  go_loop [5] (fun i => ∃ k : Nat, k ≤ n ∧ i = .int .i64 k ∧ Hid (∀ j, j < k → ((S j).toList == x.toList) = false)) (fun i => n - (intOf i).toNat)
  case atStart => exact ⟨0, Nat.zero_le _, rfl, fun j hj => by omega⟩
  case round =>
    obtain ⟨k, hk, rfl, hno⟩ := hrel
    by_cases hlt : k < n
    · obtain ⟨b, off, rfl, hc⟩ := H.out.at hlt
      have hck := hc k hlt
      clear hc
      go_wp2
      · go_ret
        exact ⟨ret_bool (hasB_true hlt (by assumption)).symm, rfl⟩
      · go_round
        case rel => exact ⟨k + 1, by omega, by go_num, fun j hj => by
          by_cases e : j = k
          · subst e; assumption
          · exact hno.out j (by omega)⟩
        case measure => simp [intOf]; omega
    · go_wp2
      go_ret
      exact ⟨ret_bool (hasB_false (fun j hj => hno.out j (by omega))).symm, rfl⟩
end Go.Proofs.Qxb6614755a
