/- FnInvalidNameKeepsPlaceAndName: the helpers' walks. -/
import Derived.Test.Qxb6615896aProg
import Derived.WalkKit
import Derived.Below
import Derived.BigQuiet
import Derived.Deep.QuietTactic
import Derived.Laws.BytesArg
import Derived.Laws.IdiomCopy
namespace Go.Proofs.Qxb6615896a
open Go.RowKit

theorem hide {p : Prop} (h : p) : Hid p := h
theorem unhide {p : Prop} (h : Hid p) : p := h.out

/-- The first n cells that a slice of bytes leads to hold the numbers Z 0, Z 1, .. -/
def Byts (w : World) (a : Option Addr) (n : Nat) (Z : Nat → Int) : Prop :=
  n = 0 ∨ ∃ b off, a = some ⟨b, off, none⟩ ∧ b < w.heap.size ∧ ∀ j, j < n → w.cell? ⟨b, off + j, none⟩ = some (.int .u8 (Z j))

theorem Byts.at {w : World} {a : Option Addr} {n k : Nat} {Z : Nat → Int} (h : Byts w a n Z) (hk : k < n) :
    ∃ b off, a = some ⟨b, off, none⟩ ∧ ∀ j, j < n → w.cell? ⟨b, off + j, none⟩ = some (.int .u8 (Z j)) := by
  rcases h with h | ⟨b, off, h1, _, h2⟩
  · omega
  · exact ⟨b, off, h1, h2⟩
theorem Byts.below {w w' : World} (h : Below w.heap.size w w') {a : Option Addr} {n : Nat} {Z : Nat → Int} (hs : Byts w a n Z) : Byts w' a n Z := by
  rcases hs with h1 | ⟨b, off, h1, h2, h3⟩
  · exact .inl h1
  · exact .inr ⟨b, off, h1, Nat.lt_of_lt_of_le h2 h.size, fun j hj => (h.cell (p := ⟨b, off + j, none⟩) h2).trans (h3 j hj)⟩

def Drew (w w' : World) : Prop := ∃ q, w' = w.drewN q
theorem Drew.refl (w : World) : Drew w w := ⟨0, rfl⟩
theorem Drew.trans {w w' w'' : World} (h : Drew w w') (h' : Drew w' w'') : Drew w w'' := by
  obtain ⟨q, rfl⟩ := h
  obtain ⟨r, rfl⟩ := h'
  exact ⟨q + r, by rw [World.drewN_drewN]⟩
theorem Drew.drewN {w w' : World} (h : Drew w w') (n : Nat) : Drew w (w'.drewN n) := h.trans ⟨n, rfl⟩
theorem Drew.cell {w w' : World} (h : Drew w w') (p : Addr) : w'.cell? p = w.cell? p := by
  obtain ⟨q, rfl⟩ := h
  simp
theorem Drew.below {w w' : World} (h : Drew w w') (B : Nat) : Below B w w' := by
  obtain ⟨q, rfl⟩ := h
  exact ⟨rfl, rfl, rfl, Nat.le_refl _, fun k hk => rfl⟩

/-- It answers some bool; true only if p; the world is as it was. -/
def Guards (p : Prop) (w : World) (e : Ending) (w' : World) : Prop := ∃ r : Bool, e = .returned (.bool r) ∧ (r = true → p) ∧ w' = w

set_option maxRecDepth 100000 in
set_option maxHeartbeats 400000 in
theorem bytes5_any (z1 z2 : Int) (a b : Option Addr) (n m cap cap2 : Nat) (w : World) (hn : n ≤ maxLen) (hm : m ≤ maxLen) :
    Calls Try.prog 5 #[.int .i64 z1, .int .i64 z2, .slice a n cap, .slice b m cap2] w (Guards (n + m ≤ 1048576) w) := by
  unfold maxLen at hn hm
  by_cases h1 : 1048576 < n
  · go_enter Try.func5, Try.ntmps5
    go_wp2
    go_ret
    exact ⟨false, rfl, by simp, rfl⟩
  by_cases h2 : 1048576 < m
  · go_enter Try.func5, Try.ntmps5
    go_wp2
    go_ret
    exact ⟨false, rfl, by simp, rfl⟩
  by_cases h3 : 1048576 < n + m
  · go_enter Try.func5, Try.ntmps5
    go_wp2
    go_ret
    exact ⟨false, rfl, by simp, rfl⟩
  · go_enter Try.func5, Try.ntmps5
    go_wp2
    go_ret
    exact ⟨true, rfl, fun _ => by omega, rfl⟩

set_option maxRecDepth 100000 in
set_option maxHeartbeats 400000 in
theorem same_yes (a b : Option Addr) (n cap cap2 : Nat) (Z Y : Nat → Int) (w : World) (hn : n ≤ maxLen) (ha : Byts w a n Z) (hb : Byts w b n Y) (h : ∀ j, j < n → Z j = Y j) :
    Calls Try.prog 7 #[.slice a n cap, .slice b n cap2] w fun e w' => e = .returned (.bool true) ∧ Drew w w' := by
  unfold maxLen at hn
  have H := hide (And.intro ha (And.intro hb h))
  clear ha hb h
  go_enter Try.func7, Try.ntmps7
  go_wp2
  go_loopw [5] (fun i wr => ∃ k : Nat, k ≤ n ∧ i = .int .i64 k ∧ Hid (Drew w wr)) (fun i _ => n - (intOf i).toNat)
  case atStart => exact ⟨0, Nat.zero_le _, rfl, Drew.refl _⟩
  case round =>
    obtain ⟨k, hk, rfl, hw⟩ := hrel
    by_cases hlt : k < n
    · obtain ⟨p, off, rfl, hc⟩ := H.out.1.at hlt
      obtain ⟨q, off2, rfl, hc2⟩ := H.out.2.1.at hlt
      have c1 := (hw.out.cell _).trans (hc k hlt)
      have c2 := (hw.out.cell _).trans (hc2 k hlt)
      have t : (Z k != Y k) = false := by rw [H.out.2.2 k hlt]; simp
      clear hc hc2
      go_wp2
      go_quiet (fail)
      go_wp2
      go_roundw
      case rel => exact ⟨k + 1, by omega, by go_num, hw.out.drewN _⟩
      case measure => simp [intOf]; omega
    · go_wp2
      go_ret
      exact ⟨rfl, hw.out⟩

set_option maxRecDepth 100000 in
set_option maxHeartbeats 400000 in
theorem same_no (a b : Option Addr) (n m cap cap2 : Nat) (Z Y : Nat → Int) (w : World) (hn : n ≤ maxLen) (hm : m ≤ maxLen) (ha : Byts w a n Z) (hb : Byts w b m Y) (h : ¬ (n = m ∧ ∀ j, j < n → Z j = Y j)) :
    Calls Try.prog 7 #[.slice a n cap, .slice b m cap2] w fun e w' => e = .returned (.bool false) ∧ Drew w w' := by
  unfold maxLen at hn hm
  by_cases hnm : n = m
  · subst hnm
    have H := hide (And.intro ha (And.intro hb h))
    clear ha hb h
    go_enter Try.func7, Try.ntmps7
    go_wp2
    go_loopw [5] (fun i wr => ∃ k : Nat, k ≤ n ∧ i = .int .i64 k ∧ Hid (Drew w wr) ∧ Hid (∀ j, j < k → Z j = Y j)) (fun i _ => n - (intOf i).toNat)
    case atStart => exact ⟨0, Nat.zero_le _, rfl, Drew.refl _, fun j hj => by omega⟩
    case round =>
      obtain ⟨k, hk, rfl, hw, he⟩ := hrel
      by_cases hlt : k < n
      · obtain ⟨p, off, rfl, hc⟩ := H.out.1.at hlt
        obtain ⟨q, off2, rfl, hc2⟩ := H.out.2.1.at hlt
        have c1 := (hw.out.cell _).trans (hc k hlt)
        have c2 := (hw.out.cell _).trans (hc2 k hlt)
        clear hc hc2
        by_cases hd : Z k = Y k
        · have t : (Z k != Y k) = false := by rw [hd]; simp
          have HD := hide hd
          clear hd
          go_wp2
          go_quiet (fail)
          go_wp2
          go_roundw
          case rel => exact ⟨k + 1, by omega, by go_num, hw.out.drewN _, fun j hj => by
            by_cases e : j = k
            · subst e; exact HD.out
            · exact he.out j (by omega)⟩
          case measure => simp [intOf]; omega
        · have t : (Z k != Y k) = true := by rw [bne_iff_ne]; exact hd
          clear hd
          go_wp2
          go_quiet (fail)
          go_wp2
          go_ret
          exact ⟨rfl, hw.out.drewN _⟩
      · exact absurd ⟨trivial, fun j hj => he.out j (by omega)⟩ H.out.2.2
  · have t : (((n : Nat) : Int) != ((m : Nat) : Int)) = true := by rw [bne_iff_ne]; omega
    clear ha hb h hnm
    go_enter Try.func7, Try.ntmps7
    go_wp2
    go_ret
    exact ⟨rfl, Drew.refl _⟩

set_option maxRecDepth 100000 in
set_option maxHeartbeats 400000 in
theorem ends_yes (s : ByteArray) (a : Option Addr) (n cap off0 : Nat) (Z : Nat → Int) (w : World) (hn : n ≤ 1048576) (hs : s.size = off0 + n) (ho : off0 ≤ 1048576) (ha : Byts w a n Z) (h : ∀ j (hj : off0 + j < s.size), (s[off0 + j].toNat : Int) = Z j) :
    Calls Try.prog 8 #[.string s, .slice a n cap] w fun e w' => e = .returned (.bool true) ∧ Drew w w' := by
  have H := hide (And.intro ha h)
  have HS := hide hs
  have e0 : ((s.size : Nat) : Int) - (n : Int) = (off0 : Int) := by omega
  have hge : n ≤ s.size := by omega
  clear ha h hs
  go_enter Try.func8, Try.ntmps8
  go_wp2
  go_loopw [6] (fun i wr => ∃ k : Nat, k ≤ n ∧ i = .int .i64 k ∧ Hid (Drew w wr)) (fun i _ => n - (intOf i).toNat)
  case atStart => exact ⟨0, Nat.zero_le _, rfl, Drew.refl _⟩
  case round =>
    obtain ⟨k, hk, rfl, hw⟩ := hrel
    by_cases hlt : k < n
    · obtain ⟨p, off, rfl, hc⟩ := H.out.1.at hlt
      have c1 := (hw.out.cell _).trans (hc k hlt)
      have hin : off0 + k < s.size := by have := HS.out; omega
      have hix : ∀ W : World, (Instr.index 9 (.string s) (.int .i64 ((off0 : Int) + (k : Int)))).run Try.prog W = .ok (.int .u8 (Z k)) W := fun W => by
        rw [run_index_string W 9 s .i64 _ Try.underlying9, dif_pos ⟨by omega, by omega⟩, ← H.out.2 k hin]
        have e1 : ((off0 : Int) + (k : Int)).toNat = off0 + k := by omega
        simp only [e1]
      clear hc
      go_wp2
      go_quiet (fail)
      go_wp2
      go_roundw
      case rel => exact ⟨k + 1, by omega, by go_num, hw.out.drewN _⟩
      case measure => simp [intOf]; omega
    · go_wp2
      go_ret
      exact ⟨rfl, hw.out⟩

def pre : ByteArray := ⟨#[105, 110, 118, 97, 108, 105, 100, 32, 88, 77, 76, 32, 110, 97, 109, 101, 58, 32]⟩

set_option maxRecDepth 100000 in
set_option maxHeartbeats 400000 in
theorem inv_any (at1 : Int) (a : Option Addr) (n cap : Nat) (s : ByteArray) (w : World) (hcv : (convert 22 9 (.slice a n cap)).run Try.prog w = .ok (.string s) w) (hs : s.size ≤ 1048576) :
    Calls Try.prog 15 #[.int .i64 at1, .slice a n cap] w fun e w' => e = .returned (.iface 53 (.pointer (some ⟨w.heap.size, 0, none⟩))) ∧ w' = w.alloc (.cells #[.int .i64 at1, .string (pre ++ s)] 59) := by
  go_enter Try.func15, Try.ntmps15
  go_wp2
  go_ret
  exact ⟨rfl, rfl⟩

theorem assert53 (W : World) (v : Value) : (Instr.typeAssert (.iface 53 v) 56 53 true).run Try.prog W = .ok (.tuple #[v, .bool true]) W := by kernel_rfl

set_option maxRecDepth 100000 in
set_option maxHeartbeats 400000 in
theorem zzInv_any (at1 : Int) (a : Option Addr) (n cap : Nat) (s : ByteArray) (w : World) (hcv : (convert 22 9 (.slice a n cap)).run Try.prog w = .ok (.string s) w) (hs : s.size ≤ 1048576) :
    Calls Try.prog 6 #[.int .i64 at1, .slice a n cap] w fun e w' => e = .returned (.tuple #[.int .i64 at1, .string (pre ++ s), .bool true]) ∧ Below w.heap.size w w' := by
  have C := hide (inv_any at1 a n cap s w hcv hs)
  have has := assert53
  clear hcv
  generalize pre ++ s = msg at C ⊢
  go_enter Try.func6, Try.ntmps6
  go_wp2_with fail
  refine (unhide C).mono ?_
  rintro e w' ⟨rfl, rfl⟩
  go_wp2
  go_quiet (fail)
  go_wp2
  go_ret3
  exact ⟨rfl, ((Below.refl _ _).alloc (Nat.le_refl _) _).trans ((Drew.below ⟨_, rfl⟩ _))⟩

theorem eq22_in (W : World) (d : Nat) (a : Option Addr) (m c : Nat) : (Op.equalIn (d + 1) 22 (.slice a m c) (.slice none 0 0)).run Try.prog W = .ok a.isNone W := by
  cases a <;> simp [Op.equalIn, run_underlying Try.underlying22]
theorem eq22_eq (W : World) (a : Option Addr) (m c : Nat) : (Op.equal 22 (.slice a m c) (.slice none 0 0)).run Try.prog W = .ok a.isNone W := eq22_in W 9999 a m c
theorem ne22_some (W : World) (x : Addr) (m c : Nat) : (binOp .neq 22 (.slice (some x) m c) (.slice none 0 0)).run Try.prog W = .ok (.bool true) W := by
  simp [binOp, eq22_eq]
theorem ne22_none (W : World) (m c : Nat) : (binOp .neq 22 (.slice none m c) (.slice none 0 0)).run Try.prog W = .ok (.bool false) W := by
  simp [binOp, eq22_eq]
end Go.Proofs.Qxb6615896a
