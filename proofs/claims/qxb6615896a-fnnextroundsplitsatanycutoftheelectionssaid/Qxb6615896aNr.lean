/- FnNextRoundSplitsAtAnyCutOfTheElections: how the elections, their candidates and the bodies lie in memory; nrCountVoteAgain (11). -/
import Derived.Test.Qxb6615896aInv
import Derived.Deep.Light
namespace Go.Proofs.Qxb6615896a
open Go.RowKit

structure Cand where
  id : ByteArray
  name : ByteArray
  votes : Int
  status : ByteArray

structure Elec where
  id : ByteArray
  title : ByteArray
  seats : Int
  body : ByteArray
  ca : Option Addr
  cl : Nat
  cc : Nat
  C : Nat → Cand
  unf : Int
  next : ByteArray

structure Bod where
  id : ByteArray
  size : Int
  office : Int
  legal : Int
  sf : Int
  rounds : Int
  members : Int
  short : Bool

/-- The four cells of a candidate as it comes in. -/
structure CandCells (w : World) (b o : Nat) (c : Cand) : Prop where
  id : w.cell? ⟨b, o, none⟩ = some (.string c.id)
  name : w.cell? ⟨b, o + 1, none⟩ = some (.string c.name)
  votes : w.cell? ⟨b, o + 2, none⟩ = some (.int .u64 c.votes)
  status : w.cell? ⟨b, o + 3, none⟩ = some (.string c.status)

/-- A row of candidates as they come in. -/
def CandsAt (w : World) (a : Option Addr) (n : Nat) (C : Nat → Cand) : Prop :=
  n = 0 ∨ ∃ b off, a = some ⟨b, off, none⟩ ∧ b < w.heap.size ∧ ∀ j, j < n → CandCells w b (off + j * 4) (C j)

theorem CandsAt.at {w : World} {a : Option Addr} {n k : Nat} {C : Nat → Cand} (h : CandsAt w a n C) (hk : k < n) : ∃ b off, a = some ⟨b, off, none⟩ ∧ CandCells w b (off + k * 4) (C k) := by
  rcases h with h | ⟨b, off, h1, _, h2⟩
  · omega
  · exact ⟨b, off, h1, h2 k hk⟩

/-- The eight cells of a body as it comes in. -/
structure BodCells (w : World) (b o : Nat) (x : Bod) : Prop where
  id : w.cell? ⟨b, o, none⟩ = some (.string x.id)
  size : w.cell? ⟨b, o + 1, none⟩ = some (.int .i64 x.size)
  office : w.cell? ⟨b, o + 2, none⟩ = some (.int .i64 x.office)
  legal : w.cell? ⟨b, o + 3, none⟩ = some (.int .i64 x.legal)
  sf : w.cell? ⟨b, o + 4, none⟩ = some (.int .i64 x.sf)
  rounds : w.cell? ⟨b, o + 5, none⟩ = some (.int .i64 x.rounds)
  members : w.cell? ⟨b, o + 6, none⟩ = some (.int .i64 x.members)
  short : w.cell? ⟨b, o + 7, none⟩ = some (.bool x.short)

def BodsAt (w : World) (a : Option Addr) (n : Nat) (B : Nat → Bod) : Prop :=
  n = 0 ∨ ∃ b off, a = some ⟨b, off, none⟩ ∧ b < w.heap.size ∧ ∀ j, j < n → BodCells w b (off + j * 8) (B j)
theorem BodsAt.at {w : World} {a : Option Addr} {n k : Nat} {B : Nat → Bod} (h : BodsAt w a n B) (hk : k < n) : ∃ b off, a = some ⟨b, off, none⟩ ∧ BodCells w b (off + k * 8) (B k) := by
  rcases h with h | ⟨b, off, h1, _, h2⟩
  · omega
  · exact ⟨b, off, h1, h2 k hk⟩

/-- The seven cells of an election as it comes in. -/
structure ElecCells (w : World) (b o : Nat) (e : Elec) : Prop where
  id : w.cell? ⟨b, o, none⟩ = some (.string e.id)
  title : w.cell? ⟨b, o + 1, none⟩ = some (.string e.title)
  seats : w.cell? ⟨b, o + 2, none⟩ = some (.int .i64 e.seats)
  body : w.cell? ⟨b, o + 3, none⟩ = some (.string e.body)
  cands : w.cell? ⟨b, o + 4, none⟩ = some (.slice e.ca e.cl e.cc)
  unf : w.cell? ⟨b, o + 5, none⟩ = some (.int .i64 e.unf)
  next : w.cell? ⟨b, o + 6, none⟩ = some (.string e.next)

def ElecsAt (w : World) (a : Option Addr) (n : Nat) (E : Nat → Elec) : Prop :=
  n = 0 ∨ ∃ b off, a = some ⟨b, off, none⟩ ∧ b < w.heap.size ∧ ∀ j, j < n → ElecCells w b (off + j * 7) (E j) ∧ CandsAt w (E j).ca (E j).cl (E j).C

theorem ElecsAt.at {w : World} {a : Option Addr} {n k : Nat} {E : Nat → Elec} (h : ElecsAt w a n E) (hk : k < n) : ∃ b off, a = some ⟨b, off, none⟩ ∧ ElecCells w b (off + k * 7) (E k) ∧ CandsAt w (E k).ca (E k).cl (E k).C := by
  rcases h with h | ⟨b, off, h1, _, h2⟩
  · omega
  · exact ⟨b, off, h1, h2 k hk⟩

def va : List UInt8 := [118, 111, 116, 101, 45, 97, 103, 97, 105, 110]
/-- Does the election vote again? -/
def isVa (e : Elec) : Bool := e.next.toList == va
def cnt (E : Nat → Elec) : Nat → Nat
  | 0 => 0
  | k + 1 => cnt E k + (if isVa (E k) = true then 1 else 0)
theorem cnt_le (E : Nat → Elec) : ∀ k, cnt E k ≤ k
  | 0 => Nat.le_refl _
  | k + 1 => by have := cnt_le E k; unfold cnt; split <;> omega

set_option maxRecDepth 100000 in
set_option maxHeartbeats 400000 in
theorem count_any (a : Option Addr) (n cap : Nat) (E : Nat → Elec) (w : World) (hn : n ≤ 1048576) (h : ElecsAt w a n E) :
    Calls Try.prog 11 #[.slice a n cap] w fun e w' => e = .returned (.int .i64 (cnt E n)) ∧ w' = w := by
  have H := hide h
  clear h
  go_enter Try.func11, Try.ntmps11
  go_wp2
  go_loop [3, 4] (fun t i => ∃ k : Nat, k ≤ n ∧ i = .int .i64 k ∧ t = .int .i64 (cnt E k)) (fun _ i => n - (intOf i).toNat)
  case atStart => exact ⟨0, Nat.zero_le _, rfl, rfl⟩
  case round =>
    obtain ⟨k, hk, rfl, rfl⟩ := hrel
    have hcl := cnt_le E k
    by_cases hlt : k < n
    · obtain ⟨b, off, rfl, hc, hcd⟩ := H.out.at hlt
      clear hcd
      have hnx := hc.next
      clear hc
      cases hv : isVa (E k) with
      | true =>
        have t1 : ((E k).next.toList == va) = true := hv
        have e1 : Hid (cnt E (k + 1) = cnt E k + 1) := by show cnt E (k + 1) = _; simp only [cnt, hv]; rfl
        unfold va at t1
        clear hv
        go_wp2
        go_round
        case rel => exact ⟨k + 1, by omega, by go_num, by rw [e1.out]; go_num⟩
        case measure => simp [intOf]; omega
      | false =>
        have t1 : ((E k).next.toList == va) = false := hv
        have e1 : Hid (cnt E (k + 1) = cnt E k) := by show cnt E (k + 1) = _; simp only [cnt, hv]; rfl
        unfold va at t1
        clear hv
        go_wp2
        go_round
        case rel => exact ⟨k + 1, by omega, by go_num, by rw [e1.out]⟩
        case measure => simp [intOf]; omega
    · have : k = n := by omega
      subst this
      go_wp2
      go_ret
      exact ⟨rfl, rfl⟩

def Bounded (n : Nat) (E : Nat → Elec) (m : Nat) : Prop := n ≤ 1048576 ∧ (∀ j, j < n → (E j).cl ≤ 1048576) ∧ m ≤ 1048576

set_option maxRecDepth 100000 in
set_option maxHeartbeats 2000000 in
theorem bytes9_any (nm : ByteArray) (z1 z2 z3 z4 z5 : Int) (a a2 : Option Addr) (n m cap cap2 : Nat) (E : Nat → Elec) (B : Nat → Bod) (w : World) (hn : n ≤ maxLen) (hm : m ≤ maxLen) (hnm : nm.size ≤ maxLen) (h : ElecsAt w a n E) (h2 : BodsAt w a2 m B) (hcl : ∀ j, j < n → (E j).cl ≤ maxLen) :
    Calls Try.prog 9 #[.string nm, .int .i64 z1, .int .i64 z2, .int .i64 z3, .int .i64 z4, .slice a n cap, .slice a2 m cap2, .int .i64 z5] w (Guards (Bounded n E m) w) := by
  unfold maxLen at hn hm hnm
  have H := hide (And.intro h h2)
  have HL := hide hcl
  clear h h2 hcl
  by_cases g1 : 1048576 < nm.size
  · go_enter Try.func9, Try.ntmps9
    go_wp2
    go_ret
    exact ⟨false, rfl, by simp, rfl⟩
  by_cases g2 : 1048576 < n
  · go_enter Try.func9, Try.ntmps9
    go_wp2
    go_ret
    exact ⟨false, rfl, by simp, rfl⟩
  by_cases g3 : 1048576 < nm.size + n
  · go_enter Try.func9, Try.ntmps9
    go_wp2
    go_ret
    exact ⟨false, rfl, by simp, rfl⟩
  go_enter Try.func9, Try.ntmps9
  go_wp2
  go_loop [17, 18] (fun t i => ∃ (k t' : Nat), k ≤ n ∧ i = .int .i64 k ∧ t = .int .i64 t' ∧ t' ≤ 1048576 ∧ Hid (∀ j, j < k → (E j).cl ≤ 1048576)) (fun _ i => n - (intOf i).toNat)
  case atStart => exact ⟨0, nm.size + n, Nat.zero_le _, rfl, by go_num, by omega, fun j hj => by omega⟩
  case round =>
    obtain ⟨k, t', hk, rfl, rfl, ht, hc⟩ := hrel
    by_cases hlt : k < n
    · obtain ⟨b, off, rfl, hcl, hcd⟩ := H.out.1.at hlt
      have c0 := hcl.id
      have c1 := hcl.title
      have c3 := hcl.body
      have c4 := hcl.cands
      have c6 := hcl.next
      have HCD := hide hcd
      have hlm := HL.out k hlt
      unfold maxLen at hlm
      clear hcl hcd
      go_wp2
      all_goals try (go_ret; exact ⟨false, rfl, by simp, rfl⟩)
      go_loop [17, 19] (fun t i => ∃ (q t' : Nat), q ≤ (E k).cl ∧ i = .int .i64 q ∧ t = .int .i64 t' ∧ t' ≤ 1048576) (fun _ i => (E k).cl - (intOf i).toNat)
      case atStart => exact ⟨0, t' + (E k).id.size + (E k).title.size + (E k).body.size + (E k).cl, Nat.zero_le _, rfl, by go_num, by omega⟩
      case round =>
        obtain ⟨q, t2, hq, rfl, rfl, ht2⟩ := hrel
        by_cases hlq : q < (E k).cl
        · obtain ⟨b2, off2, e2, hcc⟩ := HCD.out.at hlq
          rw [e2] at c4
          have d0 := hcc.id
          have d1 := hcc.name
          have d3 := hcc.status
          clear hcc e2
          go_wp2
          all_goals try (go_ret; exact ⟨false, rfl, by simp, rfl⟩)
          go_round
          case rel => exact ⟨q + 1, t2 + ((E k).C q).id.size + ((E k).C q).name.size + ((E k).C q).status.size, by omega, by go_num, by go_num, by omega⟩
          case measure => simp [intOf]; omega
        · go_wp2
          all_goals try (go_ret; exact ⟨false, rfl, by simp, rfl⟩)
          go_round
          case rel => exact ⟨k + 1, t2 + (E k).next.size, by omega, by go_num, by go_num, by omega, fun j hj => by
            by_cases e : j = k
            · subst e; omega
            · exact hc.out j (by omega)⟩
          case measure => simp [intOf]; omega
    · by_cases g4 : 1048576 < m
      · go_wp2
        go_ret
        exact ⟨false, rfl, by simp, rfl⟩
      by_cases g5 : 1048576 < t' + m
      · go_wp2
        go_ret
        exact ⟨false, rfl, by simp, rfl⟩
      go_wp2
      go_loop [17, 20] (fun t i => ∃ (k t' : Nat), k ≤ m ∧ i = .int .i64 k ∧ t = .int .i64 t' ∧ t' ≤ 1048576) (fun _ i => m - (intOf i).toNat)
      case atStart => exact ⟨0, t' + m, Nat.zero_le _, rfl, by go_num, by omega⟩
      case round =>
        obtain ⟨k2, t2, hk2, rfl, rfl, ht2⟩ := hrel
        by_cases hlt2 : k2 < m
        · obtain ⟨b, off, rfl, hb⟩ := H.out.2.at hlt2
          have c0 := hb.id
          clear hb
          go_wp2
          all_goals try (go_ret; exact ⟨false, rfl, by simp, rfl⟩)
          go_round
          case rel => exact ⟨k2 + 1, t2 + (B k2).id.size, by omega, by go_num, by go_num, by omega⟩
          case measure => simp [intOf]; omega
        · go_wp2
          go_ret
          exact ⟨true, rfl, fun _ => ⟨by omega, fun j hj => hc.out j (by omega), by omega⟩, rfl⟩
end Go.Proofs.Qxb6615896a
