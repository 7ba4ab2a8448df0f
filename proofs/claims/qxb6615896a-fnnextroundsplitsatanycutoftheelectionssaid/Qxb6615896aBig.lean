/- nrTooBig (10): it answers some bool. -/
import Derived.Test.Qxb6615896aNr
namespace Go.Proofs.Qxb6615896a
open Go.RowKit

theorem CandsAt.below {w w' : World} (h : Below w.heap.size w w') {a : Option Addr} {n : Nat} {C : Nat → Cand} (hs : CandsAt w a n C) : CandsAt w' a n C := by
  rcases hs with h1 | ⟨b, off, h1, h2, h3⟩
  · exact .inl h1
  · refine .inr ⟨b, off, h1, Nat.lt_of_lt_of_le h2 h.size, fun j hj => ?_⟩
    have c := h3 j hj
    exact ⟨(h.cell (p := ⟨b, _, none⟩) h2).trans c.id, (h.cell (p := ⟨b, _, none⟩) h2).trans c.name, (h.cell (p := ⟨b, _, none⟩) h2).trans c.votes, (h.cell (p := ⟨b, _, none⟩) h2).trans c.status⟩
theorem ElecsAt.below {w w' : World} (h : Below w.heap.size w w') {a : Option Addr} {n : Nat} {E : Nat → Elec} (hs : ElecsAt w a n E) : ElecsAt w' a n E := by
  rcases hs with h1 | ⟨b, off, h1, h2, h3⟩
  · exact .inl h1
  · refine .inr ⟨b, off, h1, Nat.lt_of_lt_of_le h2 h.size, fun j hj => ?_⟩
    obtain ⟨c, d⟩ := h3 j hj
    exact ⟨⟨(h.cell (p := ⟨b, _, none⟩) h2).trans c.id, (h.cell (p := ⟨b, _, none⟩) h2).trans c.title, (h.cell (p := ⟨b, _, none⟩) h2).trans c.seats, (h.cell (p := ⟨b, _, none⟩) h2).trans c.body, (h.cell (p := ⟨b, _, none⟩) h2).trans c.cands, (h.cell (p := ⟨b, _, none⟩) h2).trans c.unf, (h.cell (p := ⟨b, _, none⟩) h2).trans c.next⟩, d.below h⟩
theorem BodsAt.below {w w' : World} (h : Below w.heap.size w w') {a : Option Addr} {n : Nat} {B : Nat → Bod} (hs : BodsAt w a n B) : BodsAt w' a n B := by
  rcases hs with h1 | ⟨b, off, h1, h2, h3⟩
  · exact .inl h1
  · refine .inr ⟨b, off, h1, Nat.lt_of_lt_of_le h2 h.size, fun j hj => ?_⟩
    have c := h3 j hj
    exact ⟨(h.cell (p := ⟨b, _, none⟩) h2).trans c.id, (h.cell (p := ⟨b, _, none⟩) h2).trans c.size, (h.cell (p := ⟨b, _, none⟩) h2).trans c.office, (h.cell (p := ⟨b, _, none⟩) h2).trans c.legal, (h.cell (p := ⟨b, _, none⟩) h2).trans c.sf, (h.cell (p := ⟨b, _, none⟩) h2).trans c.rounds, (h.cell (p := ⟨b, _, none⟩) h2).trans c.members, (h.cell (p := ⟨b, _, none⟩) h2).trans c.short⟩

/-- It answers some bool; what was there stays. -/
def Answers (w : World) (e : Ending) (w' : World) : Prop := ∃ r : Bool, e = .returned (.bool r) ∧ Below w.heap.size w w'

set_option maxRecDepth 100000 in
set_option maxHeartbeats 2000000 in
theorem tooBig_any (nm : ByteArray) (a a2 : Option Addr) (n m cap cap2 : Nat) (E : Nat → Elec) (B : Nat → Bod) (w : World) (hnm : nm.size ≤ maxLen) (h : ElecsAt w a n E) (h2 : BodsAt w a2 m B) (hb : Bounded n E m) :
    Calls Try.prog 10 #[.string nm, .slice a n cap, .slice a2 m cap2] w (Answers w) := by
  obtain ⟨hn, hcl, hm⟩ := hb
  unfold maxLen at hnm
  have H := hide (And.intro h h2)
  have HL := hide hcl
  clear h h2 hcl
  have g2 : decide (1048576 < (n : Int)) = false := decide_eq_false (by omega)
  have g3 : decide (1048576 < (m : Int)) = false := decide_eq_false (by omega)
  by_cases g1 : 1048576 < nm.size
  · have g1' : decide (1048576 < (nm.size : Int)) = true := decide_eq_true (by omega)
    go_enter Try.func10, Try.ntmps10
    go_wp2
    go_ret
    exact ⟨true, rfl, Below.refl _ _⟩
  have g1' : decide (1048576 < (nm.size : Int)) = false := decide_eq_false (by omega)
  by_cases g4 : 1048576 < nm.size + 64 * n + 64 * m
  · go_enter Try.func10, Try.ntmps10
    go_wp2
    go_ret
    exact ⟨true, rfl, Below.refl _ _⟩
  go_enter Try.func10, Try.ntmps10
  go_wp2
  go_loopw [7, 8] (fun t i wr => ∃ (k t' : Nat), k ≤ n ∧ i = .int .i64 k ∧ t = .int .i64 t' ∧ t' ≤ 1048576 ∧ Hid (Below w.heap.size w wr)) (fun _ i _ => n - (intOf i).toNat)
  case atStart => exact ⟨0, nm.size + 64 * n + 64 * m, Nat.zero_le _, rfl, by go_num, by omega, Below.refl _ _⟩
  case round =>
    obtain ⟨k, t', hk, rfl, rfl, ht, hB⟩ := hrel
    rename World => wo
    by_cases hlt : k < n
    · obtain ⟨b, off, rfl, hc, hcd⟩ := (H.out.1.below hB.out).at hlt
      have c0 := hc.id
      have c1 := hc.title
      have c2 := hc.seats
      have c3 := hc.body
      have c4 := hc.cands
      have c5 := hc.unf
      have c6 := hc.next
      have HCD := hide hcd
      have hlm := HL.out k hlt
      have l1 : decide (1048576 < ((E k).cl : Int)) = false := decide_eq_false (by omega)
      clear hc hcd
      go_wp2
      all_goals try (go_ret; exact ⟨true, rfl, (hB.out.alloc hB.out.size _)⟩)
      have hW0 := (Below.refl wo.heap.size wo).alloc (Nat.le_refl _) (.cells #[.string (E k).id, .string (E k).title, .int .i64 (E k).seats, .string (E k).body, .slice (E k).ca (E k).cl (E k).cc, .int .i64 (E k).unf, .string (E k).next] 48)
      have hcel : (wo.alloc (.cells #[.string (E k).id, .string (E k).title, .int .i64 (E k).seats, .string (E k).body, .slice (E k).ca (E k).cl (E k).cc, .int .i64 (E k).unf, .string (E k).next] 48)).cell? ⟨wo.heap.size, 4, none⟩ = some (.slice (E k).ca (E k).cl (E k).cc) := by simp
      have hsz : (wo.alloc (.cells #[.string (E k).id, .string (E k).title, .int .i64 (E k).seats, .string (E k).body, .slice (E k).ca (E k).cl (E k).cc, .int .i64 (E k).unf, .string (E k).next] 48)).heap.size = wo.heap.size + 1 := by simp
      generalize hw0 : wo.alloc (.cells #[.string (E k).id, .string (E k).title, .int .i64 (E k).seats, .string (E k).body, .slice (E k).ca (E k).cl (E k).cc, .int .i64 (E k).unf, .string (E k).next] 48) = w0 at *
      have HW0 := hide (And.intro hW0 (And.intro hcel hsz))
      clear hW0 hcel hsz hw0 c0 c1 c2 c3 c4 c5 c6
      go_loopw [7, 10] (fun t i wr2 => ∃ (q t' : Nat), q ≤ (E k).cl ∧ i = .int .i64 q ∧ t = .int .i64 t' ∧ t' ≤ 1048576 ∧ Hid (Below w0.heap.size w0 wr2)) (fun _ i _ => (E k).cl - (intOf i).toNat)
      case atStart => exact ⟨0, t' + ((E k).id.size + (E k).title.size + (E k).body.size + (E k).next.size + 48 * (E k).cl), Nat.zero_le _, rfl, by go_num, by omega, Below.refl _ _⟩
      case round =>
        obtain ⟨q, t2, hq, rfl, rfl, ht2, hB2⟩ := hrel
        have hc4 := (hB2.out.cell (p := ⟨wo.heap.size, 4, none⟩) (by show wo.heap.size < w0.heap.size; rw [HW0.out.2.2]; omega)).trans HW0.out.2.1
        have FB := hide (hB.out.trans ((HW0.out.1.mono hB.out.size).trans (hB2.out.mono (by have := HW0.out.1.size; have := hB.out.size; omega))))
        by_cases hlq : q < (E k).cl
        · obtain ⟨b2, off2, e2, hcc⟩ := ((HCD.out.below HW0.out.1).below hB2.out).at hlq
          rw [e2] at hc4
          have d0 := hcc.id
          have d1 := hcc.name
          have d2 := hcc.votes
          have d3 := hcc.status
          clear hcc e2
          go_wp2
          all_goals try (go_ret; exact ⟨true, rfl, (FB.out.alloc FB.out.size _)⟩)
          go_roundw
          case rel => exact ⟨q + 1, t2 + (((E k).C q).id.size + ((E k).C q).name.size + ((E k).C q).status.size), by omega, by go_num, by go_num, by omega, hB2.out.alloc hB2.out.size _⟩
          case measure => simp [intOf]; omega
        · go_wp2
          go_roundw
          case rel => exact ⟨k + 1, t2, by omega, by go_num, rfl, ht2, FB⟩
          case measure => simp [intOf]; omega
    · go_wp2
      go_loopw [7, 12] (fun t i wr2 => ∃ (q t' : Nat), q ≤ m ∧ i = .int .i64 q ∧ t = .int .i64 t' ∧ t' ≤ 1048576 ∧ Hid (Below w.heap.size w wr2)) (fun _ i _ => m - (intOf i).toNat)
      case atStart => exact ⟨0, t', Nat.zero_le _, rfl, rfl, ht, hB⟩
      case round =>
        obtain ⟨q, t2, hq, rfl, rfl, ht2, hB2⟩ := hrel
        by_cases hlq : q < m
        · obtain ⟨b, off, rfl, hb⟩ := (H.out.2.below hB2.out).at hlq
          have c0 := hb.id
          clear hb
          go_wp2
          all_goals try (go_ret; exact ⟨true, rfl, hB2.out⟩)
          go_roundw
          case rel => exact ⟨q + 1, t2 + (B q).id.size, by omega, by go_num, by go_num, by omega, hB2⟩
          case measure => simp [intOf]; omega
        · go_wp2
          go_ret
          exact ⟨false, rfl, hB2.out⟩
end Go.Proofs.Qxb6615896a
