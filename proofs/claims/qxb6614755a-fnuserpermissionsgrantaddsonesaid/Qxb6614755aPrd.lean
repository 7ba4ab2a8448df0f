/- zzPermLess (53), zzPermsIncreasing (46), zzGranted (40). -/
import Derived.Test.Qxb6614755aPin
namespace Go.Proofs.Qxb6614755a
open Go.RowKit

theorem cellTop (w : World) (cs : Array Value) (t : TypeId) (i H : Nat) (hH : w.heap.size = H) : (w.alloc (.cells cs t)).cell? ⟨H, i, none⟩ = cs[i]? := by
  subst hH
  unfold World.cell?
  rw [heap_alloc_new w (.cells cs t)]
  rfl
theorem cellOld (w : World) (o : Obj) {p : Addr} {v : Value} (h : w.cell? p = some v) : (w.alloc o).cell? p = some v := (World.grownBy_alloc w o none).cell h (by simp)

set_option maxRecDepth 100000 in
set_option maxHeartbeats 1000000 in
theorem permLess_aux (p1 p2 q1 q2 : ByteArray) (w : World) (h1 : p1.size ≤ 1048576) (h2 : p2.size ≤ 1048576) (h3 : q1.size ≤ 1048576) (h4 : q2.size ≤ 1048576) :
    Calls Try.prog 53 #[.agg #[.string p1, .string p2], .agg #[.string q1, .string q2]] w fun e w' => e = .returned (.bool (Op.bytesLess (p1 ++ ⟨#[58]⟩ ++ p2).toList (q1 ++ ⟨#[58]⟩ ++ q2).toList)) ∧ Below w.heap.size w w' := by
  have e1 := hide (fun V => written_any p1 p2 V h1 h2)
  have e2 := hide (fun V => written_any q1 q2 V h3 h4)
  obtain ⟨w2, hw2⟩ : ∃ w2, w2 = (w.alloc (.cells #[.string p1, .string p2] 58)).alloc (.cells #[.string q1, .string q2] 58) := ⟨_, rfl⟩
  have S := hide (show w2.drew.cell? ⟨w.heap.size, 0, none⟩ = some (.string p1) ∧ w2.drew.cell? ⟨w.heap.size, 1, none⟩ = some (.string p2) ∧ w2.drew.cell? ⟨w.heap.size + 1, 0, none⟩ = some (.string q1) ∧ w2.drew.cell? ⟨w.heap.size + 1, 1, none⟩ = some (.string q2) from by
    rw [hw2]
    exact ⟨cellOld _ _ (cellTop _ _ _ _ _ rfl), cellOld _ _ (cellTop _ _ _ _ _ rfl), cellTop _ _ _ _ _ (by simp), cellTop _ _ _ _ _ (by simp)⟩)
  have hB : Below w.heap.size w w2 := by rw [hw2]; exact ((Below.refl _ _).alloc (Nat.le_refl _) _).alloc (by simp) _
  go_enter Try.func53, Try.ntmps53
  go_wp2
  rw [← hw2]
  clear hw2
  go_region_held3 (fun V => V.cell? ⟨w.heap.size, 0, none⟩ = some (.string p1) ∧ V.cell? ⟨w.heap.size, 1, none⟩ = some (.string p2) ∧ V.cell? ⟨w.heap.size + 1, 0, none⟩ = some (.string q1) ∧ V.cell? ⟨w.heap.size + 1, 1, none⟩ = some (.string q2))
    (exact S.out)
    ((go_at_call 42; first | (refine Calls.mono (e1.out _) ?_; rintro e w' ⟨rfl, rfl⟩) | (refine Calls.mono (e2.out _) ?_; rintro e w' ⟨rfl, rfl⟩)))
  all_goals
    go_wp2
    go_ret
    exact ⟨rfl, below_drew hB⟩
theorem permLess_any (p q : Pm) (w : World) (hp : SmPm p) (hq : SmPm q) :
    Calls Try.prog 53 #[.agg #[.string p.1, .string p.2], .agg #[.string q.1, .string q.2]] w fun e w' => e = .returned (.bool (ltPm p q)) ∧ Below w.heap.size w w' := permLess_aux p.1 p.2 q.1 q.2 w hp.1 hp.2 hq.1 hq.2

/-- A row in strictly ascending order, small. -/
structure Inc (n : Nat) (P : Nat → Pm) : Prop where
  asc : ∀ i j, i < j → j < n → ltPm (P i) (P j) = true
  small : ∀ i, i < n → SmPm (P i)

set_option maxRecDepth 100000 in
set_option maxHeartbeats 1000000 in
theorem increasing46 (a : Option Addr) (n cap : Nat) (P : Nat → Pm) (w : World) (hn : n ≤ 1048576) (h : PmsAt w a n P) (hi : Inc n P) :
    Calls Try.prog 46 #[.slice a n cap] w fun e w' => e = .returned (.bool true) ∧ Below w.heap.size w w' := by
  have H := hide h
  have HI := hide hi
  clear h hi
  go_enter Try.func46, Try.ntmps46
  go_wp2
  go_loopw [3] (fun i wr => ∃ k : Nat, 1 ≤ k ∧ k ≤ n + 1 ∧ i = .int .i64 k ∧ Hid (Below w.heap.size w wr)) (fun i _ => n + 1 - (intOf i).toNat)
  case atStart => exact ⟨1, by omega, by omega, rfl, Below.refl _ _⟩
  case round =>
    obtain ⟨k, hk1, hk, rfl, hB⟩ := hrel
    rename World => wr
    by_cases hlt : k < n
    · obtain ⟨q, hqk⟩ : ∃ q, q = k - 1 := ⟨_, rfl⟩
      obtain ⟨b, off, rfl, c0, c1⟩ := (H.out.below hB.out).at (k := q) (by omega)
      obtain ⟨b', off', eq2, d0, d1⟩ := (H.out.below hB.out).at (k := k) hlt
      cases eq2
      obtain ⟨p1, p2, hp⟩ : ∃ p1 p2, P q = (p1, p2) := ⟨_, _, rfl⟩
      obtain ⟨q1, q2, hq⟩ : ∃ q1 q2, P k = (q1, q2) := ⟨_, _, rfl⟩
      have CL := hide (fun V => permLess_any (P q) (P k) V (HI.out.small q (by omega)) (HI.out.small k hlt))
      rw [HI.out.asc q k (by omega) hlt] at CL
      rw [hp] at c0 c1 CL
      rw [hq] at d0 d1 CL
      dsimp only at c0 c1 d0 d1 CL
      have lb : b < wr.heap.size := cell_in' c0
      have SB := hide (show ∀ V, Below wr.heap.size wr V → V.cell? ⟨b, off + q * 2, none⟩ = some (.string p1) ∧ V.cell? ⟨b, off + q * 2 + 1, none⟩ = some (.string p2) ∧ V.cell? ⟨b, off + k * 2, none⟩ = some (.string q1) ∧ V.cell? ⟨b, off + k * 2 + 1, none⟩ = some (.string q2) from fun V hV => ⟨(hV.cell (p := ⟨b, _, none⟩) lb).trans c0, (hV.cell (p := ⟨b, _, none⟩) lb).trans c1, (hV.cell (p := ⟨b, _, none⟩) lb).trans d0, (hV.cell (p := ⟨b, _, none⟩) lb).trans d1⟩)
      have i1 : ((q : Nat) : Int) < ((n : Nat) : Int) := by omega
      have i2 : ((k : Nat) : Int) < ((n : Nat) : Int) := by omega
      have i3 : IntKind.i64.wrap (((k : Nat) : Int) - 1) = (q : Int) := by rw [show ((k : Nat) : Int) - 1 = (q : Int) by omega]; have := IntWalk.wrap64_in (q : Int) (by omega); rw [IntWalk.i64_left]; exact this
      clear c0 c1 d0 d1 hp hq hqk lb
      go_wp2_with fail
      go_region_held3 (fun V => V.cell? ⟨b, off + q * 2, none⟩ = some (.string p1) ∧ V.cell? ⟨b, off + q * 2 + 1, none⟩ = some (.string p2) ∧ V.cell? ⟨b, off + k * 2, none⟩ = some (.string q1) ∧ V.cell? ⟨b, off + k * 2 + 1, none⟩ = some (.string q2))
        (first | exact SB.out _ (bel0 wr) | exact SB.out _ ((bel0 wr).trans hbb))
        ((go_at_call 53; refine Calls.mono (CL.out _) ?_; rintro e w' ⟨rfl, hbb⟩))
      go_wp2
      go_roundw
      case rel => exact ⟨k + 1, by omega, by omega, by go_num, hB.out.trans ((bel0 wr).trans hbb |>.mono hB.out.size)⟩
      case measure => simp [intOf]; omega
    · go_wp2
      go_ret
      exact ⟨rfl, hB.out⟩
end Go.Proofs.Qxb6614755a
