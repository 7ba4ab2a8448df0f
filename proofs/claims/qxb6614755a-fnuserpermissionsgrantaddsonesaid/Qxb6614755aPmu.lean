/- zzIsMergeUnionPerms (47). -/
import Derived.Test.Qxb6614755aPmm
import Derived.Test.Qxb6614755aMerge
import Derived.Test.Qxb6614755aPs3
namespace Go.Proofs.Qxb6614755a
open Go.RowKit

theorem s58 : Try.prog.stoodInHeld 58 = false := by kernel_rfl
theorem f58 : Try.prog.underlying 58 = some (.struct (Try.prog.fieldsOf 58)) := by kernel_rfl
theorem eqf58 (W : World) (d : Nat) (p q : ByteArray) : (Op.eqFields (d + 1) #[.string p, .string q] #[.string p, .string q] (Try.prog.fieldsOf 58).toList).run Try.prog W = .ok true W := by
  have e1 : ∀ W : World, (part 9 #[Value.string p, .string q] 0).run Try.prog W = .ok (.string p) W := fun W => by kernel_rfl
  have e2 : ∀ W : World, (part 9 #[Value.string p, .string q] 1).run Try.prog W = .ok (.string q) W := fun W => by kernel_rfl
  simp only [Program.fieldsOf, Try.underlying58, Op.eqFields, Sem.run_bind, Sem.run_ite, Sem.run_pure, e1, e2, Result.andThen_ok, run_equalIn_string W d 9 _ _ Try.underlying9]
  simp
theorem ne58 (W : World) (p q : ByteArray) : (binOp .neq 58 (.agg #[.string p, .string q]) (.agg #[.string p, .string q])).run Try.prog W = .ok (.bool false) W := by
  rw [run_neq_struct, run_equalIn_struct W 9999 58 _ _ f58 s58, show (9999 : Nat) = 9998 + 1 from rfl, eqf58]
  rfl

theorem st2_cells {w : World} {V : Nat} {o1 o2 : Value} (x1 x2 : ByteArray) (m0 : w.cell? ⟨V, 0, none⟩ = some o1) (m1 : w.cell? ⟨V, 1, none⟩ = some o2) :
    ((w.setCell ⟨V, 0, none⟩ (.string x1)).setCell ⟨V, 1, none⟩ (.string x2)).cell? ⟨V, 0, none⟩ = some (.string x1) ∧ ((w.setCell ⟨V, 0, none⟩ (.string x1)).setCell ⟨V, 1, none⟩ (.string x2)).cell? ⟨V, 1, none⟩ = some (.string x2) ∧
    ∀ p : Addr, p.block ≠ V → ((w.setCell ⟨V, 0, none⟩ (.string x1)).setCell ⟨V, 1, none⟩ (.string x2)).cell? p = w.cell? p := by
  have h1 : (w.setCell ⟨V, 0, none⟩ (.string x1)).cell? ⟨V, 0, none⟩ = some (.string x1) := World.cell?_setCell_same w _ _ m0
  have h2 : (w.setCell ⟨V, 0, none⟩ (.string x1)).cell? ⟨V, 1, none⟩ = some o2 := (World.cell?_setCell_other (a := ⟨V, 0, none⟩) (b := ⟨V, 1, none⟩) _ _ (by simp)).trans m1
  have o := fun (w : World) (i : Nat) (v : Value) (p : Addr) (hp : p.block ≠ V) => World.cell?_of_block (w := w) (w' := w.setCell ⟨V, i, none⟩ v) (a := p) (by simp [World.setCell, Array.getElem?_modify, Ne.symm hp])
  exact ⟨(World.cell?_setCell_other (a := ⟨V, 1, none⟩) (b := ⟨V, 0, none⟩) _ _ (by simp)).trans h1, World.cell?_setCell_same _ _ _ h2, fun p hp => (o _ _ _ p hp).trans (o _ _ _ p hp)⟩
theorem st2_below {w a : World} {V : Nat} (h : Below a.heap.size a w) (hV : a.heap.size ≤ V) (x1 x2 : ByteArray) : Below a.heap.size a ((w.setCell ⟨V, 0, none⟩ (.string x1)).setCell ⟨V, 1, none⟩ (.string x2)) :=
  (h.grown (grownBy_setCell w V 0 _) h.size (fun j hj => by cases hj; exact hV)).grown (grownBy_setCell _ V 1 _) (by simp [World.setCell]; exact h.size) (fun j hj => by cases hj; exact hV)

def wl (P : Nat → Pm) (i : Nat) : Bs := (wr8 (P i)).toList
theorem lt_yes {p q : Pm} (h : (wr8 p).toList < (wr8 q).toList) : ltPm p q = true := less_yes h
theorem lt_no {p q : Pm} (h : ¬ (wr8 p).toList < (wr8 q).toList) : ltPm p q = false := less_no h

set_option maxRecDepth 100000 in
set_option maxHeartbeats 2000000 in
theorem mergeU_any (gc ga gb nc na nb capc capa capb : Nat) (C A B : Nat → Pm) (w : World) (hnc : nc ≤ 1048576) (hna : na ≤ 1048576) (hnb : nb ≤ 1048576)
    (hC : PmsAt w (some ⟨gc, 0, none⟩) nc C) (hA : PmsAt w (some ⟨ga, 0, none⟩) na A) (hB : PmsAt w (some ⟨gb, 0, none⟩) nb B) (hsa : ∀ i, i < na → SmPm (A i)) (hsb : ∀ i, i < nb → SmPm (B i))
    (hinj : ∀ k i, k < nc → i < na → wl C k = wl A i → C k = A i) (hinj2 : ∀ k i, k < nc → i < nb → wl C k = wl B i → C k = B i) (hu : Un (lst nc (wl C)) (lst na (wl A)) (lst nb (wl B))) :
    Calls Try.prog 47 #[.slice (some ⟨gc, 0, none⟩) nc capc, .slice (some ⟨ga, 0, none⟩) na capa, .slice (some ⟨gb, 0, none⟩) nb capb] w fun e w' => e = .returned (.bool true) ∧ Below w.heap.size w w' := by
  have HC := hide hC
  have HA := hide hA
  have HB := hide hB
  have HU := hide hu
  have HI := hide (And.intro hinj hinj2)
  have HSM := hide (And.intro hsa hsb)
  have hne58 := ne58
  clear hC hA hB hu hinj hinj2 hsa hsb
  go_enter Try.func47, Try.ntmps47
  go_wp2
  go_loopw [7, 8, 9] (fun iv jv kv wr => ∃ i j k : Nat, i ≤ na ∧ j ≤ nb ∧ k ≤ nc ∧ iv = .int .i64 i ∧ jv = .int .i64 j ∧ kv = .int .i64 k ∧ Hid (Below w.heap.size w wr) ∧
      Hid (Un ((lst nc (wl C)).drop k) ((lst na (wl A)).drop i) ((lst nb (wl B)).drop j))) (fun iv jv _ _ => na + nb - (intOf iv).toNat - (intOf jv).toNat)
  case atStart => exact ⟨0, 0, 0, Nat.zero_le _, Nat.zero_le _, Nat.zero_le _, rfl, rfl, rfl, Below.refl _ _, HU.out⟩
  case round =>
    obtain ⟨i, j, k, hi, hj, hk, rfl, rfl, rfl, hw, hv⟩ := hrel
    rename World => wr
    clear HU
    by_cases hin : i < na
    · have g2 : decide (na ≤ i) = false := decide_eq_false (by omega)
      have g5 : decide (i < na) = true := decide_eq_true hin
      have g4 : decide ((na : Int) ≤ (i : Int)) = false := decide_eq_false (by omega)
      by_cases hjn : j < nb
      · have g1 : decide (nb ≤ j) = false := decide_eq_false (by omega)
        have g3 : decide ((nb : Int) ≤ (j : Int)) = false := decide_eq_false (by omega)
        rcases bs_tri (wl A i) (wl B j) with ht | ht | ht
        · obtain ⟨hkn, he, hv'⟩ := un_stepL hv.out hin (.inr ⟨hjn, ht⟩)
          have hE := HI.out.1 k i hkn hin he
          have V := hide hv'
          have hwl := hw.out.size
          obtain ⟨w1, hw1⟩ : ∃ w1, w1 = wr.alloc (.cells #[.string ⟨#[]⟩, .string ⟨#[]⟩] 58) := ⟨_, rfl⟩
          have hB1 : Below wr.heap.size wr w1 := hw1 ▸ (Below.refl _ _).alloc (Nat.le_refl _) _
          have hs1 : w1.heap.size = wr.heap.size + 1 := by rw [hw1]; simp
          have x0 : w1.cell? ⟨wr.heap.size, 0, none⟩ = some (.string ⟨#[]⟩) := by rw [hw1]; simp
          have x1 : w1.cell? ⟨wr.heap.size, 1, none⟩ = some (.string ⟨#[]⟩) := by rw [hw1]; simp
          have y0 : w1.frozen? ⟨wr.heap.size, 0, none⟩ = false := by rw [hw1]; simp
          have y1 : w1.frozen? ⟨wr.heap.size, 1, none⟩ = false := by rw [hw1]; simp
          have XV := hide (show ∀ W, Below w1.heap.size w1 W → W.cell? ⟨wr.heap.size, 0, none⟩ = some (.string ⟨#[]⟩) ∧ W.cell? ⟨wr.heap.size, 1, none⟩ = some (.string ⟨#[]⟩) ∧ W.frozen? ⟨wr.heap.size, 0, none⟩ = false ∧ W.frozen? ⟨wr.heap.size, 1, none⟩ = false from fun W hW => ⟨(hW.cell (p := ⟨_, _, none⟩) (by show wr.heap.size < _; omega)).trans x0, (hW.cell (p := ⟨_, _, none⟩) (by show wr.heap.size < _; omega)).trans x1, (frozen_below hW (a := ⟨_, _, none⟩) (by show wr.heap.size < _; omega)).trans y0, (frozen_below hW (a := ⟨_, _, none⟩) (by show wr.heap.size < _; omega)).trans y1⟩)
          have HW1 := hide (hw.out.trans (hB1.mono hwl))
          have HSZ := hide (And.intro hwl hs1)
          clear x0 x1 y0 y1 hB1 hwl hs1
          obtain ⟨a1, a2, ea⟩ : ∃ a1 a2, A i = (a1, a2) := ⟨_, _, rfl⟩
          obtain ⟨b1, b2, eb⟩ : ∃ b1 b2, B j = (b1, b2) := ⟨_, _, rfl⟩
          have ec : C k = (a1, a2) := hE.trans ea
          have CL := hide (fun W => permLess_any (A i) (B j) W (HSM.out.1 i hin) (HSM.out.2 j hjn))
          rw [lt_yes ht] at CL
          rw [ea, eb] at CL
          dsimp only at CL
          have CA := hide (show ∀ W, Below w1.heap.size w1 W → W.cell? ⟨ga, i * 2, none⟩ = some (.string a1) ∧ W.cell? ⟨ga, i * 2 + 1, none⟩ = some (.string a2) from fun W hW => by
            obtain ⟨b, off, e, q1, q2⟩ := (HA.out.below (w' := W) (HW1.out.trans (hW.mono HW1.out.size))).at hin
            cases e
            rw [Nat.zero_add] at q1 q2
            first | exact ⟨q1, q2⟩ | (rw [ea] at q1 q2; exact ⟨q1, q2⟩))
          have CB := hide (show ∀ W, Below w1.heap.size w1 W → W.cell? ⟨gb, j * 2, none⟩ = some (.string b1) ∧ W.cell? ⟨gb, j * 2 + 1, none⟩ = some (.string b2) from fun W hW => by
            obtain ⟨b, off, e, q1, q2⟩ := (HB.out.below (w' := W) (HW1.out.trans (hW.mono HW1.out.size))).at hjn
            cases e
            rw [Nat.zero_add] at q1 q2
            first | exact ⟨q1, q2⟩ | (rw [eb] at q1 q2; exact ⟨q1, q2⟩))
          have CC := hide (show ∀ W, Below w1.heap.size w1 W → W.cell? ⟨gc, k * 2, none⟩ = some (.string a1) ∧ W.cell? ⟨gc, k * 2 + 1, none⟩ = some (.string a2) from fun W hW => by
            obtain ⟨b, off, e, q1, q2⟩ := (HC.out.below (w' := W) (HW1.out.trans (hW.mono HW1.out.size))).at hkn
            cases e
            rw [Nat.zero_add] at q1 q2
            first | exact ⟨q1, q2⟩ | (rw [ec] at q1 q2; exact ⟨q1, q2⟩))
          have hgc : gc ≠ wr.heap.size := by
            have q := cell_in' (CC.out w1 (Below.refl _ _)).1
            have q2 : gc < w.heap.size := by
              rcases HC.out with h | ⟨b, off, e, h, _⟩
              · omega
              · cases e; exact h
            have := HSZ.out.1
            omega
          clear ec hE he hv' hv
          clear ea
          have i1 : ((i : Nat) : Int) < ((na : Nat) : Int) := by omega
          clear eb
          have i2 : ((j : Nat) : Int) < ((nb : Nat) : Int) := by omega
          clear ht
          have i3 : ((k : Nat) : Int) < ((nc : Nat) : Int) := by omega
          go_wp2_with fail
          rw [← hw1]
          clear hw1
          go_region_held3 (fun W => W.cell? ⟨ga, i * 2, none⟩ = some (.string a1) ∧ W.cell? ⟨ga, i * 2 + 1, none⟩ = some (.string a2) ∧ W.cell? ⟨gb, j * 2, none⟩ = some (.string b1) ∧ W.cell? ⟨gb, j * 2 + 1, none⟩ = some (.string b2))
            (first | exact ⟨(CA.out _ ((Below.refl _ _).trans (bel0 w1))).1, (CA.out _ ((Below.refl _ _).trans (bel0 w1))).2, (CB.out _ ((Below.refl _ _).trans (bel0 w1))).1, (CB.out _ ((Below.refl _ _).trans (bel0 w1))).2⟩ | exact ⟨(CA.out _ (((Below.refl _ _).trans (bel0 w1)).trans hbb)).1, (CA.out _ (((Below.refl _ _).trans (bel0 w1)).trans hbb)).2, (CB.out _ (((Below.refl _ _).trans (bel0 w1)).trans hbb)).1, (CB.out _ (((Below.refl _ _).trans (bel0 w1)).trans hbb)).2⟩)
            ((go_at_call 53; refine Calls.mono (CL.out _) ?_; rintro e v1 ⟨rfl, hbb⟩))
          have HBB1 := hide (((Below.refl _ _).trans (bel0 w1)).trans hbb)
          clear hbb
          have HBB := HBB1
          have XX := XV.out v1 HBB.out
          have KN := CA.out v1 HBB.out
          have KC := CC.out v1 HBB.out
          obtain ⟨m0, m1, m2, m3⟩ := XX
          obtain ⟨n0, n1⟩ := KN
          obtain ⟨o0, o1⟩ := KC
          go_wp2
          have HB3 := hide (st2_below (HW1.out.trans (HBB.out.mono HW1.out.size)) HSZ.out.1 a1 a2)
          obtain ⟨p0, p1, p2⟩ := st2_cells (w := v1) (V := wr.heap.size) a1 a2 m0 m1
          have t0 := (p2 ⟨gc, k * 2, none⟩ hgc).trans o0
          have t1 := (p2 ⟨gc, k * 2 + 1, none⟩ hgc).trans o1
          clear m0 m1 m2 m3 n0 n1 o0 o1 p2
          generalize ((v1.setCell ⟨wr.heap.size, 0, none⟩ (.string a1)).setCell ⟨wr.heap.size, 1, none⟩ (.string a2)) = w3 at HB3 p0 p1 t0 t1
          have g6 : decide (nc ≤ k) = false := decide_eq_false (by omega)
          have g7 : decide ((nc : Int) ≤ (k : Int)) = false := decide_eq_false (by omega)
          go_quiet (fail)
          go_wp2
          go_roundw
          case rel => exact ⟨i + 1, j, k + 1, by omega, by omega, by omega, by go_num, rfl, by go_num, below_drewN' HB3.out _, V⟩
          case measure => simp [intOf]; omega
        · obtain ⟨hkn, he, hv'⟩ := un_stepB hv.out hin hjn ht
          have hE := HI.out.1 k i hkn hin he
          have V := hide hv'
          have n1 : ¬ (wr8 (A i)).toList < (wr8 (B j)).toList := by show ¬ wl A i < wl B j; rw [ht]; exact bs_irrefl _
          have n2 : ¬ (wr8 (B j)).toList < (wr8 (A i)).toList := by show ¬ wl B j < wl A i; rw [ht]; exact bs_irrefl _
          have hwl := hw.out.size
          obtain ⟨w1, hw1⟩ : ∃ w1, w1 = wr.alloc (.cells #[.string ⟨#[]⟩, .string ⟨#[]⟩] 58) := ⟨_, rfl⟩
          have hB1 : Below wr.heap.size wr w1 := hw1 ▸ (Below.refl _ _).alloc (Nat.le_refl _) _
          have hs1 : w1.heap.size = wr.heap.size + 1 := by rw [hw1]; simp
          have x0 : w1.cell? ⟨wr.heap.size, 0, none⟩ = some (.string ⟨#[]⟩) := by rw [hw1]; simp
          have x1 : w1.cell? ⟨wr.heap.size, 1, none⟩ = some (.string ⟨#[]⟩) := by rw [hw1]; simp
          have y0 : w1.frozen? ⟨wr.heap.size, 0, none⟩ = false := by rw [hw1]; simp
          have y1 : w1.frozen? ⟨wr.heap.size, 1, none⟩ = false := by rw [hw1]; simp
          have XV := hide (show ∀ W, Below w1.heap.size w1 W → W.cell? ⟨wr.heap.size, 0, none⟩ = some (.string ⟨#[]⟩) ∧ W.cell? ⟨wr.heap.size, 1, none⟩ = some (.string ⟨#[]⟩) ∧ W.frozen? ⟨wr.heap.size, 0, none⟩ = false ∧ W.frozen? ⟨wr.heap.size, 1, none⟩ = false from fun W hW => ⟨(hW.cell (p := ⟨_, _, none⟩) (by show wr.heap.size < _; omega)).trans x0, (hW.cell (p := ⟨_, _, none⟩) (by show wr.heap.size < _; omega)).trans x1, (frozen_below hW (a := ⟨_, _, none⟩) (by show wr.heap.size < _; omega)).trans y0, (frozen_below hW (a := ⟨_, _, none⟩) (by show wr.heap.size < _; omega)).trans y1⟩)
          have HW1 := hide (hw.out.trans (hB1.mono hwl))
          have HSZ := hide (And.intro hwl hs1)
          clear x0 x1 y0 y1 hB1 hwl hs1
          obtain ⟨a1, a2, ea⟩ : ∃ a1 a2, A i = (a1, a2) := ⟨_, _, rfl⟩
          obtain ⟨b1, b2, eb⟩ : ∃ b1 b2, B j = (b1, b2) := ⟨_, _, rfl⟩
          have ec : C k = (a1, a2) := hE.trans ea
          have CL := hide (fun W => permLess_any (A i) (B j) W (HSM.out.1 i hin) (HSM.out.2 j hjn))
          rw [lt_no n1] at CL
          rw [ea, eb] at CL
          dsimp only at CL
          have CL2 := hide (fun W => permLess_any (B j) (A i) W (HSM.out.2 j hjn) (HSM.out.1 i hin))
          rw [lt_no n2] at CL2
          rw [ea, eb] at CL2
          dsimp only at CL2
          have CA := hide (show ∀ W, Below w1.heap.size w1 W → W.cell? ⟨ga, i * 2, none⟩ = some (.string a1) ∧ W.cell? ⟨ga, i * 2 + 1, none⟩ = some (.string a2) from fun W hW => by
            obtain ⟨b, off, e, q1, q2⟩ := (HA.out.below (w' := W) (HW1.out.trans (hW.mono HW1.out.size))).at hin
            cases e
            rw [Nat.zero_add] at q1 q2
            first | exact ⟨q1, q2⟩ | (rw [ea] at q1 q2; exact ⟨q1, q2⟩))
          have CB := hide (show ∀ W, Below w1.heap.size w1 W → W.cell? ⟨gb, j * 2, none⟩ = some (.string b1) ∧ W.cell? ⟨gb, j * 2 + 1, none⟩ = some (.string b2) from fun W hW => by
            obtain ⟨b, off, e, q1, q2⟩ := (HB.out.below (w' := W) (HW1.out.trans (hW.mono HW1.out.size))).at hjn
            cases e
            rw [Nat.zero_add] at q1 q2
            first | exact ⟨q1, q2⟩ | (rw [eb] at q1 q2; exact ⟨q1, q2⟩))
          have CC := hide (show ∀ W, Below w1.heap.size w1 W → W.cell? ⟨gc, k * 2, none⟩ = some (.string a1) ∧ W.cell? ⟨gc, k * 2 + 1, none⟩ = some (.string a2) from fun W hW => by
            obtain ⟨b, off, e, q1, q2⟩ := (HC.out.below (w' := W) (HW1.out.trans (hW.mono HW1.out.size))).at hkn
            cases e
            rw [Nat.zero_add] at q1 q2
            first | exact ⟨q1, q2⟩ | (rw [ec] at q1 q2; exact ⟨q1, q2⟩))
          have hgc : gc ≠ wr.heap.size := by
            have q := cell_in' (CC.out w1 (Below.refl _ _)).1
            have q2 : gc < w.heap.size := by
              rcases HC.out with h | ⟨b, off, e, h, _⟩
              · omega
              · cases e; exact h
            have := HSZ.out.1
            omega
          clear ec hE he hv' hv
          clear ea
          have i1 : ((i : Nat) : Int) < ((na : Nat) : Int) := by omega
          clear eb
          have i2 : ((j : Nat) : Int) < ((nb : Nat) : Int) := by omega
          clear ht n1 n2
          have i3 : ((k : Nat) : Int) < ((nc : Nat) : Int) := by omega
          go_wp2_with fail
          rw [← hw1]
          clear hw1
          go_region_held3 (fun W => W.cell? ⟨ga, i * 2, none⟩ = some (.string a1) ∧ W.cell? ⟨ga, i * 2 + 1, none⟩ = some (.string a2) ∧ W.cell? ⟨gb, j * 2, none⟩ = some (.string b1) ∧ W.cell? ⟨gb, j * 2 + 1, none⟩ = some (.string b2))
            (first | exact ⟨(CA.out _ ((Below.refl _ _).trans (bel0 w1))).1, (CA.out _ ((Below.refl _ _).trans (bel0 w1))).2, (CB.out _ ((Below.refl _ _).trans (bel0 w1))).1, (CB.out _ ((Below.refl _ _).trans (bel0 w1))).2⟩ | exact ⟨(CA.out _ (((Below.refl _ _).trans (bel0 w1)).trans hbb)).1, (CA.out _ (((Below.refl _ _).trans (bel0 w1)).trans hbb)).2, (CB.out _ (((Below.refl _ _).trans (bel0 w1)).trans hbb)).1, (CB.out _ (((Below.refl _ _).trans (bel0 w1)).trans hbb)).2⟩)
            ((go_at_call 53; refine Calls.mono (CL.out _) ?_; rintro e v1 ⟨rfl, hbb⟩))
          have HBB1 := hide (((Below.refl _ _).trans (bel0 w1)).trans hbb)
          clear hbb
          go_wp2_with fail
          go_region_held3 (fun W => W.cell? ⟨ga, i * 2, none⟩ = some (.string a1) ∧ W.cell? ⟨ga, i * 2 + 1, none⟩ = some (.string a2) ∧ W.cell? ⟨gb, j * 2, none⟩ = some (.string b1) ∧ W.cell? ⟨gb, j * 2 + 1, none⟩ = some (.string b2))
            (first | exact ⟨(CA.out _ (HBB1.out.trans ((bel0 v1).mono HBB1.out.size))).1, (CA.out _ (HBB1.out.trans ((bel0 v1).mono HBB1.out.size))).2, (CB.out _ (HBB1.out.trans ((bel0 v1).mono HBB1.out.size))).1, (CB.out _ (HBB1.out.trans ((bel0 v1).mono HBB1.out.size))).2⟩ | exact ⟨(CA.out _ ((HBB1.out.trans ((bel0 v1).mono HBB1.out.size)).trans (hbb.mono HBB1.out.size))).1, (CA.out _ ((HBB1.out.trans ((bel0 v1).mono HBB1.out.size)).trans (hbb.mono HBB1.out.size))).2, (CB.out _ ((HBB1.out.trans ((bel0 v1).mono HBB1.out.size)).trans (hbb.mono HBB1.out.size))).1, (CB.out _ ((HBB1.out.trans ((bel0 v1).mono HBB1.out.size)).trans (hbb.mono HBB1.out.size))).2⟩)
            ((go_at_call 53; refine Calls.mono (CL2.out _) ?_; rintro e v2 ⟨rfl, hbb⟩))
          have HBB2 := hide ((HBB1.out.trans ((bel0 v1).mono HBB1.out.size)).trans (hbb.mono HBB1.out.size))
          clear hbb
          have HBB := HBB2
          have XX := XV.out v2 HBB.out
          have KN := CA.out v2 HBB.out
          have KC := CC.out v2 HBB.out
          obtain ⟨m0, m1, m2, m3⟩ := XX
          obtain ⟨n0, n1⟩ := KN
          obtain ⟨o0, o1⟩ := KC
          go_wp2
          have HB3 := hide (st2_below (HW1.out.trans (HBB.out.mono HW1.out.size)) HSZ.out.1 a1 a2)
          obtain ⟨p0, p1, p2⟩ := st2_cells (w := v2) (V := wr.heap.size) a1 a2 m0 m1
          have t0 := (p2 ⟨gc, k * 2, none⟩ hgc).trans o0
          have t1 := (p2 ⟨gc, k * 2 + 1, none⟩ hgc).trans o1
          clear m0 m1 m2 m3 n0 n1 o0 o1 p2
          generalize ((v2.setCell ⟨wr.heap.size, 0, none⟩ (.string a1)).setCell ⟨wr.heap.size, 1, none⟩ (.string a2)) = w3 at HB3 p0 p1 t0 t1
          have g6 : decide (nc ≤ k) = false := decide_eq_false (by omega)
          have g7 : decide ((nc : Int) ≤ (k : Int)) = false := decide_eq_false (by omega)
          go_quiet (fail)
          go_wp2
          go_roundw
          case rel => exact ⟨i + 1, j + 1, k + 1, by omega, by omega, by omega, by go_num, by go_num, by go_num, below_drewN' HB3.out _, V⟩
          case measure => simp [intOf]; omega
        · obtain ⟨hkn, he, hv'⟩ := un_stepR hv.out hjn (.inr ⟨hin, ht⟩)
          have hE := HI.out.2 k j hkn hjn he
          have V := hide hv'
          have hwl := hw.out.size
          obtain ⟨w1, hw1⟩ : ∃ w1, w1 = wr.alloc (.cells #[.string ⟨#[]⟩, .string ⟨#[]⟩] 58) := ⟨_, rfl⟩
          have hB1 : Below wr.heap.size wr w1 := hw1 ▸ (Below.refl _ _).alloc (Nat.le_refl _) _
          have hs1 : w1.heap.size = wr.heap.size + 1 := by rw [hw1]; simp
          have x0 : w1.cell? ⟨wr.heap.size, 0, none⟩ = some (.string ⟨#[]⟩) := by rw [hw1]; simp
          have x1 : w1.cell? ⟨wr.heap.size, 1, none⟩ = some (.string ⟨#[]⟩) := by rw [hw1]; simp
          have y0 : w1.frozen? ⟨wr.heap.size, 0, none⟩ = false := by rw [hw1]; simp
          have y1 : w1.frozen? ⟨wr.heap.size, 1, none⟩ = false := by rw [hw1]; simp
          have XV := hide (show ∀ W, Below w1.heap.size w1 W → W.cell? ⟨wr.heap.size, 0, none⟩ = some (.string ⟨#[]⟩) ∧ W.cell? ⟨wr.heap.size, 1, none⟩ = some (.string ⟨#[]⟩) ∧ W.frozen? ⟨wr.heap.size, 0, none⟩ = false ∧ W.frozen? ⟨wr.heap.size, 1, none⟩ = false from fun W hW => ⟨(hW.cell (p := ⟨_, _, none⟩) (by show wr.heap.size < _; omega)).trans x0, (hW.cell (p := ⟨_, _, none⟩) (by show wr.heap.size < _; omega)).trans x1, (frozen_below hW (a := ⟨_, _, none⟩) (by show wr.heap.size < _; omega)).trans y0, (frozen_below hW (a := ⟨_, _, none⟩) (by show wr.heap.size < _; omega)).trans y1⟩)
          have HW1 := hide (hw.out.trans (hB1.mono hwl))
          have HSZ := hide (And.intro hwl hs1)
          clear x0 x1 y0 y1 hB1 hwl hs1
          obtain ⟨a1, a2, ea⟩ : ∃ a1 a2, A i = (a1, a2) := ⟨_, _, rfl⟩
          obtain ⟨b1, b2, eb⟩ : ∃ b1 b2, B j = (b1, b2) := ⟨_, _, rfl⟩
          have ec : C k = (b1, b2) := hE.trans eb
          have CL := hide (fun W => permLess_any (A i) (B j) W (HSM.out.1 i hin) (HSM.out.2 j hjn))
          rw [lt_no (bs_asymm ht)] at CL
          rw [ea, eb] at CL
          dsimp only at CL
          have CL2 := hide (fun W => permLess_any (B j) (A i) W (HSM.out.2 j hjn) (HSM.out.1 i hin))
          rw [lt_yes ht] at CL2
          rw [ea, eb] at CL2
          dsimp only at CL2
          have CA := hide (show ∀ W, Below w1.heap.size w1 W → W.cell? ⟨ga, i * 2, none⟩ = some (.string a1) ∧ W.cell? ⟨ga, i * 2 + 1, none⟩ = some (.string a2) from fun W hW => by
            obtain ⟨b, off, e, q1, q2⟩ := (HA.out.below (w' := W) (HW1.out.trans (hW.mono HW1.out.size))).at hin
            cases e
            rw [Nat.zero_add] at q1 q2
            first | exact ⟨q1, q2⟩ | (rw [ea] at q1 q2; exact ⟨q1, q2⟩))
          have CB := hide (show ∀ W, Below w1.heap.size w1 W → W.cell? ⟨gb, j * 2, none⟩ = some (.string b1) ∧ W.cell? ⟨gb, j * 2 + 1, none⟩ = some (.string b2) from fun W hW => by
            obtain ⟨b, off, e, q1, q2⟩ := (HB.out.below (w' := W) (HW1.out.trans (hW.mono HW1.out.size))).at hjn
            cases e
            rw [Nat.zero_add] at q1 q2
            first | exact ⟨q1, q2⟩ | (rw [eb] at q1 q2; exact ⟨q1, q2⟩))
          have CC := hide (show ∀ W, Below w1.heap.size w1 W → W.cell? ⟨gc, k * 2, none⟩ = some (.string b1) ∧ W.cell? ⟨gc, k * 2 + 1, none⟩ = some (.string b2) from fun W hW => by
            obtain ⟨b, off, e, q1, q2⟩ := (HC.out.below (w' := W) (HW1.out.trans (hW.mono HW1.out.size))).at hkn
            cases e
            rw [Nat.zero_add] at q1 q2
            first | exact ⟨q1, q2⟩ | (rw [ec] at q1 q2; exact ⟨q1, q2⟩))
          have hgc : gc ≠ wr.heap.size := by
            have q := cell_in' (CC.out w1 (Below.refl _ _)).1
            have q2 : gc < w.heap.size := by
              rcases HC.out with h | ⟨b, off, e, h, _⟩
              · omega
              · cases e; exact h
            have := HSZ.out.1
            omega
          clear ec hE he hv' hv
          clear ea
          have i1 : ((i : Nat) : Int) < ((na : Nat) : Int) := by omega
          clear eb
          have i2 : ((j : Nat) : Int) < ((nb : Nat) : Int) := by omega
          clear ht
          have i3 : ((k : Nat) : Int) < ((nc : Nat) : Int) := by omega
          go_wp2_with fail
          rw [← hw1]
          clear hw1
          go_region_held3 (fun W => W.cell? ⟨ga, i * 2, none⟩ = some (.string a1) ∧ W.cell? ⟨ga, i * 2 + 1, none⟩ = some (.string a2) ∧ W.cell? ⟨gb, j * 2, none⟩ = some (.string b1) ∧ W.cell? ⟨gb, j * 2 + 1, none⟩ = some (.string b2))
            (first | exact ⟨(CA.out _ ((Below.refl _ _).trans (bel0 w1))).1, (CA.out _ ((Below.refl _ _).trans (bel0 w1))).2, (CB.out _ ((Below.refl _ _).trans (bel0 w1))).1, (CB.out _ ((Below.refl _ _).trans (bel0 w1))).2⟩ | exact ⟨(CA.out _ (((Below.refl _ _).trans (bel0 w1)).trans hbb)).1, (CA.out _ (((Below.refl _ _).trans (bel0 w1)).trans hbb)).2, (CB.out _ (((Below.refl _ _).trans (bel0 w1)).trans hbb)).1, (CB.out _ (((Below.refl _ _).trans (bel0 w1)).trans hbb)).2⟩)
            ((go_at_call 53; refine Calls.mono (CL.out _) ?_; rintro e v1 ⟨rfl, hbb⟩))
          have HBB1 := hide (((Below.refl _ _).trans (bel0 w1)).trans hbb)
          clear hbb
          go_wp2_with fail
          go_region_held3 (fun W => W.cell? ⟨ga, i * 2, none⟩ = some (.string a1) ∧ W.cell? ⟨ga, i * 2 + 1, none⟩ = some (.string a2) ∧ W.cell? ⟨gb, j * 2, none⟩ = some (.string b1) ∧ W.cell? ⟨gb, j * 2 + 1, none⟩ = some (.string b2))
            (first | exact ⟨(CA.out _ (HBB1.out.trans ((bel0 v1).mono HBB1.out.size))).1, (CA.out _ (HBB1.out.trans ((bel0 v1).mono HBB1.out.size))).2, (CB.out _ (HBB1.out.trans ((bel0 v1).mono HBB1.out.size))).1, (CB.out _ (HBB1.out.trans ((bel0 v1).mono HBB1.out.size))).2⟩ | exact ⟨(CA.out _ ((HBB1.out.trans ((bel0 v1).mono HBB1.out.size)).trans (hbb.mono HBB1.out.size))).1, (CA.out _ ((HBB1.out.trans ((bel0 v1).mono HBB1.out.size)).trans (hbb.mono HBB1.out.size))).2, (CB.out _ ((HBB1.out.trans ((bel0 v1).mono HBB1.out.size)).trans (hbb.mono HBB1.out.size))).1, (CB.out _ ((HBB1.out.trans ((bel0 v1).mono HBB1.out.size)).trans (hbb.mono HBB1.out.size))).2⟩)
            ((go_at_call 53; refine Calls.mono (CL2.out _) ?_; rintro e v2 ⟨rfl, hbb⟩))
          have HBB2 := hide ((HBB1.out.trans ((bel0 v1).mono HBB1.out.size)).trans (hbb.mono HBB1.out.size))
          clear hbb
          have HBB := HBB2
          have XX := XV.out v2 HBB.out
          have KN := CB.out v2 HBB.out
          have KC := CC.out v2 HBB.out
          obtain ⟨m0, m1, m2, m3⟩ := XX
          obtain ⟨n0, n1⟩ := KN
          obtain ⟨o0, o1⟩ := KC
          go_wp2
          have HB3 := hide (st2_below (HW1.out.trans (HBB.out.mono HW1.out.size)) HSZ.out.1 b1 b2)
          obtain ⟨p0, p1, p2⟩ := st2_cells (w := v2) (V := wr.heap.size) b1 b2 m0 m1
          have t0 := (p2 ⟨gc, k * 2, none⟩ hgc).trans o0
          have t1 := (p2 ⟨gc, k * 2 + 1, none⟩ hgc).trans o1
          clear m0 m1 m2 m3 n0 n1 o0 o1 p2
          generalize ((v2.setCell ⟨wr.heap.size, 0, none⟩ (.string b1)).setCell ⟨wr.heap.size, 1, none⟩ (.string b2)) = w3 at HB3 p0 p1 t0 t1
          have g6 : decide (nc ≤ k) = false := decide_eq_false (by omega)
          have g7 : decide ((nc : Int) ≤ (k : Int)) = false := decide_eq_false (by omega)
          go_quiet (fail)
          go_wp2
          go_roundw
          case rel => exact ⟨i, j + 1, k + 1, by omega, by omega, by omega, rfl, by go_num, by go_num, below_drewN' HB3.out _, V⟩
          case measure => simp [intOf]; omega
      · have g1 : decide (nb ≤ j) = true := decide_eq_true (by omega)
        have g3 : decide ((nb : Int) ≤ (j : Int)) = true := decide_eq_true (by omega)
        obtain ⟨hkn, he, hv'⟩ := un_stepL hv.out hin (.inl (by omega))
        have hE := HI.out.1 k i hkn hin he
        have V := hide hv'
        have hwl := hw.out.size
        obtain ⟨w1, hw1⟩ : ∃ w1, w1 = wr.alloc (.cells #[.string ⟨#[]⟩, .string ⟨#[]⟩] 58) := ⟨_, rfl⟩
        have hB1 : Below wr.heap.size wr w1 := hw1 ▸ (Below.refl _ _).alloc (Nat.le_refl _) _
        have hs1 : w1.heap.size = wr.heap.size + 1 := by rw [hw1]; simp
        have x0 : w1.cell? ⟨wr.heap.size, 0, none⟩ = some (.string ⟨#[]⟩) := by rw [hw1]; simp
        have x1 : w1.cell? ⟨wr.heap.size, 1, none⟩ = some (.string ⟨#[]⟩) := by rw [hw1]; simp
        have y0 : w1.frozen? ⟨wr.heap.size, 0, none⟩ = false := by rw [hw1]; simp
        have y1 : w1.frozen? ⟨wr.heap.size, 1, none⟩ = false := by rw [hw1]; simp
        have XV := hide (show ∀ W, Below w1.heap.size w1 W → W.cell? ⟨wr.heap.size, 0, none⟩ = some (.string ⟨#[]⟩) ∧ W.cell? ⟨wr.heap.size, 1, none⟩ = some (.string ⟨#[]⟩) ∧ W.frozen? ⟨wr.heap.size, 0, none⟩ = false ∧ W.frozen? ⟨wr.heap.size, 1, none⟩ = false from fun W hW => ⟨(hW.cell (p := ⟨_, _, none⟩) (by show wr.heap.size < _; omega)).trans x0, (hW.cell (p := ⟨_, _, none⟩) (by show wr.heap.size < _; omega)).trans x1, (frozen_below hW (a := ⟨_, _, none⟩) (by show wr.heap.size < _; omega)).trans y0, (frozen_below hW (a := ⟨_, _, none⟩) (by show wr.heap.size < _; omega)).trans y1⟩)
        have HW1 := hide (hw.out.trans (hB1.mono hwl))
        have HSZ := hide (And.intro hwl hs1)
        clear x0 x1 y0 y1 hB1 hwl hs1
        obtain ⟨a1, a2, ea⟩ : ∃ a1 a2, A i = (a1, a2) := ⟨_, _, rfl⟩
        have ec : C k = (a1, a2) := hE.trans ea
        have CA := hide (show ∀ W, Below w1.heap.size w1 W → W.cell? ⟨ga, i * 2, none⟩ = some (.string a1) ∧ W.cell? ⟨ga, i * 2 + 1, none⟩ = some (.string a2) from fun W hW => by
          obtain ⟨b, off, e, q1, q2⟩ := (HA.out.below (w' := W) (HW1.out.trans (hW.mono HW1.out.size))).at hin
          cases e
          rw [Nat.zero_add] at q1 q2
          first | exact ⟨q1, q2⟩ | (rw [ea] at q1 q2; exact ⟨q1, q2⟩))
        have CC := hide (show ∀ W, Below w1.heap.size w1 W → W.cell? ⟨gc, k * 2, none⟩ = some (.string a1) ∧ W.cell? ⟨gc, k * 2 + 1, none⟩ = some (.string a2) from fun W hW => by
          obtain ⟨b, off, e, q1, q2⟩ := (HC.out.below (w' := W) (HW1.out.trans (hW.mono HW1.out.size))).at hkn
          cases e
          rw [Nat.zero_add] at q1 q2
          first | exact ⟨q1, q2⟩ | (rw [ec] at q1 q2; exact ⟨q1, q2⟩))
        have hgc : gc ≠ wr.heap.size := by
          have q := cell_in' (CC.out w1 (Below.refl _ _)).1
          have q2 : gc < w.heap.size := by
            rcases HC.out with h | ⟨b, off, e, h, _⟩
            · omega
            · cases e; exact h
          have := HSZ.out.1
          omega
        clear ec hE he hv' hv
        clear ea
        have i1 : ((i : Nat) : Int) < ((na : Nat) : Int) := by omega
        have i3 : ((k : Nat) : Int) < ((nc : Nat) : Int) := by omega
        go_wp2_with fail
        rw [← hw1]
        clear hw1
        go_quiet (fail)
        have HBB1 := hide ((Below.refl _ _).trans (drewN_below w1 nq))
        generalize w1.drewN nq = v1 at HBB1
        have HBB := HBB1
        have XX := XV.out v1 HBB.out
        have KN := CA.out v1 HBB.out
        have KC := CC.out v1 HBB.out
        obtain ⟨m0, m1, m2, m3⟩ := XX
        obtain ⟨n0, n1⟩ := KN
        obtain ⟨o0, o1⟩ := KC
        go_wp2
        have HB3 := hide (st2_below (HW1.out.trans (HBB.out.mono HW1.out.size)) HSZ.out.1 a1 a2)
        obtain ⟨p0, p1, p2⟩ := st2_cells (w := v1) (V := wr.heap.size) a1 a2 m0 m1
        have t0 := (p2 ⟨gc, k * 2, none⟩ hgc).trans o0
        have t1 := (p2 ⟨gc, k * 2 + 1, none⟩ hgc).trans o1
        clear m0 m1 m2 m3 n0 n1 o0 o1 p2
        generalize ((v1.setCell ⟨wr.heap.size, 0, none⟩ (.string a1)).setCell ⟨wr.heap.size, 1, none⟩ (.string a2)) = w3 at HB3 p0 p1 t0 t1
        have g6 : decide (nc ≤ k) = false := decide_eq_false (by omega)
        have g7 : decide ((nc : Int) ≤ (k : Int)) = false := decide_eq_false (by omega)
        go_quiet (fail)
        go_wp2
        go_roundw
        case rel => exact ⟨i + 1, j, k + 1, by omega, by omega, by omega, by go_num, rfl, by go_num, below_drewN' HB3.out _, V⟩
        case measure => simp [intOf]; omega
    · have g2 : decide (na ≤ i) = true := decide_eq_true (by omega)
      have g5 : decide (i < na) = false := decide_eq_false hin
      have g4 : decide ((na : Int) ≤ (i : Int)) = true := decide_eq_true (by omega)
      by_cases hjn : j < nb
      · have g1 : decide (nb ≤ j) = false := decide_eq_false (by omega)
        have g3 : decide ((nb : Int) ≤ (j : Int)) = false := decide_eq_false (by omega)
        obtain ⟨hkn, he, hv'⟩ := un_stepR hv.out hjn (.inl (by omega))
        have hE := HI.out.2 k j hkn hjn he
        have V := hide hv'
        have hwl := hw.out.size
        obtain ⟨w1, hw1⟩ : ∃ w1, w1 = wr.alloc (.cells #[.string ⟨#[]⟩, .string ⟨#[]⟩] 58) := ⟨_, rfl⟩
        have hB1 : Below wr.heap.size wr w1 := hw1 ▸ (Below.refl _ _).alloc (Nat.le_refl _) _
        have hs1 : w1.heap.size = wr.heap.size + 1 := by rw [hw1]; simp
        have x0 : w1.cell? ⟨wr.heap.size, 0, none⟩ = some (.string ⟨#[]⟩) := by rw [hw1]; simp
        have x1 : w1.cell? ⟨wr.heap.size, 1, none⟩ = some (.string ⟨#[]⟩) := by rw [hw1]; simp
        have y0 : w1.frozen? ⟨wr.heap.size, 0, none⟩ = false := by rw [hw1]; simp
        have y1 : w1.frozen? ⟨wr.heap.size, 1, none⟩ = false := by rw [hw1]; simp
        have XV := hide (show ∀ W, Below w1.heap.size w1 W → W.cell? ⟨wr.heap.size, 0, none⟩ = some (.string ⟨#[]⟩) ∧ W.cell? ⟨wr.heap.size, 1, none⟩ = some (.string ⟨#[]⟩) ∧ W.frozen? ⟨wr.heap.size, 0, none⟩ = false ∧ W.frozen? ⟨wr.heap.size, 1, none⟩ = false from fun W hW => ⟨(hW.cell (p := ⟨_, _, none⟩) (by show wr.heap.size < _; omega)).trans x0, (hW.cell (p := ⟨_, _, none⟩) (by show wr.heap.size < _; omega)).trans x1, (frozen_below hW (a := ⟨_, _, none⟩) (by show wr.heap.size < _; omega)).trans y0, (frozen_below hW (a := ⟨_, _, none⟩) (by show wr.heap.size < _; omega)).trans y1⟩)
        have HW1 := hide (hw.out.trans (hB1.mono hwl))
        have HSZ := hide (And.intro hwl hs1)
        clear x0 x1 y0 y1 hB1 hwl hs1
        obtain ⟨b1, b2, eb⟩ : ∃ b1 b2, B j = (b1, b2) := ⟨_, _, rfl⟩
        have ec : C k = (b1, b2) := hE.trans eb
        have CB := hide (show ∀ W, Below w1.heap.size w1 W → W.cell? ⟨gb, j * 2, none⟩ = some (.string b1) ∧ W.cell? ⟨gb, j * 2 + 1, none⟩ = some (.string b2) from fun W hW => by
          obtain ⟨b, off, e, q1, q2⟩ := (HB.out.below (w' := W) (HW1.out.trans (hW.mono HW1.out.size))).at hjn
          cases e
          rw [Nat.zero_add] at q1 q2
          first | exact ⟨q1, q2⟩ | (rw [eb] at q1 q2; exact ⟨q1, q2⟩))
        have CC := hide (show ∀ W, Below w1.heap.size w1 W → W.cell? ⟨gc, k * 2, none⟩ = some (.string b1) ∧ W.cell? ⟨gc, k * 2 + 1, none⟩ = some (.string b2) from fun W hW => by
          obtain ⟨b, off, e, q1, q2⟩ := (HC.out.below (w' := W) (HW1.out.trans (hW.mono HW1.out.size))).at hkn
          cases e
          rw [Nat.zero_add] at q1 q2
          first | exact ⟨q1, q2⟩ | (rw [ec] at q1 q2; exact ⟨q1, q2⟩))
        have hgc : gc ≠ wr.heap.size := by
          have q := cell_in' (CC.out w1 (Below.refl _ _)).1
          have q2 : gc < w.heap.size := by
            rcases HC.out with h | ⟨b, off, e, h, _⟩
            · omega
            · cases e; exact h
          have := HSZ.out.1
          omega
        clear ec hE he hv' hv
        clear eb
        have i2 : ((j : Nat) : Int) < ((nb : Nat) : Int) := by omega
        have i3 : ((k : Nat) : Int) < ((nc : Nat) : Int) := by omega
        go_wp2_with fail
        rw [← hw1]
        clear hw1
        go_quiet (fail)
        have HBB1 := hide ((Below.refl _ _).trans (drewN_below w1 nq))
        generalize w1.drewN nq = v1 at HBB1
        go_wp2_with fail
        go_quiet (fail)
        have HBB2 := hide (HBB1.out.trans ((drewN_below v1 nq).mono HBB1.out.size))
        generalize v1.drewN nq = v2 at HBB2
        have HBB := HBB2
        have XX := XV.out v2 HBB.out
        have KN := CB.out v2 HBB.out
        have KC := CC.out v2 HBB.out
        obtain ⟨m0, m1, m2, m3⟩ := XX
        obtain ⟨n0, n1⟩ := KN
        obtain ⟨o0, o1⟩ := KC
        go_wp2
        have HB3 := hide (st2_below (HW1.out.trans (HBB.out.mono HW1.out.size)) HSZ.out.1 b1 b2)
        obtain ⟨p0, p1, p2⟩ := st2_cells (w := v2) (V := wr.heap.size) b1 b2 m0 m1
        have t0 := (p2 ⟨gc, k * 2, none⟩ hgc).trans o0
        have t1 := (p2 ⟨gc, k * 2 + 1, none⟩ hgc).trans o1
        clear m0 m1 m2 m3 n0 n1 o0 o1 p2
        generalize ((v2.setCell ⟨wr.heap.size, 0, none⟩ (.string b1)).setCell ⟨wr.heap.size, 1, none⟩ (.string b2)) = w3 at HB3 p0 p1 t0 t1
        have g6 : decide (nc ≤ k) = false := decide_eq_false (by omega)
        have g7 : decide ((nc : Int) ≤ (k : Int)) = false := decide_eq_false (by omega)
        go_quiet (fail)
        go_wp2
        go_roundw
        case rel => exact ⟨i, j + 1, k + 1, by omega, by omega, by omega, rfl, by go_num, by go_num, below_drewN' HB3.out _, V⟩
        case measure => simp [intOf]; omega
      · have hkn : k = nc := un_end hv.out (by omega) (by omega) hk
        subst hkn
        clear hv
        go_wp2
        go_ret
        exact ⟨rfl, hw.out⟩
end Go.Proofs.Qxb6614755a
