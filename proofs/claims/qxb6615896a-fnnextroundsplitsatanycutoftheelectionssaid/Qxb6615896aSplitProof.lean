/- FnNextRoundSplitsAtAnyCutOfTheElections: the row (after the seat's given shell). -/
import Derived.Test.Qxb6615896aRows
import Derived.WalkKit
import Derived.ProofKit
import Derived.OpenShut
import Derived.ShutString
import Derived.ChangeOld
import Derived.Below
import Derived.Test.Qxb6615896aNrOpen
import Derived.Test.Qxb6615896aSplitA
import Derived.Test.Qxb6615896aSplitB
import Derived.Test.Qxb6615896aSplitC
import Derived.Test.Qxb6615896aSplitD
import Derived.Test.Qxb6615896aSplitN
import Derived.Test.Qxb6615896aSplitO
namespace Go.Proofs.Qxb6615896a.fnSplit
open Go.ChangeShapes Go.WideShapes Go.ChangeAt Go.RowKit
open Go.ChangeMaps (open_string shut_string)
set_option linter.unusedVariables false

theorem own : ownKnob Try.prog.godebug = none := by kernel_rfl
theorem laidOut : laidOutB Try.prog = true := by kernel_rfl

theorem walk (nm : ByteArray) (z1 z2 z3 z4 z5 : Int) (a a2 : Option Addr) (n m cap cap2 : Nat) (E : Nat → Elec) (B : Nat → Bod) (w : World) (hcap : n ≤ cap) (hcm : cap ≤ maxLen) (hm : m ≤ maxLen) (hnm : nm.size ≤ maxLen) (h : ElecsAt w a n E) (h2 : BodsAt w a2 m B) (hcl : ∀ j, j < n → (E j).cl ≤ maxLen) (hk : Keys n E m B)
    (ha : (a = none ∧ n = 0 ∧ cap = 0) ∨ ∃ y, a = some y ∧ (0 < n → y.spot = none)) :
    Calls Try.prog 4 #[.string nm, .int .i64 z1, .int .i64 z2, .int .i64 z3, .int .i64 z4, .slice a n cap, .slice a2 m cap2, .int .i64 z5] w (Says w) := by
  by_cases hz : z5 < 0 ∨ (n : Int) < z5
  · exact split_O nm z1 z2 z3 z4 z5 a a2 n m cap cap2 E B w hcap hcm hm hnm h h2 hcl hz
  obtain ⟨k, rfl⟩ : ∃ k : Nat, z5 = (k : Int) := ⟨z5.toNat, by omega⟩
  have hkn : k ≤ n := by omega
  rcases ha with ⟨rfl, rfl, rfl⟩ | ⟨y, rfl, hy⟩
  · obtain rfl : k = 0 := by omega
    exact split_N nm z1 z2 z3 z4 a2 m cap2 E B w hm hnm h h2 hcl hk
  · rcases Nat.eq_zero_or_pos (cnt E k) with hca | hca
    · rcases Nat.eq_zero_or_pos (cnt (shift E k) (n - k)) with hcb | hcb
      · exact split_D nm z1 z2 z3 z4 y a2 n m cap cap2 k E B w hcap hcm hm hnm h h2 hcl hk hkn hca hcb
      · have hn : 0 < n := by
          rcases Nat.eq_zero_or_pos n with rfl | h0
          · simp [cnt] at hcb
          · exact h0
        obtain ⟨b, off, spot⟩ := y
        obtain rfl : spot = none := hy hn
        exact split_C nm z1 z2 z3 z4 b off a2 n m cap cap2 k E B w hcap hcm hm hnm h h2 hcl hk hkn hca hcb
    · have hn : 0 < n := by have := cnt_le E k; omega
      obtain ⟨b, off, spot⟩ := y
      obtain rfl : spot = none := hy hn
      rcases Nat.eq_zero_or_pos (cnt (shift E k) (n - k)) with hcb | hcb
      · exact split_B nm z1 z2 z3 z4 b off a2 n m cap cap2 k E B w hcap hcm hm hnm h h2 hcl hk hkn hca hcb
      · exact split_A nm z1 z2 z3 z4 b off a2 n m cap cap2 k E B w hcap hcm hm hnm h h2 hcl hk hkn hca hcb

set_option maxRecDepth 100000 in
theorem lifted (os : Os) (started : os.Started) (H : Type) (enc : TypeId × Value → H) :
    ReturnsInHanded {} Try.checked os 4 .any (Rows.fnNextRoundSplitsAtAnyCutOfTheElectionsSpec.pre6 enc Try.prog Try.f4 Rows.fnNextRoundSplitsAtAnyCutOfTheElectionsRow.domain false) (Rows.fnNextRoundSplitsAtAnyCutOfTheElectionsSpec.post enc Try.prog Try.f4 false true false false) := by
  refine returnsInHanded_of_change (C := Try.checked) own started (by kernel_rfl) Try.func4
    (ChangeSpec.witness6 (enc := enc) (C := Try.checked) false ⟨#[], #[.string ⟨#[]⟩, .int .i64 0, .int .i64 0, .int .i64 0, .int .i64 0, .slice none 0 0, .slice none 0 0, .int .i64 0], []⟩ 8 (by kernel_rfl) (by kernel_rfl) (by kernel_rfl) (by kernel_rfl)) ?_
  intro W base args ds gs before hval0 hW hcnd _
  have hval : ∀ (j : Nat) t v, Try.f4.params[j]? = some t → args[j]? = some v → Value.okWide Try.prog W .any base t v := hval0
  have hW' := hW
  obtain ⟨p, q, hA0, hV, rfl, hfz, hnd⟩ := hW
  have hA : DataW.TrodAll enc Try.prog W 0 (fun _ => true) true Try.f4.params.toList args.toList ds p := hA0
  rw [Try.params4] at hA hval
  obtain ⟨v0, vs0, d0, ds0, p0, q0, hargs, rfl, rfl, h0, r0⟩ := trodAll_cons hA
  obtain ⟨v1, vs1, d1, ds1, p1, q1, rfl, rfl, rfl, h1, r1⟩ := trodAll_cons r0
  obtain ⟨v2, vs2, d2, ds2, p2, q2, rfl, rfl, rfl, h2, r2⟩ := trodAll_cons r1
  obtain ⟨v3, vs3, d3, ds3, p3, q3, rfl, rfl, rfl, h3, r3⟩ := trodAll_cons r2
  obtain ⟨v4, vs4, d4, ds4, p4, q4, rfl, rfl, rfl, h4, r4⟩ := trodAll_cons r3
  obtain ⟨v5, vs5, d5, ds5, p5, q5, rfl, rfl, rfl, h5, r5⟩ := trodAll_cons r4
  obtain ⟨v6, vs6, d6, ds6, p6, q6, rfl, rfl, rfl, h6, r6⟩ := trodAll_cons r5
  obtain ⟨v7, vs7, d7, ds7, p7, q7, rfl, rfl, rfl, h7, r7⟩ := trodAll_cons r6
  obtain ⟨rfl, rfl, rfl⟩ := trodAll_nil r7
  obtain rfl : args = #[v0, v1, v2, v3, v4, v5, v6, v7] := by cases args; simp_all
  obtain ⟨rfl, rfl⟩ := trodVars_none hV
  obtain ⟨a0, rfl, rfl, rfl, w0⟩ := open_string Try.underlying9 (hval 0 9 v0 rfl rfl) h0
  obtain ⟨a1, rfl, rfl, rfl, w1⟩ := open_int Try.underlying3 (hval 1 3 v1 rfl rfl) h1
  obtain ⟨a2, rfl, rfl, rfl, w2⟩ := open_int Try.underlying3 (hval 2 3 v2 rfl rfl) h2
  obtain ⟨a3, rfl, rfl, rfl, w3⟩ := open_int Try.underlying3 (hval 3 3 v3 rfl rfl) h3
  obtain ⟨a4, rfl, rfl, rfl, w4⟩ := open_int Try.underlying3 (hval 4 3 v4 rfl rfl) h4
  obtain ⟨a5, len5, cap5, rfl⟩ := okWide_slice Try.underlying28 (hval 5 28 v5 rfl rfl)
  obtain ⟨a6, len6, cap6, rfl⟩ := okWide_slice Try.underlying29 (hval 6 29 v6 rfl rfl)
  obtain ⟨a7, rfl, rfl, rfl, w7⟩ := open_int Try.underlying3 (hval 7 3 v7 rfl rfl) h7
  have lt5 : ∀ x ∈ p5, x.block < W.heap.size := by obtain ⟨m, hm⟩ := h5; exact DataW.trod_lt m _ _ _ hm
  have lt6 : ∀ x ∈ p6, x.block < W.heap.size := by obtain ⟨m, hm⟩ := h6; exact DataW.trod_lt m _ _ _ hm
  obtain ⟨E, hE, hl5, hc5, hs5, hcl5, hsz5⟩ := (by obtain ⟨m, hm⟩ := h5; exact open_elecs hm : ∃ E, ElecsAt W a5 len5 E ∧ len5 ≤ cap5 ∧ cap5 ≤ maxLen ∧ ((a5 = none ∧ len5 = 0 ∧ cap5 = 0) ∨ ∃ y, a5 = some y ∧ (0 < len5 → y.spot = none)) ∧ (∀ j, j < len5 → (E j).cl ≤ maxLen) ∧ ∀ j, j < len5 → (E j).body.size ≤ maxLen ∧ (E j).id.size ≤ maxLen)
  obtain ⟨B, hB, hl6, hsz6⟩ := (by obtain ⟨m, hm⟩ := h6; exact open_bods hm : ∃ B, BodsAt W a6 len6 B ∧ len6 ≤ maxLen ∧ ∀ j, j < len6 → (B j).id.size ≤ maxLen)
  clear hA0 hval0
  refine (walk a0 a1 a2 a3 a4 a7 a5 a6 len5 len6 cap5 cap6 E B W hl5 hc5 hl6 w0 hE hB hcl5 ⟨fun j hj => (hsz5 j hj).1, hsz6⟩ hs5).mono fun e W' ⟨he, bel⟩ => ?_
  subst he
  exact ⟨_, rfl, _, _, _, [], _, [], hW', trodAll_mk1 (shut_bool Try.underlying4 _),
    (trodAll_cons_mk (shut_string Try.underlying9 w0) (trodAll_cons_mk (shut_int Try.underlying3 w1) (trodAll_cons_mk (shut_int Try.underlying3 w2) (trodAll_cons_mk (shut_int Try.underlying3 w3) (trodAll_cons_mk (shut_int Try.underlying3 w4)
      (trodAll_cons_mk (Below.trod laidOut (by kernel_rfl) (of_decide_eq_true (by kernel_rfl)) h5 bel lt5) (trodAll_cons_mk (Below.trod laidOut (by kernel_rfl) (of_decide_eq_true (by kernel_rfl)) h6 bel lt6) (trodAll_cons_mk (shut_int Try.underlying3 w7) trodAll_mk0)))))))), rfl, bel.frame _, fun h => by cases h⟩

theorem over : Rows.fnNextRoundSplitsAtAnyCutOfTheElectionsRow.holds Try.pinned (OpenSpec.ofChange Rows.fnNextRoundSplitsAtAnyCutOfTheElectionsSpec) :=
  OpenClaim.holds_of_wide 4 Try.f4 rfl rfl rfl rfl rfl rfl rfl ⟨rfl, rfl, rfl, rfl, rfl⟩ rfl rfl rfl rfl rfl (by kernel_rfl) Try.func4 (by kernel_rfl)
    (of_decide_eq_true (by kernel_rfl)) (by unfold Func.isWrapper; first | (rw [if_pos (by decide +kernel)]; kernel_rfl) | (rw [if_neg (by decide +kernel)]; exact ⟨rfl, rfl⟩))
    (fun os started H enc _ => lifted os started H enc)

theorem proved : Rows.FnNextRoundSplitsAtAnyCutOfTheElectionsSaid := over
end Go.Proofs.Qxb6615896a.fnSplit
