/- FnNextRoundSplitsAtAnyCutOfTheElections: the walk, where the cut lies outside. -/
import Derived.Test.Qxb6615896aSplitBase
namespace Go.Proofs.Qxb6615896a
open Go.RowKit Go.Maps Go.WideMaps

set_option maxRecDepth 100000 in
set_option maxHeartbeats 4000000 in
theorem split_O (nm : ByteArray) (z1 z2 z3 z4 z5 : Int) (a a2 : Option Addr) (n m cap cap2 : Nat) (E : Nat → Elec) (B : Nat → Bod) (w : World) (hcap : n ≤ cap) (hcm : cap ≤ maxLen) (hm : m ≤ maxLen) (hnm : nm.size ≤ maxLen) (h : ElecsAt w a n E) (h2 : BodsAt w a2 m B) (hcl : ∀ j, j < n → (E j).cl ≤ maxLen) (hz : z5 < 0 ∨ (n : Int) < z5) :
    Calls Try.prog 4 #[.string nm, .int .i64 z1, .int .i64 z2, .int .i64 z3, .int .i64 z4, .slice a n cap, .slice a2 m cap2, .int .i64 z5] w (Says w) := by
  have C1 := hide (bytes9_any nm z1 z2 z3 z4 z5 a a2 n m cap cap2 E B w (by omega) hm hnm h h2 hcl)
  have H := hide (And.intro h h2)
  clear h h2 hcl
  go_enter Try.func4, Try.ntmps4
  go_wp2_with fail
  refine (unhide C1).mono ?_
  rintro e w' ⟨r, rfl, hr, rfl⟩
  cases r
  · go_wp2
    go_ret
    exact ⟨rfl, Below.refl _ _⟩
  have HBd := hide (hr rfl)
  clear hr C1
  have C2 := hide (tooBig_any nm a a2 n m cap cap2 E B w' hnm H.out.1 H.out.2 HBd.out)
  go_wp2_with fail
  refine (unhide C2).mono ?_
  rintro e w2 ⟨r, rfl, hb2⟩
  cases r
  case true =>
    go_wp2
    go_ret
    exact ⟨rfl, hb2⟩
  have B2 := hide hb2
  clear hb2 C2
  by_cases hz0 : z5 < 0
  · go_wp2
    go_ret
    exact ⟨rfl, B2.out⟩
  have hz1 : (n : Int) < z5 := by omega
  go_wp2
  go_ret
  exact ⟨rfl, B2.out⟩
end Go.Proofs.Qxb6615896a
