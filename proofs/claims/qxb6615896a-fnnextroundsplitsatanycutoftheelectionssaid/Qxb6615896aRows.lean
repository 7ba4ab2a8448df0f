/-
  No cell of these rows narrows 'for every input' (looked for: loops, veiled, ifaces, maps, wideKeys, modest, calm, conditions, laid).
  DERIVED. THE GIVEN ROWS OF THIS SEAT. 2 by the template 'for every input the law returns true; each argument reads behind the call as it read before'; 0 by the template 'total and deterministic' (their statements: Qxb6615896aTotals.lean).
  GIVEN WITH THE SEED: the statements are not yours to turn. If you find one false, say at which input.
  Laid BY PROGRAM, IN A SANDBOX (cutbox-rows.mjs): the forced cells as the released guide's own fill.sh prints them over the translation c07708400b6c4062… (all of the seat's roots in one cut). By AI agents, Wed Nov 11 2026. No macro, syntax, notation, axiom, sorry.
-/
import Derived.Test.Qxb6615896aChecked
import GoSem.Claim
import GoSem.ClaimJoined
import GoSem.ClaimMapViews
import Derived.JoinedTies
import Derived.KernelRfl
namespace Go.Proofs.Qxb6615896a
/- THE CELL 'sum', in the pinned program and in every row, IS THE sha256 OF THE DUMP (.gsa) THAT Qxb6615896aProg.lean LOADS. Nothing in Lean hashes anything: it is a label: what it is worth is what the hold of that sum in a sandbox is worth. -/
noncomputable def Try.pinned : Pinned := { name := "qxb6615896a", sum := "c07708400b6c406245f75f952d74ce359897355990f7ead73de505254077f27a", checked := Try.checked }
namespace Rows
def none {H : Type} : Left H := { results := [], args := [] }

/-- 'zzlaws_root_b1.FnInvalidNameKeepsPlaceAndName': WHATEVER THE INPUT: true; the input reads as it did. -/
def fnInvalidNameKeepsPlaceAndNameSpec : ChangeSpec := { name := "fnInvalidNameKeepsPlaceAndName", fn := fun _ => fun
  | [d1, d2, d3, d4] => { results := [.lit (.bool true)], args := [d1, d2, d3, d4] }
  | _ => none }
def fnInvalidNameKeepsPlaceAndNameRow : OpenClaim := { program := "qxb6615896a", sum := "c07708400b6c406245f75f952d74ce359897355990f7ead73de505254077f27a", func := "example.com/plenum-tally/plenum-tally/zzlaws_root_b1.FnInvalidNameKeepsPlaceAndName", spec := "fnInvalidNameKeepsPlaceAndName", apart := false }
def FnInvalidNameKeepsPlaceAndNameSaid : Prop := fnInvalidNameKeepsPlaceAndNameRow.holds Try.pinned (OpenSpec.ofChange fnInvalidNameKeepsPlaceAndNameSpec)

/-- ITS FALSE NEIGHBOUR: 'it returns false'. Refute it at one input. -/
def fnInvalidNameKeepsPlaceAndNameWrong : ChangeSpec := { name := "fnInvalidNameKeepsPlaceAndName", fn := fun _ => fun
  | [d1, d2, d3, d4] => { results := [.lit (.bool false)], args := [d1, d2, d3, d4] }
  | _ => none }
def FnInvalidNameKeepsPlaceAndNameWrongFalsely : Prop := fnInvalidNameKeepsPlaceAndNameRow.holds Try.pinned (OpenSpec.ofChange fnInvalidNameKeepsPlaceAndNameWrong)

/-- 'zzlaws_root_b1.FnNextRoundSplitsAtAnyCutOfTheElections': WHATEVER THE INPUT: true; the input reads as it did. -/
def fnNextRoundSplitsAtAnyCutOfTheElectionsSpec : ChangeSpec := { name := "fnNextRoundSplitsAtAnyCutOfTheElections", fn := fun _ => fun
  | [d1, d2, d3, d4, d5, d6, d7, d8] => { results := [.lit (.bool true)], args := [d1, d2, d3, d4, d5, d6, d7, d8] }
  | _ => none }
def fnNextRoundSplitsAtAnyCutOfTheElectionsRow : OpenClaim := { program := "qxb6615896a", sum := "c07708400b6c406245f75f952d74ce359897355990f7ead73de505254077f27a", func := "example.com/plenum-tally/plenum-tally/zzlaws_root_b1.FnNextRoundSplitsAtAnyCutOfTheElections", spec := "fnNextRoundSplitsAtAnyCutOfTheElections", apart := false }
def FnNextRoundSplitsAtAnyCutOfTheElectionsSaid : Prop := fnNextRoundSplitsAtAnyCutOfTheElectionsRow.holds Try.pinned (OpenSpec.ofChange fnNextRoundSplitsAtAnyCutOfTheElectionsSpec)

/-- ITS FALSE NEIGHBOUR: 'it returns false'. Refute it at one input. -/
def fnNextRoundSplitsAtAnyCutOfTheElectionsWrong : ChangeSpec := { name := "fnNextRoundSplitsAtAnyCutOfTheElections", fn := fun _ => fun
  | [d1, d2, d3, d4, d5, d6, d7, d8] => { results := [.lit (.bool false)], args := [d1, d2, d3, d4, d5, d6, d7, d8] }
  | _ => none }
def FnNextRoundSplitsAtAnyCutOfTheElectionsWrongFalsely : Prop := fnNextRoundSplitsAtAnyCutOfTheElectionsRow.holds Try.pinned (OpenSpec.ofChange fnNextRoundSplitsAtAnyCutOfTheElectionsWrong)

end Rows
end Go.Proofs.Qxb6615896a
