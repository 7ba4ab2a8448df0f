/-
  No cell of these rows narrows 'for every input' (looked for: loops, veiled, ifaces, maps, wideKeys, modest, calm, conditions, laid).
  DERIVED. THE GIVEN ROWS OF THIS SEAT. 6 by the template 'for every input the law returns true; each argument reads behind the call as it read before'; 0 by the template 'total and deterministic' (their statements: Qxb6614755aTotals.lean).
  GIVEN WITH THE SEED: the statements are not yours to turn. If you find one false, say at which input.
  Laid BY PROGRAM, IN A SANDBOX (cutbox-rows.mjs): the forced cells as the released guide's own fill.sh prints them over the translation 0337f69cfd19c0e5… (all of the seat's roots in one cut). By AI agents, Wed Nov 11 2026. No macro, syntax, notation, axiom, sorry.
-/
import Derived.Test.Qxb6614755aChecked
import GoSem.Claim
import GoSem.ClaimJoined
import GoSem.ClaimMapViews
import Derived.JoinedTies
import Derived.KernelRfl
namespace Go.Proofs.Qxb6614755a
/- THE CELL 'sum', in the pinned program and in every row, IS THE sha256 OF THE DUMP (.gsa) THAT Qxb6614755aProg.lean LOADS. Nothing in Lean hashes anything: it is a label: what it is worth is what the hold of that sum in a sandbox is worth. -/
noncomputable def Try.pinned : Pinned := { name := "qxb6614755a", sum := "0337f69cfd19c0e5baa44829342adf7382ac0bada92b5203c22a1561aa9b02e4", checked := Try.checked }
namespace Rows
def none {H : Type} : Left H := { results := [], args := [] }

/-- 'zzlaws_root_b1.FnDeleteDsdSetRemovesOnlyThatSet': WHATEVER THE INPUT: true; the input reads as it did. -/
def fnDeleteDsdSetRemovesOnlyThatSetSpec : ChangeSpec := { name := "fnDeleteDsdSetRemovesOnlyThatSet", fn := fun _ => fun
  | [d1, d2] => { results := [.lit (.bool true)], args := [d1, d2] }
  | _ => none }
def fnDeleteDsdSetRemovesOnlyThatSetRow : OpenClaim := { program := "qxb6614755a", sum := "0337f69cfd19c0e5baa44829342adf7382ac0bada92b5203c22a1561aa9b02e4", func := "example.com/role-ledger/role-ledger/zzlaws_root_b1.FnDeleteDsdSetRemovesOnlyThatSet", spec := "fnDeleteDsdSetRemovesOnlyThatSet", recurses := true, plainKeys := false, apart := false }
def FnDeleteDsdSetRemovesOnlyThatSetSaid : Prop := fnDeleteDsdSetRemovesOnlyThatSetRow.holds Try.pinned (OpenSpec.ofChange fnDeleteDsdSetRemovesOnlyThatSetSpec)

/-- ITS FALSE NEIGHBOUR: 'it returns false'. Refute it at one input. -/
def fnDeleteDsdSetRemovesOnlyThatSetWrong : ChangeSpec := { name := "fnDeleteDsdSetRemovesOnlyThatSet", fn := fun _ => fun
  | [d1, d2] => { results := [.lit (.bool false)], args := [d1, d2] }
  | _ => none }
def FnDeleteDsdSetRemovesOnlyThatSetWrongFalsely : Prop := fnDeleteDsdSetRemovesOnlyThatSetRow.holds Try.pinned (OpenSpec.ofChange fnDeleteDsdSetRemovesOnlyThatSetWrong)

/-- 'zzlaws_root_b1.FnDeleteDsdSetScript': WHATEVER THE INPUT: true; the input reads as it did. -/
def fnDeleteDsdSetScriptSpec : ChangeSpec := { name := "fnDeleteDsdSetScript", fn := fun _ => fun
  | [d1, d2] => { results := [.lit (.bool true)], args := [d1, d2] }
  | _ => none }
def fnDeleteDsdSetScriptRow : OpenClaim := { program := "qxb6614755a", sum := "0337f69cfd19c0e5baa44829342adf7382ac0bada92b5203c22a1561aa9b02e4", func := "example.com/role-ledger/role-ledger/zzlaws_root_b1.FnDeleteDsdSetScript", spec := "fnDeleteDsdSetScript", recurses := true, plainKeys := false, apart := false }
def FnDeleteDsdSetScriptSaid : Prop := fnDeleteDsdSetScriptRow.holds Try.pinned (OpenSpec.ofChange fnDeleteDsdSetScriptSpec)

/-- ITS FALSE NEIGHBOUR: 'it returns false'. Refute it at one input. -/
def fnDeleteDsdSetScriptWrong : ChangeSpec := { name := "fnDeleteDsdSetScript", fn := fun _ => fun
  | [d1, d2] => { results := [.lit (.bool false)], args := [d1, d2] }
  | _ => none }
def FnDeleteDsdSetScriptWrongFalsely : Prop := fnDeleteDsdSetScriptRow.holds Try.pinned (OpenSpec.ofChange fnDeleteDsdSetScriptWrong)

/-- 'zzlaws_root_b1.FnNameSetSortedCutIsMergeUnion': WHATEVER THE INPUT: true; the input reads as it did. -/
def fnNameSetSortedCutIsMergeUnionSpec : ChangeSpec := { name := "fnNameSetSortedCutIsMergeUnion", fn := fun _ => fun
  | [d1, d2] => { results := [.lit (.bool true)], args := [d1, d2] }
  | _ => none }
def fnNameSetSortedCutIsMergeUnionRow : OpenClaim := { program := "qxb6614755a", sum := "0337f69cfd19c0e5baa44829342adf7382ac0bada92b5203c22a1561aa9b02e4", func := "example.com/role-ledger/role-ledger/zzlaws_root_b1.FnNameSetSortedCutIsMergeUnion", spec := "fnNameSetSortedCutIsMergeUnion", recurses := true, plainKeys := false, apart := false }
def FnNameSetSortedCutIsMergeUnionSaid : Prop := fnNameSetSortedCutIsMergeUnionRow.holds Try.pinned (OpenSpec.ofChange fnNameSetSortedCutIsMergeUnionSpec)

/-- ITS FALSE NEIGHBOUR: 'it returns false'. Refute it at one input. -/
def fnNameSetSortedCutIsMergeUnionWrong : ChangeSpec := { name := "fnNameSetSortedCutIsMergeUnion", fn := fun _ => fun
  | [d1, d2] => { results := [.lit (.bool false)], args := [d1, d2] }
  | _ => none }
def FnNameSetSortedCutIsMergeUnionWrongFalsely : Prop := fnNameSetSortedCutIsMergeUnionRow.holds Try.pinned (OpenSpec.ofChange fnNameSetSortedCutIsMergeUnionWrong)

/-- 'zzlaws_root_b1.FnNameSetSortedInsertOne': WHATEVER THE INPUT: true; the input reads as it did. -/
def fnNameSetSortedInsertOneSpec : ChangeSpec := { name := "fnNameSetSortedInsertOne", fn := fun _ => fun
  | [d1, d2] => { results := [.lit (.bool true)], args := [d1, d2] }
  | _ => none }
def fnNameSetSortedInsertOneRow : OpenClaim := { program := "qxb6614755a", sum := "0337f69cfd19c0e5baa44829342adf7382ac0bada92b5203c22a1561aa9b02e4", func := "example.com/role-ledger/role-ledger/zzlaws_root_b1.FnNameSetSortedInsertOne", spec := "fnNameSetSortedInsertOne", recurses := true, plainKeys := false, apart := false }
def FnNameSetSortedInsertOneSaid : Prop := fnNameSetSortedInsertOneRow.holds Try.pinned (OpenSpec.ofChange fnNameSetSortedInsertOneSpec)

/-- ITS FALSE NEIGHBOUR: 'it returns false'. Refute it at one input. -/
def fnNameSetSortedInsertOneWrong : ChangeSpec := { name := "fnNameSetSortedInsertOne", fn := fun _ => fun
  | [d1, d2] => { results := [.lit (.bool false)], args := [d1, d2] }
  | _ => none }
def FnNameSetSortedInsertOneWrongFalsely : Prop := fnNameSetSortedInsertOneRow.holds Try.pinned (OpenSpec.ofChange fnNameSetSortedInsertOneWrong)

/-- 'zzlaws_root_b1.FnUserPermissionsGrantAddsOne': WHATEVER THE INPUT: true; the input reads as it did. -/
def fnUserPermissionsGrantAddsOneSpec : ChangeSpec := { name := "fnUserPermissionsGrantAddsOne", fn := fun _ => fun
  | [d1, d2, d3, d4, d5, d6] => { results := [.lit (.bool true)], args := [d1, d2, d3, d4, d5, d6] }
  | _ => none }
def fnUserPermissionsGrantAddsOneRow : OpenClaim := { program := "qxb6614755a", sum := "0337f69cfd19c0e5baa44829342adf7382ac0bada92b5203c22a1561aa9b02e4", func := "example.com/role-ledger/role-ledger/zzlaws_root_b1.FnUserPermissionsGrantAddsOne", spec := "fnUserPermissionsGrantAddsOne", inPlace := ["internal/reflectlite.ValueOf", "internal/reflectlite.Swapper", "(internal/reflectlite.Value).Len"], unfollowed := true, recurses := true, plainKeys := false, apart := false }
def FnUserPermissionsGrantAddsOneSaid : Prop := fnUserPermissionsGrantAddsOneRow.holds Try.pinned (OpenSpec.ofChange fnUserPermissionsGrantAddsOneSpec)

/-- ITS FALSE NEIGHBOUR: 'it returns false'. Refute it at one input. -/
def fnUserPermissionsGrantAddsOneWrong : ChangeSpec := { name := "fnUserPermissionsGrantAddsOne", fn := fun _ => fun
  | [d1, d2, d3, d4, d5, d6] => { results := [.lit (.bool false)], args := [d1, d2, d3, d4, d5, d6] }
  | _ => none }
def FnUserPermissionsGrantAddsOneWrongFalsely : Prop := fnUserPermissionsGrantAddsOneRow.holds Try.pinned (OpenSpec.ofChange fnUserPermissionsGrantAddsOneWrong)

/-- 'zzlaws_root_b1.FnUserPermissionsJoinedUserIsUnion': WHATEVER THE INPUT: true; the input reads as it did. -/
def fnUserPermissionsJoinedUserIsUnionSpec : ChangeSpec := { name := "fnUserPermissionsJoinedUserIsUnion", fn := fun _ => fun
  | [d1, d2, d3, d4, d5] => { results := [.lit (.bool true)], args := [d1, d2, d3, d4, d5] }
  | _ => none }
def fnUserPermissionsJoinedUserIsUnionRow : OpenClaim := { program := "qxb6614755a", sum := "0337f69cfd19c0e5baa44829342adf7382ac0bada92b5203c22a1561aa9b02e4", func := "example.com/role-ledger/role-ledger/zzlaws_root_b1.FnUserPermissionsJoinedUserIsUnion", spec := "fnUserPermissionsJoinedUserIsUnion", inPlace := ["internal/reflectlite.ValueOf", "internal/reflectlite.Swapper", "(internal/reflectlite.Value).Len"], unfollowed := true, recurses := true, plainKeys := false, apart := false }
def FnUserPermissionsJoinedUserIsUnionSaid : Prop := fnUserPermissionsJoinedUserIsUnionRow.holds Try.pinned (OpenSpec.ofChange fnUserPermissionsJoinedUserIsUnionSpec)

/-- ITS FALSE NEIGHBOUR: 'it returns false'. Refute it at one input. -/
def fnUserPermissionsJoinedUserIsUnionWrong : ChangeSpec := { name := "fnUserPermissionsJoinedUserIsUnion", fn := fun _ => fun
  | [d1, d2, d3, d4, d5] => { results := [.lit (.bool false)], args := [d1, d2, d3, d4, d5] }
  | _ => none }
def FnUserPermissionsJoinedUserIsUnionWrongFalsely : Prop := fnUserPermissionsJoinedUserIsUnionRow.holds Try.pinned (OpenSpec.ofChange fnUserPermissionsJoinedUserIsUnionWrong)

end Rows
end Go.Proofs.Qxb6614755a
