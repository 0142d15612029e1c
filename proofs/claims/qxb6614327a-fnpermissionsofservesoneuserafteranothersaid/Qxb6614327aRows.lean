/-
  No cell of these rows narrows 'for every input' (looked for: loops, veiled, ifaces, maps, wideKeys, modest, calm, conditions, laid).
  DERIVED. THE GIVEN ROWS OF THIS SEAT. 4 by the template 'for every input the law returns true; each argument reads behind the call as it read before'; 0 by the template 'total and deterministic' (their statements: Qxb6614327aTotals.lean).
  GIVEN WITH THE SEED: the statements are not yours to turn. If you find one false, say at which input.
  Laid BY PROGRAM, IN A SANDBOX (cutbox-rows.mjs): the forced cells as the released guide's own fill.sh prints them over the translation 7aa88522537389e1… (all of the seat's roots in one cut). By AI agents, Wed Nov 11 2026. No macro, syntax, notation, axiom, sorry.
-/
import Derived.Test.Qxb6614327aChecked
import GoSem.Claim
import GoSem.ClaimJoined
import GoSem.ClaimMapViews
import Derived.JoinedTies
import Derived.KernelRfl
namespace Go.Proofs.Qxb6614327a
/- THE CELL 'sum', in the pinned program and in every row, IS THE sha256 OF THE DUMP (.gsa) THAT Qxb6614327aProg.lean LOADS. Nothing in Lean hashes anything: it is a label: what it is worth is what the hold of that sum in a sandbox is worth. -/
noncomputable def Try.pinned : Pinned := { name := "qxb6614327a", sum := "7aa88522537389e1f1c42e55c332d41cf56e08eadbd5960f4562b0d3844f076b", checked := Try.checked }
namespace Rows
def none {H : Type} : Left H := { results := [], args := [] }

/-- 'zzlaws_internal_access_b1.FnAnyHasAgreesWithPermissionsOf': WHATEVER THE INPUT: true; the input reads as it did. -/
def fnAnyHasAgreesWithPermissionsOfSpec : ChangeSpec := { name := "fnAnyHasAgreesWithPermissionsOf", fn := fun _ => fun
  | [d1, d2] => { results := [.lit (.bool true)], args := [d1, d2] }
  | _ => none }
def fnAnyHasAgreesWithPermissionsOfRow : OpenClaim := { program := "qxb6614327a", sum := "7aa88522537389e1f1c42e55c332d41cf56e08eadbd5960f4562b0d3844f076b", func := "example.com/rolewright/rolewright/zzlaws_internal_access_b1.FnAnyHasAgreesWithPermissionsOf", spec := "fnAnyHasAgreesWithPermissionsOf", unfollowed := true, recurses := true, apart := false }
def FnAnyHasAgreesWithPermissionsOfSaid : Prop := fnAnyHasAgreesWithPermissionsOfRow.holds Try.pinned (OpenSpec.ofChange fnAnyHasAgreesWithPermissionsOfSpec)

/-- ITS FALSE NEIGHBOUR: 'it returns false'. Refute it at one input. -/
def fnAnyHasAgreesWithPermissionsOfWrong : ChangeSpec := { name := "fnAnyHasAgreesWithPermissionsOf", fn := fun _ => fun
  | [d1, d2] => { results := [.lit (.bool false)], args := [d1, d2] }
  | _ => none }
def FnAnyHasAgreesWithPermissionsOfWrongFalsely : Prop := fnAnyHasAgreesWithPermissionsOfRow.holds Try.pinned (OpenSpec.ofChange fnAnyHasAgreesWithPermissionsOfWrong)

/-- 'zzlaws_internal_access_b1.FnAnyHasSplitsAtAnyCut': WHATEVER THE INPUT: true; the input reads as it did. -/
def fnAnyHasSplitsAtAnyCutSpec : ChangeSpec := { name := "fnAnyHasSplitsAtAnyCut", fn := fun _ => fun
  | [d1, d2, d3] => { results := [.lit (.bool true)], args := [d1, d2, d3] }
  | _ => none }
def fnAnyHasSplitsAtAnyCutRow : OpenClaim := { program := "qxb6614327a", sum := "7aa88522537389e1f1c42e55c332d41cf56e08eadbd5960f4562b0d3844f076b", func := "example.com/rolewright/rolewright/zzlaws_internal_access_b1.FnAnyHasSplitsAtAnyCut", spec := "fnAnyHasSplitsAtAnyCut", unfollowed := true, recurses := true, apart := false }
def FnAnyHasSplitsAtAnyCutSaid : Prop := fnAnyHasSplitsAtAnyCutRow.holds Try.pinned (OpenSpec.ofChange fnAnyHasSplitsAtAnyCutSpec)

/-- ITS FALSE NEIGHBOUR: 'it returns false'. Refute it at one input. -/
def fnAnyHasSplitsAtAnyCutWrong : ChangeSpec := { name := "fnAnyHasSplitsAtAnyCut", fn := fun _ => fun
  | [d1, d2, d3] => { results := [.lit (.bool false)], args := [d1, d2, d3] }
  | _ => none }
def FnAnyHasSplitsAtAnyCutWrongFalsely : Prop := fnAnyHasSplitsAtAnyCutRow.holds Try.pinned (OpenSpec.ofChange fnAnyHasSplitsAtAnyCutWrong)

/-- 'zzlaws_internal_access_b1.FnPermissionsOfListsEachOnceAndKeepsThemInSeen': WHATEVER THE INPUT: true; the input reads as it did. -/
def fnPermissionsOfListsEachOnceAndKeepsThemInSeenSpec : ChangeSpec := { name := "fnPermissionsOfListsEachOnceAndKeepsThemInSeen", fn := fun _ => fun
  | [d1, d2] => { results := [.lit (.bool true)], args := [d1, d2] }
  | _ => none }
def fnPermissionsOfListsEachOnceAndKeepsThemInSeenRow : OpenClaim := { program := "qxb6614327a", sum := "7aa88522537389e1f1c42e55c332d41cf56e08eadbd5960f4562b0d3844f076b", func := "example.com/rolewright/rolewright/zzlaws_internal_access_b1.FnPermissionsOfListsEachOnceAndKeepsThemInSeen", spec := "fnPermissionsOfListsEachOnceAndKeepsThemInSeen", unfollowed := true, recurses := true, apart := false }
def FnPermissionsOfListsEachOnceAndKeepsThemInSeenSaid : Prop := fnPermissionsOfListsEachOnceAndKeepsThemInSeenRow.holds Try.pinned (OpenSpec.ofChange fnPermissionsOfListsEachOnceAndKeepsThemInSeenSpec)

/-- ITS FALSE NEIGHBOUR: 'it returns false'. Refute it at one input. -/
def fnPermissionsOfListsEachOnceAndKeepsThemInSeenWrong : ChangeSpec := { name := "fnPermissionsOfListsEachOnceAndKeepsThemInSeen", fn := fun _ => fun
  | [d1, d2] => { results := [.lit (.bool false)], args := [d1, d2] }
  | _ => none }
def FnPermissionsOfListsEachOnceAndKeepsThemInSeenWrongFalsely : Prop := fnPermissionsOfListsEachOnceAndKeepsThemInSeenRow.holds Try.pinned (OpenSpec.ofChange fnPermissionsOfListsEachOnceAndKeepsThemInSeenWrong)

/-- 'zzlaws_internal_access_b1.FnPermissionsOfServesOneUserAfterAnother': WHATEVER THE INPUT: true; the input reads as it did. -/
def fnPermissionsOfServesOneUserAfterAnotherSpec : ChangeSpec := { name := "fnPermissionsOfServesOneUserAfterAnother", fn := fun _ => fun
  | [d1, d2, d3] => { results := [.lit (.bool true)], args := [d1, d2, d3] }
  | _ => none }
def fnPermissionsOfServesOneUserAfterAnotherRow : OpenClaim := { program := "qxb6614327a", sum := "7aa88522537389e1f1c42e55c332d41cf56e08eadbd5960f4562b0d3844f076b", func := "example.com/rolewright/rolewright/zzlaws_internal_access_b1.FnPermissionsOfServesOneUserAfterAnother", spec := "fnPermissionsOfServesOneUserAfterAnother", unfollowed := true, recurses := true, apart := false }
def FnPermissionsOfServesOneUserAfterAnotherSaid : Prop := fnPermissionsOfServesOneUserAfterAnotherRow.holds Try.pinned (OpenSpec.ofChange fnPermissionsOfServesOneUserAfterAnotherSpec)

/-- ITS FALSE NEIGHBOUR: 'it returns false'. Refute it at one input. -/
def fnPermissionsOfServesOneUserAfterAnotherWrong : ChangeSpec := { name := "fnPermissionsOfServesOneUserAfterAnother", fn := fun _ => fun
  | [d1, d2, d3] => { results := [.lit (.bool false)], args := [d1, d2, d3] }
  | _ => none }
def FnPermissionsOfServesOneUserAfterAnotherWrongFalsely : Prop := fnPermissionsOfServesOneUserAfterAnotherRow.holds Try.pinned (OpenSpec.ofChange fnPermissionsOfServesOneUserAfterAnotherWrong)

end Rows
end Go.Proofs.Qxb6614327a
