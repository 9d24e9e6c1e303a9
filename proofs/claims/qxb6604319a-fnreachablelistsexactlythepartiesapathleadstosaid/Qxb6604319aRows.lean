/-
  No cell of these rows narrows 'for every input' (looked for: loops, veiled, ifaces, maps, wideKeys, modest, calm, conditions, laid).
  DERIVED. THE GIVEN ROWS OF THIS SEAT. 6 by the template 'for every input the law returns true; each argument reads behind the call as it read before'; 0 by the template 'total and deterministic' (their statements: Qxb6604319aTotals.lean).
  GIVEN WITH THE SEED: the statements are not yours to turn. If you find one false, say at which input.
  Laid BY PROGRAM, IN A SANDBOX (cutbox-rows.mjs): the forced cells as the released guide's own fill.sh prints them over the translation 407928ad4949c586… (all of the seat's roots in one cut). By AI agents, Wed Nov 11 2026. No macro, syntax, notation, axiom, sorry.
-/
import Derived.Test.Qxb6604319aChecked
import GoSem.Claim
import GoSem.ClaimJoined
import GoSem.ClaimMapViews
import Derived.JoinedTies
import Derived.KernelRfl
namespace Go.Proofs.Qxb6604319a
/- THE CELL 'sum', in the pinned program and in every row, IS THE sha256 OF THE DUMP (.gsa) THAT Qxb6604319aProg.lean LOADS. Nothing in Lean hashes anything: it is a label: what it is worth is what the hold of that sum in a sandbox is worth. -/
noncomputable def Try.pinned : Pinned := { name := "qxb6604319a", sum := "407928ad4949c586045d47028c025a5c56a91ccc4898323f34282e16410bfde2", checked := Try.checked }
namespace Rows
def none {H : Type} : Left H := { results := [], args := [] }

/-- 'zzlaws_protocols_polarizer_b1.FnDistancesAreShortestPathLengths': WHATEVER THE INPUT: true; the input reads as it did. -/
def fnDistancesAreShortestPathLengthsSpec : ChangeSpec := { name := "fnDistancesAreShortestPathLengths", fn := fun _ => fun
  | [d1, d2, d3, d4] => { results := [.lit (.bool true)], args := [d1, d2, d3, d4] }
  | _ => none }
def fnDistancesAreShortestPathLengthsRow : OpenClaim := { program := "qxb6604319a", sum := "407928ad4949c586045d47028c025a5c56a91ccc4898323f34282e16410bfde2", func := "example.com/roundstone/roundstone/zzlaws_protocols_polarizer_b1.FnDistancesAreShortestPathLengths", spec := "fnDistancesAreShortestPathLengths", apart := false }
def FnDistancesAreShortestPathLengthsSaid : Prop := fnDistancesAreShortestPathLengthsRow.holds Try.pinned (OpenSpec.ofChange fnDistancesAreShortestPathLengthsSpec)

/-- ITS FALSE NEIGHBOUR: 'it returns false'. Refute it at one input. -/
def fnDistancesAreShortestPathLengthsWrong : ChangeSpec := { name := "fnDistancesAreShortestPathLengths", fn := fun _ => fun
  | [d1, d2, d3, d4] => { results := [.lit (.bool false)], args := [d1, d2, d3, d4] }
  | _ => none }
def FnDistancesAreShortestPathLengthsWrongFalsely : Prop := fnDistancesAreShortestPathLengthsRow.holds Try.pinned (OpenSpec.ofChange fnDistancesAreShortestPathLengthsWrong)

/-- 'zzlaws_protocols_polarizer_b1.FnDistancesKeepTheTriangleInequality': WHATEVER THE INPUT: true; the input reads as it did. -/
def fnDistancesKeepTheTriangleInequalitySpec : ChangeSpec := { name := "fnDistancesKeepTheTriangleInequality", fn := fun _ => fun
  | [d1, d2, d3, d4, d5, d6] => { results := [.lit (.bool true)], args := [d1, d2, d3, d4, d5, d6] }
  | _ => none }
def fnDistancesKeepTheTriangleInequalityRow : OpenClaim := { program := "qxb6604319a", sum := "407928ad4949c586045d47028c025a5c56a91ccc4898323f34282e16410bfde2", func := "example.com/roundstone/roundstone/zzlaws_protocols_polarizer_b1.FnDistancesKeepTheTriangleInequality", spec := "fnDistancesKeepTheTriangleInequality", apart := false }
def FnDistancesKeepTheTriangleInequalitySaid : Prop := fnDistancesKeepTheTriangleInequalityRow.holds Try.pinned (OpenSpec.ofChange fnDistancesKeepTheTriangleInequalitySpec)

/-- ITS FALSE NEIGHBOUR: 'it returns false'. Refute it at one input. -/
def fnDistancesKeepTheTriangleInequalityWrong : ChangeSpec := { name := "fnDistancesKeepTheTriangleInequality", fn := fun _ => fun
  | [d1, d2, d3, d4, d5, d6] => { results := [.lit (.bool false)], args := [d1, d2, d3, d4, d5, d6] }
  | _ => none }
def FnDistancesKeepTheTriangleInequalityWrongFalsely : Prop := fnDistancesKeepTheTriangleInequalityRow.holds Try.pinned (OpenSpec.ofChange fnDistancesKeepTheTriangleInequalityWrong)

/-- 'zzlaws_protocols_polarizer_b1.FnDistancesAreSymmetricOnAnUndirectedGraph': WHATEVER THE INPUT: true; the input reads as it did. -/
def fnDistancesAreSymmetricOnAnUndirectedGraphSpec : ChangeSpec := { name := "fnDistancesAreSymmetricOnAnUndirectedGraph", fn := fun _ => fun
  | [d1, d2, d3, d4, d5] => { results := [.lit (.bool true)], args := [d1, d2, d3, d4, d5] }
  | _ => none }
def fnDistancesAreSymmetricOnAnUndirectedGraphRow : OpenClaim := { program := "qxb6604319a", sum := "407928ad4949c586045d47028c025a5c56a91ccc4898323f34282e16410bfde2", func := "example.com/roundstone/roundstone/zzlaws_protocols_polarizer_b1.FnDistancesAreSymmetricOnAnUndirectedGraph", spec := "fnDistancesAreSymmetricOnAnUndirectedGraph", apart := false }
def FnDistancesAreSymmetricOnAnUndirectedGraphSaid : Prop := fnDistancesAreSymmetricOnAnUndirectedGraphRow.holds Try.pinned (OpenSpec.ofChange fnDistancesAreSymmetricOnAnUndirectedGraphSpec)

/-- ITS FALSE NEIGHBOUR: 'it returns false'. Refute it at one input. -/
def fnDistancesAreSymmetricOnAnUndirectedGraphWrong : ChangeSpec := { name := "fnDistancesAreSymmetricOnAnUndirectedGraph", fn := fun _ => fun
  | [d1, d2, d3, d4, d5] => { results := [.lit (.bool false)], args := [d1, d2, d3, d4, d5] }
  | _ => none }
def FnDistancesAreSymmetricOnAnUndirectedGraphWrongFalsely : Prop := fnDistancesAreSymmetricOnAnUndirectedGraphRow.holds Try.pinned (OpenSpec.ofChange fnDistancesAreSymmetricOnAnUndirectedGraphWrong)

/-- 'zzlaws_protocols_polarizer_b1.FnReachableListsExactlyThePartiesAPathLeadsTo': WHATEVER THE INPUT: true; the input reads as it did. -/
def fnReachableListsExactlyThePartiesAPathLeadsToSpec : ChangeSpec := { name := "fnReachableListsExactlyThePartiesAPathLeadsTo", fn := fun _ => fun
  | [d1, d2, d3, d4] => { results := [.lit (.bool true)], args := [d1, d2, d3, d4] }
  | _ => none }
def fnReachableListsExactlyThePartiesAPathLeadsToRow : OpenClaim := { program := "qxb6604319a", sum := "407928ad4949c586045d47028c025a5c56a91ccc4898323f34282e16410bfde2", func := "example.com/roundstone/roundstone/zzlaws_protocols_polarizer_b1.FnReachableListsExactlyThePartiesAPathLeadsTo", spec := "fnReachableListsExactlyThePartiesAPathLeadsTo", apart := false }
def FnReachableListsExactlyThePartiesAPathLeadsToSaid : Prop := fnReachableListsExactlyThePartiesAPathLeadsToRow.holds Try.pinned (OpenSpec.ofChange fnReachableListsExactlyThePartiesAPathLeadsToSpec)

/-- ITS FALSE NEIGHBOUR: 'it returns false'. Refute it at one input. -/
def fnReachableListsExactlyThePartiesAPathLeadsToWrong : ChangeSpec := { name := "fnReachableListsExactlyThePartiesAPathLeadsTo", fn := fun _ => fun
  | [d1, d2, d3, d4] => { results := [.lit (.bool false)], args := [d1, d2, d3, d4] }
  | _ => none }
def FnReachableListsExactlyThePartiesAPathLeadsToWrongFalsely : Prop := fnReachableListsExactlyThePartiesAPathLeadsToRow.holds Try.pinned (OpenSpec.ofChange fnReachableListsExactlyThePartiesAPathLeadsToWrong)

/-- 'zzlaws_protocols_polarizer_b1.FnNewGraphIsTheCompleteGraph': WHATEVER THE INPUT: true; the input reads as it did. -/
def fnNewGraphIsTheCompleteGraphSpec : ChangeSpec := { name := "fnNewGraphIsTheCompleteGraph", fn := fun _ => fun
  | [d1, d2] => { results := [.lit (.bool true)], args := [d1, d2] }
  | _ => none }
def fnNewGraphIsTheCompleteGraphRow : OpenClaim := { program := "qxb6604319a", sum := "407928ad4949c586045d47028c025a5c56a91ccc4898323f34282e16410bfde2", func := "example.com/roundstone/roundstone/zzlaws_protocols_polarizer_b1.FnNewGraphIsTheCompleteGraph", spec := "fnNewGraphIsTheCompleteGraph", apart := false }
def FnNewGraphIsTheCompleteGraphSaid : Prop := fnNewGraphIsTheCompleteGraphRow.holds Try.pinned (OpenSpec.ofChange fnNewGraphIsTheCompleteGraphSpec)

/-- ITS FALSE NEIGHBOUR: 'it returns false'. Refute it at one input. -/
def fnNewGraphIsTheCompleteGraphWrong : ChangeSpec := { name := "fnNewGraphIsTheCompleteGraph", fn := fun _ => fun
  | [d1, d2] => { results := [.lit (.bool false)], args := [d1, d2] }
  | _ => none }
def FnNewGraphIsTheCompleteGraphWrongFalsely : Prop := fnNewGraphIsTheCompleteGraphRow.holds Try.pinned (OpenSpec.ofChange fnNewGraphIsTheCompleteGraphWrong)

/-- 'zzlaws_protocols_polarizer_b1.FnNewGraphPutsEveryPartyOneStepFromEveryOther': WHATEVER THE INPUT: true; the input reads as it did. -/
def fnNewGraphPutsEveryPartyOneStepFromEveryOtherSpec : ChangeSpec := { name := "fnNewGraphPutsEveryPartyOneStepFromEveryOther", fn := fun _ => fun
  | [d1, d2, d3, d4, d5] => { results := [.lit (.bool true)], args := [d1, d2, d3, d4, d5] }
  | _ => none }
def fnNewGraphPutsEveryPartyOneStepFromEveryOtherRow : OpenClaim := { program := "qxb6604319a", sum := "407928ad4949c586045d47028c025a5c56a91ccc4898323f34282e16410bfde2", func := "example.com/roundstone/roundstone/zzlaws_protocols_polarizer_b1.FnNewGraphPutsEveryPartyOneStepFromEveryOther", spec := "fnNewGraphPutsEveryPartyOneStepFromEveryOther", apart := false }
def FnNewGraphPutsEveryPartyOneStepFromEveryOtherSaid : Prop := fnNewGraphPutsEveryPartyOneStepFromEveryOtherRow.holds Try.pinned (OpenSpec.ofChange fnNewGraphPutsEveryPartyOneStepFromEveryOtherSpec)

/-- ITS FALSE NEIGHBOUR: 'it returns false'. Refute it at one input. -/
def fnNewGraphPutsEveryPartyOneStepFromEveryOtherWrong : ChangeSpec := { name := "fnNewGraphPutsEveryPartyOneStepFromEveryOther", fn := fun _ => fun
  | [d1, d2, d3, d4, d5] => { results := [.lit (.bool false)], args := [d1, d2, d3, d4, d5] }
  | _ => none }
def FnNewGraphPutsEveryPartyOneStepFromEveryOtherWrongFalsely : Prop := fnNewGraphPutsEveryPartyOneStepFromEveryOtherRow.holds Try.pinned (OpenSpec.ofChange fnNewGraphPutsEveryPartyOneStepFromEveryOtherWrong)

end Rows
end Go.Proofs.Qxb6604319a
