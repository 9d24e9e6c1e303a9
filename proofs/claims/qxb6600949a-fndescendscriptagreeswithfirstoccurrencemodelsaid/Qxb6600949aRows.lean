/-
  No cell of these rows narrows 'for every input' (looked for: loops, veiled, ifaces, maps, wideKeys, modest, calm, conditions, laid).
  DERIVED. THE GIVEN ROWS OF THIS SEAT. 2 by the template 'for every input the law returns true; each argument reads behind the call as it read before'; 0 by the template 'total and deterministic' (their statements: Qxb6600949aTotals.lean).
  GIVEN WITH THE SEED: the statements are not yours to turn. If you find one false, say at which input.
  Laid BY PROGRAM, IN A SANDBOX (cutbox-rows.mjs): the forced cells as the released guide's own fill.sh prints them over the translation 4435de2ab732e032… (all of the seat's roots in one cut). By AI agents, Wed Nov 11 2026. No macro, syntax, notation, axiom, sorry.
-/
import Derived.Test.Qxb6600949aChecked
import GoSem.Claim
import GoSem.ClaimJoined
import GoSem.ClaimMapViews
import Derived.JoinedTies
import Derived.KernelRfl
namespace Go.Proofs.Qxb6600949a
/- THE CELL 'sum', in the pinned program and in every row, IS THE sha256 OF THE DUMP (.gsa) THAT Qxb6600949aProg.lean LOADS. Nothing in Lean hashes anything: it is a label: what it is worth is what the hold of that sum in a sandbox is worth. -/
noncomputable def Try.pinned : Pinned := { name := "qxb6600949a", sum := "4435de2ab732e0328089ea23fd87decd13380f8147b465c20bdfbe4cd0de553b", checked := Try.checked }
namespace Rows
def none {H : Type} : Left H := { results := [], args := [] }

/-- 'zzlaws_pkg_config_b1.FnDescendScriptAgreesWithFirstOccurrenceModel': WHATEVER THE INPUT: true; the input reads as it did. -/
def fnDescendScriptAgreesWithFirstOccurrenceModelSpec : ChangeSpec := { name := "fnDescendScriptAgreesWithFirstOccurrenceModel", fn := fun _ => fun
  | [d1, d2, d3, d4, d5, d6, d7, d8] => { results := [.lit (.bool true)], args := [d1, d2, d3, d4, d5, d6, d7, d8] }
  | _ => none }
def fnDescendScriptAgreesWithFirstOccurrenceModelRow : OpenClaim := { program := "qxb6600949a", sum := "4435de2ab732e0328089ea23fd87decd13380f8147b465c20bdfbe4cd0de553b", func := "example.com/standfast/standfast/zzlaws_pkg_config_b1.FnDescendScriptAgreesWithFirstOccurrenceModel", spec := "fnDescendScriptAgreesWithFirstOccurrenceModel", apart := false }
def FnDescendScriptAgreesWithFirstOccurrenceModelSaid : Prop := fnDescendScriptAgreesWithFirstOccurrenceModelRow.holds Try.pinned (OpenSpec.ofChange fnDescendScriptAgreesWithFirstOccurrenceModelSpec)

/-- ITS FALSE NEIGHBOUR: 'it returns false'. Refute it at one input. -/
def fnDescendScriptAgreesWithFirstOccurrenceModelWrong : ChangeSpec := { name := "fnDescendScriptAgreesWithFirstOccurrenceModel", fn := fun _ => fun
  | [d1, d2, d3, d4, d5, d6, d7, d8] => { results := [.lit (.bool false)], args := [d1, d2, d3, d4, d5, d6, d7, d8] }
  | _ => none }
def FnDescendScriptAgreesWithFirstOccurrenceModelWrongFalsely : Prop := fnDescendScriptAgreesWithFirstOccurrenceModelRow.holds Try.pinned (OpenSpec.ofChange fnDescendScriptAgreesWithFirstOccurrenceModelWrong)

/-- 'zzlaws_pkg_config_b1.FnDescendDistinctKeysCommute': WHATEVER THE INPUT: true; the input reads as it did. -/
def fnDescendDistinctKeysCommuteSpec : ChangeSpec := { name := "fnDescendDistinctKeysCommute", fn := fun _ => fun
  | [d1, d2, d3, d4, d5, d6, d7, d8, d9, d10] => { results := [.lit (.bool true)], args := [d1, d2, d3, d4, d5, d6, d7, d8, d9, d10] }
  | _ => none }
def fnDescendDistinctKeysCommuteRow : OpenClaim := { program := "qxb6600949a", sum := "4435de2ab732e0328089ea23fd87decd13380f8147b465c20bdfbe4cd0de553b", func := "example.com/standfast/standfast/zzlaws_pkg_config_b1.FnDescendDistinctKeysCommute", spec := "fnDescendDistinctKeysCommute", apart := false }
def FnDescendDistinctKeysCommuteSaid : Prop := fnDescendDistinctKeysCommuteRow.holds Try.pinned (OpenSpec.ofChange fnDescendDistinctKeysCommuteSpec)

/-- ITS FALSE NEIGHBOUR: 'it returns false'. Refute it at one input. -/
def fnDescendDistinctKeysCommuteWrong : ChangeSpec := { name := "fnDescendDistinctKeysCommute", fn := fun _ => fun
  | [d1, d2, d3, d4, d5, d6, d7, d8, d9, d10] => { results := [.lit (.bool false)], args := [d1, d2, d3, d4, d5, d6, d7, d8, d9, d10] }
  | _ => none }
def FnDescendDistinctKeysCommuteWrongFalsely : Prop := fnDescendDistinctKeysCommuteRow.holds Try.pinned (OpenSpec.ofChange fnDescendDistinctKeysCommuteWrong)

end Rows
end Go.Proofs.Qxb6600949a
