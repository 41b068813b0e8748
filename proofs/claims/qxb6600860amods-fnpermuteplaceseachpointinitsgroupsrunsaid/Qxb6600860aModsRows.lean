/-
  No cell of these rows narrows 'for every input' (looked for: loops, veiled, ifaces, maps, wideKeys, modest, calm, conditions, laid).
  DERIVED. THE GIVEN ROWS OF THIS SEAT. 6 by the template 'for every input the law returns true; each argument reads behind the call as it read before'; 0 by the template 'total and deterministic' (their statements: Qxb6600860aModsTotals.lean).
  GIVEN WITH THE SEED: the statements are not yours to turn. If you find one false, say at which input.
  Laid BY PROGRAM, IN A SANDBOX (cutbox-rows.mjs): the forced cells as the released guide's own fill.sh prints them over the translation 89b4a3b700cdbb98… (all of the seat's roots in one cut). By AI agents, Wed Nov 11 2026. No macro, syntax, notation, axiom, sorry.
-/
import Derived.Test.Qxb6600860aModsChecked
import GoSem.Claim
import GoSem.ClaimJoined
import GoSem.ClaimMapViews
import Derived.JoinedTies
import Derived.KernelRfl
namespace Go.Proofs.Qxb6600860aMods
/- THE CELL 'sum', in the pinned program and in every row, IS THE sha256 OF THE DUMP (.gsa) THAT Qxb6600860aModsProg.lean LOADS. Nothing in Lean hashes anything: it is a label: what it is worth is what the hold of that sum in a sandbox is worth. -/
noncomputable def Trym.pinned : Pinned := { name := "qxb6600860amods", sum := "89b4a3b700cdbb988dbb55bcc8fcd2f77aa5552ed69c1757df51201a18ba823b", checked := Trym.checked }
namespace Rows
def none {H : Type} : Left H := { results := [], args := [] }

/-- 'zzlaws_root_b1.FnNodeSetAddReportsFirstSighting': WHATEVER THE INPUT: true; the input reads as it did. -/
def fnNodeSetAddReportsFirstSightingSpec : ChangeSpec := { name := "fnNodeSetAddReportsFirstSighting", fn := fun _ => fun
  | [d1, d2] => { results := [.lit (.bool true)], args := [d1, d2] }
  | _ => none }
def fnNodeSetAddReportsFirstSightingRow : OpenClaim := { program := "qxb6600860amods", sum := "89b4a3b700cdbb988dbb55bcc8fcd2f77aa5552ed69c1757df51201a18ba823b", func := "example.com/ringshift/ringshift/zzlaws_root_b1.FnNodeSetAddReportsFirstSighting", spec := "fnNodeSetAddReportsFirstSighting", make := .lifted ["publicsums"], apart := false }
def FnNodeSetAddReportsFirstSightingSaid : Prop := fnNodeSetAddReportsFirstSightingRow.holds Trym.pinned (OpenSpec.ofChange fnNodeSetAddReportsFirstSightingSpec)

/-- ITS FALSE NEIGHBOUR: 'it returns false'. Refute it at one input. -/
def fnNodeSetAddReportsFirstSightingWrong : ChangeSpec := { name := "fnNodeSetAddReportsFirstSighting", fn := fun _ => fun
  | [d1, d2] => { results := [.lit (.bool false)], args := [d1, d2] }
  | _ => none }
def FnNodeSetAddReportsFirstSightingWrongFalsely : Prop := fnNodeSetAddReportsFirstSightingRow.holds Trym.pinned (OpenSpec.ofChange fnNodeSetAddReportsFirstSightingWrong)

/-- 'zzlaws_root_b1.FnNodeSetHoldsExactlyTheIdsAdded': WHATEVER THE INPUT: true; the input reads as it did. -/
def fnNodeSetHoldsExactlyTheIdsAddedSpec : ChangeSpec := { name := "fnNodeSetHoldsExactlyTheIdsAdded", fn := fun _ => fun
  | [d1, d2] => { results := [.lit (.bool true)], args := [d1, d2] }
  | _ => none }
def fnNodeSetHoldsExactlyTheIdsAddedRow : OpenClaim := { program := "qxb6600860amods", sum := "89b4a3b700cdbb988dbb55bcc8fcd2f77aa5552ed69c1757df51201a18ba823b", func := "example.com/ringshift/ringshift/zzlaws_root_b1.FnNodeSetHoldsExactlyTheIdsAdded", spec := "fnNodeSetHoldsExactlyTheIdsAdded", make := .lifted ["publicsums"], apart := false }
def FnNodeSetHoldsExactlyTheIdsAddedSaid : Prop := fnNodeSetHoldsExactlyTheIdsAddedRow.holds Trym.pinned (OpenSpec.ofChange fnNodeSetHoldsExactlyTheIdsAddedSpec)

/-- ITS FALSE NEIGHBOUR: 'it returns false'. Refute it at one input. -/
def fnNodeSetHoldsExactlyTheIdsAddedWrong : ChangeSpec := { name := "fnNodeSetHoldsExactlyTheIdsAdded", fn := fun _ => fun
  | [d1, d2] => { results := [.lit (.bool false)], args := [d1, d2] }
  | _ => none }
def FnNodeSetHoldsExactlyTheIdsAddedWrongFalsely : Prop := fnNodeSetHoldsExactlyTheIdsAddedRow.holds Trym.pinned (OpenSpec.ofChange fnNodeSetHoldsExactlyTheIdsAddedWrong)

/-- 'zzlaws_root_b1.FnHeldTokensAddHoldsAllInOrder': WHATEVER THE INPUT: true; the input reads as it did. -/
def fnHeldTokensAddHoldsAllInOrderSpec : ChangeSpec := { name := "fnHeldTokensAddHoldsAllInOrder", fn := fun _ => fun
  | [d] => { results := [.lit (.bool true)], args := [d] }
  | _ => none }
def fnHeldTokensAddHoldsAllInOrderRow : OpenClaim := { program := "qxb6600860amods", sum := "89b4a3b700cdbb988dbb55bcc8fcd2f77aa5552ed69c1757df51201a18ba823b", func := "example.com/ringshift/ringshift/zzlaws_root_b1.FnHeldTokensAddHoldsAllInOrder", spec := "fnHeldTokensAddHoldsAllInOrder", make := .lifted ["publicsums"], apart := false }
def FnHeldTokensAddHoldsAllInOrderSaid : Prop := fnHeldTokensAddHoldsAllInOrderRow.holds Trym.pinned (OpenSpec.ofChange fnHeldTokensAddHoldsAllInOrderSpec)

/-- ITS FALSE NEIGHBOUR: 'it returns false'. Refute it at one input. -/
def fnHeldTokensAddHoldsAllInOrderWrong : ChangeSpec := { name := "fnHeldTokensAddHoldsAllInOrder", fn := fun _ => fun
  | [d] => { results := [.lit (.bool false)], args := [d] }
  | _ => none }
def FnHeldTokensAddHoldsAllInOrderWrongFalsely : Prop := fnHeldTokensAddHoldsAllInOrderRow.holds Trym.pinned (OpenSpec.ofChange fnHeldTokensAddHoldsAllInOrderWrong)

/-- 'zzlaws_root_b1.FnHeldTokensAddNeverMovesWhatItHolds': WHATEVER THE INPUT: true; the input reads as it did. -/
def fnHeldTokensAddNeverMovesWhatItHoldsSpec : ChangeSpec := { name := "fnHeldTokensAddNeverMovesWhatItHolds", fn := fun _ => fun
  | [d1, d2] => { results := [.lit (.bool true)], args := [d1, d2] }
  | _ => none }
def fnHeldTokensAddNeverMovesWhatItHoldsRow : OpenClaim := { program := "qxb6600860amods", sum := "89b4a3b700cdbb988dbb55bcc8fcd2f77aa5552ed69c1757df51201a18ba823b", func := "example.com/ringshift/ringshift/zzlaws_root_b1.FnHeldTokensAddNeverMovesWhatItHolds", spec := "fnHeldTokensAddNeverMovesWhatItHolds", make := .lifted ["publicsums"], apart := false }
def FnHeldTokensAddNeverMovesWhatItHoldsSaid : Prop := fnHeldTokensAddNeverMovesWhatItHoldsRow.holds Trym.pinned (OpenSpec.ofChange fnHeldTokensAddNeverMovesWhatItHoldsSpec)

/-- ITS FALSE NEIGHBOUR: 'it returns false'. Refute it at one input. -/
def fnHeldTokensAddNeverMovesWhatItHoldsWrong : ChangeSpec := { name := "fnHeldTokensAddNeverMovesWhatItHolds", fn := fun _ => fun
  | [d1, d2] => { results := [.lit (.bool false)], args := [d1, d2] }
  | _ => none }
def FnHeldTokensAddNeverMovesWhatItHoldsWrongFalsely : Prop := fnHeldTokensAddNeverMovesWhatItHoldsRow.holds Trym.pinned (OpenSpec.ofChange fnHeldTokensAddNeverMovesWhatItHoldsWrong)

/-- 'zzlaws_root_b1.FnPermutePlacesEachPointInItsGroupsRun': WHATEVER THE INPUT: true; the input reads as it did. -/
def fnPermutePlacesEachPointInItsGroupsRunSpec : ChangeSpec := { name := "fnPermutePlacesEachPointInItsGroupsRun", fn := fun _ => fun
  | [d1, d2, d3, d4, d5, d6] => { results := [.lit (.bool true)], args := [d1, d2, d3, d4, d5, d6] }
  | _ => none }
def fnPermutePlacesEachPointInItsGroupsRunRow : OpenClaim := { program := "qxb6600860amods", sum := "89b4a3b700cdbb988dbb55bcc8fcd2f77aa5552ed69c1757df51201a18ba823b", func := "example.com/ringshift/ringshift/zzlaws_root_b1.FnPermutePlacesEachPointInItsGroupsRun", spec := "fnPermutePlacesEachPointInItsGroupsRun", make := .lifted ["publicsums"], apart := false }
def FnPermutePlacesEachPointInItsGroupsRunSaid : Prop := fnPermutePlacesEachPointInItsGroupsRunRow.holds Trym.pinned (OpenSpec.ofChange fnPermutePlacesEachPointInItsGroupsRunSpec)

/-- ITS FALSE NEIGHBOUR: 'it returns false'. Refute it at one input. -/
def fnPermutePlacesEachPointInItsGroupsRunWrong : ChangeSpec := { name := "fnPermutePlacesEachPointInItsGroupsRun", fn := fun _ => fun
  | [d1, d2, d3, d4, d5, d6] => { results := [.lit (.bool false)], args := [d1, d2, d3, d4, d5, d6] }
  | _ => none }
def FnPermutePlacesEachPointInItsGroupsRunWrongFalsely : Prop := fnPermutePlacesEachPointInItsGroupsRunRow.holds Trym.pinned (OpenSpec.ofChange fnPermutePlacesEachPointInItsGroupsRunWrong)

/-- 'zzlaws_root_b1.FnPermuteAgainMovesNothing': WHATEVER THE INPUT: true; the input reads as it did. -/
def fnPermuteAgainMovesNothingSpec : ChangeSpec := { name := "fnPermuteAgainMovesNothing", fn := fun _ => fun
  | [d1, d2, d3, d4, d5, d6] => { results := [.lit (.bool true)], args := [d1, d2, d3, d4, d5, d6] }
  | _ => none }
def fnPermuteAgainMovesNothingRow : OpenClaim := { program := "qxb6600860amods", sum := "89b4a3b700cdbb988dbb55bcc8fcd2f77aa5552ed69c1757df51201a18ba823b", func := "example.com/ringshift/ringshift/zzlaws_root_b1.FnPermuteAgainMovesNothing", spec := "fnPermuteAgainMovesNothing", make := .lifted ["publicsums"], apart := false }
def FnPermuteAgainMovesNothingSaid : Prop := fnPermuteAgainMovesNothingRow.holds Trym.pinned (OpenSpec.ofChange fnPermuteAgainMovesNothingSpec)

/-- ITS FALSE NEIGHBOUR: 'it returns false'. Refute it at one input. -/
def fnPermuteAgainMovesNothingWrong : ChangeSpec := { name := "fnPermuteAgainMovesNothing", fn := fun _ => fun
  | [d1, d2, d3, d4, d5, d6] => { results := [.lit (.bool false)], args := [d1, d2, d3, d4, d5, d6] }
  | _ => none }
def FnPermuteAgainMovesNothingWrongFalsely : Prop := fnPermuteAgainMovesNothingRow.holds Trym.pinned (OpenSpec.ofChange fnPermuteAgainMovesNothingWrong)

end Rows
end Go.Proofs.Qxb6600860aMods
