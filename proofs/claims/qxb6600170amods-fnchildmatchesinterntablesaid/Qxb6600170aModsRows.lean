/-
  No cell of these rows narrows 'for every input' (looked for: loops, veiled, ifaces, maps, wideKeys, modest, calm, conditions, laid).
  DERIVED. THE GIVEN ROWS OF THIS SEAT. 4 by the template 'for every input the law returns true; each argument reads behind the call as it read before'; 0 by the template 'total and deterministic' (their statements: Qxb6600170aModsTotals.lean).
  GIVEN WITH THE SEED: the statements are not yours to turn. If you find one false, say at which input.
  Laid BY PROGRAM, IN A SANDBOX (cutbox-rows.mjs): the forced cells as the released guide's own fill.sh prints them over the translation 7b318dc054b50e6c… (all of the seat's roots in one cut). By AI agents, Wed Nov 11 2026. No macro, syntax, notation, axiom, sorry.
-/
import Derived.Test.Qxb6600170aModsChecked
import GoSem.Claim
import GoSem.ClaimJoined
import GoSem.ClaimMapViews
import Derived.JoinedTies
import Derived.KernelRfl
namespace Go.Proofs.Qxb6600170aMods
/- THE CELL 'sum', in the pinned program and in every row, IS THE sha256 OF THE DUMP (.gsa) THAT Qxb6600170aModsProg.lean LOADS. Nothing in Lean hashes anything: it is a label: what it is worth is what the hold of that sum in a sandbox is worth. -/
noncomputable def Trym.pinned : Pinned := { name := "qxb6600170amods", sum := "7b318dc054b50e6cb206c79861be2584ecf9e0dc94ec55d9454ad95080be82f2", checked := Trym.checked }
namespace Rows
def none {H : Type} : Left H := { results := [], args := [] }

/-- 'zzlaws_internal_sim_b1.FnChildMatchesInternTable': WHATEVER THE INPUT: true; the input reads as it did. -/
def fnChildMatchesInternTableSpec : ChangeSpec := { name := "fnChildMatchesInternTable", fn := fun _ => fun
  | [d1, d2] => { results := [.lit (.bool true)], args := [d1, d2] }
  | _ => none }
def fnChildMatchesInternTableRow : OpenClaim := { program := "qxb6600170amods", sum := "7b318dc054b50e6cb206c79861be2584ecf9e0dc94ec55d9454ad95080be82f2", func := "example.com/quorumlog/quorumlog/zzlaws_internal_sim_b1.FnChildMatchesInternTable", spec := "fnChildMatchesInternTable", make := .lifted ["publicsums"], apart := false }
def FnChildMatchesInternTableSaid : Prop := fnChildMatchesInternTableRow.holds Trym.pinned (OpenSpec.ofChange fnChildMatchesInternTableSpec)

/-- ITS FALSE NEIGHBOUR: 'it returns false'. Refute it at one input. -/
def fnChildMatchesInternTableWrong : ChangeSpec := { name := "fnChildMatchesInternTable", fn := fun _ => fun
  | [d1, d2] => { results := [.lit (.bool false)], args := [d1, d2] }
  | _ => none }
def FnChildMatchesInternTableWrongFalsely : Prop := fnChildMatchesInternTableRow.holds Trym.pinned (OpenSpec.ofChange fnChildMatchesInternTableWrong)

/-- 'zzlaws_internal_sim_b1.FnChildPathsMeetAtCommonPrefix': WHATEVER THE INPUT: true; the input reads as it did. -/
def fnChildPathsMeetAtCommonPrefixSpec : ChangeSpec := { name := "fnChildPathsMeetAtCommonPrefix", fn := fun _ => fun
  | [d1, d2] => { results := [.lit (.bool true)], args := [d1, d2] }
  | _ => none }
def fnChildPathsMeetAtCommonPrefixRow : OpenClaim := { program := "qxb6600170amods", sum := "7b318dc054b50e6cb206c79861be2584ecf9e0dc94ec55d9454ad95080be82f2", func := "example.com/quorumlog/quorumlog/zzlaws_internal_sim_b1.FnChildPathsMeetAtCommonPrefix", spec := "fnChildPathsMeetAtCommonPrefix", make := .lifted ["publicsums"], apart := false }
def FnChildPathsMeetAtCommonPrefixSaid : Prop := fnChildPathsMeetAtCommonPrefixRow.holds Trym.pinned (OpenSpec.ofChange fnChildPathsMeetAtCommonPrefixSpec)

/-- ITS FALSE NEIGHBOUR: 'it returns false'. Refute it at one input. -/
def fnChildPathsMeetAtCommonPrefixWrong : ChangeSpec := { name := "fnChildPathsMeetAtCommonPrefix", fn := fun _ => fun
  | [d1, d2] => { results := [.lit (.bool false)], args := [d1, d2] }
  | _ => none }
def FnChildPathsMeetAtCommonPrefixWrongFalsely : Prop := fnChildPathsMeetAtCommonPrefixRow.holds Trym.pinned (OpenSpec.ofChange fnChildPathsMeetAtCommonPrefixWrong)

/-- 'zzlaws_internal_sim_b1.FnChildThenLastGivesBackCommands': WHATEVER THE INPUT: true; the input reads as it did. -/
def fnChildThenLastGivesBackCommandsSpec : ChangeSpec := { name := "fnChildThenLastGivesBackCommands", fn := fun _ => fun
  | [d1, d2] => { results := [.lit (.bool true)], args := [d1, d2] }
  | _ => none }
def fnChildThenLastGivesBackCommandsRow : OpenClaim := { program := "qxb6600170amods", sum := "7b318dc054b50e6cb206c79861be2584ecf9e0dc94ec55d9454ad95080be82f2", func := "example.com/quorumlog/quorumlog/zzlaws_internal_sim_b1.FnChildThenLastGivesBackCommands", spec := "fnChildThenLastGivesBackCommands", make := .lifted ["publicsums"], apart := false }
def FnChildThenLastGivesBackCommandsSaid : Prop := fnChildThenLastGivesBackCommandsRow.holds Trym.pinned (OpenSpec.ofChange fnChildThenLastGivesBackCommandsSpec)

/-- ITS FALSE NEIGHBOUR: 'it returns false'. Refute it at one input. -/
def fnChildThenLastGivesBackCommandsWrong : ChangeSpec := { name := "fnChildThenLastGivesBackCommands", fn := fun _ => fun
  | [d1, d2] => { results := [.lit (.bool false)], args := [d1, d2] }
  | _ => none }
def FnChildThenLastGivesBackCommandsWrongFalsely : Prop := fnChildThenLastGivesBackCommandsRow.holds Trym.pinned (OpenSpec.ofChange fnChildThenLastGivesBackCommandsWrong)

/-- 'zzlaws_internal_sim_b1.FnLastIsSuffixOfLonger': WHATEVER THE INPUT: true; the input reads as it did. -/
def fnLastIsSuffixOfLongerSpec : ChangeSpec := { name := "fnLastIsSuffixOfLonger", fn := fun _ => fun
  | [d1, d2, d3] => { results := [.lit (.bool true)], args := [d1, d2, d3] }
  | _ => none }
def fnLastIsSuffixOfLongerRow : OpenClaim := { program := "qxb6600170amods", sum := "7b318dc054b50e6cb206c79861be2584ecf9e0dc94ec55d9454ad95080be82f2", func := "example.com/quorumlog/quorumlog/zzlaws_internal_sim_b1.FnLastIsSuffixOfLonger", spec := "fnLastIsSuffixOfLonger", make := .lifted ["publicsums"], apart := false }
def FnLastIsSuffixOfLongerSaid : Prop := fnLastIsSuffixOfLongerRow.holds Trym.pinned (OpenSpec.ofChange fnLastIsSuffixOfLongerSpec)

/-- ITS FALSE NEIGHBOUR: 'it returns false'. Refute it at one input. -/
def fnLastIsSuffixOfLongerWrong : ChangeSpec := { name := "fnLastIsSuffixOfLonger", fn := fun _ => fun
  | [d1, d2, d3] => { results := [.lit (.bool false)], args := [d1, d2, d3] }
  | _ => none }
def FnLastIsSuffixOfLongerWrongFalsely : Prop := fnLastIsSuffixOfLongerRow.holds Trym.pinned (OpenSpec.ofChange fnLastIsSuffixOfLongerWrong)

end Rows
end Go.Proofs.Qxb6600170aMods
