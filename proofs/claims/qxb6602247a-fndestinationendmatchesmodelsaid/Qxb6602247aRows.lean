/-
  No cell of these rows narrows 'for every input' (looked for: loops, veiled, ifaces, maps, wideKeys, modest, calm, conditions, laid).
  DERIVED. THE GIVEN ROWS OF THIS SEAT. 5 by the template 'for every input the law returns true; each argument reads behind the call as it read before'; 0 by the template 'total and deterministic' (their statements: Qxb6602247aTotals.lean).
  GIVEN WITH THE SEED: the statements are not yours to turn. If you find one false, say at which input.
  Laid BY PROGRAM, IN A SANDBOX (cutbox-rows.mjs): the forced cells as the released guide's own fill.sh prints them over the translation 3eedf8cbcdd7888b… (all of the seat's roots in one cut). By AI agents, Wed Nov 11 2026. No macro, syntax, notation, axiom, sorry.
-/
import Derived.Test.Qxb6602247aChecked
import GoSem.Claim
import GoSem.ClaimJoined
import GoSem.ClaimMapViews
import Derived.JoinedTies
import Derived.KernelRfl
namespace Go.Proofs.Qxb6602247a
/- THE CELL 'sum', in the pinned program and in every row, IS THE sha256 OF THE DUMP (.gsa) THAT Qxb6602247aProg.lean LOADS. Nothing in Lean hashes anything: it is a label: what it is worth is what the hold of that sum in a sandbox is worth. -/
noncomputable def Try.pinned : Pinned := { name := "qxb6602247a", sum := "3eedf8cbcdd7888bc2b7e8aa958c31ce34bc382d787c3da7dba94331b962c5f1", checked := Try.checked }
namespace Rows
def none {H : Type} : Left H := { results := [], args := [] }

/-- 'zzlaws_internal_workflow_b1.FnDestinationEndMatchesModel': WHATEVER THE INPUT: true; the input reads as it did. -/
def fnDestinationEndMatchesModelSpec : ChangeSpec := { name := "fnDestinationEndMatchesModel", fn := fun _ => fun
  | [d1, d2] => { results := [.lit (.bool true)], args := [d1, d2] }
  | _ => none }
def fnDestinationEndMatchesModelRow : OpenClaim := { program := "qxb6602247a", sum := "3eedf8cbcdd7888bc2b7e8aa958c31ce34bc382d787c3da7dba94331b962c5f1", func := "example.com/enquiry-to-report/enquiry-to-report/zzlaws_internal_workflow_b1.FnDestinationEndMatchesModel", spec := "fnDestinationEndMatchesModel", inPlace := ["internal/bytealg.IndexByteString"], apart := false }
def FnDestinationEndMatchesModelSaid : Prop := fnDestinationEndMatchesModelRow.holds Try.pinned (OpenSpec.ofChange fnDestinationEndMatchesModelSpec)

/-- ITS FALSE NEIGHBOUR: 'it returns false'. Refute it at one input. -/
def fnDestinationEndMatchesModelWrong : ChangeSpec := { name := "fnDestinationEndMatchesModel", fn := fun _ => fun
  | [d1, d2] => { results := [.lit (.bool false)], args := [d1, d2] }
  | _ => none }
def FnDestinationEndMatchesModelWrongFalsely : Prop := fnDestinationEndMatchesModelRow.holds Try.pinned (OpenSpec.ofChange fnDestinationEndMatchesModelWrong)

/-- 'zzlaws_internal_workflow_b1.FnDestinationEndShiftsWithPrefix': WHATEVER THE INPUT: true; the input reads as it did. -/
def fnDestinationEndShiftsWithPrefixSpec : ChangeSpec := { name := "fnDestinationEndShiftsWithPrefix", fn := fun _ => fun
  | [d1, d2, d3] => { results := [.lit (.bool true)], args := [d1, d2, d3] }
  | _ => none }
def fnDestinationEndShiftsWithPrefixRow : OpenClaim := { program := "qxb6602247a", sum := "3eedf8cbcdd7888bc2b7e8aa958c31ce34bc382d787c3da7dba94331b962c5f1", func := "example.com/enquiry-to-report/enquiry-to-report/zzlaws_internal_workflow_b1.FnDestinationEndShiftsWithPrefix", spec := "fnDestinationEndShiftsWithPrefix", inPlace := ["internal/bytealg.IndexByteString"], apart := false }
def FnDestinationEndShiftsWithPrefixSaid : Prop := fnDestinationEndShiftsWithPrefixRow.holds Try.pinned (OpenSpec.ofChange fnDestinationEndShiftsWithPrefixSpec)

/-- ITS FALSE NEIGHBOUR: 'it returns false'. Refute it at one input. -/
def fnDestinationEndShiftsWithPrefixWrong : ChangeSpec := { name := "fnDestinationEndShiftsWithPrefix", fn := fun _ => fun
  | [d1, d2, d3] => { results := [.lit (.bool false)], args := [d1, d2, d3] }
  | _ => none }
def FnDestinationEndShiftsWithPrefixWrongFalsely : Prop := fnDestinationEndShiftsWithPrefixRow.holds Try.pinned (OpenSpec.ofChange fnDestinationEndShiftsWithPrefixWrong)

/-- 'zzlaws_internal_workflow_b1.FnDestinationEndIgnoresWhatFollows': WHATEVER THE INPUT: true; the input reads as it did. -/
def fnDestinationEndIgnoresWhatFollowsSpec : ChangeSpec := { name := "fnDestinationEndIgnoresWhatFollows", fn := fun _ => fun
  | [d1, d2, d3] => { results := [.lit (.bool true)], args := [d1, d2, d3] }
  | _ => none }
def fnDestinationEndIgnoresWhatFollowsRow : OpenClaim := { program := "qxb6602247a", sum := "3eedf8cbcdd7888bc2b7e8aa958c31ce34bc382d787c3da7dba94331b962c5f1", func := "example.com/enquiry-to-report/enquiry-to-report/zzlaws_internal_workflow_b1.FnDestinationEndIgnoresWhatFollows", spec := "fnDestinationEndIgnoresWhatFollows", inPlace := ["internal/bytealg.IndexByteString"], apart := false }
def FnDestinationEndIgnoresWhatFollowsSaid : Prop := fnDestinationEndIgnoresWhatFollowsRow.holds Try.pinned (OpenSpec.ofChange fnDestinationEndIgnoresWhatFollowsSpec)

/-- ITS FALSE NEIGHBOUR: 'it returns false'. Refute it at one input. -/
def fnDestinationEndIgnoresWhatFollowsWrong : ChangeSpec := { name := "fnDestinationEndIgnoresWhatFollows", fn := fun _ => fun
  | [d1, d2, d3] => { results := [.lit (.bool false)], args := [d1, d2, d3] }
  | _ => none }
def FnDestinationEndIgnoresWhatFollowsWrongFalsely : Prop := fnDestinationEndIgnoresWhatFollowsRow.holds Try.pinned (OpenSpec.ofChange fnDestinationEndIgnoresWhatFollowsWrong)

/-- 'zzlaws_internal_workflow_b1.FnTitleEndShiftsWithPrefix': WHATEVER THE INPUT: true; the input reads as it did. -/
def fnTitleEndShiftsWithPrefixSpec : ChangeSpec := { name := "fnTitleEndShiftsWithPrefix", fn := fun _ => fun
  | [d1, d2, d3] => { results := [.lit (.bool true)], args := [d1, d2, d3] }
  | _ => none }
def fnTitleEndShiftsWithPrefixRow : OpenClaim := { program := "qxb6602247a", sum := "3eedf8cbcdd7888bc2b7e8aa958c31ce34bc382d787c3da7dba94331b962c5f1", func := "example.com/enquiry-to-report/enquiry-to-report/zzlaws_internal_workflow_b1.FnTitleEndShiftsWithPrefix", spec := "fnTitleEndShiftsWithPrefix", inPlace := ["internal/bytealg.IndexByteString"], apart := false }
def FnTitleEndShiftsWithPrefixSaid : Prop := fnTitleEndShiftsWithPrefixRow.holds Try.pinned (OpenSpec.ofChange fnTitleEndShiftsWithPrefixSpec)

/-- ITS FALSE NEIGHBOUR: 'it returns false'. Refute it at one input. -/
def fnTitleEndShiftsWithPrefixWrong : ChangeSpec := { name := "fnTitleEndShiftsWithPrefix", fn := fun _ => fun
  | [d1, d2, d3] => { results := [.lit (.bool false)], args := [d1, d2, d3] }
  | _ => none }
def FnTitleEndShiftsWithPrefixWrongFalsely : Prop := fnTitleEndShiftsWithPrefixRow.holds Try.pinned (OpenSpec.ofChange fnTitleEndShiftsWithPrefixWrong)

/-- 'zzlaws_internal_workflow_b1.FnTitleEndIgnoresWhatFollows': WHATEVER THE INPUT: true; the input reads as it did. -/
def fnTitleEndIgnoresWhatFollowsSpec : ChangeSpec := { name := "fnTitleEndIgnoresWhatFollows", fn := fun _ => fun
  | [d1, d2, d3] => { results := [.lit (.bool true)], args := [d1, d2, d3] }
  | _ => none }
def fnTitleEndIgnoresWhatFollowsRow : OpenClaim := { program := "qxb6602247a", sum := "3eedf8cbcdd7888bc2b7e8aa958c31ce34bc382d787c3da7dba94331b962c5f1", func := "example.com/enquiry-to-report/enquiry-to-report/zzlaws_internal_workflow_b1.FnTitleEndIgnoresWhatFollows", spec := "fnTitleEndIgnoresWhatFollows", inPlace := ["internal/bytealg.IndexByteString"], apart := false }
def FnTitleEndIgnoresWhatFollowsSaid : Prop := fnTitleEndIgnoresWhatFollowsRow.holds Try.pinned (OpenSpec.ofChange fnTitleEndIgnoresWhatFollowsSpec)

/-- ITS FALSE NEIGHBOUR: 'it returns false'. Refute it at one input. -/
def fnTitleEndIgnoresWhatFollowsWrong : ChangeSpec := { name := "fnTitleEndIgnoresWhatFollows", fn := fun _ => fun
  | [d1, d2, d3] => { results := [.lit (.bool false)], args := [d1, d2, d3] }
  | _ => none }
def FnTitleEndIgnoresWhatFollowsWrongFalsely : Prop := fnTitleEndIgnoresWhatFollowsRow.holds Try.pinned (OpenSpec.ofChange fnTitleEndIgnoresWhatFollowsWrong)

end Rows
end Go.Proofs.Qxb6602247a
