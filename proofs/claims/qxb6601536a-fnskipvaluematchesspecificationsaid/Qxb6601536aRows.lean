/-
  No cell of these rows narrows 'for every input' (looked for: loops, veiled, ifaces, maps, wideKeys, modest, calm, conditions, laid).
  DERIVED. THE GIVEN ROWS OF THIS SEAT. 5 by the template 'for every input the law returns true; each argument reads behind the call as it read before'; 0 by the template 'total and deterministic' (their statements: Qxb6601536aTotals.lean).
  GIVEN WITH THE SEED: the statements are not yours to turn. If you find one false, say at which input.
  Laid BY PROGRAM, IN A SANDBOX (cutbox-rows.mjs): the forced cells as the released guide's own fill.sh prints them over the translation f30d2dc1188e24b9… (all of the seat's roots in one cut). By AI agents, Wed Nov 11 2026. No macro, syntax, notation, axiom, sorry.
-/
import Derived.Test.Qxb6601536aChecked
import GoSem.Claim
import GoSem.ClaimJoined
import GoSem.ClaimMapViews
import Derived.JoinedTies
import Derived.KernelRfl
namespace Go.Proofs.Qxb6601536a
/- THE CELL 'sum', in the pinned program and in every row, IS THE sha256 OF THE DUMP (.gsa) THAT Qxb6601536aProg.lean LOADS. Nothing in Lean hashes anything: it is a label: what it is worth is what the hold of that sum in a sandbox is worth. -/
noncomputable def Try.pinned : Pinned := { name := "qxb6601536a", sum := "f30d2dc1188e24b91ddb786e0dcd030131e13be4e4fac0f9d6ec02e0edf97e28", checked := Try.checked }
namespace Rows
def none {H : Type} : Left H := { results := [], args := [] }

/-- 'zzlaws_root_b1.FnSkipStringMatchesForwardScanner': WHATEVER THE INPUT: true; the input reads as it did. -/
def fnSkipStringMatchesForwardScannerSpec : ChangeSpec := { name := "fnSkipStringMatchesForwardScanner", fn := fun _ => fun
  | [d1, d2] => { results := [.lit (.bool true)], args := [d1, d2] }
  | _ => none }
def fnSkipStringMatchesForwardScannerRow : OpenClaim := { program := "qxb6601536a", sum := "f30d2dc1188e24b91ddb786e0dcd030131e13be4e4fac0f9d6ec02e0edf97e28", func := "example.com/libkeybind/libkeybind/zzlaws_root_b1.FnSkipStringMatchesForwardScanner", spec := "fnSkipStringMatchesForwardScanner", inPlace := ["internal/bytealg.IndexByte"], apart := false }
def FnSkipStringMatchesForwardScannerSaid : Prop := fnSkipStringMatchesForwardScannerRow.holds Try.pinned (OpenSpec.ofChange fnSkipStringMatchesForwardScannerSpec)

/-- ITS FALSE NEIGHBOUR: 'it returns false'. Refute it at one input. -/
def fnSkipStringMatchesForwardScannerWrong : ChangeSpec := { name := "fnSkipStringMatchesForwardScanner", fn := fun _ => fun
  | [d1, d2] => { results := [.lit (.bool false)], args := [d1, d2] }
  | _ => none }
def FnSkipStringMatchesForwardScannerWrongFalsely : Prop := fnSkipStringMatchesForwardScannerRow.holds Try.pinned (OpenSpec.ofChange fnSkipStringMatchesForwardScannerWrong)

/-- 'zzlaws_root_b1.FnSkipStringEndsAfterQuotedText': WHATEVER THE INPUT: true; the input reads as it did. -/
def fnSkipStringEndsAfterQuotedTextSpec : ChangeSpec := { name := "fnSkipStringEndsAfterQuotedText", fn := fun _ => fun
  | [d1, d2, d3] => { results := [.lit (.bool true)], args := [d1, d2, d3] }
  | _ => none }
def fnSkipStringEndsAfterQuotedTextRow : OpenClaim := { program := "qxb6601536a", sum := "f30d2dc1188e24b91ddb786e0dcd030131e13be4e4fac0f9d6ec02e0edf97e28", func := "example.com/libkeybind/libkeybind/zzlaws_root_b1.FnSkipStringEndsAfterQuotedText", spec := "fnSkipStringEndsAfterQuotedText", inPlace := ["internal/bytealg.IndexByte"], apart := false }
def FnSkipStringEndsAfterQuotedTextSaid : Prop := fnSkipStringEndsAfterQuotedTextRow.holds Try.pinned (OpenSpec.ofChange fnSkipStringEndsAfterQuotedTextSpec)

/-- ITS FALSE NEIGHBOUR: 'it returns false'. Refute it at one input. -/
def fnSkipStringEndsAfterQuotedTextWrong : ChangeSpec := { name := "fnSkipStringEndsAfterQuotedText", fn := fun _ => fun
  | [d1, d2, d3] => { results := [.lit (.bool false)], args := [d1, d2, d3] }
  | _ => none }
def FnSkipStringEndsAfterQuotedTextWrongFalsely : Prop := fnSkipStringEndsAfterQuotedTextRow.holds Try.pinned (OpenSpec.ofChange fnSkipStringEndsAfterQuotedTextWrong)

/-- 'zzlaws_root_b1.FnSkipValueMatchesSpecification': WHATEVER THE INPUT: true; the input reads as it did. -/
def fnSkipValueMatchesSpecificationSpec : ChangeSpec := { name := "fnSkipValueMatchesSpecification", fn := fun _ => fun
  | [d1, d2] => { results := [.lit (.bool true)], args := [d1, d2] }
  | _ => none }
def fnSkipValueMatchesSpecificationRow : OpenClaim := { program := "qxb6601536a", sum := "f30d2dc1188e24b91ddb786e0dcd030131e13be4e4fac0f9d6ec02e0edf97e28", func := "example.com/libkeybind/libkeybind/zzlaws_root_b1.FnSkipValueMatchesSpecification", spec := "fnSkipValueMatchesSpecification", inPlace := ["internal/bytealg.IndexByte"], apart := false }
def FnSkipValueMatchesSpecificationSaid : Prop := fnSkipValueMatchesSpecificationRow.holds Try.pinned (OpenSpec.ofChange fnSkipValueMatchesSpecificationSpec)

/-- ITS FALSE NEIGHBOUR: 'it returns false'. Refute it at one input. -/
def fnSkipValueMatchesSpecificationWrong : ChangeSpec := { name := "fnSkipValueMatchesSpecification", fn := fun _ => fun
  | [d1, d2] => { results := [.lit (.bool false)], args := [d1, d2] }
  | _ => none }
def FnSkipValueMatchesSpecificationWrongFalsely : Prop := fnSkipValueMatchesSpecificationRow.holds Try.pinned (OpenSpec.ofChange fnSkipValueMatchesSpecificationWrong)

/-- 'zzlaws_root_b1.FnSkipValueDependsOnlyOnItsOwnBytes': WHATEVER THE INPUT: true; the input reads as it did. -/
def fnSkipValueDependsOnlyOnItsOwnBytesSpec : ChangeSpec := { name := "fnSkipValueDependsOnlyOnItsOwnBytes", fn := fun _ => fun
  | [d1, d2, d3] => { results := [.lit (.bool true)], args := [d1, d2, d3] }
  | _ => none }
def fnSkipValueDependsOnlyOnItsOwnBytesRow : OpenClaim := { program := "qxb6601536a", sum := "f30d2dc1188e24b91ddb786e0dcd030131e13be4e4fac0f9d6ec02e0edf97e28", func := "example.com/libkeybind/libkeybind/zzlaws_root_b1.FnSkipValueDependsOnlyOnItsOwnBytes", spec := "fnSkipValueDependsOnlyOnItsOwnBytes", inPlace := ["internal/bytealg.IndexByte"], apart := false }
def FnSkipValueDependsOnlyOnItsOwnBytesSaid : Prop := fnSkipValueDependsOnlyOnItsOwnBytesRow.holds Try.pinned (OpenSpec.ofChange fnSkipValueDependsOnlyOnItsOwnBytesSpec)

/-- ITS FALSE NEIGHBOUR: 'it returns false'. Refute it at one input. -/
def fnSkipValueDependsOnlyOnItsOwnBytesWrong : ChangeSpec := { name := "fnSkipValueDependsOnlyOnItsOwnBytes", fn := fun _ => fun
  | [d1, d2, d3] => { results := [.lit (.bool false)], args := [d1, d2, d3] }
  | _ => none }
def FnSkipValueDependsOnlyOnItsOwnBytesWrongFalsely : Prop := fnSkipValueDependsOnlyOnItsOwnBytesRow.holds Try.pinned (OpenSpec.ofChange fnSkipValueDependsOnlyOnItsOwnBytesWrong)

/-- 'zzlaws_root_b1.FnSkipValueEndsAfterEncodedObject': WHATEVER THE INPUT: true; the input reads as it did. -/
def fnSkipValueEndsAfterEncodedObjectSpec : ChangeSpec := { name := "fnSkipValueEndsAfterEncodedObject", fn := fun _ => fun
  | [d1, d2, d3, d4] => { results := [.lit (.bool true)], args := [d1, d2, d3, d4] }
  | _ => none }
def fnSkipValueEndsAfterEncodedObjectRow : OpenClaim := { program := "qxb6601536a", sum := "f30d2dc1188e24b91ddb786e0dcd030131e13be4e4fac0f9d6ec02e0edf97e28", func := "example.com/libkeybind/libkeybind/zzlaws_root_b1.FnSkipValueEndsAfterEncodedObject", spec := "fnSkipValueEndsAfterEncodedObject", inPlace := ["internal/bytealg.IndexByte"], apart := false }
def FnSkipValueEndsAfterEncodedObjectSaid : Prop := fnSkipValueEndsAfterEncodedObjectRow.holds Try.pinned (OpenSpec.ofChange fnSkipValueEndsAfterEncodedObjectSpec)

/-- ITS FALSE NEIGHBOUR: 'it returns false'. Refute it at one input. -/
def fnSkipValueEndsAfterEncodedObjectWrong : ChangeSpec := { name := "fnSkipValueEndsAfterEncodedObject", fn := fun _ => fun
  | [d1, d2, d3, d4] => { results := [.lit (.bool false)], args := [d1, d2, d3, d4] }
  | _ => none }
def FnSkipValueEndsAfterEncodedObjectWrongFalsely : Prop := fnSkipValueEndsAfterEncodedObjectRow.holds Try.pinned (OpenSpec.ofChange fnSkipValueEndsAfterEncodedObjectWrong)

end Rows
end Go.Proofs.Qxb6601536a
