/-
  No cell of these rows narrows 'for every input' (looked for: loops, veiled, ifaces, maps, wideKeys, modest, calm, conditions, laid).
  DERIVED. THE GIVEN ROWS OF THIS SEAT. 4 by the template 'for every input the law returns true; each argument reads behind the call as it read before'; 0 by the template 'total and deterministic' (their statements: Qxb6602901aTotals.lean).
  GIVEN WITH THE SEED: the statements are not yours to turn. If you find one false, say at which input.
  Laid BY PROGRAM, IN A SANDBOX (cutbox-rows.mjs): the forced cells as the released guide's own fill.sh prints them over the translation 3a3b9fe392631161… (all of the seat's roots in one cut). By AI agents, Wed Nov 11 2026. No macro, syntax, notation, axiom, sorry.
-/
import Derived.Test.Qxb6602901aChecked
import GoSem.Claim
import GoSem.ClaimJoined
import GoSem.ClaimMapViews
import Derived.JoinedTies
import Derived.KernelRfl
namespace Go.Proofs.Qxb6602901a
/- THE CELL 'sum', in the pinned program and in every row, IS THE sha256 OF THE DUMP (.gsa) THAT Qxb6602901aProg.lean LOADS. Nothing in Lean hashes anything: it is a label: what it is worth is what the hold of that sum in a sandbox is worth. -/
noncomputable def Try.pinned : Pinned := { name := "qxb6602901a", sum := "3a3b9fe3926311613fde1a6f5bb59993541d9864489dbb5e69984be1f475c60c", checked := Try.checked }
namespace Rows
def none {H : Type} : Left H := { results := [], args := [] }

/-- 'zzlaws_internal_jsonscan_b1.FnScanNumberMatchesAutomaton': WHATEVER THE INPUT: true; the input reads as it did. -/
def fnScanNumberMatchesAutomatonSpec : ChangeSpec := { name := "fnScanNumberMatchesAutomaton", fn := fun _ => fun
  | [d1, d2] => { results := [.lit (.bool true)], args := [d1, d2] }
  | _ => none }
def fnScanNumberMatchesAutomatonRow : OpenClaim := { program := "qxb6602901a", sum := "3a3b9fe3926311613fde1a6f5bb59993541d9864489dbb5e69984be1f475c60c", func := "example.com/tidewatch/tidewatch/zzlaws_internal_jsonscan_b1.FnScanNumberMatchesAutomaton", spec := "fnScanNumberMatchesAutomaton", apart := false }
def FnScanNumberMatchesAutomatonSaid : Prop := fnScanNumberMatchesAutomatonRow.holds Try.pinned (OpenSpec.ofChange fnScanNumberMatchesAutomatonSpec)

/-- ITS FALSE NEIGHBOUR: 'it returns false'. Refute it at one input. -/
def fnScanNumberMatchesAutomatonWrong : ChangeSpec := { name := "fnScanNumberMatchesAutomaton", fn := fun _ => fun
  | [d1, d2] => { results := [.lit (.bool false)], args := [d1, d2] }
  | _ => none }
def FnScanNumberMatchesAutomatonWrongFalsely : Prop := fnScanNumberMatchesAutomatonRow.holds Try.pinned (OpenSpec.ofChange fnScanNumberMatchesAutomatonWrong)

/-- 'zzlaws_internal_jsonscan_b1.FnScanNumberAcceptsWrittenNumbers': WHATEVER THE INPUT: true; the input reads as it did. -/
def fnScanNumberAcceptsWrittenNumbersSpec : ChangeSpec := { name := "fnScanNumberAcceptsWrittenNumbers", fn := fun _ => fun
  | [d1, d2, d3, d4, d5, d6, d7, d8] => { results := [.lit (.bool true)], args := [d1, d2, d3, d4, d5, d6, d7, d8] }
  | _ => none }
def fnScanNumberAcceptsWrittenNumbersRow : OpenClaim := { program := "qxb6602901a", sum := "3a3b9fe3926311613fde1a6f5bb59993541d9864489dbb5e69984be1f475c60c", func := "example.com/tidewatch/tidewatch/zzlaws_internal_jsonscan_b1.FnScanNumberAcceptsWrittenNumbers", spec := "fnScanNumberAcceptsWrittenNumbers", apart := false }
def FnScanNumberAcceptsWrittenNumbersSaid : Prop := fnScanNumberAcceptsWrittenNumbersRow.holds Try.pinned (OpenSpec.ofChange fnScanNumberAcceptsWrittenNumbersSpec)

/-- ITS FALSE NEIGHBOUR: 'it returns false'. Refute it at one input. -/
def fnScanNumberAcceptsWrittenNumbersWrong : ChangeSpec := { name := "fnScanNumberAcceptsWrittenNumbers", fn := fun _ => fun
  | [d1, d2, d3, d4, d5, d6, d7, d8] => { results := [.lit (.bool false)], args := [d1, d2, d3, d4, d5, d6, d7, d8] }
  | _ => none }
def FnScanNumberAcceptsWrittenNumbersWrongFalsely : Prop := fnScanNumberAcceptsWrittenNumbersRow.holds Try.pinned (OpenSpec.ofChange fnScanNumberAcceptsWrittenNumbersWrong)

/-- 'zzlaws_internal_jsonscan_b1.FnSkipStringMatchesEscapeScanner': WHATEVER THE INPUT: true; the input reads as it did. -/
def fnSkipStringMatchesEscapeScannerSpec : ChangeSpec := { name := "fnSkipStringMatchesEscapeScanner", fn := fun _ => fun
  | [d1, d2] => { results := [.lit (.bool true)], args := [d1, d2] }
  | _ => none }
def fnSkipStringMatchesEscapeScannerRow : OpenClaim := { program := "qxb6602901a", sum := "3a3b9fe3926311613fde1a6f5bb59993541d9864489dbb5e69984be1f475c60c", func := "example.com/tidewatch/tidewatch/zzlaws_internal_jsonscan_b1.FnSkipStringMatchesEscapeScanner", spec := "fnSkipStringMatchesEscapeScanner", inPlace := ["internal/bytealg.IndexByte"], apart := false }
def FnSkipStringMatchesEscapeScannerSaid : Prop := fnSkipStringMatchesEscapeScannerRow.holds Try.pinned (OpenSpec.ofChange fnSkipStringMatchesEscapeScannerSpec)

/-- ITS FALSE NEIGHBOUR: 'it returns false'. Refute it at one input. -/
def fnSkipStringMatchesEscapeScannerWrong : ChangeSpec := { name := "fnSkipStringMatchesEscapeScanner", fn := fun _ => fun
  | [d1, d2] => { results := [.lit (.bool false)], args := [d1, d2] }
  | _ => none }
def FnSkipStringMatchesEscapeScannerWrongFalsely : Prop := fnSkipStringMatchesEscapeScannerRow.holds Try.pinned (OpenSpec.ofChange fnSkipStringMatchesEscapeScannerWrong)

/-- 'zzlaws_internal_jsonscan_b1.FnSkipStringStepsOverQuotedText': WHATEVER THE INPUT: true; the input reads as it did. -/
def fnSkipStringStepsOverQuotedTextSpec : ChangeSpec := { name := "fnSkipStringStepsOverQuotedText", fn := fun _ => fun
  | [d1, d2] => { results := [.lit (.bool true)], args := [d1, d2] }
  | _ => none }
def fnSkipStringStepsOverQuotedTextRow : OpenClaim := { program := "qxb6602901a", sum := "3a3b9fe3926311613fde1a6f5bb59993541d9864489dbb5e69984be1f475c60c", func := "example.com/tidewatch/tidewatch/zzlaws_internal_jsonscan_b1.FnSkipStringStepsOverQuotedText", spec := "fnSkipStringStepsOverQuotedText", inPlace := ["internal/bytealg.IndexByte"], apart := false }
def FnSkipStringStepsOverQuotedTextSaid : Prop := fnSkipStringStepsOverQuotedTextRow.holds Try.pinned (OpenSpec.ofChange fnSkipStringStepsOverQuotedTextSpec)

/-- ITS FALSE NEIGHBOUR: 'it returns false'. Refute it at one input. -/
def fnSkipStringStepsOverQuotedTextWrong : ChangeSpec := { name := "fnSkipStringStepsOverQuotedText", fn := fun _ => fun
  | [d1, d2] => { results := [.lit (.bool false)], args := [d1, d2] }
  | _ => none }
def FnSkipStringStepsOverQuotedTextWrongFalsely : Prop := fnSkipStringStepsOverQuotedTextRow.holds Try.pinned (OpenSpec.ofChange fnSkipStringStepsOverQuotedTextWrong)

end Rows
end Go.Proofs.Qxb6602901a
