/-
  No cell of these rows narrows 'for every input' (looked for: loops, veiled, ifaces, maps, wideKeys, modest, calm, conditions, laid).
  DERIVED. THE GIVEN ROWS OF THIS SEAT. 5 by the template 'for every input the law returns true; each argument reads behind the call as it read before'; 0 by the template 'total and deterministic' (their statements: Qxb6601282aTotals.lean).
  GIVEN WITH THE SEED: the statements are not yours to turn. If you find one false, say at which input.
  Laid BY PROGRAM, IN A SANDBOX (cutbox-rows.mjs): the forced cells as the released guide's own fill.sh prints them over the translation 9bd0066491fc5813… (all of the seat's roots in one cut). By AI agents, Wed Nov 11 2026. No macro, syntax, notation, axiom, sorry.
-/
import Derived.Test.Qxb6601282aChecked
import GoSem.Claim
import GoSem.ClaimJoined
import GoSem.ClaimMapViews
import Derived.JoinedTies
import Derived.KernelRfl
namespace Go.Proofs.Qxb6601282a
/- THE CELL 'sum', in the pinned program and in every row, IS THE sha256 OF THE DUMP (.gsa) THAT Qxb6601282aProg.lean LOADS. Nothing in Lean hashes anything: it is a label: what it is worth is what the hold of that sum in a sandbox is worth. -/
noncomputable def Try.pinned : Pinned := { name := "qxb6601282a", sum := "9bd0066491fc58131610ecc282342ca4efaa07f85a3405571ca9c514a1ab95a5", checked := Try.checked }
namespace Rows
def none {H : Type} : Left H := { results := [], args := [] }

/-- 'zzlaws_codec_b1.FnSkipStringMatchesEscapeScanner': WHATEVER THE INPUT: true; the input reads as it did. -/
def fnSkipStringMatchesEscapeScannerSpec : ChangeSpec := { name := "fnSkipStringMatchesEscapeScanner", fn := fun _ => fun
  | [d1, d2] => { results := [.lit (.bool true)], args := [d1, d2] }
  | _ => none }
def fnSkipStringMatchesEscapeScannerRow : OpenClaim := { program := "qxb6601282a", sum := "9bd0066491fc58131610ecc282342ca4efaa07f85a3405571ca9c514a1ab95a5", func := "example.com/fieldledger/fieldledger/zzlaws_codec_b1.FnSkipStringMatchesEscapeScanner", spec := "fnSkipStringMatchesEscapeScanner", inPlace := ["internal/bytealg.IndexByte"], apart := false }
def FnSkipStringMatchesEscapeScannerSaid : Prop := fnSkipStringMatchesEscapeScannerRow.holds Try.pinned (OpenSpec.ofChange fnSkipStringMatchesEscapeScannerSpec)

/-- ITS FALSE NEIGHBOUR: 'it returns false'. Refute it at one input. -/
def fnSkipStringMatchesEscapeScannerWrong : ChangeSpec := { name := "fnSkipStringMatchesEscapeScanner", fn := fun _ => fun
  | [d1, d2] => { results := [.lit (.bool false)], args := [d1, d2] }
  | _ => none }
def FnSkipStringMatchesEscapeScannerWrongFalsely : Prop := fnSkipStringMatchesEscapeScannerRow.holds Try.pinned (OpenSpec.ofChange fnSkipStringMatchesEscapeScannerWrong)

/-- 'zzlaws_codec_b1.FnSkipStringFindsEndOfEscapedText': WHATEVER THE INPUT: true; the input reads as it did. -/
def fnSkipStringFindsEndOfEscapedTextSpec : ChangeSpec := { name := "fnSkipStringFindsEndOfEscapedText", fn := fun _ => fun
  | [d1, d2, d3] => { results := [.lit (.bool true)], args := [d1, d2, d3] }
  | _ => none }
def fnSkipStringFindsEndOfEscapedTextRow : OpenClaim := { program := "qxb6601282a", sum := "9bd0066491fc58131610ecc282342ca4efaa07f85a3405571ca9c514a1ab95a5", func := "example.com/fieldledger/fieldledger/zzlaws_codec_b1.FnSkipStringFindsEndOfEscapedText", spec := "fnSkipStringFindsEndOfEscapedText", inPlace := ["internal/bytealg.IndexByte"], apart := false }
def FnSkipStringFindsEndOfEscapedTextSaid : Prop := fnSkipStringFindsEndOfEscapedTextRow.holds Try.pinned (OpenSpec.ofChange fnSkipStringFindsEndOfEscapedTextSpec)

/-- ITS FALSE NEIGHBOUR: 'it returns false'. Refute it at one input. -/
def fnSkipStringFindsEndOfEscapedTextWrong : ChangeSpec := { name := "fnSkipStringFindsEndOfEscapedText", fn := fun _ => fun
  | [d1, d2, d3] => { results := [.lit (.bool false)], args := [d1, d2, d3] }
  | _ => none }
def FnSkipStringFindsEndOfEscapedTextWrongFalsely : Prop := fnSkipStringFindsEndOfEscapedTextRow.holds Try.pinned (OpenSpec.ofChange fnSkipStringFindsEndOfEscapedTextWrong)

/-- 'zzlaws_codec_b1.FnSkipValueMatchesOnePassScanner': WHATEVER THE INPUT: true; the input reads as it did. -/
def fnSkipValueMatchesOnePassScannerSpec : ChangeSpec := { name := "fnSkipValueMatchesOnePassScanner", fn := fun _ => fun
  | [d1, d2] => { results := [.lit (.bool true)], args := [d1, d2] }
  | _ => none }
def fnSkipValueMatchesOnePassScannerRow : OpenClaim := { program := "qxb6601282a", sum := "9bd0066491fc58131610ecc282342ca4efaa07f85a3405571ca9c514a1ab95a5", func := "example.com/fieldledger/fieldledger/zzlaws_codec_b1.FnSkipValueMatchesOnePassScanner", spec := "fnSkipValueMatchesOnePassScanner", inPlace := ["internal/bytealg.IndexByte"], apart := false }
def FnSkipValueMatchesOnePassScannerSaid : Prop := fnSkipValueMatchesOnePassScannerRow.holds Try.pinned (OpenSpec.ofChange fnSkipValueMatchesOnePassScannerSpec)

/-- ITS FALSE NEIGHBOUR: 'it returns false'. Refute it at one input. -/
def fnSkipValueMatchesOnePassScannerWrong : ChangeSpec := { name := "fnSkipValueMatchesOnePassScanner", fn := fun _ => fun
  | [d1, d2] => { results := [.lit (.bool false)], args := [d1, d2] }
  | _ => none }
def FnSkipValueMatchesOnePassScannerWrongFalsely : Prop := fnSkipValueMatchesOnePassScannerRow.holds Try.pinned (OpenSpec.ofChange fnSkipValueMatchesOnePassScannerWrong)

/-- 'zzlaws_codec_b1.FnSkipValueSpansNestedString': WHATEVER THE INPUT: true; the input reads as it did. -/
def fnSkipValueSpansNestedStringSpec : ChangeSpec := { name := "fnSkipValueSpansNestedString", fn := fun _ => fun
  | [d1, d2, d3, d4] => { results := [.lit (.bool true)], args := [d1, d2, d3, d4] }
  | _ => none }
def fnSkipValueSpansNestedStringRow : OpenClaim := { program := "qxb6601282a", sum := "9bd0066491fc58131610ecc282342ca4efaa07f85a3405571ca9c514a1ab95a5", func := "example.com/fieldledger/fieldledger/zzlaws_codec_b1.FnSkipValueSpansNestedString", spec := "fnSkipValueSpansNestedString", inPlace := ["internal/bytealg.IndexByte"], apart := false }
def FnSkipValueSpansNestedStringSaid : Prop := fnSkipValueSpansNestedStringRow.holds Try.pinned (OpenSpec.ofChange fnSkipValueSpansNestedStringSpec)

/-- ITS FALSE NEIGHBOUR: 'it returns false'. Refute it at one input. -/
def fnSkipValueSpansNestedStringWrong : ChangeSpec := { name := "fnSkipValueSpansNestedString", fn := fun _ => fun
  | [d1, d2, d3, d4] => { results := [.lit (.bool false)], args := [d1, d2, d3, d4] }
  | _ => none }
def FnSkipValueSpansNestedStringWrongFalsely : Prop := fnSkipValueSpansNestedStringRow.holds Try.pinned (OpenSpec.ofChange fnSkipValueSpansNestedStringWrong)

/-- 'zzlaws_codec_b1.FnSkipValueCutAtAnswerKeepsIt': WHATEVER THE INPUT: true; the input reads as it did. -/
def fnSkipValueCutAtAnswerKeepsItSpec : ChangeSpec := { name := "fnSkipValueCutAtAnswerKeepsIt", fn := fun _ => fun
  | [d1, d2] => { results := [.lit (.bool true)], args := [d1, d2] }
  | _ => none }
def fnSkipValueCutAtAnswerKeepsItRow : OpenClaim := { program := "qxb6601282a", sum := "9bd0066491fc58131610ecc282342ca4efaa07f85a3405571ca9c514a1ab95a5", func := "example.com/fieldledger/fieldledger/zzlaws_codec_b1.FnSkipValueCutAtAnswerKeepsIt", spec := "fnSkipValueCutAtAnswerKeepsIt", inPlace := ["internal/bytealg.IndexByte"], apart := false }
def FnSkipValueCutAtAnswerKeepsItSaid : Prop := fnSkipValueCutAtAnswerKeepsItRow.holds Try.pinned (OpenSpec.ofChange fnSkipValueCutAtAnswerKeepsItSpec)

/-- ITS FALSE NEIGHBOUR: 'it returns false'. Refute it at one input. -/
def fnSkipValueCutAtAnswerKeepsItWrong : ChangeSpec := { name := "fnSkipValueCutAtAnswerKeepsIt", fn := fun _ => fun
  | [d1, d2] => { results := [.lit (.bool false)], args := [d1, d2] }
  | _ => none }
def FnSkipValueCutAtAnswerKeepsItWrongFalsely : Prop := fnSkipValueCutAtAnswerKeepsItRow.holds Try.pinned (OpenSpec.ofChange fnSkipValueCutAtAnswerKeepsItWrong)

end Rows
end Go.Proofs.Qxb6601282a
