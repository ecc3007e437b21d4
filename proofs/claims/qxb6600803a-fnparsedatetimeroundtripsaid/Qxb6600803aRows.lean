/-
  No cell of these rows narrows 'for every input' (looked for: loops, veiled, ifaces, maps, wideKeys, modest, calm, conditions, laid).
  DERIVED. THE GIVEN ROWS OF THIS SEAT. 5 by the template 'for every input the law returns true; each argument reads behind the call as it read before'; 0 by the template 'total and deterministic' (their statements: Qxb6600803aTotals.lean).
  GIVEN WITH THE SEED: the statements are not yours to turn. If you find one false, say at which input.
  Laid BY PROGRAM, IN A SANDBOX (cutbox-rows.mjs): the forced cells as the released guide's own fill.sh prints them over the translation 5d61d0e71433cc02… (all of the seat's roots in one cut). By AI agents, Wed Nov 11 2026. No macro, syntax, notation, axiom, sorry.
-/
import Derived.Test.Qxb6600803aChecked
import GoSem.Claim
import GoSem.ClaimJoined
import GoSem.ClaimMapViews
import Derived.JoinedTies
import Derived.KernelRfl
namespace Go.Proofs.Qxb6600803a
/- THE CELL 'sum', in the pinned program and in every row, IS THE sha256 OF THE DUMP (.gsa) THAT Qxb6600803aProg.lean LOADS. Nothing in Lean hashes anything: it is a label: what it is worth is what the hold of that sum in a sandbox is worth. -/
noncomputable def Try.pinned : Pinned := { name := "qxb6600803a", sum := "5d61d0e71433cc0217254ed1d3df0bfe2f7d78cb5c8ecbf9eb7b2a49c0afe784", checked := Try.checked }
namespace Rows
def none {H : Type} : Left H := { results := [], args := [] }

/-- 'zzlaws_pkg_fhirpath_b1.FnParseTimeMatchesModel': WHATEVER THE INPUT: true; the input reads as it did. -/
def fnParseTimeMatchesModelSpec : ChangeSpec := { name := "fnParseTimeMatchesModel", fn := fun _ => fun
  | [d] => { results := [.lit (.bool true)], args := [d] }
  | _ => none }
def fnParseTimeMatchesModelRow : OpenClaim := { program := "qxb6600803a", sum := "5d61d0e71433cc0217254ed1d3df0bfe2f7d78cb5c8ecbf9eb7b2a49c0afe784", func := "example.com/hearthpull/hearthpull/zzlaws_pkg_fhirpath_b1.FnParseTimeMatchesModel", spec := "fnParseTimeMatchesModel", inPlace := ["internal/bytealg.IndexByteString", "internal/bytealg.IndexString"], named := ["internal/bytealg.MaxLen"], apart := false }
def FnParseTimeMatchesModelSaid : Prop := fnParseTimeMatchesModelRow.holds Try.pinned (OpenSpec.ofChange fnParseTimeMatchesModelSpec)

/-- ITS FALSE NEIGHBOUR: 'it returns false'. Refute it at one input. -/
def fnParseTimeMatchesModelWrong : ChangeSpec := { name := "fnParseTimeMatchesModel", fn := fun _ => fun
  | [d] => { results := [.lit (.bool false)], args := [d] }
  | _ => none }
def FnParseTimeMatchesModelWrongFalsely : Prop := fnParseTimeMatchesModelRow.holds Try.pinned (OpenSpec.ofChange fnParseTimeMatchesModelWrong)

/-- 'zzlaws_pkg_fhirpath_b1.FnParseTimeRoundTrip': WHATEVER THE INPUT: true; the input reads as it did. -/
def fnParseTimeRoundTripSpec : ChangeSpec := { name := "fnParseTimeRoundTrip", fn := fun _ => fun
  | [d1, d2, d3, d4, d5] => { results := [.lit (.bool true)], args := [d1, d2, d3, d4, d5] }
  | _ => none }
def fnParseTimeRoundTripRow : OpenClaim := { program := "qxb6600803a", sum := "5d61d0e71433cc0217254ed1d3df0bfe2f7d78cb5c8ecbf9eb7b2a49c0afe784", func := "example.com/hearthpull/hearthpull/zzlaws_pkg_fhirpath_b1.FnParseTimeRoundTrip", spec := "fnParseTimeRoundTrip", inPlace := ["internal/bytealg.IndexByteString", "internal/bytealg.IndexString"], named := ["internal/bytealg.MaxLen"], apart := false }
def FnParseTimeRoundTripSaid : Prop := fnParseTimeRoundTripRow.holds Try.pinned (OpenSpec.ofChange fnParseTimeRoundTripSpec)

/-- ITS FALSE NEIGHBOUR: 'it returns false'. Refute it at one input. -/
def fnParseTimeRoundTripWrong : ChangeSpec := { name := "fnParseTimeRoundTrip", fn := fun _ => fun
  | [d1, d2, d3, d4, d5] => { results := [.lit (.bool false)], args := [d1, d2, d3, d4, d5] }
  | _ => none }
def FnParseTimeRoundTripWrongFalsely : Prop := fnParseTimeRoundTripRow.holds Try.pinned (OpenSpec.ofChange fnParseTimeRoundTripWrong)

/-- 'zzlaws_pkg_fhirpath_b1.FnParseDateTimeMatchesModel': WHATEVER THE INPUT: true; the input reads as it did. -/
def fnParseDateTimeMatchesModelSpec : ChangeSpec := { name := "fnParseDateTimeMatchesModel", fn := fun _ => fun
  | [d] => { results := [.lit (.bool true)], args := [d] }
  | _ => none }
def fnParseDateTimeMatchesModelRow : OpenClaim := { program := "qxb6600803a", sum := "5d61d0e71433cc0217254ed1d3df0bfe2f7d78cb5c8ecbf9eb7b2a49c0afe784", func := "example.com/hearthpull/hearthpull/zzlaws_pkg_fhirpath_b1.FnParseDateTimeMatchesModel", spec := "fnParseDateTimeMatchesModel", inPlace := ["internal/bytealg.IndexByteString", "internal/bytealg.IndexString"], named := ["internal/bytealg.MaxLen"], apart := false }
def FnParseDateTimeMatchesModelSaid : Prop := fnParseDateTimeMatchesModelRow.holds Try.pinned (OpenSpec.ofChange fnParseDateTimeMatchesModelSpec)

/-- ITS FALSE NEIGHBOUR: 'it returns false'. Refute it at one input. -/
def fnParseDateTimeMatchesModelWrong : ChangeSpec := { name := "fnParseDateTimeMatchesModel", fn := fun _ => fun
  | [d] => { results := [.lit (.bool false)], args := [d] }
  | _ => none }
def FnParseDateTimeMatchesModelWrongFalsely : Prop := fnParseDateTimeMatchesModelRow.holds Try.pinned (OpenSpec.ofChange fnParseDateTimeMatchesModelWrong)

/-- 'zzlaws_pkg_fhirpath_b1.FnParseDateTimeRoundTrip': WHATEVER THE INPUT: true; the input reads as it did. -/
def fnParseDateTimeRoundTripSpec : ChangeSpec := { name := "fnParseDateTimeRoundTrip", fn := fun _ => fun
  | [d1, d2, d3, d4, d5, d6, d7, d8, d9, d10, d11] => { results := [.lit (.bool true)], args := [d1, d2, d3, d4, d5, d6, d7, d8, d9, d10, d11] }
  | _ => none }
def fnParseDateTimeRoundTripRow : OpenClaim := { program := "qxb6600803a", sum := "5d61d0e71433cc0217254ed1d3df0bfe2f7d78cb5c8ecbf9eb7b2a49c0afe784", func := "example.com/hearthpull/hearthpull/zzlaws_pkg_fhirpath_b1.FnParseDateTimeRoundTrip", spec := "fnParseDateTimeRoundTrip", inPlace := ["internal/bytealg.IndexByteString", "internal/bytealg.IndexString"], named := ["internal/bytealg.MaxLen"], apart := false }
def FnParseDateTimeRoundTripSaid : Prop := fnParseDateTimeRoundTripRow.holds Try.pinned (OpenSpec.ofChange fnParseDateTimeRoundTripSpec)

/-- ITS FALSE NEIGHBOUR: 'it returns false'. Refute it at one input. -/
def fnParseDateTimeRoundTripWrong : ChangeSpec := { name := "fnParseDateTimeRoundTrip", fn := fun _ => fun
  | [d1, d2, d3, d4, d5, d6, d7, d8, d9, d10, d11] => { results := [.lit (.bool false)], args := [d1, d2, d3, d4, d5, d6, d7, d8, d9, d10, d11] }
  | _ => none }
def FnParseDateTimeRoundTripWrongFalsely : Prop := fnParseDateTimeRoundTripRow.holds Try.pinned (OpenSpec.ofChange fnParseDateTimeRoundTripWrong)

/-- 'zzlaws_pkg_fhirpath_b1.FnParseDateTimeClockAgreesWithParseTime': WHATEVER THE INPUT: true; the input reads as it did. -/
def fnParseDateTimeClockAgreesWithParseTimeSpec : ChangeSpec := { name := "fnParseDateTimeClockAgreesWithParseTime", fn := fun _ => fun
  | [d1, d2] => { results := [.lit (.bool true)], args := [d1, d2] }
  | _ => none }
def fnParseDateTimeClockAgreesWithParseTimeRow : OpenClaim := { program := "qxb6600803a", sum := "5d61d0e71433cc0217254ed1d3df0bfe2f7d78cb5c8ecbf9eb7b2a49c0afe784", func := "example.com/hearthpull/hearthpull/zzlaws_pkg_fhirpath_b1.FnParseDateTimeClockAgreesWithParseTime", spec := "fnParseDateTimeClockAgreesWithParseTime", inPlace := ["internal/bytealg.IndexByteString", "internal/bytealg.IndexString"], named := ["internal/bytealg.MaxLen"], apart := false }
def FnParseDateTimeClockAgreesWithParseTimeSaid : Prop := fnParseDateTimeClockAgreesWithParseTimeRow.holds Try.pinned (OpenSpec.ofChange fnParseDateTimeClockAgreesWithParseTimeSpec)

/-- ITS FALSE NEIGHBOUR: 'it returns false'. Refute it at one input. -/
def fnParseDateTimeClockAgreesWithParseTimeWrong : ChangeSpec := { name := "fnParseDateTimeClockAgreesWithParseTime", fn := fun _ => fun
  | [d1, d2] => { results := [.lit (.bool false)], args := [d1, d2] }
  | _ => none }
def FnParseDateTimeClockAgreesWithParseTimeWrongFalsely : Prop := fnParseDateTimeClockAgreesWithParseTimeRow.holds Try.pinned (OpenSpec.ofChange fnParseDateTimeClockAgreesWithParseTimeWrong)

end Rows
end Go.Proofs.Qxb6600803a
