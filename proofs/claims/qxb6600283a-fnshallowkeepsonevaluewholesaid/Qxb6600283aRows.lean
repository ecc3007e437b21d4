/-
  No cell of these rows narrows 'for every input' (looked for: loops, veiled, ifaces, maps, wideKeys, modest, calm, conditions, laid).
  DERIVED. THE GIVEN ROWS OF THIS SEAT. 8 by the template 'for every input the law returns true; each argument reads behind the call as it read before'; 0 by the template 'total and deterministic' (their statements: Qxb6600283aTotals.lean).
  GIVEN WITH THE SEED: the statements are not yours to turn. If you find one false, say at which input.
  Laid BY PROGRAM, IN A SANDBOX (cutbox-rows.mjs): the forced cells as the released guide's own fill.sh prints them over the translation 4794b2c64938812a… (all of the seat's roots in one cut). By AI agents, Wed Nov 11 2026. No macro, syntax, notation, axiom, sorry.
-/
import Derived.Test.Qxb6600283aChecked
import GoSem.Claim
import GoSem.ClaimJoined
import GoSem.ClaimMapViews
import Derived.JoinedTies
import Derived.KernelRfl
namespace Go.Proofs.Qxb6600283a
/- THE CELL 'sum', in the pinned program and in every row, IS THE sha256 OF THE DUMP (.gsa) THAT Qxb6600283aProg.lean LOADS. Nothing in Lean hashes anything: it is a label: what it is worth is what the hold of that sum in a sandbox is worth. -/
noncomputable def Try.pinned : Pinned := { name := "qxb6600283a", sum := "4794b2c64938812a643dbc8c59f9e6027db06329ab9f56dad19e8bced62c2c59", checked := Try.checked }
namespace Rows
def none {H : Type} : Left H := { results := [], args := [] }

/-- 'zzlaws_internal_jsontext_b1.FnOutlineMatchesStringAwareModel': WHATEVER THE INPUT: true; the input reads as it did. -/
def fnOutlineMatchesStringAwareModelSpec : ChangeSpec := { name := "fnOutlineMatchesStringAwareModel", fn := fun _ => fun
  | [d] => { results := [.lit (.bool true)], args := [d] }
  | _ => none }
def fnOutlineMatchesStringAwareModelRow : OpenClaim := { program := "qxb6600283a", sum := "4794b2c64938812a643dbc8c59f9e6027db06329ab9f56dad19e8bced62c2c59", func := "example.com/hamr/hamr/zzlaws_internal_jsontext_b1.FnOutlineMatchesStringAwareModel", spec := "fnOutlineMatchesStringAwareModel", apart := false }
def FnOutlineMatchesStringAwareModelSaid : Prop := fnOutlineMatchesStringAwareModelRow.holds Try.pinned (OpenSpec.ofChange fnOutlineMatchesStringAwareModelSpec)

/-- ITS FALSE NEIGHBOUR: 'it returns false'. Refute it at one input. -/
def fnOutlineMatchesStringAwareModelWrong : ChangeSpec := { name := "fnOutlineMatchesStringAwareModel", fn := fun _ => fun
  | [d] => { results := [.lit (.bool false)], args := [d] }
  | _ => none }
def FnOutlineMatchesStringAwareModelWrongFalsely : Prop := fnOutlineMatchesStringAwareModelRow.holds Try.pinned (OpenSpec.ofChange fnOutlineMatchesStringAwareModelWrong)

/-- 'zzlaws_internal_jsontext_b1.FnOutlineGrowsWithPrefix': WHATEVER THE INPUT: true; the input reads as it did. -/
def fnOutlineGrowsWithPrefixSpec : ChangeSpec := { name := "fnOutlineGrowsWithPrefix", fn := fun _ => fun
  | [d1, d2] => { results := [.lit (.bool true)], args := [d1, d2] }
  | _ => none }
def fnOutlineGrowsWithPrefixRow : OpenClaim := { program := "qxb6600283a", sum := "4794b2c64938812a643dbc8c59f9e6027db06329ab9f56dad19e8bced62c2c59", func := "example.com/hamr/hamr/zzlaws_internal_jsontext_b1.FnOutlineGrowsWithPrefix", spec := "fnOutlineGrowsWithPrefix", apart := false }
def FnOutlineGrowsWithPrefixSaid : Prop := fnOutlineGrowsWithPrefixRow.holds Try.pinned (OpenSpec.ofChange fnOutlineGrowsWithPrefixSpec)

/-- ITS FALSE NEIGHBOUR: 'it returns false'. Refute it at one input. -/
def fnOutlineGrowsWithPrefixWrong : ChangeSpec := { name := "fnOutlineGrowsWithPrefix", fn := fun _ => fun
  | [d1, d2] => { results := [.lit (.bool false)], args := [d1, d2] }
  | _ => none }
def FnOutlineGrowsWithPrefixWrongFalsely : Prop := fnOutlineGrowsWithPrefixRow.holds Try.pinned (OpenSpec.ofChange fnOutlineGrowsWithPrefixWrong)

/-- 'zzlaws_internal_jsontext_b1.FnOutlineDepthOfShallowIsMin': WHATEVER THE INPUT: true; the input reads as it did. -/
def fnOutlineDepthOfShallowIsMinSpec : ChangeSpec := { name := "fnOutlineDepthOfShallowIsMin", fn := fun _ => fun
  | [d1, d2] => { results := [.lit (.bool true)], args := [d1, d2] }
  | _ => none }
def fnOutlineDepthOfShallowIsMinRow : OpenClaim := { program := "qxb6600283a", sum := "4794b2c64938812a643dbc8c59f9e6027db06329ab9f56dad19e8bced62c2c59", func := "example.com/hamr/hamr/zzlaws_internal_jsontext_b1.FnOutlineDepthOfShallowIsMin", spec := "fnOutlineDepthOfShallowIsMin", apart := false }
def FnOutlineDepthOfShallowIsMinSaid : Prop := fnOutlineDepthOfShallowIsMinRow.holds Try.pinned (OpenSpec.ofChange fnOutlineDepthOfShallowIsMinSpec)

/-- ITS FALSE NEIGHBOUR: 'it returns false'. Refute it at one input. -/
def fnOutlineDepthOfShallowIsMinWrong : ChangeSpec := { name := "fnOutlineDepthOfShallowIsMin", fn := fun _ => fun
  | [d1, d2] => { results := [.lit (.bool false)], args := [d1, d2] }
  | _ => none }
def FnOutlineDepthOfShallowIsMinWrongFalsely : Prop := fnOutlineDepthOfShallowIsMinRow.holds Try.pinned (OpenSpec.ofChange fnOutlineDepthOfShallowIsMinWrong)

/-- 'zzlaws_internal_jsontext_b1.FnShallowMatchesLevelRule': WHATEVER THE INPUT: true; the input reads as it did. -/
def fnShallowMatchesLevelRuleSpec : ChangeSpec := { name := "fnShallowMatchesLevelRule", fn := fun _ => fun
  | [d1, d2] => { results := [.lit (.bool true)], args := [d1, d2] }
  | _ => none }
def fnShallowMatchesLevelRuleRow : OpenClaim := { program := "qxb6600283a", sum := "4794b2c64938812a643dbc8c59f9e6027db06329ab9f56dad19e8bced62c2c59", func := "example.com/hamr/hamr/zzlaws_internal_jsontext_b1.FnShallowMatchesLevelRule", spec := "fnShallowMatchesLevelRule", apart := false }
def FnShallowMatchesLevelRuleSaid : Prop := fnShallowMatchesLevelRuleRow.holds Try.pinned (OpenSpec.ofChange fnShallowMatchesLevelRuleSpec)

/-- ITS FALSE NEIGHBOUR: 'it returns false'. Refute it at one input. -/
def fnShallowMatchesLevelRuleWrong : ChangeSpec := { name := "fnShallowMatchesLevelRule", fn := fun _ => fun
  | [d1, d2] => { results := [.lit (.bool false)], args := [d1, d2] }
  | _ => none }
def FnShallowMatchesLevelRuleWrongFalsely : Prop := fnShallowMatchesLevelRuleRow.holds Try.pinned (OpenSpec.ofChange fnShallowMatchesLevelRuleWrong)

/-- 'zzlaws_internal_jsontext_b1.FnShallowComposesAsMin': WHATEVER THE INPUT: true; the input reads as it did. -/
def fnShallowComposesAsMinSpec : ChangeSpec := { name := "fnShallowComposesAsMin", fn := fun _ => fun
  | [d1, d2, d3] => { results := [.lit (.bool true)], args := [d1, d2, d3] }
  | _ => none }
def fnShallowComposesAsMinRow : OpenClaim := { program := "qxb6600283a", sum := "4794b2c64938812a643dbc8c59f9e6027db06329ab9f56dad19e8bced62c2c59", func := "example.com/hamr/hamr/zzlaws_internal_jsontext_b1.FnShallowComposesAsMin", spec := "fnShallowComposesAsMin", apart := false }
def FnShallowComposesAsMinSaid : Prop := fnShallowComposesAsMinRow.holds Try.pinned (OpenSpec.ofChange fnShallowComposesAsMinSpec)

/-- ITS FALSE NEIGHBOUR: 'it returns false'. Refute it at one input. -/
def fnShallowComposesAsMinWrong : ChangeSpec := { name := "fnShallowComposesAsMin", fn := fun _ => fun
  | [d1, d2, d3] => { results := [.lit (.bool false)], args := [d1, d2, d3] }
  | _ => none }
def FnShallowComposesAsMinWrongFalsely : Prop := fnShallowComposesAsMinRow.holds Try.pinned (OpenSpec.ofChange fnShallowComposesAsMinWrong)

/-- 'zzlaws_internal_jsontext_b1.FnShallowKeepsTextNoDeeperThanDepth': WHATEVER THE INPUT: true; the input reads as it did. -/
def fnShallowKeepsTextNoDeeperThanDepthSpec : ChangeSpec := { name := "fnShallowKeepsTextNoDeeperThanDepth", fn := fun _ => fun
  | [d1, d2] => { results := [.lit (.bool true)], args := [d1, d2] }
  | _ => none }
def fnShallowKeepsTextNoDeeperThanDepthRow : OpenClaim := { program := "qxb6600283a", sum := "4794b2c64938812a643dbc8c59f9e6027db06329ab9f56dad19e8bced62c2c59", func := "example.com/hamr/hamr/zzlaws_internal_jsontext_b1.FnShallowKeepsTextNoDeeperThanDepth", spec := "fnShallowKeepsTextNoDeeperThanDepth", apart := false }
def FnShallowKeepsTextNoDeeperThanDepthSaid : Prop := fnShallowKeepsTextNoDeeperThanDepthRow.holds Try.pinned (OpenSpec.ofChange fnShallowKeepsTextNoDeeperThanDepthSpec)

/-- ITS FALSE NEIGHBOUR: 'it returns false'. Refute it at one input. -/
def fnShallowKeepsTextNoDeeperThanDepthWrong : ChangeSpec := { name := "fnShallowKeepsTextNoDeeperThanDepth", fn := fun _ => fun
  | [d1, d2] => { results := [.lit (.bool false)], args := [d1, d2] }
  | _ => none }
def FnShallowKeepsTextNoDeeperThanDepthWrongFalsely : Prop := fnShallowKeepsTextNoDeeperThanDepthRow.holds Try.pinned (OpenSpec.ofChange fnShallowKeepsTextNoDeeperThanDepthWrong)

/-- 'zzlaws_internal_jsontext_b1.FnValueEndAgreesWithRecursiveParser': WHATEVER THE INPUT: true; the input reads as it did. -/
def fnValueEndAgreesWithRecursiveParserSpec : ChangeSpec := { name := "fnValueEndAgreesWithRecursiveParser", fn := fun _ => fun
  | [d1, d2] => { results := [.lit (.bool true)], args := [d1, d2] }
  | _ => none }
def fnValueEndAgreesWithRecursiveParserRow : OpenClaim := { program := "qxb6600283a", sum := "4794b2c64938812a643dbc8c59f9e6027db06329ab9f56dad19e8bced62c2c59", func := "example.com/hamr/hamr/zzlaws_internal_jsontext_b1.FnValueEndAgreesWithRecursiveParser", spec := "fnValueEndAgreesWithRecursiveParser", inPlace := ["internal/bytealg.IndexByte"], recurses := true, apart := false }
def FnValueEndAgreesWithRecursiveParserSaid : Prop := fnValueEndAgreesWithRecursiveParserRow.holds Try.pinned (OpenSpec.ofChange fnValueEndAgreesWithRecursiveParserSpec)

/-- ITS FALSE NEIGHBOUR: 'it returns false'. Refute it at one input. -/
def fnValueEndAgreesWithRecursiveParserWrong : ChangeSpec := { name := "fnValueEndAgreesWithRecursiveParser", fn := fun _ => fun
  | [d1, d2] => { results := [.lit (.bool false)], args := [d1, d2] }
  | _ => none }
def FnValueEndAgreesWithRecursiveParserWrongFalsely : Prop := fnValueEndAgreesWithRecursiveParserRow.holds Try.pinned (OpenSpec.ofChange fnValueEndAgreesWithRecursiveParserWrong)

/-- 'zzlaws_internal_jsontext_b1.FnShallowKeepsOneValueWhole': WHATEVER THE INPUT: true; the input reads as it did. -/
def fnShallowKeepsOneValueWholeSpec : ChangeSpec := { name := "fnShallowKeepsOneValueWhole", fn := fun _ => fun
  | [d1, d2] => { results := [.lit (.bool true)], args := [d1, d2] }
  | _ => none }
def fnShallowKeepsOneValueWholeRow : OpenClaim := { program := "qxb6600283a", sum := "4794b2c64938812a643dbc8c59f9e6027db06329ab9f56dad19e8bced62c2c59", func := "example.com/hamr/hamr/zzlaws_internal_jsontext_b1.FnShallowKeepsOneValueWhole", spec := "fnShallowKeepsOneValueWhole", inPlace := ["internal/bytealg.IndexByte"], recurses := true, apart := false }
def FnShallowKeepsOneValueWholeSaid : Prop := fnShallowKeepsOneValueWholeRow.holds Try.pinned (OpenSpec.ofChange fnShallowKeepsOneValueWholeSpec)

/-- ITS FALSE NEIGHBOUR: 'it returns false'. Refute it at one input. -/
def fnShallowKeepsOneValueWholeWrong : ChangeSpec := { name := "fnShallowKeepsOneValueWhole", fn := fun _ => fun
  | [d1, d2] => { results := [.lit (.bool false)], args := [d1, d2] }
  | _ => none }
def FnShallowKeepsOneValueWholeWrongFalsely : Prop := fnShallowKeepsOneValueWholeRow.holds Try.pinned (OpenSpec.ofChange fnShallowKeepsOneValueWholeWrong)

end Rows
end Go.Proofs.Qxb6600283a
