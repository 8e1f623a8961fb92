/-
  No cell of these rows narrows 'for every input' (looked for: loops, veiled, ifaces, maps, wideKeys, modest, calm, conditions, laid).
  DERIVED. THE GIVEN ROWS OF THIS SEAT. 6 by the template 'for every input the law returns true; each argument reads behind the call as it read before'; 0 by the template 'total and deterministic' (their statements: Qxb6002360aTotals.lean).
  GIVEN WITH THE SEED: the statements are not yours to turn. If you find one false, say at which input.
  Laid BY PROGRAM, IN A SANDBOX (cutbox-rows.mjs): the forced cells as the released guide's own fill.sh prints them over the translation 82ad4ea0e3a3e8d7… (all of the seat's roots in one cut). By AI agents, Wed Nov 11 2026. No macro, syntax, notation, axiom, sorry.
-/
import Derived.Test.Qxb6002360aChecked
import GoSem.Claim
import GoSem.ClaimJoined
import GoSem.ClaimMapViews
import Derived.JoinedTies
import Derived.KernelRfl
namespace Go.Proofs.Qxb6002360a
/- THE CELL 'sum', in the pinned program and in every row, IS THE sha256 OF THE DUMP (.gsa) THAT Qxb6002360aProg.lean LOADS. Nothing in Lean hashes anything: it is a label: what it is worth is what the hold of that sum in a sandbox is worth. -/
noncomputable def Try.pinned : Pinned := { name := "qxb6002360a", sum := "82ad4ea0e3a3e8d7dbec53d76d610de168937fb8455634f78c69000c0f61b331", checked := Try.checked }
namespace Rows
def none {H : Type} : Left H := { results := [], args := [] }

/-- 'zzlaws_root_f1.FnRoundUpIsLeastMultipleAtOrAbove': WHATEVER THE INPUT: true; the input reads as it did. -/
def fnRoundUpIsLeastMultipleAtOrAboveSpec : ChangeSpec := { name := "fnRoundUpIsLeastMultipleAtOrAbove", fn := fun _ => fun
  | [d1, d2] => { results := [.lit (.bool true)], args := [d1, d2] }
  | _ => none }
def fnRoundUpIsLeastMultipleAtOrAboveRow : OpenClaim := { program := "qxb6002360a", sum := "82ad4ea0e3a3e8d7dbec53d76d610de168937fb8455634f78c69000c0f61b331", func := "example.com/typefit/typefit/zzlaws_root_f1.FnRoundUpIsLeastMultipleAtOrAbove", spec := "fnRoundUpIsLeastMultipleAtOrAbove", apart := false }
def FnRoundUpIsLeastMultipleAtOrAboveSaid : Prop := fnRoundUpIsLeastMultipleAtOrAboveRow.holds Try.pinned (OpenSpec.ofChange fnRoundUpIsLeastMultipleAtOrAboveSpec)

/-- ITS FALSE NEIGHBOUR: 'it returns false'. Refute it at one input. -/
def fnRoundUpIsLeastMultipleAtOrAboveWrong : ChangeSpec := { name := "fnRoundUpIsLeastMultipleAtOrAbove", fn := fun _ => fun
  | [d1, d2] => { results := [.lit (.bool false)], args := [d1, d2] }
  | _ => none }
def FnRoundUpIsLeastMultipleAtOrAboveWrongFalsely : Prop := fnRoundUpIsLeastMultipleAtOrAboveRow.holds Try.pinned (OpenSpec.ofChange fnRoundUpIsLeastMultipleAtOrAboveWrong)

/-- 'zzlaws_root_f1.FnRoundUpMonotoneAndAbsorbs': WHATEVER THE INPUT: true; the input reads as it did. -/
def fnRoundUpMonotoneAndAbsorbsSpec : ChangeSpec := { name := "fnRoundUpMonotoneAndAbsorbs", fn := fun _ => fun
  | [d1, d2, d3, d4] => { results := [.lit (.bool true)], args := [d1, d2, d3, d4] }
  | _ => none }
def fnRoundUpMonotoneAndAbsorbsRow : OpenClaim := { program := "qxb6002360a", sum := "82ad4ea0e3a3e8d7dbec53d76d610de168937fb8455634f78c69000c0f61b331", func := "example.com/typefit/typefit/zzlaws_root_f1.FnRoundUpMonotoneAndAbsorbs", spec := "fnRoundUpMonotoneAndAbsorbs", apart := false }
def FnRoundUpMonotoneAndAbsorbsSaid : Prop := fnRoundUpMonotoneAndAbsorbsRow.holds Try.pinned (OpenSpec.ofChange fnRoundUpMonotoneAndAbsorbsSpec)

/-- ITS FALSE NEIGHBOUR: 'it returns false'. Refute it at one input. -/
def fnRoundUpMonotoneAndAbsorbsWrong : ChangeSpec := { name := "fnRoundUpMonotoneAndAbsorbs", fn := fun _ => fun
  | [d1, d2, d3, d4] => { results := [.lit (.bool false)], args := [d1, d2, d3, d4] }
  | _ => none }
def FnRoundUpMonotoneAndAbsorbsWrongFalsely : Prop := fnRoundUpMonotoneAndAbsorbsRow.holds Try.pinned (OpenSpec.ofChange fnRoundUpMonotoneAndAbsorbsWrong)

/-- 'zzlaws_root_f1.FnArrayLayoutIsCappedProduct': WHATEVER THE INPUT: true; the input reads as it did. -/
def fnArrayLayoutIsCappedProductSpec : ChangeSpec := { name := "fnArrayLayoutIsCappedProduct", fn := fun _ => fun
  | [d1, d2, d3, d4] => { results := [.lit (.bool true)], args := [d1, d2, d3, d4] }
  | _ => none }
def fnArrayLayoutIsCappedProductRow : OpenClaim := { program := "qxb6002360a", sum := "82ad4ea0e3a3e8d7dbec53d76d610de168937fb8455634f78c69000c0f61b331", func := "example.com/typefit/typefit/zzlaws_root_f1.FnArrayLayoutIsCappedProduct", spec := "fnArrayLayoutIsCappedProduct", apart := false }
def FnArrayLayoutIsCappedProductSaid : Prop := fnArrayLayoutIsCappedProductRow.holds Try.pinned (OpenSpec.ofChange fnArrayLayoutIsCappedProductSpec)

/-- ITS FALSE NEIGHBOUR: 'it returns false'. Refute it at one input. -/
def fnArrayLayoutIsCappedProductWrong : ChangeSpec := { name := "fnArrayLayoutIsCappedProduct", fn := fun _ => fun
  | [d1, d2, d3, d4] => { results := [.lit (.bool false)], args := [d1, d2, d3, d4] }
  | _ => none }
def FnArrayLayoutIsCappedProductWrongFalsely : Prop := fnArrayLayoutIsCappedProductRow.holds Try.pinned (OpenSpec.ofChange fnArrayLayoutIsCappedProductWrong)

/-- 'zzlaws_root_f1.FnArrayLayoutAddsUpToTheCap': WHATEVER THE INPUT: true; the input reads as it did. -/
def fnArrayLayoutAddsUpToTheCapSpec : ChangeSpec := { name := "fnArrayLayoutAddsUpToTheCap", fn := fun _ => fun
  | [d1, d2, d3, d4] => { results := [.lit (.bool true)], args := [d1, d2, d3, d4] }
  | _ => none }
def fnArrayLayoutAddsUpToTheCapRow : OpenClaim := { program := "qxb6002360a", sum := "82ad4ea0e3a3e8d7dbec53d76d610de168937fb8455634f78c69000c0f61b331", func := "example.com/typefit/typefit/zzlaws_root_f1.FnArrayLayoutAddsUpToTheCap", spec := "fnArrayLayoutAddsUpToTheCap", apart := false }
def FnArrayLayoutAddsUpToTheCapSaid : Prop := fnArrayLayoutAddsUpToTheCapRow.holds Try.pinned (OpenSpec.ofChange fnArrayLayoutAddsUpToTheCapSpec)

/-- ITS FALSE NEIGHBOUR: 'it returns false'. Refute it at one input. -/
def fnArrayLayoutAddsUpToTheCapWrong : ChangeSpec := { name := "fnArrayLayoutAddsUpToTheCap", fn := fun _ => fun
  | [d1, d2, d3, d4] => { results := [.lit (.bool false)], args := [d1, d2, d3, d4] }
  | _ => none }
def FnArrayLayoutAddsUpToTheCapWrongFalsely : Prop := fnArrayLayoutAddsUpToTheCapRow.holds Try.pinned (OpenSpec.ofChange fnArrayLayoutAddsUpToTheCapWrong)

/-- 'zzlaws_root_f1.FnSameKindIsAnEquivalenceNamedByKindName': WHATEVER THE INPUT: true; the input reads as it did. -/
def fnSameKindIsAnEquivalenceNamedByKindNameSpec : ChangeSpec := { name := "fnSameKindIsAnEquivalenceNamedByKindName", fn := fun _ => fun
  | [d1, d2, d3, d4, d5, d6] => { results := [.lit (.bool true)], args := [d1, d2, d3, d4, d5, d6] }
  | _ => none }
def fnSameKindIsAnEquivalenceNamedByKindNameRow : OpenClaim := { program := "qxb6002360a", sum := "82ad4ea0e3a3e8d7dbec53d76d610de168937fb8455634f78c69000c0f61b331", func := "example.com/typefit/typefit/zzlaws_root_f1.FnSameKindIsAnEquivalenceNamedByKindName", spec := "fnSameKindIsAnEquivalenceNamedByKindName", apart := false }
def FnSameKindIsAnEquivalenceNamedByKindNameSaid : Prop := fnSameKindIsAnEquivalenceNamedByKindNameRow.holds Try.pinned (OpenSpec.ofChange fnSameKindIsAnEquivalenceNamedByKindNameSpec)

/-- ITS FALSE NEIGHBOUR: 'it returns false'. Refute it at one input. -/
def fnSameKindIsAnEquivalenceNamedByKindNameWrong : ChangeSpec := { name := "fnSameKindIsAnEquivalenceNamedByKindName", fn := fun _ => fun
  | [d1, d2, d3, d4, d5, d6] => { results := [.lit (.bool false)], args := [d1, d2, d3, d4, d5, d6] }
  | _ => none }
def FnSameKindIsAnEquivalenceNamedByKindNameWrongFalsely : Prop := fnSameKindIsAnEquivalenceNamedByKindNameRow.holds Try.pinned (OpenSpec.ofChange fnSameKindIsAnEquivalenceNamedByKindNameWrong)

/-- 'zzlaws_root_f1.FnVerdictStringReadsBack': WHATEVER THE INPUT: true; the input reads as it did. -/
def fnVerdictStringReadsBackSpec : ChangeSpec := { name := "fnVerdictStringReadsBack", fn := fun _ => fun
  | [d1, d2, d3, d4] => { results := [.lit (.bool true)], args := [d1, d2, d3, d4] }
  | _ => none }
def fnVerdictStringReadsBackRow : OpenClaim := { program := "qxb6002360a", sum := "82ad4ea0e3a3e8d7dbec53d76d610de168937fb8455634f78c69000c0f61b331", func := "example.com/typefit/typefit/zzlaws_root_f1.FnVerdictStringReadsBack", spec := "fnVerdictStringReadsBack", apart := false }
def FnVerdictStringReadsBackSaid : Prop := fnVerdictStringReadsBackRow.holds Try.pinned (OpenSpec.ofChange fnVerdictStringReadsBackSpec)

/-- ITS FALSE NEIGHBOUR: 'it returns false'. Refute it at one input. -/
def fnVerdictStringReadsBackWrong : ChangeSpec := { name := "fnVerdictStringReadsBack", fn := fun _ => fun
  | [d1, d2, d3, d4] => { results := [.lit (.bool false)], args := [d1, d2, d3, d4] }
  | _ => none }
def FnVerdictStringReadsBackWrongFalsely : Prop := fnVerdictStringReadsBackRow.holds Try.pinned (OpenSpec.ofChange fnVerdictStringReadsBackWrong)

end Rows
end Go.Proofs.Qxb6002360a
