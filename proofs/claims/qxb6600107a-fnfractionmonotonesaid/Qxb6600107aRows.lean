/-
  No cell of these rows narrows 'for every input' (looked for: loops, veiled, ifaces, maps, wideKeys, modest, calm, conditions, laid).
  DERIVED. THE GIVEN ROWS OF THIS SEAT. 9 by the template 'for every input the law returns true; each argument reads behind the call as it read before'; 0 by the template 'total and deterministic' (their statements: Qxb6600107aTotals.lean).
  GIVEN WITH THE SEED: the statements are not yours to turn. If you find one false, say at which input.
  Laid BY PROGRAM, IN A SANDBOX (cutbox-rows.mjs): the forced cells as the released guide's own fill.sh prints them over the translation 20866983bc53d07e… (all of the seat's roots in one cut). By AI agents, Wed Nov 11 2026. No macro, syntax, notation, axiom, sorry.
-/
import Derived.Test.Qxb6600107aChecked
import GoSem.Claim
import GoSem.ClaimJoined
import GoSem.ClaimMapViews
import Derived.JoinedTies
import Derived.KernelRfl
namespace Go.Proofs.Qxb6600107a
/- THE CELL 'sum', in the pinned program and in every row, IS THE sha256 OF THE DUMP (.gsa) THAT Qxb6600107aProg.lean LOADS. Nothing in Lean hashes anything: it is a label: what it is worth is what the hold of that sum in a sandbox is worth. -/
noncomputable def Try.pinned : Pinned := { name := "qxb6600107a", sum := "20866983bc53d07edfd046b05f063d76c89508a5e97179d0e4977578d6201be5", checked := Try.checked }
namespace Rows
def none {H : Type} : Left H := { results := [], args := [] }

/-- 'zzlaws_jsondoc_b1.FnPlainMatchesByteModel': WHATEVER THE INPUT: true; the input reads as it did. -/
def fnPlainMatchesByteModelSpec : ChangeSpec := { name := "fnPlainMatchesByteModel", fn := fun _ => fun
  | [d] => { results := [.lit (.bool true)], args := [d] }
  | _ => none }
def fnPlainMatchesByteModelRow : OpenClaim := { program := "qxb6600107a", sum := "20866983bc53d07edfd046b05f063d76c89508a5e97179d0e4977578d6201be5", func := "example.com/entitlement-to-allocation/entitlement-to-allocation/zzlaws_jsondoc_b1.FnPlainMatchesByteModel", spec := "fnPlainMatchesByteModel", apart := false }
def FnPlainMatchesByteModelSaid : Prop := fnPlainMatchesByteModelRow.holds Try.pinned (OpenSpec.ofChange fnPlainMatchesByteModelSpec)

/-- ITS FALSE NEIGHBOUR: 'it returns false'. Refute it at one input. -/
def fnPlainMatchesByteModelWrong : ChangeSpec := { name := "fnPlainMatchesByteModel", fn := fun _ => fun
  | [d] => { results := [.lit (.bool false)], args := [d] }
  | _ => none }
def FnPlainMatchesByteModelWrongFalsely : Prop := fnPlainMatchesByteModelRow.holds Try.pinned (OpenSpec.ofChange fnPlainMatchesByteModelWrong)

/-- 'zzlaws_jsondoc_b1.FnPlainConcat': WHATEVER THE INPUT: true; the input reads as it did. -/
def fnPlainConcatSpec : ChangeSpec := { name := "fnPlainConcat", fn := fun _ => fun
  | [d1, d2] => { results := [.lit (.bool true)], args := [d1, d2] }
  | _ => none }
def fnPlainConcatRow : OpenClaim := { program := "qxb6600107a", sum := "20866983bc53d07edfd046b05f063d76c89508a5e97179d0e4977578d6201be5", func := "example.com/entitlement-to-allocation/entitlement-to-allocation/zzlaws_jsondoc_b1.FnPlainConcat", spec := "fnPlainConcat", apart := false }
def FnPlainConcatSaid : Prop := fnPlainConcatRow.holds Try.pinned (OpenSpec.ofChange fnPlainConcatSpec)

/-- ITS FALSE NEIGHBOUR: 'it returns false'. Refute it at one input. -/
def fnPlainConcatWrong : ChangeSpec := { name := "fnPlainConcat", fn := fun _ => fun
  | [d1, d2] => { results := [.lit (.bool false)], args := [d1, d2] }
  | _ => none }
def FnPlainConcatWrongFalsely : Prop := fnPlainConcatRow.holds Try.pinned (OpenSpec.ofChange fnPlainConcatWrong)

/-- 'zzlaws_jsondoc_b1.FnPlainFitsPlainShape': WHATEVER THE INPUT: true; the input reads as it did. -/
def fnPlainFitsPlainShapeSpec : ChangeSpec := { name := "fnPlainFitsPlainShape", fn := fun _ => fun
  | [d1, d2] => { results := [.lit (.bool true)], args := [d1, d2] }
  | _ => none }
def fnPlainFitsPlainShapeRow : OpenClaim := { program := "qxb6600107a", sum := "20866983bc53d07edfd046b05f063d76c89508a5e97179d0e4977578d6201be5", func := "example.com/entitlement-to-allocation/entitlement-to-allocation/zzlaws_jsondoc_b1.FnPlainFitsPlainShape", spec := "fnPlainFitsPlainShape", apart := false }
def FnPlainFitsPlainShapeSaid : Prop := fnPlainFitsPlainShapeRow.holds Try.pinned (OpenSpec.ofChange fnPlainFitsPlainShapeSpec)

/-- ITS FALSE NEIGHBOUR: 'it returns false'. Refute it at one input. -/
def fnPlainFitsPlainShapeWrong : ChangeSpec := { name := "fnPlainFitsPlainShape", fn := fun _ => fun
  | [d1, d2] => { results := [.lit (.bool false)], args := [d1, d2] }
  | _ => none }
def FnPlainFitsPlainShapeWrongFalsely : Prop := fnPlainFitsPlainShapeRow.holds Try.pinned (OpenSpec.ofChange fnPlainFitsPlainShapeWrong)

/-- 'zzlaws_jsondoc_b1.FnFitsPreorder': WHATEVER THE INPUT: true; the input reads as it did. -/
def fnFitsPreorderSpec : ChangeSpec := { name := "fnFitsPreorder", fn := fun _ => fun
  | [d1, d2, d3] => { results := [.lit (.bool true)], args := [d1, d2, d3] }
  | _ => none }
def fnFitsPreorderRow : OpenClaim := { program := "qxb6600107a", sum := "20866983bc53d07edfd046b05f063d76c89508a5e97179d0e4977578d6201be5", func := "example.com/entitlement-to-allocation/entitlement-to-allocation/zzlaws_jsondoc_b1.FnFitsPreorder", spec := "fnFitsPreorder", apart := false }
def FnFitsPreorderSaid : Prop := fnFitsPreorderRow.holds Try.pinned (OpenSpec.ofChange fnFitsPreorderSpec)

/-- ITS FALSE NEIGHBOUR: 'it returns false'. Refute it at one input. -/
def fnFitsPreorderWrong : ChangeSpec := { name := "fnFitsPreorder", fn := fun _ => fun
  | [d1, d2, d3] => { results := [.lit (.bool false)], args := [d1, d2, d3] }
  | _ => none }
def FnFitsPreorderWrongFalsely : Prop := fnFitsPreorderRow.holds Try.pinned (OpenSpec.ofChange fnFitsPreorderWrong)

/-- 'zzlaws_jsondoc_b1.FnFitsConcat': WHATEVER THE INPUT: true; the input reads as it did. -/
def fnFitsConcatSpec : ChangeSpec := { name := "fnFitsConcat", fn := fun _ => fun
  | [d1, d2, d3, d4] => { results := [.lit (.bool true)], args := [d1, d2, d3, d4] }
  | _ => none }
def fnFitsConcatRow : OpenClaim := { program := "qxb6600107a", sum := "20866983bc53d07edfd046b05f063d76c89508a5e97179d0e4977578d6201be5", func := "example.com/entitlement-to-allocation/entitlement-to-allocation/zzlaws_jsondoc_b1.FnFitsConcat", spec := "fnFitsConcat", apart := false }
def FnFitsConcatSaid : Prop := fnFitsConcatRow.holds Try.pinned (OpenSpec.ofChange fnFitsConcatSpec)

/-- ITS FALSE NEIGHBOUR: 'it returns false'. Refute it at one input. -/
def fnFitsConcatWrong : ChangeSpec := { name := "fnFitsConcat", fn := fun _ => fun
  | [d1, d2, d3, d4] => { results := [.lit (.bool false)], args := [d1, d2, d3, d4] }
  | _ => none }
def FnFitsConcatWrongFalsely : Prop := fnFitsConcatRow.holds Try.pinned (OpenSpec.ofChange fnFitsConcatWrong)

/-- 'zzlaws_jsondoc_b1.FnFitsLoosenShape': WHATEVER THE INPUT: true; the input reads as it did. -/
def fnFitsLoosenShapeSpec : ChangeSpec := { name := "fnFitsLoosenShape", fn := fun _ => fun
  | [d1, d2, d3] => { results := [.lit (.bool true)], args := [d1, d2, d3] }
  | _ => none }
def fnFitsLoosenShapeRow : OpenClaim := { program := "qxb6600107a", sum := "20866983bc53d07edfd046b05f063d76c89508a5e97179d0e4977578d6201be5", func := "example.com/entitlement-to-allocation/entitlement-to-allocation/zzlaws_jsondoc_b1.FnFitsLoosenShape", spec := "fnFitsLoosenShape", apart := false }
def FnFitsLoosenShapeSaid : Prop := fnFitsLoosenShapeRow.holds Try.pinned (OpenSpec.ofChange fnFitsLoosenShapeSpec)

/-- ITS FALSE NEIGHBOUR: 'it returns false'. Refute it at one input. -/
def fnFitsLoosenShapeWrong : ChangeSpec := { name := "fnFitsLoosenShape", fn := fun _ => fun
  | [d1, d2, d3] => { results := [.lit (.bool false)], args := [d1, d2, d3] }
  | _ => none }
def FnFitsLoosenShapeWrongFalsely : Prop := fnFitsLoosenShapeRow.holds Try.pinned (OpenSpec.ofChange fnFitsLoosenShapeWrong)

/-- 'zzlaws_jsondoc_b1.FnFractionRoundTrip': WHATEVER THE INPUT: true; the input reads as it did. -/
def fnFractionRoundTripSpec : ChangeSpec := { name := "fnFractionRoundTrip", fn := fun _ => fun
  | [d1, d2, d3, d4] => { results := [.lit (.bool true)], args := [d1, d2, d3, d4] }
  | _ => none }
def fnFractionRoundTripRow : OpenClaim := { program := "qxb6600107a", sum := "20866983bc53d07edfd046b05f063d76c89508a5e97179d0e4977578d6201be5", func := "example.com/entitlement-to-allocation/entitlement-to-allocation/zzlaws_jsondoc_b1.FnFractionRoundTrip", spec := "fnFractionRoundTrip", apart := false }
def FnFractionRoundTripSaid : Prop := fnFractionRoundTripRow.holds Try.pinned (OpenSpec.ofChange fnFractionRoundTripSpec)

/-- ITS FALSE NEIGHBOUR: 'it returns false'. Refute it at one input. -/
def fnFractionRoundTripWrong : ChangeSpec := { name := "fnFractionRoundTrip", fn := fun _ => fun
  | [d1, d2, d3, d4] => { results := [.lit (.bool false)], args := [d1, d2, d3, d4] }
  | _ => none }
def FnFractionRoundTripWrongFalsely : Prop := fnFractionRoundTripRow.holds Try.pinned (OpenSpec.ofChange fnFractionRoundTripWrong)

/-- 'zzlaws_jsondoc_b1.FnFractionShapeAndBounds': WHATEVER THE INPUT: true; the input reads as it did. -/
def fnFractionShapeAndBoundsSpec : ChangeSpec := { name := "fnFractionShapeAndBounds", fn := fun _ => fun
  | [d] => { results := [.lit (.bool true)], args := [d] }
  | _ => none }
def fnFractionShapeAndBoundsRow : OpenClaim := { program := "qxb6600107a", sum := "20866983bc53d07edfd046b05f063d76c89508a5e97179d0e4977578d6201be5", func := "example.com/entitlement-to-allocation/entitlement-to-allocation/zzlaws_jsondoc_b1.FnFractionShapeAndBounds", spec := "fnFractionShapeAndBounds", apart := false }
def FnFractionShapeAndBoundsSaid : Prop := fnFractionShapeAndBoundsRow.holds Try.pinned (OpenSpec.ofChange fnFractionShapeAndBoundsSpec)

/-- ITS FALSE NEIGHBOUR: 'it returns false'. Refute it at one input. -/
def fnFractionShapeAndBoundsWrong : ChangeSpec := { name := "fnFractionShapeAndBounds", fn := fun _ => fun
  | [d] => { results := [.lit (.bool false)], args := [d] }
  | _ => none }
def FnFractionShapeAndBoundsWrongFalsely : Prop := fnFractionShapeAndBoundsRow.holds Try.pinned (OpenSpec.ofChange fnFractionShapeAndBoundsWrong)

/-- 'zzlaws_jsondoc_b1.FnFractionMonotone': WHATEVER THE INPUT: true; the input reads as it did. -/
def fnFractionMonotoneSpec : ChangeSpec := { name := "fnFractionMonotone", fn := fun _ => fun
  | [d1, d2] => { results := [.lit (.bool true)], args := [d1, d2] }
  | _ => none }
def fnFractionMonotoneRow : OpenClaim := { program := "qxb6600107a", sum := "20866983bc53d07edfd046b05f063d76c89508a5e97179d0e4977578d6201be5", func := "example.com/entitlement-to-allocation/entitlement-to-allocation/zzlaws_jsondoc_b1.FnFractionMonotone", spec := "fnFractionMonotone", apart := false }
def FnFractionMonotoneSaid : Prop := fnFractionMonotoneRow.holds Try.pinned (OpenSpec.ofChange fnFractionMonotoneSpec)

/-- ITS FALSE NEIGHBOUR: 'it returns false'. Refute it at one input. -/
def fnFractionMonotoneWrong : ChangeSpec := { name := "fnFractionMonotone", fn := fun _ => fun
  | [d1, d2] => { results := [.lit (.bool false)], args := [d1, d2] }
  | _ => none }
def FnFractionMonotoneWrongFalsely : Prop := fnFractionMonotoneRow.holds Try.pinned (OpenSpec.ofChange fnFractionMonotoneWrong)

end Rows
end Go.Proofs.Qxb6600107a
