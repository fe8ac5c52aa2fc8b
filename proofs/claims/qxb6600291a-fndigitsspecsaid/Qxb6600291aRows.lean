/-
  No cell of these rows narrows 'for every input' (looked for: loops, veiled, ifaces, maps, wideKeys, modest, calm, conditions, laid).
  DERIVED. THE GIVEN ROWS OF THIS SEAT. 6 by the template 'for every input the law returns true; each argument reads behind the call as it read before'; 0 by the template 'total and deterministic' (their statements: Qxb6600291aTotals.lean).
  GIVEN WITH THE SEED: the statements are not yours to turn. If you find one false, say at which input.
  Laid BY PROGRAM, IN A SANDBOX (cutbox-rows.mjs): the forced cells as the released guide's own fill.sh prints them over the translation 6224e8628f974957… (all of the seat's roots in one cut). By AI agents, Wed Nov 11 2026. No macro, syntax, notation, axiom, sorry.
-/
import Derived.Test.Qxb6600291aChecked
import GoSem.Claim
import GoSem.ClaimJoined
import GoSem.ClaimMapViews
import Derived.JoinedTies
import Derived.KernelRfl
namespace Go.Proofs.Qxb6600291a
/- THE CELL 'sum', in the pinned program and in every row, IS THE sha256 OF THE DUMP (.gsa) THAT Qxb6600291aProg.lean LOADS. Nothing in Lean hashes anything: it is a label: what it is worth is what the hold of that sum in a sandbox is worth. -/
noncomputable def Try.pinned : Pinned := { name := "qxb6600291a", sum := "6224e8628f974957d4d5d1f81b7b6a5ae1744d0d8c7c20d8a6b24e50736a90d9", checked := Try.checked }
namespace Rows
def none {H : Type} : Left H := { results := [], args := [] }

/-- 'zzlaws_pkg_jsonin_b1.FnSpaceSpec': WHATEVER THE INPUT: true; the input reads as it did. -/
def fnSpaceSpecSpec : ChangeSpec := { name := "fnSpaceSpec", fn := fun _ => fun
  | [d1, d2] => { results := [.lit (.bool true)], args := [d1, d2] }
  | _ => none }
def fnSpaceSpecRow : OpenClaim := { program := "qxb6600291a", sum := "6224e8628f974957d4d5d1f81b7b6a5ae1744d0d8c7c20d8a6b24e50736a90d9", func := "example.com/bellwether/bellwether/zzlaws_pkg_jsonin_b1.FnSpaceSpec", spec := "fnSpaceSpec", apart := false }
def FnSpaceSpecSaid : Prop := fnSpaceSpecRow.holds Try.pinned (OpenSpec.ofChange fnSpaceSpecSpec)

/-- ITS FALSE NEIGHBOUR: 'it returns false'. Refute it at one input. -/
def fnSpaceSpecWrong : ChangeSpec := { name := "fnSpaceSpec", fn := fun _ => fun
  | [d1, d2] => { results := [.lit (.bool false)], args := [d1, d2] }
  | _ => none }
def FnSpaceSpecWrongFalsely : Prop := fnSpaceSpecRow.holds Try.pinned (OpenSpec.ofChange fnSpaceSpecWrong)

/-- 'zzlaws_pkg_jsonin_b1.FnSpaceIdempotent': WHATEVER THE INPUT: true; the input reads as it did. -/
def fnSpaceIdempotentSpec : ChangeSpec := { name := "fnSpaceIdempotent", fn := fun _ => fun
  | [d1, d2] => { results := [.lit (.bool true)], args := [d1, d2] }
  | _ => none }
def fnSpaceIdempotentRow : OpenClaim := { program := "qxb6600291a", sum := "6224e8628f974957d4d5d1f81b7b6a5ae1744d0d8c7c20d8a6b24e50736a90d9", func := "example.com/bellwether/bellwether/zzlaws_pkg_jsonin_b1.FnSpaceIdempotent", spec := "fnSpaceIdempotent", apart := false }
def FnSpaceIdempotentSaid : Prop := fnSpaceIdempotentRow.holds Try.pinned (OpenSpec.ofChange fnSpaceIdempotentSpec)

/-- ITS FALSE NEIGHBOUR: 'it returns false'. Refute it at one input. -/
def fnSpaceIdempotentWrong : ChangeSpec := { name := "fnSpaceIdempotent", fn := fun _ => fun
  | [d1, d2] => { results := [.lit (.bool false)], args := [d1, d2] }
  | _ => none }
def FnSpaceIdempotentWrongFalsely : Prop := fnSpaceIdempotentRow.holds Try.pinned (OpenSpec.ofChange fnSpaceIdempotentWrong)

/-- 'zzlaws_pkg_jsonin_b1.FnSpaceMonotone': WHATEVER THE INPUT: true; the input reads as it did. -/
def fnSpaceMonotoneSpec : ChangeSpec := { name := "fnSpaceMonotone", fn := fun _ => fun
  | [d1, d2, d3] => { results := [.lit (.bool true)], args := [d1, d2, d3] }
  | _ => none }
def fnSpaceMonotoneRow : OpenClaim := { program := "qxb6600291a", sum := "6224e8628f974957d4d5d1f81b7b6a5ae1744d0d8c7c20d8a6b24e50736a90d9", func := "example.com/bellwether/bellwether/zzlaws_pkg_jsonin_b1.FnSpaceMonotone", spec := "fnSpaceMonotone", apart := false }
def FnSpaceMonotoneSaid : Prop := fnSpaceMonotoneRow.holds Try.pinned (OpenSpec.ofChange fnSpaceMonotoneSpec)

/-- ITS FALSE NEIGHBOUR: 'it returns false'. Refute it at one input. -/
def fnSpaceMonotoneWrong : ChangeSpec := { name := "fnSpaceMonotone", fn := fun _ => fun
  | [d1, d2, d3] => { results := [.lit (.bool false)], args := [d1, d2, d3] }
  | _ => none }
def FnSpaceMonotoneWrongFalsely : Prop := fnSpaceMonotoneRow.holds Try.pinned (OpenSpec.ofChange fnSpaceMonotoneWrong)

/-- 'zzlaws_pkg_jsonin_b1.FnWordAfterSpaceRoundTrip': WHATEVER THE INPUT: true; the input reads as it did. -/
def fnWordAfterSpaceRoundTripSpec : ChangeSpec := { name := "fnWordAfterSpaceRoundTrip", fn := fun _ => fun
  | [d1, d2, d3] => { results := [.lit (.bool true)], args := [d1, d2, d3] }
  | _ => none }
def fnWordAfterSpaceRoundTripRow : OpenClaim := { program := "qxb6600291a", sum := "6224e8628f974957d4d5d1f81b7b6a5ae1744d0d8c7c20d8a6b24e50736a90d9", func := "example.com/bellwether/bellwether/zzlaws_pkg_jsonin_b1.FnWordAfterSpaceRoundTrip", spec := "fnWordAfterSpaceRoundTrip", apart := false }
def FnWordAfterSpaceRoundTripSaid : Prop := fnWordAfterSpaceRoundTripRow.holds Try.pinned (OpenSpec.ofChange fnWordAfterSpaceRoundTripSpec)

/-- ITS FALSE NEIGHBOUR: 'it returns false'. Refute it at one input. -/
def fnWordAfterSpaceRoundTripWrong : ChangeSpec := { name := "fnWordAfterSpaceRoundTrip", fn := fun _ => fun
  | [d1, d2, d3] => { results := [.lit (.bool false)], args := [d1, d2, d3] }
  | _ => none }
def FnWordAfterSpaceRoundTripWrongFalsely : Prop := fnWordAfterSpaceRoundTripRow.holds Try.pinned (OpenSpec.ofChange fnWordAfterSpaceRoundTripWrong)

/-- 'zzlaws_pkg_jsonin_b1.FnDigitsSpec': WHATEVER THE INPUT: true; the input reads as it did. -/
def fnDigitsSpecSpec : ChangeSpec := { name := "fnDigitsSpec", fn := fun _ => fun
  | [d1, d2] => { results := [.lit (.bool true)], args := [d1, d2] }
  | _ => none }
def fnDigitsSpecRow : OpenClaim := { program := "qxb6600291a", sum := "6224e8628f974957d4d5d1f81b7b6a5ae1744d0d8c7c20d8a6b24e50736a90d9", func := "example.com/bellwether/bellwether/zzlaws_pkg_jsonin_b1.FnDigitsSpec", spec := "fnDigitsSpec", apart := false }
def FnDigitsSpecSaid : Prop := fnDigitsSpecRow.holds Try.pinned (OpenSpec.ofChange fnDigitsSpecSpec)

/-- ITS FALSE NEIGHBOUR: 'it returns false'. Refute it at one input. -/
def fnDigitsSpecWrong : ChangeSpec := { name := "fnDigitsSpec", fn := fun _ => fun
  | [d1, d2] => { results := [.lit (.bool false)], args := [d1, d2] }
  | _ => none }
def FnDigitsSpecWrongFalsely : Prop := fnDigitsSpecRow.holds Try.pinned (OpenSpec.ofChange fnDigitsSpecWrong)

/-- 'zzlaws_pkg_jsonin_b1.FnDigitsSecondCallReadsNothing': WHATEVER THE INPUT: true; the input reads as it did. -/
def fnDigitsSecondCallReadsNothingSpec : ChangeSpec := { name := "fnDigitsSecondCallReadsNothing", fn := fun _ => fun
  | [d1, d2] => { results := [.lit (.bool true)], args := [d1, d2] }
  | _ => none }
def fnDigitsSecondCallReadsNothingRow : OpenClaim := { program := "qxb6600291a", sum := "6224e8628f974957d4d5d1f81b7b6a5ae1744d0d8c7c20d8a6b24e50736a90d9", func := "example.com/bellwether/bellwether/zzlaws_pkg_jsonin_b1.FnDigitsSecondCallReadsNothing", spec := "fnDigitsSecondCallReadsNothing", apart := false }
def FnDigitsSecondCallReadsNothingSaid : Prop := fnDigitsSecondCallReadsNothingRow.holds Try.pinned (OpenSpec.ofChange fnDigitsSecondCallReadsNothingSpec)

/-- ITS FALSE NEIGHBOUR: 'it returns false'. Refute it at one input. -/
def fnDigitsSecondCallReadsNothingWrong : ChangeSpec := { name := "fnDigitsSecondCallReadsNothing", fn := fun _ => fun
  | [d1, d2] => { results := [.lit (.bool false)], args := [d1, d2] }
  | _ => none }
def FnDigitsSecondCallReadsNothingWrongFalsely : Prop := fnDigitsSecondCallReadsNothingRow.holds Try.pinned (OpenSpec.ofChange fnDigitsSecondCallReadsNothingWrong)

end Rows
end Go.Proofs.Qxb6600291a
