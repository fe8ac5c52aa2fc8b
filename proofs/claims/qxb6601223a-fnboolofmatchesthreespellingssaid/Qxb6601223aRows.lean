/-
  No cell of these rows narrows 'for every input' (looked for: loops, veiled, ifaces, maps, wideKeys, modest, calm, conditions, laid).
  DERIVED. THE GIVEN ROWS OF THIS SEAT. 6 by the template 'for every input the law returns true; each argument reads behind the call as it read before'; 0 by the template 'total and deterministic' (their statements: Qxb6601223aTotals.lean).
  GIVEN WITH THE SEED: the statements are not yours to turn. If you find one false, say at which input.
  Laid BY PROGRAM, IN A SANDBOX (cutbox-rows.mjs): the forced cells as the released guide's own fill.sh prints them over the translation 689d6752cff83920… (all of the seat's roots in one cut). By AI agents, Wed Nov 11 2026. No macro, syntax, notation, axiom, sorry.
-/
import Derived.Test.Qxb6601223aChecked
import GoSem.Claim
import GoSem.ClaimJoined
import GoSem.ClaimMapViews
import Derived.JoinedTies
import Derived.KernelRfl
namespace Go.Proofs.Qxb6601223a
/- THE CELL 'sum', in the pinned program and in every row, IS THE sha256 OF THE DUMP (.gsa) THAT Qxb6601223aProg.lean LOADS. Nothing in Lean hashes anything: it is a label: what it is worth is what the hold of that sum in a sandbox is worth. -/
noncomputable def Try.pinned : Pinned := { name := "qxb6601223a", sum := "689d6752cff83920d37c240c35d990b382f1343dee79f31cae0aa42ea2e55823", checked := Try.checked }
namespace Rows
def none {H : Type} : Left H := { results := [], args := [] }

/-- 'zzlaws_internal_repo_b1.FnBoolOfMatchesThreeSpellings': WHATEVER THE INPUT: true; the input reads as it did. -/
def fnBoolOfMatchesThreeSpellingsSpec : ChangeSpec := { name := "fnBoolOfMatchesThreeSpellings", fn := fun _ => fun
  | [d1, d2] => { results := [.lit (.bool true)], args := [d1, d2] }
  | _ => none }
def fnBoolOfMatchesThreeSpellingsRow : OpenClaim := { program := "qxb6601223a", sum := "689d6752cff83920d37c240c35d990b382f1343dee79f31cae0aa42ea2e55823", func := "example.com/windlass/windlass/zzlaws_internal_repo_b1.FnBoolOfMatchesThreeSpellings", spec := "fnBoolOfMatchesThreeSpellings", apart := false }
def FnBoolOfMatchesThreeSpellingsSaid : Prop := fnBoolOfMatchesThreeSpellingsRow.holds Try.pinned (OpenSpec.ofChange fnBoolOfMatchesThreeSpellingsSpec)

/-- ITS FALSE NEIGHBOUR: 'it returns false'. Refute it at one input. -/
def fnBoolOfMatchesThreeSpellingsWrong : ChangeSpec := { name := "fnBoolOfMatchesThreeSpellings", fn := fun _ => fun
  | [d1, d2] => { results := [.lit (.bool false)], args := [d1, d2] }
  | _ => none }
def FnBoolOfMatchesThreeSpellingsWrongFalsely : Prop := fnBoolOfMatchesThreeSpellingsRow.holds Try.pinned (OpenSpec.ofChange fnBoolOfMatchesThreeSpellingsWrong)

/-- 'zzlaws_internal_repo_b1.FnBoolOfPlainOnlyWidens': WHATEVER THE INPUT: true; the input reads as it did. -/
def fnBoolOfPlainOnlyWidensSpec : ChangeSpec := { name := "fnBoolOfPlainOnlyWidens", fn := fun _ => fun
  | [d] => { results := [.lit (.bool true)], args := [d] }
  | _ => none }
def fnBoolOfPlainOnlyWidensRow : OpenClaim := { program := "qxb6601223a", sum := "689d6752cff83920d37c240c35d990b382f1343dee79f31cae0aa42ea2e55823", func := "example.com/windlass/windlass/zzlaws_internal_repo_b1.FnBoolOfPlainOnlyWidens", spec := "fnBoolOfPlainOnlyWidens", apart := false }
def FnBoolOfPlainOnlyWidensSaid : Prop := fnBoolOfPlainOnlyWidensRow.holds Try.pinned (OpenSpec.ofChange fnBoolOfPlainOnlyWidensSpec)

/-- ITS FALSE NEIGHBOUR: 'it returns false'. Refute it at one input. -/
def fnBoolOfPlainOnlyWidensWrong : ChangeSpec := { name := "fnBoolOfPlainOnlyWidens", fn := fun _ => fun
  | [d] => { results := [.lit (.bool false)], args := [d] }
  | _ => none }
def FnBoolOfPlainOnlyWidensWrongFalsely : Prop := fnBoolOfPlainOnlyWidensRow.holds Try.pinned (OpenSpec.ofChange fnBoolOfPlainOnlyWidensWrong)

/-- 'zzlaws_internal_repo_b1.FnBoolOfCaseFolds': WHATEVER THE INPUT: true; the input reads as it did. -/
def fnBoolOfCaseFoldsSpec : ChangeSpec := { name := "fnBoolOfCaseFolds", fn := fun _ => fun
  | [d1, d2] => { results := [.lit (.bool true)], args := [d1, d2] }
  | _ => none }
def fnBoolOfCaseFoldsRow : OpenClaim := { program := "qxb6601223a", sum := "689d6752cff83920d37c240c35d990b382f1343dee79f31cae0aa42ea2e55823", func := "example.com/windlass/windlass/zzlaws_internal_repo_b1.FnBoolOfCaseFolds", spec := "fnBoolOfCaseFolds", apart := false }
def FnBoolOfCaseFoldsSaid : Prop := fnBoolOfCaseFoldsRow.holds Try.pinned (OpenSpec.ofChange fnBoolOfCaseFoldsSpec)

/-- ITS FALSE NEIGHBOUR: 'it returns false'. Refute it at one input. -/
def fnBoolOfCaseFoldsWrong : ChangeSpec := { name := "fnBoolOfCaseFolds", fn := fun _ => fun
  | [d1, d2] => { results := [.lit (.bool false)], args := [d1, d2] }
  | _ => none }
def FnBoolOfCaseFoldsWrongFalsely : Prop := fnBoolOfCaseFoldsRow.holds Try.pinned (OpenSpec.ofChange fnBoolOfCaseFoldsWrong)

/-- 'zzlaws_internal_repo_b1.FnPlainEndMatchesModel': WHATEVER THE INPUT: true; the input reads as it did. -/
def fnPlainEndMatchesModelSpec : ChangeSpec := { name := "fnPlainEndMatchesModel", fn := fun _ => fun
  | [d1, d2, d3] => { results := [.lit (.bool true)], args := [d1, d2, d3] }
  | _ => none }
def fnPlainEndMatchesModelRow : OpenClaim := { program := "qxb6601223a", sum := "689d6752cff83920d37c240c35d990b382f1343dee79f31cae0aa42ea2e55823", func := "example.com/windlass/windlass/zzlaws_internal_repo_b1.FnPlainEndMatchesModel", spec := "fnPlainEndMatchesModel", inPlace := ["internal/bytealg.IndexByte"], apart := false }
def FnPlainEndMatchesModelSaid : Prop := fnPlainEndMatchesModelRow.holds Try.pinned (OpenSpec.ofChange fnPlainEndMatchesModelSpec)

/-- ITS FALSE NEIGHBOUR: 'it returns false'. Refute it at one input. -/
def fnPlainEndMatchesModelWrong : ChangeSpec := { name := "fnPlainEndMatchesModel", fn := fun _ => fun
  | [d1, d2, d3] => { results := [.lit (.bool false)], args := [d1, d2, d3] }
  | _ => none }
def FnPlainEndMatchesModelWrongFalsely : Prop := fnPlainEndMatchesModelRow.holds Try.pinned (OpenSpec.ofChange fnPlainEndMatchesModelWrong)

/-- 'zzlaws_internal_repo_b1.FnPlainEndReadsOnlyItsWindow': WHATEVER THE INPUT: true; the input reads as it did. -/
def fnPlainEndReadsOnlyItsWindowSpec : ChangeSpec := { name := "fnPlainEndReadsOnlyItsWindow", fn := fun _ => fun
  | [d1, d2, d3] => { results := [.lit (.bool true)], args := [d1, d2, d3] }
  | _ => none }
def fnPlainEndReadsOnlyItsWindowRow : OpenClaim := { program := "qxb6601223a", sum := "689d6752cff83920d37c240c35d990b382f1343dee79f31cae0aa42ea2e55823", func := "example.com/windlass/windlass/zzlaws_internal_repo_b1.FnPlainEndReadsOnlyItsWindow", spec := "fnPlainEndReadsOnlyItsWindow", inPlace := ["internal/bytealg.IndexByte"], apart := false }
def FnPlainEndReadsOnlyItsWindowSaid : Prop := fnPlainEndReadsOnlyItsWindowRow.holds Try.pinned (OpenSpec.ofChange fnPlainEndReadsOnlyItsWindowSpec)

/-- ITS FALSE NEIGHBOUR: 'it returns false'. Refute it at one input. -/
def fnPlainEndReadsOnlyItsWindowWrong : ChangeSpec := { name := "fnPlainEndReadsOnlyItsWindow", fn := fun _ => fun
  | [d1, d2, d3] => { results := [.lit (.bool false)], args := [d1, d2, d3] }
  | _ => none }
def FnPlainEndReadsOnlyItsWindowWrongFalsely : Prop := fnPlainEndReadsOnlyItsWindowRow.holds Try.pinned (OpenSpec.ofChange fnPlainEndReadsOnlyItsWindowWrong)

/-- 'zzlaws_internal_repo_b1.FnPlainEndTrimmedTextIsFixed': WHATEVER THE INPUT: true; the input reads as it did. -/
def fnPlainEndTrimmedTextIsFixedSpec : ChangeSpec := { name := "fnPlainEndTrimmedTextIsFixed", fn := fun _ => fun
  | [d1, d2, d3] => { results := [.lit (.bool true)], args := [d1, d2, d3] }
  | _ => none }
def fnPlainEndTrimmedTextIsFixedRow : OpenClaim := { program := "qxb6601223a", sum := "689d6752cff83920d37c240c35d990b382f1343dee79f31cae0aa42ea2e55823", func := "example.com/windlass/windlass/zzlaws_internal_repo_b1.FnPlainEndTrimmedTextIsFixed", spec := "fnPlainEndTrimmedTextIsFixed", inPlace := ["internal/bytealg.IndexByte"], apart := false }
def FnPlainEndTrimmedTextIsFixedSaid : Prop := fnPlainEndTrimmedTextIsFixedRow.holds Try.pinned (OpenSpec.ofChange fnPlainEndTrimmedTextIsFixedSpec)

/-- ITS FALSE NEIGHBOUR: 'it returns false'. Refute it at one input. -/
def fnPlainEndTrimmedTextIsFixedWrong : ChangeSpec := { name := "fnPlainEndTrimmedTextIsFixed", fn := fun _ => fun
  | [d1, d2, d3] => { results := [.lit (.bool false)], args := [d1, d2, d3] }
  | _ => none }
def FnPlainEndTrimmedTextIsFixedWrongFalsely : Prop := fnPlainEndTrimmedTextIsFixedRow.holds Try.pinned (OpenSpec.ofChange fnPlainEndTrimmedTextIsFixedWrong)

end Rows
end Go.Proofs.Qxb6601223a
