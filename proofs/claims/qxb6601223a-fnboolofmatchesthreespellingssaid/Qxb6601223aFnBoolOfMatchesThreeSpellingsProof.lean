/-
  The proof of 'Rows.FnBoolOfMatchesThreeSpellingsSaid', on the shell that came with the seat.
-/
import Derived.Test.Qxb6601223aRows
import Derived.WalkKit
import Derived.ProofKit
import Derived.OpenShut
import Derived.ShutString
import Derived.Test.Qxb6601223aHead
import Derived.Test.Qxb6601223aWords
import Derived.Test.Qxb6601223aSpell
import Derived.Test.Qxb6601223aModel
namespace Go.Proofs.Qxb6601223a.fnBoolOfMatchesThreeSpellings
open Go.ChangeShapes Go.WideShapes Go.ChangeAt Go.RowKit
open Go.ChangeMaps (open_string shut_string)
set_option linter.unusedVariables false      -- a walk need not use every 'w<i>' (that an integer argument fits its kind)

theorem own : ownKnob Try.prog.godebug = none := by kernel_rfl

/-! ### STEP 1: THE WALK: the Go text returns true. 'Grown w w'': the world has at most new blocks (Derived/RowKit3.lean). Part the cases AHEAD of 'go_enter' where a test parts the walk; take each callee by a contract of your own. -/
theorem bytes_yes (a : ByteArray) (p : Bool) (w : World) (h : a.size ≤ 1048576) :
    Calls Try.prog 9 #[.string a, .bool p] w fun e w' => e = .returned (.bool true) ∧ w' = w := by
  go_enter Try.func9, Try.ntmps9
  go_wp2
  go_ret
  exact ⟨rfl, rfl⟩
theorem bytes_no (a : ByteArray) (p : Bool) (w : World) (h : 1048576 < a.size) (ha : a.size ≤ maxLen) :
    Calls Try.prog 9 #[.string a, .bool p] w fun e w' => e = .returned (.bool false) ∧ w' = w := by
  unfold maxLen at ha
  go_enter Try.func9, Try.ntmps9
  go_wp2
  go_ret
  exact ⟨rfl, rfl⟩

set_option maxHeartbeats 400000 in
theorem walk (a0 : ByteArray) (a1 : Bool) (w0 : a0.size ≤ maxLen) (w : World) :
    Calls Try.prog 3 #[.string a0, .bool a1] w fun e w' => e = .returned (.bool true) ∧ Below w.heap.size w w' := by
  by_cases hl : a0.size ≤ 1048576
  case neg =>
    go_enter Try.func3, Try.ntmps3
    go_wp2_with fail
    refine (bytes_no a0 a1 _ (by omega) w0).mono ?_
    rintro e w ⟨rfl, rfl⟩
    go_wp2
    go_ret
    exact ⟨rfl, Below.refl _ _⟩
  case pos =>
    clear w0
    go_enter Try.func3, Try.ntmps3
    go_wp2_with fail
    refine (bytes_yes a0 a1 _ hl).mono ?_
    rintro e w ⟨rfl, rfl⟩
    go_wp2_with fail
    refine (Spell.zz_any a0 a1 _).mono ?_
    rintro e w ⟨x, y, rfl, h1, rfl⟩
    have H1 : Hid ((x, y) = Words.bo a0.toList a1) := h1
    clear h1
    go_wp2_with fail
    refine (Model.model_any a0 a1 _ hl).mono ?_
    rintro e w1 ⟨x', y', rfl, h2, hb⟩
    have HB : Hid (Below w.heap.size w w1) := hb
    have he : (x, y) = (x', y') := H1.out.trans ((Words.law a0.toList a1).trans h2.symm)
    simp only [Prod.mk.injEq] at he
    obtain ⟨rfl, rfl⟩ := he
    clear h2 hb H1
    go_wp2
    go_ret
    exact ⟨by simp, HB.out⟩

/-! ### THE ROW's STEP: WRITTEN OUT: LEAVE IT -/
set_option maxRecDepth 100000 in
theorem lifted (os : Os) (started : os.Started) (H : Type) (enc : TypeId × Value → H) :
    ReturnsInHanded {} Try.checked os 3 .any (Rows.fnBoolOfMatchesThreeSpellingsSpec.pre6 enc Try.prog Try.f3 Rows.fnBoolOfMatchesThreeSpellingsRow.domain false) (Rows.fnBoolOfMatchesThreeSpellingsSpec.post enc Try.prog Try.f3 false true false false) := by
  refine returnsInHanded_of_change (C := Try.checked) own started (by kernel_rfl) Try.func3
    (ChangeSpec.witness6 (enc := enc) (C := Try.checked) false ⟨#[], #[.string ByteArray.empty, .bool false], []⟩ 8 (by kernel_rfl) (by kernel_rfl) (by kernel_rfl) (by kernel_rfl)) ?_
  intro W base args ds gs before hval0 hW hcnd _
  have hval : ∀ (j : Nat) t v, Try.f3.params[j]? = some t → args[j]? = some v → Value.okWide Try.prog W .any base t v := hval0
  have hW' := hW
  obtain ⟨p, q, hA0, hV, rfl, hfz, hnd⟩ := hW
  have hA : DataW.TrodAll enc Try.prog W 0 (fun _ => true) true Try.f3.params.toList args.toList ds p := hA0
  rw [Try.params3] at hA hval
  obtain ⟨v0, vs0, d0, ds0, p0, q0, hargs, rfl, rfl, h0, r0⟩ := trodAll_cons hA
  obtain ⟨v1, vs1, d1, ds1, p1, q1, rfl, rfl, rfl, h1, r1⟩ := trodAll_cons r0
  obtain ⟨rfl, rfl, rfl⟩ := trodAll_nil r1
  obtain rfl : args = #[v0, v1] := by cases args; simp_all
  obtain ⟨rfl, rfl⟩ := trodVars_none hV
  obtain ⟨a0, rfl, rfl, rfl, w0⟩ := open_string Try.underlying9 (hval 0 9 v0 rfl rfl) h0
  obtain ⟨a1, rfl, rfl, rfl⟩ := open_bool Try.underlying4 (hval 1 4 v1 rfl rfl) h1
  clear hA0 hval0
  simp only [List.append_nil] at hW'
  refine (walk a0 a1 w0 W).mono fun e W' ⟨he, bel⟩ => ?_
  subst he
  exact ⟨_, rfl, _, _, _, [], [], [], hW', (trodAll_cons_mk (shut_bool Try.underlying4 _) trodAll_mk0), (trodAll_cons_mk (shut_string Try.underlying9 w0) (trodAll_cons_mk (shut_bool Try.underlying4 _) trodAll_mk0)), rfl, bel.frame _, fun h => by cases h⟩

theorem closed : joinedFacts Try.pinned.checked.prog 3 Try.f3 Rows.fnBoolOfMatchesThreeSpellingsSpec Rows.fnBoolOfMatchesThreeSpellingsRow = true := by
  unfold joinedFacts
  rw [Head.make_is, Head.final_is, Head.enter_is]
  kernel_rfl

theorem over : Rows.fnBoolOfMatchesThreeSpellingsRow.holds Try.pinned (OpenSpec.ofChange Rows.fnBoolOfMatchesThreeSpellingsSpec) :=
  OpenClaim.holds_of_wide 3 Try.f3 rfl rfl rfl rfl rfl rfl rfl ⟨rfl, rfl, rfl, rfl, rfl⟩ rfl rfl rfl rfl rfl (by kernel_rfl) Try.func3 closed
    (of_decide_eq_true (by kernel_rfl)) (by unfold Func.isWrapper; first | (rw [if_pos (by decide +kernel)]; kernel_rfl) | (rw [if_neg (by decide +kernel)]; exact ⟨rfl, rfl⟩))
    (fun os started H enc _ => lifted os started H enc)

/-- ████ THE STATEMENT ████ -/
theorem proved : Rows.FnBoolOfMatchesThreeSpellingsSaid :=
  over
#print axioms proved
end Go.Proofs.Qxb6601223a.fnBoolOfMatchesThreeSpellings
