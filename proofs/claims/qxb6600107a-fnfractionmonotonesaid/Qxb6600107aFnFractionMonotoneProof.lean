/-
  The proof of 'Rows.FnFractionMonotoneSaid', on the shell that came with the seat.
-/
import Derived.Test.Qxb6600107aRows
import Derived.WalkKit
import Derived.ProofKit
import Derived.OpenShut
import Derived.ShutString
import Derived.Test.Qxb6600107aHead
import Derived.Test.Qxb6600107aFrac
import Derived.Test.Qxb6600107aNine
import Derived.Test.Qxb6600107aLex
namespace Go.Proofs.Qxb6600107a.fnFractionMonotone
open Go.ChangeShapes Go.WideShapes Go.ChangeAt Go.RowKit
open Go.ChangeMaps (open_string shut_string)
set_option linter.unusedVariables false      -- a walk need not use every 'w<i>' (that an integer argument fits its kind)

theorem own : ownKnob Try.prog.godebug = none := by kernel_rfl

/-! ### STEP 1: THE WALK: the Go text returns true. 'Grown w w'': the world has at most new blocks (Derived/RowKit3.lean). Part the cases AHEAD of 'go_enter' where a test parts the walk; take each callee by a contract of your own. -/
theorem bytes_yes (a b : ByteArray) (w : World) (h : a.size + b.size ≤ 1048576) :
    Calls Try.prog 27 #[.string a, .string b] w fun e w' => e = .returned (.bool true) ∧ w' = w := by
  go_enter Try.func27, Try.ntmps27
  go_wp2
  go_ret
  exact ⟨rfl, rfl⟩
theorem bytes_no (a b : ByteArray) (w : World) (h : 1048576 < a.size + b.size) (ha : a.size ≤ maxLen) (hb : b.size ≤ maxLen) :
    Calls Try.prog 27 #[.string a, .string b] w fun e w' => e = .returned (.bool false) ∧ w' = w := by
  unfold maxLen at ha hb
  go_enter Try.func27, Try.ntmps27
  go_wp2
  all_goals
    go_ret
    exact ⟨rfl, rfl⟩

open Frac

theorem isEmpty_yes (s : ByteArray) (h : s.size = 0) : s.toList.isEmpty = true := by
  rw [ByteArray.toList_eq, List.isEmpty_iff_length_eq_zero]; simpa using h
theorem isEmpty_no (s : ByteArray) (h : ¬ s.size = 0) : s.toList.isEmpty = false := by
  cases e : s.toList.isEmpty with
  | false => rfl
  | true => rw [ByteArray.toList_eq, List.isEmpty_iff_length_eq_zero] at e; exact absurd (by simpa using e) h

/-- A full stop and digits alone: all is read, nothing is left. -/
theorem zz_all (a : ByteArray) (w : World) (hsz : a.size ≤ 1048576) (h1 : 1 ≤ a.size) (ha : AllDig a) :
    Calls Try.prog 25 #[.string (Nine.dot ++ a)] w fun e w' => e = .returned (.tuple #[.int .i64 (hor (dig a) 9), .string ⟨#[]⟩, .bool true]) ∧ Below w.heap.size w w' := by
  have hs : (Nine.dot ++ a).size = 1 + a.size := ByteArray.size_append
  have e2 : (Nine.dot ++ a).extract (Nine.dot ++ a).size (Nine.dot ++ a).size = ⟨#[]⟩ := Nine.ext _ _ (by rw [ByteArray.size_extract]; show _ = 0; omega) (fun k x y => absurd y (Nat.not_lt_zero k))
  have := zz_ok (Nine.dot ++ a) (Nine.dot ++ a).size w (by omega) ⟨by omega, Nine.dot_at a _⟩ (by omega) (by omega)
    (fun k h k1 k2 => by rw [Nine.dot_next a k k1 h]; exact ha _ _) (fun h => by omega)
  rw [e2, Nine.nano_dot] at this
  exact this

set_option maxHeartbeats 1000000 in
theorem walk (a0 : ByteArray) (a1 : ByteArray) (w0 : a0.size ≤ maxLen) (w1 : a1.size ≤ maxLen) (w : World) :
    Calls Try.prog 11 #[.string a0, .string a1] w fun e w' => e = .returned (.bool true) ∧ Below w.heap.size w w' := by
  by_cases hl : a0.size + a1.size ≤ 1048576
  case neg =>
    go_enter Try.func11, Try.ntmps11
    go_wp2_with fail
    refine (bytes_no a0 a1 _ (by omega) w0 w1).mono ?_
    rintro e w ⟨rfl, rfl⟩
    go_wp2
    go_ret
    exact ⟨rfl, Below.refl _ _⟩
  case pos =>
    have W0 : Hid (a0.size ≤ maxLen) := w0
    have W1 : Hid (a1.size ≤ maxLen) := w1
    clear w0 w1
    go_enter Try.func11, Try.ntmps11
    go_wp2_with fail
    refine (bytes_yes a0 a1 _ hl).mono ?_
    rintro e w ⟨rfl, rfl⟩
    by_cases z0 : a0.size = 0
    case pos =>
      have e0 := isEmpty_yes a0 z0
      clear z0
      go_wp2
      go_ret
      exact ⟨rfl, Below.refl _ _⟩
    have e0 := isEmpty_no a0 z0
    have p0 : 1 ≤ a0.size := by omega
    clear z0
    by_cases z1 : a1.size = 0
    case pos =>
      have e1 := isEmpty_yes a1 z1
      clear z1
      go_wp2
      go_ret
      exact ⟨rfl, Below.refl _ _⟩
    have e1 := isEmpty_no a1 z1
    have p1 : 1 ≤ a1.size := by omega
    clear z1
    go_wp2_with fail
    by_cases hx0 : AllDig a0
    case neg =>
      refine (allDigits_no a0 _ W0 hx0).mono ?_
      rintro e w ⟨rfl, rfl⟩
      clear hx0
      go_wp2
      go_ret
      exact ⟨rfl, Below.refl _ _⟩
    have H0 : Hid (AllDig a0) := hx0
    clear hx0
    refine (allDigits_yes a0 _ W0 H0).mono ?_
    rintro e w ⟨rfl, rfl⟩
    go_wp2_with fail
    by_cases hx1 : AllDig a1
    case neg =>
      refine (allDigits_no a1 _ W1 hx1).mono ?_
      rintro e w ⟨rfl, rfl⟩
      clear hx1
      go_wp2
      go_ret
      exact ⟨rfl, Below.refl _ _⟩
    have H1 : Hid (AllDig a1) := hx1
    clear hx1
    refine (allDigits_yes a1 _ W1 H1).mono ?_
    rintro e w ⟨rfl, rfl⟩
    go_wp2_with fail
    refine (Lex.lex_any a0 a1 _ (by omega) (by omega)).mono ?_
    rintro e u1 ⟨x, rfl, hx, hb1⟩
    have HB1 : Hid (Below w.heap.size w u1) := hb1
    clear hb1
    cases x with
    | false =>
      clear hx
      go_wp2
      go_ret
      exact ⟨rfl, HB1.out⟩
    | true =>
      have HLE : Hid (hor (dig a0) 9 ≤ hor (dig a1) 9) := Lex.le_hor a0 a1 H0.out H1.out (hx rfl)
      clear hx
      go_wp2_with fail
      refine (zz_all a0 _ (by omega) p0 H0.out).mono ?_
      rintro e u2 ⟨rfl, hb2⟩
      have HB2 : Hid (Below w.heap.size w u2) := HB1.out.trans (hb2.mono HB1.out.size)
      clear hb2 HB1
      go_wp2_with fail
      refine (zz_all a1 _ (by omega) p1 H1.out).mono ?_
      rintro e u3 ⟨rfl, hb3⟩
      have HB3 : Hid (Below w.heap.size w u3) := HB2.out.trans (hb3.mono HB2.out.size)
      clear hb3 HB2
      generalize hor (dig a0) 9 = x0 at *
      generalize hor (dig a1) 9 = x1 at *
      have hle := HLE.out
      go_wp2
      go_ret
      exact ⟨by simp, HB3.out⟩

/-! ### THE ROW's STEP: WRITTEN OUT: LEAVE IT -/
set_option maxRecDepth 100000 in
theorem lifted (os : Os) (started : os.Started) (H : Type) (enc : TypeId × Value → H) :
    ReturnsInHanded {} Try.checked os 11 .any (Rows.fnFractionMonotoneSpec.pre6 enc Try.prog Try.f11 Rows.fnFractionMonotoneRow.domain false) (Rows.fnFractionMonotoneSpec.post enc Try.prog Try.f11 false true false false) := by
  refine returnsInHanded_of_change (C := Try.checked) own started (by kernel_rfl) Try.func11
    (ChangeSpec.witness6 (enc := enc) (C := Try.checked) false ⟨#[], #[.string ByteArray.empty, .string ByteArray.empty], []⟩ 8 (by kernel_rfl) (by kernel_rfl) (by kernel_rfl) (by kernel_rfl)) ?_
  intro W base args ds gs before hval0 hW hcnd _
  have hval : ∀ (j : Nat) t v, Try.f11.params[j]? = some t → args[j]? = some v → Value.okWide Try.prog W .any base t v := hval0
  have hW' := hW
  obtain ⟨p, q, hA0, hV, rfl, hfz, hnd⟩ := hW
  have hA : DataW.TrodAll enc Try.prog W 0 (fun _ => true) true Try.f11.params.toList args.toList ds p := hA0
  rw [Try.params11] at hA hval
  obtain ⟨v0, vs0, d0, ds0, p0, q0, hargs, rfl, rfl, h0, r0⟩ := trodAll_cons hA
  obtain ⟨v1, vs1, d1, ds1, p1, q1, rfl, rfl, rfl, h1, r1⟩ := trodAll_cons r0
  obtain ⟨rfl, rfl, rfl⟩ := trodAll_nil r1
  obtain rfl : args = #[v0, v1] := by cases args; simp_all
  obtain ⟨rfl, rfl⟩ := trodVars_none hV
  obtain ⟨a0, rfl, rfl, rfl, w0⟩ := open_string Try.underlying9 (hval 0 9 v0 rfl rfl) h0
  obtain ⟨a1, rfl, rfl, rfl, w1⟩ := open_string Try.underlying9 (hval 1 9 v1 rfl rfl) h1
  clear hA0 hval0
  simp only [List.append_nil] at hW'
  refine (walk a0 a1 w0 w1 W).mono fun e W' ⟨he, bel⟩ => ?_
  subst he
  exact ⟨_, rfl, _, _, _, [], [], [], hW', (trodAll_cons_mk (shut_bool Try.underlying4 _) trodAll_mk0), (trodAll_cons_mk (shut_string Try.underlying9 w0) (trodAll_cons_mk (shut_string Try.underlying9 w1) trodAll_mk0)), rfl, bel.frame _, fun h => by cases h⟩

theorem closed : joinedFacts Try.pinned.checked.prog 11 Try.f11 Rows.fnFractionMonotoneSpec Rows.fnFractionMonotoneRow = true := by
  unfold joinedFacts
  rw [Head.make_is, Head.final_is, Head.enter_is]
  kernel_rfl

theorem over : Rows.fnFractionMonotoneRow.holds Try.pinned (OpenSpec.ofChange Rows.fnFractionMonotoneSpec) :=
  OpenClaim.holds_of_wide 11 Try.f11 rfl rfl rfl rfl rfl rfl rfl ⟨rfl, rfl, rfl, rfl, rfl⟩ rfl rfl rfl rfl rfl (by kernel_rfl) Try.func11 closed
    (of_decide_eq_true (by kernel_rfl)) (by unfold Func.isWrapper; first | (rw [if_pos (by decide +kernel)]; kernel_rfl) | (rw [if_neg (by decide +kernel)]; exact ⟨rfl, rfl⟩))
    (fun os started H enc _ => lifted os started H enc)

/-- ████ THE STATEMENT ████ -/
theorem proved : Rows.FnFractionMonotoneSaid :=
  over
#print axioms proved
end Go.Proofs.Qxb6600107a.fnFractionMonotone
