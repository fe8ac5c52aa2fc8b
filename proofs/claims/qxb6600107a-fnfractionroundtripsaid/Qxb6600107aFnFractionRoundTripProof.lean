/-
  The proof of 'Rows.FnFractionRoundTripSaid', on the shell that came with the seat.
-/
import Derived.Test.Qxb6600107aRows
import Derived.WalkKit
import Derived.ProofKit
import Derived.OpenShut
import Derived.ShutString
import Derived.Test.Qxb6600107aHead
import Derived.Test.Qxb6600107aFrac
import Derived.Test.Qxb6600107aNine
namespace Go.Proofs.Qxb6600107a.fnFractionRoundTrip
open Go.ChangeShapes Go.WideShapes Go.ChangeAt Go.RowKit
open Go.ChangeMaps (open_string shut_string)
set_option linter.unusedVariables false      -- a walk need not use every 'w<i>' (that an integer argument fits its kind)

theorem own : ownKnob Try.prog.godebug = none := by kernel_rfl

/-! ### STEP 1: THE WALK: the Go text returns true. 'Grown w w'': the world has at most new blocks (Derived/RowKit3.lean). Part the cases AHEAD of 'go_enter' where a test parts the walk; take each callee by a contract of your own. -/
theorem bytes_yes (n : Int) (t : Bool) (a b : ByteArray) (w : World) (h : a.size + b.size ≤ 1048576) :
    Calls Try.prog 22 #[.int .i64 n, .bool t, .string a, .string b] w fun e w' => e = .returned (.bool true) ∧ w' = w := by
  go_enter Try.func22, Try.ntmps22
  go_wp2
  go_ret
  exact ⟨rfl, rfl⟩
theorem bytes_no (n : Int) (t : Bool) (a b : ByteArray) (w : World) (h : 1048576 < a.size + b.size) (ha : a.size ≤ maxLen) (hb : b.size ≤ maxLen) :
    Calls Try.prog 22 #[.int .i64 n, .bool t, .string a, .string b] w fun e w' => e = .returned (.bool false) ∧ w' = w := by
  unfold maxLen at ha hb
  go_enter Try.func22, Try.ntmps22
  go_wp2
  all_goals
    go_ret
    exact ⟨rfl, rfl⟩

open Frac

theorem zero_step (n : Int) (m : Nat) (h : Nine.ZeroFrom n m) (hm : m - 1 < (Nine.text n).size) (hz : (Nine.text n)[m - 1].toNat = 48) : Nine.ZeroFrom n (m - 1) := fun i hi hj => by
  by_cases e : i = m - 1
  · subst e; exact hz
  · exact h i hi (by omega)

set_option maxHeartbeats 1000000 in
theorem walk (a0 : Int) (a1 : Bool) (a2 : ByteArray) (a3 : ByteArray) (w0 : (Lit.int .i64 a0).wf = true) (w2 : a2.size ≤ maxLen) (w3 : a3.size ≤ maxLen) (w : World) :
    Calls Try.prog 9 #[.int .i64 a0, .bool a1, .string a2, .string a3] w fun e w' => e = .returned (.bool true) ∧ Below w.heap.size w w' := by
  clear w0
  by_cases hl : a2.size + a3.size ≤ 1048576
  case neg =>
    go_enter Try.func9, Try.ntmps9
    go_wp2_with fail
    refine (bytes_no a0 a1 a2 a3 _ (by omega) w2 w3).mono ?_
    rintro e w ⟨rfl, rfl⟩
    go_wp2
    go_ret
    exact ⟨rfl, Below.refl _ _⟩
  case pos =>
    have W2 : Hid (a2.size ≤ maxLen) := w2
    clear w2 w3
    go_enter Try.func9, Try.ntmps9
    go_wp2_with fail
    refine (bytes_yes a0 a1 a2 a3 _ hl).mono ?_
    rintro e w ⟨rfl, rfl⟩
    by_cases n0 : 0 ≤ a0
    case neg =>
      go_wp2
      go_ret
      exact ⟨rfl, Below.refl _ _⟩
    by_cases n9 : a0 ≤ 999999999
    case neg =>
      go_wp2
      go_ret
      exact ⟨rfl, Below.refl _ _⟩
    go_wp2_with fail
    by_cases hx : AllDig a2
    case neg =>
      refine (allDigits_no a2 _ W2 hx).mono ?_
      rintro e w ⟨rfl, rfl⟩
      clear hx
      go_wp2
      go_ret
      exact ⟨rfl, Below.refl _ _⟩
    have HX : Hid (AllDig a2) := hx
    clear hx
    refine (allDigits_yes a2 _ W2 HX).mono ?_
    rintro e w ⟨rfl, rfl⟩
    by_cases hr : 0 < a3.size
    · go_wp2_with fail
      by_cases hd : isDig a3[0].toNat
      · refine (isDigit_yes _ _ hd).mono ?_
        rintro e w ⟨rfl, rfl⟩
        clear hd
        go_wp2
        go_ret
        exact ⟨rfl, Below.refl _ _⟩
      · refine (isDigit_no _ _ hd).mono ?_
        rintro e w ⟨rfl, rfl⟩
        have HRr : Hid (∀ h : 0 < a3.size, ¬ isDig a3[0].toNat) := fun _ => hd
        clear hd
        go_wp2_with fail
        refine (Nine.nine_any a0 _ n0 n9).mono ?_
        rintro e w1 ⟨rfl, hb1⟩
        have HB1 : Hid (Below w.heap.size w w1) := hb1
        clear hb1
        have hts : (Nine.text a0).size = 9 := Nine.text_size a0
        cases a1 with
        | false =>
          go_wp2_with fail
          refine (Nine.zz_full a0 a2 a3 _ n0 n9 hl HX.out HRr.out).mono ?_
          rintro e w2 ⟨rfl, hb2⟩
          have HB2 : Hid (Below w1.heap.size w1 w2) := hb2
          clear hb2
          go_wp2
          go_ret
          exact ⟨by simp, HB1.out.trans (HB2.out.mono HB1.out.size)⟩
        | true =>
          go_wp2_with fail
          go_loop [11] (fun i => ∃ m : Nat, 1 ≤ m ∧ m ≤ 9 ∧ i = .int .i64 m ∧ Hid (Nine.ZeroFrom a0 m)) (fun i => (intOf i).toNat)
          case atStart => exact ⟨9, by omega, by omega, rfl, fun i h hi => by rw [Nine.text_size] at h; omega⟩
          case round =>
            obtain ⟨m, m1, m9, rfl, HZ⟩ := hrel
            by_cases hm : 1 < m
            · have hml : m - 1 < (Nine.text a0).size := by omega
              by_cases hz : (Nine.text a0)[m - 1].toNat = 48
              · go_wp2_with fail
                refine ⟨⟨m - 1, by omega, by omega, congrArg (Value.int .i64) (by omega), zero_step a0 m HZ.out hml hz⟩, ?_⟩
                simp [intOf]
                omega
              · have hz' : (((Nine.text a0)[m - 1].toNat : Int) == 48) = false := beq_eq_false_iff_ne.2 (by omega)
                clear hz
                go_wp2_with fail
                refine (Nine.zz_cut a0 m a3 _ n0 n9 m1 m9 HZ.out (by omega) HRr.out).mono ?_
                rintro e w2 ⟨rfl, hb2⟩
                have HB2 : Hid (Below w1.heap.size w1 w2) := hb2
                clear hb2
                go_wp2
                go_ret
                exact ⟨by simp, HB1.out.trans (HB2.out.mono HB1.out.size)⟩
            · go_wp2_with fail
              refine (Nine.zz_cut a0 m a3 _ n0 n9 m1 m9 HZ.out (by omega) HRr.out).mono ?_
              rintro e w2 ⟨rfl, hb2⟩
              have HB2 : Hid (Below w1.heap.size w1 w2) := hb2
              clear hb2
              go_wp2
              go_ret
              exact ⟨by simp, HB1.out.trans (HB2.out.mono HB1.out.size)⟩
    · have HRr : Hid (∀ h : 0 < a3.size, ¬ isDig a3[0].toNat) := fun h => absurd h hr
      go_wp2_with fail
      refine (Nine.nine_any a0 _ n0 n9).mono ?_
      rintro e w1 ⟨rfl, hb1⟩
      have HB1 : Hid (Below w.heap.size w w1) := hb1
      clear hb1
      have hts : (Nine.text a0).size = 9 := Nine.text_size a0
      cases a1 with
      | false =>
        go_wp2_with fail
        refine (Nine.zz_full a0 a2 a3 _ n0 n9 hl HX.out HRr.out).mono ?_
        rintro e w2 ⟨rfl, hb2⟩
        have HB2 : Hid (Below w1.heap.size w1 w2) := hb2
        clear hb2
        go_wp2
        go_ret
        exact ⟨by simp, HB1.out.trans (HB2.out.mono HB1.out.size)⟩
      | true =>
        go_wp2_with fail
        go_loop [11] (fun i => ∃ m : Nat, 1 ≤ m ∧ m ≤ 9 ∧ i = .int .i64 m ∧ Hid (Nine.ZeroFrom a0 m)) (fun i => (intOf i).toNat)
        case atStart => exact ⟨9, by omega, by omega, rfl, fun i h hi => by rw [Nine.text_size] at h; omega⟩
        case round =>
          obtain ⟨m, m1, m9, rfl, HZ⟩ := hrel
          by_cases hm : 1 < m
          · have hml : m - 1 < (Nine.text a0).size := by omega
            by_cases hz : (Nine.text a0)[m - 1].toNat = 48
            · go_wp2_with fail
              refine ⟨⟨m - 1, by omega, by omega, congrArg (Value.int .i64) (by omega), zero_step a0 m HZ.out hml hz⟩, ?_⟩
              simp [intOf]
              omega
            · have hz' : (((Nine.text a0)[m - 1].toNat : Int) == 48) = false := beq_eq_false_iff_ne.2 (by omega)
              clear hz
              go_wp2_with fail
              refine (Nine.zz_cut a0 m a3 _ n0 n9 m1 m9 HZ.out (by omega) HRr.out).mono ?_
              rintro e w2 ⟨rfl, hb2⟩
              have HB2 : Hid (Below w1.heap.size w1 w2) := hb2
              clear hb2
              go_wp2
              go_ret
              exact ⟨by simp, HB1.out.trans (HB2.out.mono HB1.out.size)⟩
          · go_wp2_with fail
            refine (Nine.zz_cut a0 m a3 _ n0 n9 m1 m9 HZ.out (by omega) HRr.out).mono ?_
            rintro e w2 ⟨rfl, hb2⟩
            have HB2 : Hid (Below w1.heap.size w1 w2) := hb2
            clear hb2
            go_wp2
            go_ret
            exact ⟨by simp, HB1.out.trans (HB2.out.mono HB1.out.size)⟩

/-! ### THE ROW's STEP: WRITTEN OUT: LEAVE IT -/
set_option maxRecDepth 100000 in
theorem lifted (os : Os) (started : os.Started) (H : Type) (enc : TypeId × Value → H) :
    ReturnsInHanded {} Try.checked os 9 .any (Rows.fnFractionRoundTripSpec.pre6 enc Try.prog Try.f9 Rows.fnFractionRoundTripRow.domain false) (Rows.fnFractionRoundTripSpec.post enc Try.prog Try.f9 false true false false) := by
  refine returnsInHanded_of_change (C := Try.checked) own started (by kernel_rfl) Try.func9
    (ChangeSpec.witness6 (enc := enc) (C := Try.checked) false ⟨#[], #[.int .i64 0, .bool false, .string ByteArray.empty, .string ByteArray.empty], []⟩ 8 (by kernel_rfl) (by kernel_rfl) (by kernel_rfl) (by kernel_rfl)) ?_
  intro W base args ds gs before hval0 hW hcnd _
  have hval : ∀ (j : Nat) t v, Try.f9.params[j]? = some t → args[j]? = some v → Value.okWide Try.prog W .any base t v := hval0
  have hW' := hW
  obtain ⟨p, q, hA0, hV, rfl, hfz, hnd⟩ := hW
  have hA : DataW.TrodAll enc Try.prog W 0 (fun _ => true) true Try.f9.params.toList args.toList ds p := hA0
  rw [Try.params9] at hA hval
  obtain ⟨v0, vs0, d0, ds0, p0, q0, hargs, rfl, rfl, h0, r0⟩ := trodAll_cons hA
  obtain ⟨v1, vs1, d1, ds1, p1, q1, rfl, rfl, rfl, h1, r1⟩ := trodAll_cons r0
  obtain ⟨v2, vs2, d2, ds2, p2, q2, rfl, rfl, rfl, h2, r2⟩ := trodAll_cons r1
  obtain ⟨v3, vs3, d3, ds3, p3, q3, rfl, rfl, rfl, h3, r3⟩ := trodAll_cons r2
  obtain ⟨rfl, rfl, rfl⟩ := trodAll_nil r3
  obtain rfl : args = #[v0, v1, v2, v3] := by cases args; simp_all
  obtain ⟨rfl, rfl⟩ := trodVars_none hV
  obtain ⟨a0, rfl, rfl, rfl, w0⟩ := open_int Try.underlying3 (hval 0 3 v0 rfl rfl) h0
  obtain ⟨a1, rfl, rfl, rfl⟩ := open_bool Try.underlying4 (hval 1 4 v1 rfl rfl) h1
  obtain ⟨a2, rfl, rfl, rfl, w2⟩ := open_string Try.underlying9 (hval 2 9 v2 rfl rfl) h2
  obtain ⟨a3, rfl, rfl, rfl, w3⟩ := open_string Try.underlying9 (hval 3 9 v3 rfl rfl) h3
  clear hA0 hval0
  simp only [List.append_nil] at hW'
  refine (walk a0 a1 a2 a3 w0 w2 w3 W).mono fun e W' ⟨he, bel⟩ => ?_
  subst he
  exact ⟨_, rfl, _, _, _, [], [], [], hW', (trodAll_cons_mk (shut_bool Try.underlying4 _) trodAll_mk0), (trodAll_cons_mk (shut_int Try.underlying3 w0) (trodAll_cons_mk (shut_bool Try.underlying4 _) (trodAll_cons_mk (shut_string Try.underlying9 w2) (trodAll_cons_mk (shut_string Try.underlying9 w3) trodAll_mk0)))), rfl, bel.frame _, fun h => by cases h⟩

theorem closed : joinedFacts Try.pinned.checked.prog 9 Try.f9 Rows.fnFractionRoundTripSpec Rows.fnFractionRoundTripRow = true := by
  unfold joinedFacts
  rw [Head.make_is, Head.final_is, Head.enter_is]
  kernel_rfl

theorem over : Rows.fnFractionRoundTripRow.holds Try.pinned (OpenSpec.ofChange Rows.fnFractionRoundTripSpec) :=
  OpenClaim.holds_of_wide 9 Try.f9 rfl rfl rfl rfl rfl rfl rfl ⟨rfl, rfl, rfl, rfl, rfl⟩ rfl rfl rfl rfl rfl (by kernel_rfl) Try.func9 closed
    (of_decide_eq_true (by kernel_rfl)) (by unfold Func.isWrapper; first | (rw [if_pos (by decide +kernel)]; kernel_rfl) | (rw [if_neg (by decide +kernel)]; exact ⟨rfl, rfl⟩))
    (fun os started H enc _ => lifted os started H enc)

/-- ████ THE STATEMENT ████ -/
theorem proved : Rows.FnFractionRoundTripSaid :=
  over
#print axioms proved
end Go.Proofs.Qxb6600107a.fnFractionRoundTrip
