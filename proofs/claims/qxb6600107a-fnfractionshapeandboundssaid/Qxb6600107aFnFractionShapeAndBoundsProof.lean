/-
  The proof of 'Rows.FnFractionShapeAndBoundsSaid', on the shell that came with the seat.
-/
import Derived.Test.Qxb6600107aRows
import Derived.WalkKit
import Derived.ProofKit
import Derived.OpenShut
import Derived.ShutString
import Derived.Test.Qxb6600107aHead
import Derived.Test.Qxb6600107aFrac
namespace Go.Proofs.Qxb6600107a.fnFractionShapeAndBounds
open Go.ChangeShapes Go.WideShapes Go.ChangeAt Go.RowKit
open Go.ChangeMaps (open_string shut_string)
set_option linter.unusedVariables false      -- a walk need not use every 'w<i>' (that an integer argument fits its kind)

theorem own : ownKnob Try.prog.godebug = none := by kernel_rfl

/-! ### STEP 1: THE WALK: the Go text returns true. 'Grown w w'': the world has at most new blocks (Derived/RowKit3.lean). Part the cases AHEAD of 'go_enter' where a test parts the walk; take each callee by a contract of your own. -/
theorem bytes_yes (a : ByteArray) (w : World) (h : a.size ≤ 1048576) :
    Calls Try.prog 26 #[.string a] w fun e w' => e = .returned (.bool true) ∧ w' = w := by
  go_enter Try.func26, Try.ntmps26
  go_wp2
  go_ret
  exact ⟨rfl, rfl⟩
theorem bytes_no (a : ByteArray) (w : World) (h : 1048576 < a.size) (ha : a.size ≤ maxLen) :
    Calls Try.prog 26 #[.string a] w fun e w' => e = .returned (.bool false) ∧ w' = w := by
  unfold maxLen at ha
  go_enter Try.func26, Try.ntmps26
  go_wp2
  go_ret
  exact ⟨rfl, rfl⟩

open Frac

theorem exists_end (s : ByteArray) : ∀ (d m : Nat), s.size - m = d → 1 ≤ m → m ≤ s.size → RunTo s m → ∃ n, m ≤ n ∧ n ≤ s.size ∧ RunTo s n ∧ EndAt s n
  | 0, m, hd, h1, hm, hr => ⟨m, Nat.le_refl _, hm, hr, fun h => by omega⟩
  | d + 1, m, hd, h1, hm, hr => by
    by_cases hx : isDig (s[m]'(by omega)).toNat
    · obtain ⟨n, a, b, c, e⟩ := exists_end s d (m + 1) (by omega) (by omega) (by omega) (fun k h k1 hk => by
        by_cases e : k = m
        · subst e; exact hx
        · exact hr k h k1 (by omega))
      exact ⟨n, by omega, b, c, e⟩
    · exact ⟨m, Nat.le_refl _, hm, hr, fun h => hx⟩

theorem dg_bd (s : ByteArray) (n : Nat) (hn : n ≤ s.size) (hr : RunTo s n) (i : Nat) : 0 ≤ dg s n i ∧ dg s n i ≤ 9 := by
  unfold dg
  by_cases h : i + 1 < n
  · rw [if_pos h, dig_at s (i + 1) (by omega)]
    have := hr (i + 1) (by omega) (by omega) h
    unfold isDig at this
    omega
  · rw [if_neg h]; omega
theorem nano_div (s : ByteArray) (n : Nat) (hn : n ≤ s.size) (hr : RunTo s n) : nano s n / 100000000 = dg s n 0 := by
  have b := dg_bd s n hn hr
  have b0 := b 0; have b1 := b 1; have b2 := b 2; have b3 := b 3; have b4 := b 4; have b5 := b 5; have b6 := b 6; have b7 := b 7; have b8 := b 8
  unfold nano
  simp only [hor]
  omega

theorem nano_div1 (s : ByteArray) (n : Nat) (h2 : 2 ≤ n) (hn : n ≤ s.size) (hr : RunTo s n) (h : 1 < s.size) : nano s n / (100000000 : Int) = (s[1].toNat : Int) - 48 := by
  have e := nano_div s n hn hr
  have e2 : dg s n 0 = (s[1].toNat : Int) - 48 := by unfold dg; rw [if_pos (by omega), dig_at s 1 h]
  omega

theorem allDig_ex (s : ByteArray) (n : Nat) (h1 : 1 ≤ n) (hn : n ≤ s.size) (hr : RunTo s n) : AllDig (s.extract 1 n) := fun k h => by
  have := ex_size s n h1 hn
  rw [ByteArray.getElem_extract]
  exact hr (1 + k) (by omega) (by omega) (by omega)
theorem rest_at (s : ByteArray) (n : Nat) (hn : n < s.size) (he : EndAt s n) (h : 0 < (s.extract n s.size).size) : ¬ isDig (s.extract n s.size)[0].toNat := by
  rw [ByteArray.getElem_extract]
  exact he hn

set_option maxHeartbeats 1000000 in
theorem walk (a0 : ByteArray) (w0 : a0.size ≤ maxLen) (w : World) :
    Calls Try.prog 10 #[.string a0] w fun e w' => e = .returned (.bool true) ∧ Below w.heap.size w w' := by
  by_cases hl : a0.size ≤ 1048576
  case neg =>
    go_enter Try.func10, Try.ntmps10
    go_wp2_with fail
    refine (bytes_no a0 _ (by omega) w0).mono ?_
    rintro e w ⟨rfl, rfl⟩
    go_wp2
    go_ret
    exact ⟨rfl, Below.refl _ _⟩
  case pos =>
    have W0 : Hid (a0.size ≤ maxLen) := w0
    clear w0
    go_enter Try.func10, Try.ntmps10
    go_wp2_with fail
    refine (bytes_yes a0 _ hl).mono ?_
    rintro e w ⟨rfl, rfl⟩
    go_wp2_with fail
    by_cases hdot : Dot a0
    case neg =>
      refine (zz_none a0 _ W0 hdot).mono ?_
      rintro e w ⟨rfl, rfl⟩
      by_cases hz : a0.size = 0
      · have hz' : ((a0.size : Int) == 0) = true := beq_iff_eq.2 (by omega)
        clear hdot
        go_wp2
        go_ret
        exact ⟨by simp, Below.refl _ _⟩
      · have hz' : ((a0.size : Int) == 0) = false := beq_eq_false_iff_ne.2 (by omega)
        have hp : 0 < a0.size := by omega
        have hq : ((a0[0].toNat : Int) != 46) = true := by
          rw [bne_iff_ne]; intro e; exact hdot ⟨hp, by omega⟩
        clear hdot hz
        go_wp2
        go_ret
        exact ⟨by simp, Below.refl _ _⟩
    case pos =>
      have hp : 0 < a0.size := hdot.1
      have hz' : ((a0.size : Int) == 0) = false := beq_eq_false_iff_ne.2 (by omega)
      have hq : ((a0[0].toNat : Int) != 46) = false := by
        rw [bne_eq_false_iff_eq]; have := hdot.2; omega
      obtain ⟨n, n1, n2, hr, he⟩ := exists_end a0 _ 1 rfl (Nat.le_refl _) hp (fun k h k1 k2 => by omega)
      have HD : Hid (Dot a0) := hdot
      have HR : Hid (RunTo a0 n) := hr
      have HE : Hid (EndAt a0 n) := he
      clear hdot hr he
      by_cases hn : n = 1
      case pos =>
        subst hn
        refine (zz_bad a0 _ W0 HD HE).mono ?_
        rintro e w ⟨rfl, rfl⟩
        by_cases h2 : a0.size < 2
        · go_wp2
          go_ret
          exact ⟨by simp, Below.refl _ _⟩
        · go_wp2_with fail
          refine (isDigit_no _ _ (HE.out (by omega))).mono ?_
          rintro e w ⟨rfl, rfl⟩
          go_wp2
          go_ret
          exact ⟨by simp, Below.refl _ _⟩
      case neg =>
        have n2' : 2 ≤ n := by omega
        clear hn
        have hb1 : 0 ≤ nano a0 n := hor_nonneg _ (dg_bd a0 n n2 HR.out) 9
        have hb2 : nano a0 n ≤ 999999999 := hor_le9 _ (dg_bd a0 n n2 HR.out) 9 (by omega)
        have h2s : 1 < a0.size := by omega
        have hd1 := HR.out 1 h2s (Nat.le_refl _) (by omega)
        have hd11 := hd1.1
        have hd12 := hd1.2
        have hv : (nano a0 n / (100000000 : Int) != (a0[1].toNat : Int) - 48) = false := by rw [nano_div1 a0 n n2' n2 HR.out h2s]; simp
        have hsub : a0.size - (a0.size - n) = n := by omega
        have HA : Hid (AllDig (a0.extract 1 n)) := allDig_ex a0 n n1 n2 HR.out
        have H1 : Hid (isDig a0[1].toNat) := hd1
        clear hd1
        refine (zz_ok a0 n _ (by omega) HD n2' n2 HR HE).mono ?_
        rintro e w1 ⟨rfl, hb⟩
        have HB : Hid (Below w.heap.size w w1) := hb
        clear hb
        go_wp2_with fail
        refine (isDigit_yes _ _ H1).mono ?_
        rintro e w1 ⟨rfl, rfl⟩
        go_wp2_with fail
        refine (allDigits_yes _ _ ?_ HA).mono ?_
        · have := ex_size a0 n n1 n2
          unfold maxLen; omega
        rintro e w1 ⟨rfl, rfl⟩
        by_cases hns : n < a0.size
        · go_wp2_with fail
          refine (isDigit_no _ _ ?_).mono ?_
          · exact rest_at a0 n hns HE.out (by rw [ByteArray.size_extract]; omega)
          rintro e w1 ⟨rfl, rfl⟩
          go_wp2
          go_ret
          exact ⟨by simp, HB.out⟩
        · go_wp2
          go_ret
          exact ⟨by simp, HB.out⟩

/-! ### THE ROW's STEP: WRITTEN OUT: LEAVE IT -/
set_option maxRecDepth 100000 in
theorem lifted (os : Os) (started : os.Started) (H : Type) (enc : TypeId × Value → H) :
    ReturnsInHanded {} Try.checked os 10 .any (Rows.fnFractionShapeAndBoundsSpec.pre6 enc Try.prog Try.f10 Rows.fnFractionShapeAndBoundsRow.domain false) (Rows.fnFractionShapeAndBoundsSpec.post enc Try.prog Try.f10 false true false false) := by
  refine returnsInHanded_of_change (C := Try.checked) own started (by kernel_rfl) Try.func10
    (ChangeSpec.witness6 (enc := enc) (C := Try.checked) false ⟨#[], #[.string ByteArray.empty], []⟩ 8 (by kernel_rfl) (by kernel_rfl) (by kernel_rfl) (by kernel_rfl)) ?_
  intro W base args ds gs before hval0 hW hcnd _
  have hval : ∀ (j : Nat) t v, Try.f10.params[j]? = some t → args[j]? = some v → Value.okWide Try.prog W .any base t v := hval0
  have hW' := hW
  obtain ⟨p, q, hA0, hV, rfl, hfz, hnd⟩ := hW
  have hA : DataW.TrodAll enc Try.prog W 0 (fun _ => true) true Try.f10.params.toList args.toList ds p := hA0
  rw [Try.params10] at hA hval
  obtain ⟨v0, vs0, d0, ds0, p0, q0, hargs, rfl, rfl, h0, r0⟩ := trodAll_cons hA
  obtain ⟨rfl, rfl, rfl⟩ := trodAll_nil r0
  obtain rfl : args = #[v0] := by cases args; simp_all
  obtain ⟨rfl, rfl⟩ := trodVars_none hV
  obtain ⟨a0, rfl, rfl, rfl, w0⟩ := open_string Try.underlying9 (hval 0 9 v0 rfl rfl) h0
  clear hA0 hval0
  simp only [List.append_nil] at hW'
  refine (walk a0 w0 W).mono fun e W' ⟨he, bel⟩ => ?_
  subst he
  exact ⟨_, rfl, _, _, _, [], [], [], hW', (trodAll_cons_mk (shut_bool Try.underlying4 _) trodAll_mk0), (trodAll_cons_mk (shut_string Try.underlying9 w0) trodAll_mk0), rfl, bel.frame _, fun h => by cases h⟩

theorem closed : joinedFacts Try.pinned.checked.prog 10 Try.f10 Rows.fnFractionShapeAndBoundsSpec Rows.fnFractionShapeAndBoundsRow = true := by
  unfold joinedFacts
  rw [Head.make_is, Head.final_is, Head.enter_is]
  kernel_rfl

theorem over : Rows.fnFractionShapeAndBoundsRow.holds Try.pinned (OpenSpec.ofChange Rows.fnFractionShapeAndBoundsSpec) :=
  OpenClaim.holds_of_wide 10 Try.f10 rfl rfl rfl rfl rfl rfl rfl ⟨rfl, rfl, rfl, rfl, rfl⟩ rfl rfl rfl rfl rfl (by kernel_rfl) Try.func10 closed
    (of_decide_eq_true (by kernel_rfl)) (by unfold Func.isWrapper; first | (rw [if_pos (by decide +kernel)]; kernel_rfl) | (rw [if_neg (by decide +kernel)]; exact ⟨rfl, rfl⟩))
    (fun os started H enc _ => lifted os started H enc)

/-- ████ THE STATEMENT ████ -/
theorem proved : Rows.FnFractionShapeAndBoundsSaid :=
  over
#print axioms proved
end Go.Proofs.Qxb6600107a.fnFractionShapeAndBounds
