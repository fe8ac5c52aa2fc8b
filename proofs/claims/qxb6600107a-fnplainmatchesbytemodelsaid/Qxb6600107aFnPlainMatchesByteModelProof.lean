/-
  The proof of 'Rows.FnPlainMatchesByteModelSaid', on the shell that came with the seat.
-/
import Derived.Test.Qxb6600107aRows
import Derived.WalkKit
import Derived.ProofKit
import Derived.OpenShut
import Derived.ShutString
import Derived.Test.Qxb6600107aHead
import Derived.Test.Qxb6600107aPlain
namespace Go.Proofs.Qxb6600107a.fnPlainMatchesByteModel
open Go.ChangeShapes Go.WideShapes Go.ChangeAt Go.RowKit
open Go.ChangeMaps (open_string shut_string)
set_option linter.unusedVariables false      -- a walk need not use every 'w<i>' (that an integer argument fits its kind)

theorem own : ownKnob Try.prog.godebug = none := by kernel_rfl

/-! ### STEP 1: THE WALK: the Go text returns true. 'Grown w w'': the world has at most new blocks (Derived/RowKit3.lean). Part the cases AHEAD of 'go_enter' where a test parts the walk; take each callee by a contract of your own. -/
theorem bytes_yes (a : ByteArray) (w : World) (h : a.size ≤ 1048576) :
    Calls Try.prog 12 #[.string a] w fun e w' => e = .returned (.bool true) ∧ w' = w := by
  go_enter Try.func12, Try.ntmps12
  go_wp2
  go_ret
  exact ⟨rfl, rfl⟩
theorem bytes_no (a : ByteArray) (w : World) (h : 1048576 < a.size) (ha : a.size ≤ maxLen) :
    Calls Try.prog 12 #[.string a] w fun e w' => e = .returned (.bool false) ∧ w' = w := by
  unfold maxLen at ha
  go_enter Try.func12, Try.ntmps12
  go_wp2
  go_ret
  exact ⟨rfl, rfl⟩

/-- What 'want' says behind 'k' rounds. -/
def Want (s : ByteArray) (k : Nat) (b : Bool) : Prop := b = true ↔ 0 < s.size ∧ Plain.Upto s k
theorem want_zero (s : ByteArray) : Want s 0 (decide (0 < s.size)) := by
  unfold Want
  simp
  exact fun _ => Plain.upto_zero s
theorem want_yes {s : ByteArray} {k : Nat} {b : Bool} (h : Want s k b) (hk : k < s.size) (o : Plain.plain s[k].toNat) : Want s (k + 1) b :=
  ⟨fun e => ⟨(h.1 e).1, Plain.upto_succ (h.1 e).2 hk o⟩, fun u => h.2 ⟨u.1, Plain.upto_mono u.2 (by omega)⟩⟩
theorem want_no {s : ByteArray} {k : Nat} (hk : k < s.size) (o : ¬ Plain.plain s[k].toNat) : Want s (k + 1) false :=
  ⟨fun e => by simp at e, fun u => absurd u.2 (Plain.not_upto hk (by omega) o)⟩

set_option maxHeartbeats 400000 in
theorem walk (a0 : ByteArray) (w0 : a0.size ≤ maxLen) (w : World) :
    Calls Try.prog 3 #[.string a0] w fun e w' => e = .returned (.bool true) ∧ Grown w w' := by
  by_cases hl : a0.size ≤ 1048576
  case neg =>
    go_enter Try.func3, Try.ntmps3
    go_wp2_with fail
    refine (bytes_no a0 _ (by omega) w0).mono ?_
    rintro e w' ⟨rfl, rfl⟩
    go_wp2
    go_ret
    exact ⟨rfl, Grown.refl _⟩
  case pos =>
    go_enter Try.func3, Try.ntmps3
    go_wp2_with fail
    refine (bytes_yes a0 _ hl).mono ?_
    rintro e w' ⟨rfl, rfl⟩
    go_wp2_with fail
    go_loop [3, 4] (fun b i => ∃ (k : Nat) (x : Bool), k ≤ a0.size ∧ i = .int .i64 k ∧ b = .bool x ∧ Want a0 k x) (fun _ i => a0.size - (intOf i).toNat)
    case atStart => exact ⟨0, _, Nat.zero_le _, rfl, rfl, want_zero a0⟩
    case round =>
      obtain ⟨k, x, hk, rfl, rfl, HW⟩ := hrel
      by_cases hlt : k < a0.size
      · by_cases hp : Plain.plain a0[k].toNat
        · go_wp2_with fail
          refine (Plain.plainByte_yes _ _ hp).mono ?_
          rintro e w' ⟨rfl, rfl⟩
          go_wp2
          go_round
          case rel => exact ⟨k + 1, x, by omega, by go_num, rfl, want_yes HW hlt hp⟩
          case measure => simp [intOf]; omega
        · go_wp2_with fail
          refine (Plain.plainByte_no _ _ hp).mono ?_
          rintro e w' ⟨rfl, rfl⟩
          go_wp2
          go_round
          case rel => exact ⟨k + 1, false, by omega, by go_num, rfl, want_no hlt hp⟩
          case measure => simp [intOf]; omega
      · go_wp2_with fail
        refine (Plain.plain_any a0 _ w0).mono ?_
        rintro e w' ⟨b, rfl, hb, hg⟩
        have hx : b = x := by
          have : k = a0.size := by omega
          subst this
          have : b = true ↔ x = true := hb.trans HW.symm
          cases b <;> cases x <;> simp_all
        subst hx
        go_wp2
        go_ret
        exact ⟨by simp, hg⟩

/-! ### THE ROW's STEP: WRITTEN OUT: LEAVE IT -/
set_option maxRecDepth 100000 in
theorem lifted (os : Os) (started : os.Started) (H : Type) (enc : TypeId × Value → H) :
    ReturnsInHanded {} Try.checked os 3 .any (Rows.fnPlainMatchesByteModelSpec.pre6 enc Try.prog Try.f3 Rows.fnPlainMatchesByteModelRow.domain false) (Rows.fnPlainMatchesByteModelSpec.post enc Try.prog Try.f3 false true false false) := by
  refine returnsInHanded_of_change (C := Try.checked) own started (by kernel_rfl) Try.func3
    (ChangeSpec.witness6 (enc := enc) (C := Try.checked) false ⟨#[], #[.string ByteArray.empty], []⟩ 8 (by kernel_rfl) (by kernel_rfl) (by kernel_rfl) (by kernel_rfl)) ?_
  intro W base args ds gs before hval0 hW hcnd _
  have hval : ∀ (j : Nat) t v, Try.f3.params[j]? = some t → args[j]? = some v → Value.okWide Try.prog W .any base t v := hval0
  have hW' := hW
  obtain ⟨p, q, hA0, hV, rfl, hfz, hnd⟩ := hW
  have hA : DataW.TrodAll enc Try.prog W 0 (fun _ => true) true Try.f3.params.toList args.toList ds p := hA0
  rw [Try.params3] at hA hval
  obtain ⟨v0, vs0, d0, ds0, p0, q0, hargs, rfl, rfl, h0, r0⟩ := trodAll_cons hA
  obtain ⟨rfl, rfl, rfl⟩ := trodAll_nil r0
  obtain rfl : args = #[v0] := by cases args; simp_all
  obtain ⟨rfl, rfl⟩ := trodVars_none hV
  obtain ⟨a0, rfl, rfl, rfl, w0⟩ := open_string Try.underlying9 (hval 0 9 v0 rfl rfl) h0
  clear hA0 hval0
  simp only [List.append_nil] at hW'
  refine (walk a0 w0 W).mono fun e W' ⟨he, hg⟩ => ?_
  subst he
  exact ⟨_, rfl, post_of_same (pa := []) (pv := []) hW' (fun _ _ _ => (trodAll_cons_mk (shut_bool Try.underlying4 _) trodAll_mk0)) (fun sp _ => (trodAll_cons_mk (shut_string Try.underlying9 w0) trodAll_mk0)) (fun _ _ => rfl) rfl
    (hg.frame _) hg.2.1 (ok_one (by kernel_rfl) rfl (okWide_bool_mk Try.underlying4 _))⟩

theorem closed : joinedFacts Try.pinned.checked.prog 3 Try.f3 Rows.fnPlainMatchesByteModelSpec Rows.fnPlainMatchesByteModelRow = true := by
  unfold joinedFacts
  rw [Head.make_is, Head.final_is, Head.enter_is]
  kernel_rfl

theorem over : Rows.fnPlainMatchesByteModelRow.holds Try.pinned (OpenSpec.ofChange Rows.fnPlainMatchesByteModelSpec) :=
  OpenClaim.holds_of_wide 3 Try.f3 rfl rfl rfl rfl rfl rfl rfl ⟨rfl, rfl, rfl, rfl, rfl⟩ rfl rfl rfl rfl rfl (by kernel_rfl) Try.func3 closed
    (of_decide_eq_true (by kernel_rfl)) (by unfold Func.isWrapper; first | (rw [if_pos (by decide +kernel)]; kernel_rfl) | (rw [if_neg (by decide +kernel)]; exact ⟨rfl, rfl⟩))
    (fun os started H enc _ => lifted os started H enc)

/-- ████ THE STATEMENT ████ -/
theorem proved : Rows.FnPlainMatchesByteModelSaid :=
  over
#print axioms proved
end Go.Proofs.Qxb6600107a.fnPlainMatchesByteModel
