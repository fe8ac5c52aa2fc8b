/-
  The proof of 'Rows.FnDigitsSpecSaid', on the shell that came with the seat.
-/
import Derived.Test.Qxb6600291aRows
import Derived.WalkKit
import Derived.ProofKit
import Derived.OpenShut
import Derived.ShutString
import Derived.ChangeOld
import Derived.Below
import Derived.Test.Qxb6600291aHead
import Derived.Test.Qxb6600291aReader
import Derived.Test.Qxb6600291aCopy
import Derived.Test.Qxb6600291aDigits
namespace Go.Proofs.Qxb6600291a.fnDigitsSpec
open Go.ChangeShapes Go.WideShapes Go.ChangeAt Go.RowKit
open Go.ChangeMaps (open_string shut_string)
set_option linter.unusedVariables false

theorem own : ownKnob Try.prog.godebug = none := by kernel_rfl
theorem laidOut : laidOutB Try.prog = true := by kernel_rfl

/-- WHAT THE WALK IS TOLD OF A SLICE OF INTEGERS THAT CAME IN: it is nil; or it leads to a row of 'cap' cells, the numbers 'zs' (the first 'len' are its elements, the rest its spare room), each fitting its kind. -/
def IsRow (k : IntKind) (w : World) (a : Option Addr) (len cap : Nat) (zs : List Int) : Prop :=
  (a = none ∧ len = 0 ∧ cap = 0 ∧ zs = []) ∨
  ∃ x, a = some x ∧ len ≤ cap ∧ cap ≤ maxLen ∧ zs.length = cap ∧ (∀ i, i < zs.length → w.cell? (x.add i) = some (.int k (zs.getD i 0))) ∧ ∀ n ∈ zs, (Lit.int k n).wf = true

/-! ### STEP 1: THE WALK: the Go text returns true, AND WRITES NOTHING THAT WAS THERE: 'Below w.heap.size w w'' (Derived/Below.lean: '.refl', '.alloc', '.drew', '.setCell' at a new block, '.trans'). Open each 'IsRow' by 'rcases' AHEAD of 'go_enter'; part every test ahead of the walk. -/
theorem bytes_yes (a : Option Addr) (len cap : Nat) (off : Int) (w : World) (h : len ≤ 1048576) :
    Calls Try.prog 16 #[.slice a len cap, .int .i64 off] w fun e w' => e = .returned (.bool true) ∧ w' = w := by
  go_enter Try.func16, Try.ntmps16
  go_wp2
  go_ret
  exact ⟨rfl, rfl⟩
theorem bytes_no (a : Option Addr) (len cap : Nat) (off : Int) (w : World) (h : 1048576 < len) (hm : len ≤ maxLen) :
    Calls Try.prog 16 #[.slice a len cap, .int .i64 off] w fun e w' => e = .returned (.bool false) ∧ w' = w := by
  unfold maxLen at hm
  go_enter Try.func16, Try.ntmps16
  go_wp2
  go_ret
  exact ⟨rfl, rfl⟩

open Reader Digits

theorem IsRow.len_le {w : World} {a : Option Addr} {len cap : Nat} {zs : List Int} (h : IsRow .u8 w a len cap zs) : len ≤ maxLen := by
  rcases h with ⟨_, h, _⟩ | ⟨x, _, h1, h2, _⟩
  · rw [h]; exact Nat.zero_le _
  · omega

set_option maxHeartbeats 1000000 in
theorem walk_nil (a1 : Int) (w : World) (h0 : 0 ≤ a1) :
    Calls Try.prog 7 #[.slice none 0 0, .int .i64 a1] w fun e w' => e = .returned (.bool true) ∧ Below w.heap.size w w' := by
  have hne := fun w => run_neq_slice_nil_any (P := Try.prog) w 22 5 none 0 0 0 0 Try.underlying22
  go_enter Try.func7, Try.ntmps7
  go_wp2_with fail
  refine (bytes_yes none 0 0 a1 _ (by omega)).mono ?_
  rintro e w ⟨rfl, rfl⟩
  go_wp2_with fail
  refine (zzdigits_out none 0 0 a1 _ (by omega) (by omega)).mono ?_
  rintro e w1 ⟨rfl, hb⟩
  have HB : Hid (Below w.heap.size w w1) := hb
  clear hb
  go_wp2
  go_ret
  exact ⟨by simp, HB.out⟩

set_option maxHeartbeats 1000000 in
theorem walk_some (x : Addr) (len cap : Nat) (zs : List Int) (off : Nat) (w : World) (hl : len ≤ cap) (hzs : zs.length = cap)
    (hc : ∀ i, i < zs.length → w.cell? (x.add i) = some (.int .u8 (zs.getD i 0))) (hlen : len ≤ 1048576) :
    Calls Try.prog 7 #[.slice (some x) len cap, .int .i64 off] w fun e w' => e = .returned (.bool true) ∧ Below w.heap.size w w' := by
  have hne := fun w => run_neq_slice_nil_any (P := Try.prog) w 22 5 (some x) len cap 0 0 Try.underlying22
  have hmk := fun w => Copy.made len hlen w
  obtain ⟨w2, hcp, hz, hb, hsz⟩ := Copy.copied w x len cap zs hl hzs hc
  have HZ : Hid (∀ j, j < len → w2.cell? ⟨w.heap.size, j, none⟩ = some (.int .u8 (zs.getD j 0))) := hz
  have HB : Hid (Below w.heap.size w w2) := hb
  have HSZ : Hid (w2.heap.size = w.heap.size + 1) := hsz
  clear hc hz hb hsz hl
  go_enter Try.func7, Try.ntmps7
  go_wp2_with fail
  refine (bytes_yes (some x) len cap off _ hlen).mono ?_
  rintro e w ⟨rfl, rfl⟩
  go_wp2_with fail
  clear hne hmk hcp
  by_cases hoff : off < len
  case neg =>
    refine (zzdigits_out (some ⟨w.heap.size, 0, none⟩) len len off _ hlen (by omega)).mono ?_
    rintro e w3 ⟨rfl, hb3⟩
    have HB3 : Hid (Below w.heap.size w w3) := HB.out.trans (hb3.mono HB.out.size)
    clear hb3
    go_wp2
    go_ret
    exact ⟨by simp, HB3.out⟩
  case pos =>
    refine (zzdigits_in w.heap.size len len (fun j => zs.getD j 0) off _ HZ.out (by rw [HSZ.out]; omega) hlen (by omega)).mono ?_
    rintro e w3 ⟨k, rfl, hstop, hb3⟩
    have HB3 : Hid (Below w.heap.size w w3) := HB.out.trans (hb3.mono HB.out.size)
    have HZ3 : Hid (∀ j, j < len → w3.cell? ⟨w.heap.size, j, none⟩ = some (.int .u8 (zs.getD j 0))) := fun j hj => (hb3.cell (p := ⟨w.heap.size, j, none⟩) (by rw [HSZ.out]; show w.heap.size < _; omega)).trans (HZ.out j hj)
    obtain ⟨k1, k2, hrun, hend⟩ := hstop
    have HRUN : Hid (∀ j, off ≤ j → j < k → dd (zs.getD j 0)) := hrun
    have HEND : Hid (k < len → ¬ dd (zs.getD k 0)) := hend
    clear hb3 hrun hend HZ HB HSZ hzs
    have d1 : decide (k < off) = false := by simp; omega
    have d2 : decide (len < k) = false := by simp; omega
    have d3 : decide (len ≤ off) = false := by simp; omega
    go_wp2_with fail
    clear d1 d2 d3
    go_loop [8] (fun i => ∃ j : Nat, off ≤ j ∧ j ≤ k ∧ i = .int .i64 j) (fun i => k - (intOf i).toNat)
    case atStart => exact ⟨off, by omega, by omega, rfl⟩
    case round =>
      obtain ⟨j, j1, j2, rfl⟩ := hrel
      by_cases hjk : j < k
      · have hcell := HZ3.out j (by omega)
        have hjl : j < len := by omega
        have hsp := HRUN.out j j1 hjk
        generalize zs.getD j 0 = c at *
        have HSP : Hid (dd c) := hsp
        clear hsp
        go_wp2_with fail
        refine (isDec_yes c _ HSP).mono ?_
        rintro e w3 ⟨rfl, rfl⟩
        go_wp2
        go_round
        case rel => exact ⟨j + 1, by omega, by omega, by go_num⟩
        case measure => simp [intOf]; omega
      · by_cases hkl : k < len
        · have hcell := HZ3.out k hkl
          have hns := HEND.out hkl
          generalize zs.getD k 0 = c at *
          have HNS : Hid (¬ dd c) := hns
          clear hns
          go_wp2_with fail
          refine (isDec_no c _ HNS).mono ?_
          rintro e w3 ⟨rfl, rfl⟩
          go_wp2
          go_ret
          exact ⟨rfl, HB3.out⟩
        · go_wp2
          go_ret
          exact ⟨rfl, HB3.out⟩

theorem walk (a0 : Option Addr) (len0 cap0 : Nat) (z0 : List Int) (a1 : Int) (w : World) (w0 : IsRow .u8 w a0 len0 cap0 z0) (w1 : (Lit.int .i64 a1).wf = true) :
    Calls Try.prog 7 #[.slice a0 len0 cap0, .int .i64 a1] w fun e w' => e = .returned (.bool true) ∧ Below w.heap.size w w' := by
  have hm := w0.len_le
  by_cases hl : len0 ≤ 1048576
  case neg =>
    clear w0
    go_enter Try.func7, Try.ntmps7
    go_wp2_with fail
    refine (bytes_no a0 len0 cap0 a1 _ (by omega) hm).mono ?_
    rintro e w ⟨rfl, rfl⟩
    go_wp2
    go_ret
    exact ⟨rfl, Below.refl _ _⟩
  case pos =>
    by_cases h0 : 0 ≤ a1
    case neg =>
      clear w0 hm
      go_enter Try.func7, Try.ntmps7
      go_wp2_with fail
      refine (bytes_yes a0 len0 cap0 a1 _ hl).mono ?_
      rintro e w ⟨rfl, rfl⟩
      go_wp2
      go_ret
      exact ⟨rfl, Below.refl _ _⟩
    case pos =>
      rcases w0 with ⟨rfl, rfl, rfl, rfl⟩ | ⟨x, rfl, h1, h2, h3, h4, h5⟩
      · exact walk_nil a1 w h0
      · obtain ⟨off, rfl⟩ := Int.eq_ofNat_of_zero_le h0
        exact walk_some x len0 cap0 z0 off w h1 h3 h4 hl

/-! ### THE ROW's STEP: WRITTEN OUT: LEAVE IT -/
set_option maxRecDepth 100000 in
theorem lifted (os : Os) (started : os.Started) (H : Type) (enc : TypeId × Value → H) :
    ReturnsInHanded {} Try.checked os 7 .any (Rows.fnDigitsSpecSpec.pre6 enc Try.prog Try.f7 Rows.fnDigitsSpecRow.domain false) (Rows.fnDigitsSpecSpec.post enc Try.prog Try.f7 false true false false) := by
  refine returnsInHanded_of_change (C := Try.checked) own started (by kernel_rfl) Try.func7
    (ChangeSpec.witness6 (enc := enc) (C := Try.checked) false ⟨#[], #[.slice none 0 0, .int .i64 0], []⟩ 8 (by kernel_rfl) (by kernel_rfl) (by kernel_rfl) (by kernel_rfl)) ?_
  intro W base args ds gs before hval0 hW hcnd _
  have hval : ∀ (j : Nat) t v, Try.f7.params[j]? = some t → args[j]? = some v → Value.okWide Try.prog W .any base t v := hval0
  have hW' := hW
  obtain ⟨p, q, hA0, hV, rfl, hfz, hnd⟩ := hW
  have hA : DataW.TrodAll enc Try.prog W 0 (fun _ => true) true Try.f7.params.toList args.toList ds p := hA0
  rw [Try.params7] at hA hval
  obtain ⟨v0, vs0, d0, ds0, p0, q0, hargs, rfl, rfl, h0, r0⟩ := trodAll_cons hA
  obtain ⟨v1, vs1, d1, ds1, p1, q1, rfl, rfl, rfl, h1, r1⟩ := trodAll_cons r0
  obtain ⟨rfl, rfl, rfl⟩ := trodAll_nil r1
  obtain rfl : args = #[v0, v1] := by cases args; simp_all
  obtain ⟨rfl, rfl⟩ := trodVars_none hV
  obtain ⟨a0, len0, cap0, rfl⟩ := okWide_slice Try.underlying22 (hval 0 22 v0 rfl rfl)
  have k0 := h0
  have lt0 : ∀ x ∈ p0, x.block < W.heap.size := by obtain ⟨m, hm⟩ := k0; exact DataW.trod_lt m _ _ _ hm
  obtain ⟨z0, w0⟩ : ∃ zs, IsRow .u8 W a0 len0 cap0 zs := by
    obtain ⟨fuel, hf⟩ := h0
    rcases open_ints Try.underlying22 Try.underlying5 (by kernel_rfl) hf with ⟨hcs, _⟩ | ⟨x, l, c, zs, hcs, _, hl, hm, hz, _, hcell, hwz⟩
    · simp [Value.cells] at hcs
      obtain ⟨rfl, rfl, rfl⟩ := hcs
      exact ⟨[], .inl ⟨rfl, rfl, rfl, rfl⟩⟩
    · simp [Value.cells] at hcs
      obtain ⟨rfl, rfl, rfl⟩ := hcs
      exact ⟨zs, .inr ⟨_, rfl, hl, hm, by simpa using hz, hcell, hwz⟩⟩
  obtain ⟨a1, rfl, rfl, rfl, w1⟩ := open_int Try.underlying3 (hval 1 3 v1 rfl rfl) h1
  clear hA0 hval0
  refine (walk a0 len0 cap0 z0 a1 W w0 w1).mono fun e W' ⟨he, bel⟩ => ?_
  subst he
  exact ⟨_, rfl, _, _, _, [], _, [], hW', trodAll_mk1 (shut_bool Try.underlying4 _), (trodAll_cons_mk (Below.trod laidOut (by kernel_rfl) (of_decide_eq_true (by kernel_rfl)) k0 bel lt0) (trodAll_cons_mk (shut_int Try.underlying3 w1) trodAll_mk0)), rfl, bel.frame _, fun h => by cases h⟩

theorem closed : joinedFacts Try.pinned.checked.prog 7 Try.f7 Rows.fnDigitsSpecSpec Rows.fnDigitsSpecRow = true := by
  unfold joinedFacts
  rw [Head.make_is, Head.final_is, Head.enter_is]
  kernel_rfl

theorem over : Rows.fnDigitsSpecRow.holds Try.pinned (OpenSpec.ofChange Rows.fnDigitsSpecSpec) :=
  OpenClaim.holds_of_wide 7 Try.f7 rfl rfl rfl rfl rfl rfl rfl ⟨rfl, rfl, rfl, rfl, rfl⟩ rfl rfl rfl rfl rfl (by kernel_rfl) Try.func7 closed
    (of_decide_eq_true (by kernel_rfl)) (by unfold Func.isWrapper; first | (rw [if_pos (by decide +kernel)]; kernel_rfl) | (rw [if_neg (by decide +kernel)]; exact ⟨rfl, rfl⟩))
    (fun os started H enc _ => lifted os started H enc)

/-- ████ THE STATEMENT ████ -/
theorem proved : Rows.FnDigitsSpecSaid := over
#print axioms proved
end Go.Proofs.Qxb6600291a.fnDigitsSpec
