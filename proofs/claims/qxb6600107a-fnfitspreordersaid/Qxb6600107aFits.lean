/-
  The walks of jsondoc.fits and jsondoc.ZZfits, and the plain law of 'Fit'.
-/
import Derived.Test.Qxb6600107aProg
import Derived.WalkKit
import Derived.WalkSpells
import Derived.ProofKit
namespace Go.Proofs.Qxb6600107a.Fits
open Go.RowKit
set_option linter.unusedVariables false
set_option linter.unusedSimpArgs false

/-- One byte 'c' of the text against one byte 'd' of the shape. -/
def ok (c d : Int) : Prop := (d = 57 → 48 ≤ c ∧ c ≤ 57) ∧ (d = 84 → c = 84 ∨ c = 116) ∧ (d ≠ 57 → d ≠ 84 → c = d)

/-- 's' fits the shape 't'. -/
def Fit (s t : ByteArray) : Prop := s.size = t.size ∧ ∀ k (h : k < s.size) (h' : k < t.size), ok s[k].toNat t[k].toNat

theorem fit_refl (s : ByteArray) : Fit s s := ⟨rfl, fun k h _ => by unfold ok; omega⟩
theorem fit_trans (a b c : ByteArray) (h1 : Fit a b) (h2 : Fit b c) : Fit a c := by
  obtain ⟨e1, f1⟩ := h1
  obtain ⟨e2, f2⟩ := h2
  refine ⟨e1.trans e2, fun k h h' => ?_⟩
  have x1 := f1 k h (by omega)
  have x2 := f2 k (by omega) h'
  unfold ok at *
  omega

/-- How a call of 'fits' ends: with the answer to 'Fit', the world as it was. -/
def Ends (s t : ByteArray) (w : World) (e : Ending) (w' : World) : Prop := ∃ b : Bool, e = .returned (.bool b) ∧ (b = true ↔ Fit s t) ∧ w' = w
theorem Ends.yes {s t : ByteArray} {w : World} (h : Fit s t) : Ends s t w (.returned (.bool true)) w := ⟨true, rfl, by simp [h], rfl⟩
theorem Ends.no {s t : ByteArray} {w : World} (h : ¬ Fit s t) : Ends s t w (.returned (.bool false)) w := ⟨false, rfl, by simp [h], rfl⟩

/-- All places below 'k' fit. -/
def Upto (s t : ByteArray) (k : Nat) : Prop := ∀ j (h : j < s.size) (h' : j < t.size), j < k → ok s[j].toNat t[j].toNat
theorem upto_zero (s t : ByteArray) : Upto s t 0 := fun _ _ _ h => by omega
theorem upto_succ {s t : ByteArray} {k : Nat} (h : Upto s t k) (a : k < s.size) (b : k < t.size) (o : ok s[k].toNat t[k].toNat) : Upto s t (k + 1) := fun j x y hj => by
  by_cases e : j = k
  · subst e; exact o
  · exact h j x y (by omega)
theorem not_fit {s t : ByteArray} {k : Nat} (a : k < s.size) (b : k < t.size) (o : ¬ ok s[k].toNat t[k].toNat) : ¬ Fit s t := fun h => o (h.2 k a b)

set_option maxHeartbeats 400000 in
theorem fits_any (s t : ByteArray) (w : World) (hs : s.size ≤ maxLen) (ht : t.size ≤ maxLen) :
    Calls Try.prog 29 #[.string s, .string t] w fun e w' => Ends s t w e w' := by
  unfold maxLen at hs ht
  by_cases hne : s.size = t.size
  case neg =>
    have hb : (((s.size : Int)) != (t.size : Int)) = true := by rw [bne_iff_ne]; omega
    go_enter Try.func29, Try.ntmps29
    go_wp2
    go_ret
    exact Ends.no fun h => hne h.1
  case pos =>
    have hb : (((s.size : Int)) != (t.size : Int)) = false := by rw [bne_eq_false_iff_eq]; omega
    have HE : Hid (s.size = t.size) := hne
    have h1 : s.size ≤ t.size := by omega
    have h2 : t.size ≤ s.size := by omega
    clear hne
    go_enter Try.func29, Try.ntmps29
    go_wp2
    go_loop [14] (fun i => ∃ k : Nat, k ≤ t.size ∧ i = .int .i64 k ∧ Upto s t k) (fun i => t.size - (intOf i).toNat)
    case atStart => exact ⟨0, Nat.zero_le _, rfl, upto_zero s t⟩
    case round =>
      obtain ⟨k, hk, rfl, HK⟩ := hrel
      by_cases hlt : k < t.size
      · have hlt' : k < s.size := by omega
        go_wp2
        all_goals
          first
            | (go_ret
               refine Ends.no (not_fit hlt' hlt ?_)
               simp only [beq_iff_eq, beq_eq_false_iff_ne, bne_iff_ne, bne_eq_false_iff_eq] at *
               unfold ok
               omega)
            | (go_round
               case rel =>
                 refine ⟨k + 1, by omega, by go_num, upto_succ HK hlt' hlt ?_⟩
                 simp only [beq_iff_eq, beq_eq_false_iff_ne, bne_iff_ne, bne_eq_false_iff_eq] at *
                 unfold ok
                 omega
               case measure => simp [intOf]; omega)
      · go_wp2
        go_ret
        exact Ends.yes ⟨HE.out, fun j h h' => HK j h h' (by omega)⟩

theorem zzfits_any (s t : ByteArray) (w : World) (hs : s.size ≤ maxLen) (ht : t.size ≤ maxLen) :
    Calls Try.prog 17 #[.string s, .string t] w fun e w' => Ends s t w e w' := by
  go_enter Try.func17, Try.ntmps17
  go_wp2_with fail
  refine (fits_any s t _ hs ht).mono ?_
  rintro e w' ⟨b, rfl, hb, rfl⟩
  go_wp2
  go_ret
  exact ⟨b, rfl, hb, rfl⟩

theorem zzfits_yes (s t : ByteArray) (w : World) (hs : s.size ≤ maxLen) (ht : t.size ≤ maxLen) (h : Fit s t) :
    Calls Try.prog 17 #[.string s, .string t] w fun e w' => e = .returned (.bool true) ∧ w' = w :=
  (zzfits_any s t w hs ht).mono (by rintro e w' ⟨b, rfl, hb, rfl⟩; have : b = true := hb.2 h; subst this; exact ⟨rfl, rfl⟩)
theorem zzfits_no (s t : ByteArray) (w : World) (hs : s.size ≤ maxLen) (ht : t.size ≤ maxLen) (h : ¬ Fit s t) :
    Calls Try.prog 17 #[.string s, .string t] w fun e w' => e = .returned (.bool false) ∧ w' = w :=
  (zzfits_any s t w hs ht).mono (by rintro e w' ⟨b, rfl, hb, rfl⟩; have : b = false := by { cases b with | false => rfl | true => exact absurd (hb.1 rfl) h }; subst this; exact ⟨rfl, rfl⟩)

end Go.Proofs.Qxb6600107a.Fits
