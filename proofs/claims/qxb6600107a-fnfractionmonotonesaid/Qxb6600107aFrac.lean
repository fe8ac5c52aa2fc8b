/-
  The walks of jsondoc.number, jsondoc.fraction, jsondoc.ZZfraction and of the laws' own zzIsDigit, zzAllDigits.
-/
import Derived.Test.Qxb6600107aProg
import Derived.WalkKit
import Derived.WalkSpells
import Derived.ProofKit
import Derived.Below
import Derived.Laws.IdiomStrings
import Derived.Deep.RegionWith
import Derived.Lib.Strings
namespace Go.Proofs.Qxb6600107a.Frac
open Go.RowKit
set_option linter.unusedVariables false
set_option linter.unusedSimpArgs false

/-- An ASCII digit. -/
def isDig (c : Int) : Prop := 48 ≤ c ∧ c ≤ 57
/-- The digit at place 'k' of 't' as a number. -/
def dig (t : ByteArray) (k : Nat) : Int := if h : k < t.size then (t[k].toNat : Int) - 48 else 0
/-- The first 'k' digits read as one number. -/
def hor (d : Nat → Int) : Nat → Int
  | 0 => 0
  | k + 1 => hor d k * 10 + d k
theorem dig_at (t : ByteArray) (k : Nat) (h : k < t.size) : dig t k = (t[k].toNat : Int) - 48 := by unfold dig; rw [dif_pos h]
theorem hor_nonneg (d : Nat → Int) (hd : ∀ i, 0 ≤ d i ∧ d i ≤ 9) : ∀ k, 0 ≤ hor d k
  | 0 => Int.le_refl _
  | k + 1 => by have := hor_nonneg d hd k; have := hd k; simp only [hor]; omega
theorem hor_le (d : Nat → Int) (hd : ∀ i, 0 ≤ d i ∧ d i ≤ 9) : ∀ k, hor d k + 1 ≤ (10 : Int) ^ k
  | 0 => by simp [hor]
  | k + 1 => by have := hor_le d hd k; have := hd k; simp only [hor, Int.pow_succ]; omega
theorem hor_le9 (d : Nat → Int) (hd : ∀ i, 0 ≤ d i ∧ d i ≤ 9) (k : Nat) (h : k ≤ 9) : hor d k ≤ 999999999 := by
  have h1 := hor_le d hd k
  have h2 : (10 : Int) ^ k ≤ 10 ^ 9 := by
    have : k = 0 ∨ k = 1 ∨ k = 2 ∨ k = 3 ∨ k = 4 ∨ k = 5 ∨ k = 6 ∨ k = 7 ∨ k = 8 ∨ k = 9 := by omega
    rcases this with h | h | h | h | h | h | h | h | h | h <;> subst h <;> decide
  have h3 : (10 : Int) ^ 9 = 1000000000 := by decide
  omega
theorem dig_bd (t : ByteArray) (ht : ∀ k (h : k < t.size), isDig t[k].toNat) (i : Nat) : 0 ≤ dig t i ∧ dig t i ≤ 9 := by
  unfold dig
  split
  · rename_i h; have := ht i h; unfold isDig at this; omega
  · omega

theorem bytes_world (w : World) (t : ByteArray) (cap : Nat) (fr : Nat × Nat) :
    (∀ k (h : k < t.size), (w.alloc (.cells (bytesRow t cap) 5 fr)).drew.cell? ⟨w.heap.size, k, none⟩ = some (.int .u8 t[k].toNat)) ∧
    Below w.heap.size w (w.alloc (.cells (bytesRow t cap) 5 fr)).drew :=
  ⟨fun k h => by
    show (w.alloc (.cells (bytesRow t cap) 5 fr)).cell? _ = _
    rw [World.cell?_alloc_mark, bytesRow_at t cap k h]
    rfl, ((Below.refl _ _).alloc (Nat.le_refl _) _).drew⟩

set_option maxHeartbeats 400000 in
theorem number_any (t : ByteArray) (w : World) (h9 : t.size ≤ 9) (ht : ∀ k (h : k < t.size), isDig t[k].toNat) :
    Calls Try.prog 32 #[.string t] w fun e w' => e = .returned (.int .i64 (hor (dig t) t.size)) ∧ Below w.heap.size w w' := by
  have hcv := fun w => run_bytes_of_string (P := Try.prog) w 9 28 5 t Try.underlying9 Try.underlying28 Try.underlying5
  have HB : Hid (∀ i, 0 ≤ dig t i ∧ dig t i ≤ 9) := dig_bd t ht
  have HT : Hid (∀ k (h : k < t.size), isDig t[k].toNat) := ht
  clear ht
  go_enter Try.func32, Try.ntmps32
  go_wp2
  clear hcv
  have hbw := bytes_world w t (grownCap w t.size 0 5) ((bytesRow t (grownCap w t.size 0 5)).size, (bytesRow t (grownCap w t.size 0 5)).size + 1)
  generalize (World.drew _) = W1 at hbw ⊢
  obtain ⟨hc, hb⟩ := hbw
  have HC : Hid (∀ k (h : k < t.size), W1.cell? ⟨w.heap.size, k, none⟩ = some (.int .u8 t[k].toNat)) := hc
  have HBL : Hid (Below w.heap.size w W1) := hb
  clear hc hb
  go_loop [3, 9] (fun n i => ∃ k : Nat, k ≤ t.size ∧ i = .int .i64 k ∧ n = .int .i64 (hor (dig t) k)) (fun _ i => t.size - (intOf i).toNat)
  case atStart => exact ⟨0, Nat.zero_le _, rfl, rfl⟩
  case round =>
    obtain ⟨k, hk, rfl, rfl⟩ := hrel
    have b1 := hor_nonneg _ HB.out k
    have b2 := hor_le9 _ HB.out k (by omega)
    by_cases hlt : k < t.size
    · have hcell := HC.out k hlt
      have hdg := HT.out k hlt
      have hdg1 := hdg.1
      have hdg2 := hdg.2
      have HS : Hid (hor (dig t) (k + 1) = hor (dig t) k * 10 + ((t[k].toNat : Int) - 48)) := by show _ = _; rw [← dig_at t k hlt]; rfl
      clear hdg
      generalize hor (dig t) k = H at *
      go_wp2
      go_round
      case rel => exact ⟨k + 1, by omega, by go_num, by rw [HS.out]⟩
      case measure => simp [intOf]; omega
    · go_wp2
      go_ret
      have : k = t.size := by omega
      subst this
      exact ⟨rfl, HBL.out⟩

theorem isDigit_yes (c : Int) (w : World) (h : isDig c) :
    Calls Try.prog 21 #[.int .u8 c] w fun e w' => e = .returned (.bool true) ∧ w' = w := by
  have h1 := h.1
  have h2 := h.2
  clear h
  go_enter Try.func21, Try.ntmps21
  go_wp2
  go_ret
  exact ⟨rfl, rfl⟩
theorem isDigit_no (c : Int) (w : World) (h : ¬ isDig c) :
    Calls Try.prog 21 #[.int .u8 c] w fun e w' => e = .returned (.bool false) ∧ w' = w := by
  have h1 : c < 48 ∨ 57 < c := by unfold isDig at h; omega
  clear h
  rcases h1 with h1 | h1
  · go_enter Try.func21, Try.ntmps21
    go_wp2
    go_ret
    exact ⟨rfl, rfl⟩
  · have hd : decide (c ≤ 57) = false := by simp; omega
    go_enter Try.func21, Try.ntmps21
    go_wp2
    go_ret
    exact ⟨rfl, rfl⟩

/-- All bytes are digits. -/
def AllDig (s : ByteArray) : Prop := ∀ k (h : k < s.size), isDig s[k].toNat

set_option maxHeartbeats 400000 in
theorem allDigits_yes (s : ByteArray) (w : World) (hs : s.size ≤ maxLen) (h : AllDig s) :
    Calls Try.prog 23 #[.string s] w fun e w' => e = .returned (.bool true) ∧ w' = w := by
  unfold maxLen at hs
  have H : Hid (AllDig s) := h
  clear h
  go_enter Try.func23, Try.ntmps23
  go_wp2
  go_loop [3] (fun i => ∃ k : Nat, k ≤ s.size ∧ i = .int .i64 k) (fun i => s.size - (intOf i).toNat)
  case atStart => exact ⟨0, Nat.zero_le _, rfl⟩
  case round =>
    obtain ⟨k, hk, rfl⟩ := hrel
    by_cases hlt : k < s.size
    · go_wp2_with fail
      refine (isDigit_yes _ _ (H.out k hlt)).mono ?_
      rintro e w' ⟨rfl, rfl⟩
      go_wp2
      go_round
      case rel => exact ⟨k + 1, by omega, by go_num⟩
      case measure => simp [intOf]; omega
    · go_wp2
      go_ret
      exact ⟨rfl, rfl⟩

set_option maxHeartbeats 400000 in
theorem allDigits_no (s : ByteArray) (w : World) (hs : s.size ≤ maxLen) (h : ¬ AllDig s) :
    Calls Try.prog 23 #[.string s] w fun e w' => e = .returned (.bool false) ∧ w' = w := by
  unfold maxLen at hs
  have H : Hid (¬ AllDig s) := h
  clear h
  go_enter Try.func23, Try.ntmps23
  go_wp2
  go_loop [3] (fun i => ∃ k : Nat, k ≤ s.size ∧ i = .int .i64 k ∧ Hid (∀ j (h : j < s.size), j < k → isDig s[j].toNat)) (fun i => s.size - (intOf i).toNat)
  case atStart => exact ⟨0, Nat.zero_le _, rfl, fun j _ h => by omega⟩
  case round =>
    obtain ⟨k, hk, rfl, HK⟩ := hrel
    by_cases hlt : k < s.size
    · by_cases hd : isDig s[k].toNat
      · have HD : Hid (isDig s[k].toNat) := hd
        clear hd
        go_wp2_with fail
        refine (isDigit_yes _ _ HD).mono ?_
        rintro e w' ⟨rfl, rfl⟩
        go_wp2
        go_round
        case rel =>
          refine ⟨k + 1, by omega, by go_num, fun j h hj => ?_⟩
          by_cases e : j = k
          · subst e; exact HD
          · exact HK.out j h (by omega)
        case measure => simp [intOf]; omega
      · have HD : Hid (¬ isDig s[k].toNat) := hd
        clear hd
        go_wp2_with fail
        refine (isDigit_no _ _ HD).mono ?_
        rintro e w' ⟨rfl, rfl⟩
        go_wp2
        go_ret
        exact ⟨rfl, rfl⟩
    · exact absurd (fun j h => HK.out j h (by omega)) H.out

/-- 's' opens with a full stop. -/
def Dot (s : ByteArray) : Prop := ∃ h : 0 < s.size, s[0].toNat = 46
theorem dot_iff (s : ByteArray) (h : 1 ≤ s.size) : ((s.extract 0 1).toList == [46]) = true ↔ Dot s := by
  rw [Lib.extract_toList]
  have hl : 0 < s.data.toList.length := by rw [← Lib.size_eq]; omega
  obtain ⟨a, l, e⟩ : ∃ a l, s.data.toList = a :: l := by
    cases e : s.data.toList with
    | nil => rw [e] at hl; simp at hl
    | cons a l => exact ⟨a, l, rfl⟩
  have h0 : s[0] = a := by
    show s.data[0] = a
    have : s.data.toList[0]'hl = a := by simp [e]
    simpa using this
  rw [e]
  simp only [Dot, h0]
  simp
  constructor
  · intro x; subst x; exact ⟨h, rfl⟩
  · rintro ⟨_, x⟩; exact UInt8.toNat_inj.1 x

theorem hasPrefix_yes (s : ByteArray) (w : World) (hs : s.size ≤ maxLen) (h : Dot s) :
    Calls Try.prog 31 #[.string s, .string ⟨#[46]⟩] w fun e w' => e = .returned (.bool true) ∧ w' = w := by
  unfold maxLen at hs
  obtain ⟨h1, h0⟩ := h
  have hd := (dot_iff s h1).2 ⟨h1, h0⟩
  clear h0
  go_enter Try.func31, Try.ntmps31
  go_wp2
  go_ret
  exact ⟨rfl, rfl⟩
theorem hasPrefix_no (s : ByteArray) (w : World) (hs : s.size ≤ maxLen) (h : ¬ Dot s) :
    Calls Try.prog 31 #[.string s, .string ⟨#[46]⟩] w fun e w' => e = .returned (.bool false) ∧ w' = w := by
  unfold maxLen at hs
  by_cases h1 : 1 ≤ s.size
  · have hd : ((s.extract 0 1).toList == [46]) = false := by
      cases e : ((s.extract 0 1).toList == [46]) with
      | false => rfl
      | true => exact absurd ((dot_iff s h1).1 e) h
    clear h
    go_enter Try.func31, Try.ntmps31
    go_wp2
    go_ret
    exact ⟨rfl, rfl⟩
  · clear h
    go_enter Try.func31, Try.ntmps31
    go_wp2
    go_ret
    exact ⟨rfl, rfl⟩

/-- Nine zeros. -/
def zeros : ByteArray := ⟨#[48, 48, 48, 48, 48, 48, 48, 48, 48]⟩
theorem zeros_size : zeros.size = 9 := rfl
theorem zeros_at (k : Nat) (h : k < zeros.size) : zeros[k].toNat = 48 := by
  have : k = 0 ∨ k = 1 ∨ k = 2 ∨ k = 3 ∨ k = 4 ∨ k = 5 ∨ k = 6 ∨ k = 7 ∨ k = 8 := by rw [zeros_size] at h; omega
  rcases this with e | e | e | e | e | e | e | e | e <;> subst e <;> rfl
/-- Padded or cut to nine digits. -/
def nine (s : ByteArray) (n : Nat) : ByteArray := (s.extract 1 n ++ zeros).extract 0 9
/-- The digit at place 'i' behind the full stop, 0 from 'n' on. -/
def dg (s : ByteArray) (n i : Nat) : Int := if i + 1 < n then dig s (i + 1) else 0
/-- The nanoseconds that are read where the run of digits ends at 'n'. -/
def nano (s : ByteArray) (n : Nat) : Int := hor (dg s n) 9
theorem ex_size (s : ByteArray) (n : Nat) (h1 : 1 ≤ n) (hn : n ≤ s.size) : (s.extract 1 n).size = n - 1 := by
  rw [ByteArray.size_extract]; omega
theorem nine_pre (s : ByteArray) (n : Nat) : 9 ≤ (s.extract 1 n ++ zeros).size := by
  rw [ByteArray.size_append, zeros_size]; omega
theorem nine_size (s : ByteArray) (n : Nat) : (nine s n).size = 9 := by
  have := nine_pre s n
  unfold nine; rw [ByteArray.size_extract]; omega
theorem nine_at_raw (s : ByteArray) (n : Nat) (h1 : 1 ≤ n) (hn : n ≤ s.size) (k : Nat) (h : k < ((s.extract 1 n ++ zeros).extract 0 9).size) :
    (((s.extract 1 n ++ zeros).extract 0 9)[k].toNat : Int) = if h : k + 1 < n then (s[k + 1]'(by omega)).toNat else 48 := by
  have hz := nine_size s n
  have hx := ex_size s n h1 hn
  rw [ByteArray.getElem_extract]
  by_cases hk : k + 1 < n
  · rw [dif_pos hk, ByteArray.getElem_append_left (by omega), ByteArray.getElem_extract]
    simp [Nat.add_comm]
  · rw [dif_neg hk, ByteArray.getElem_append_right (by omega), zeros_at]
theorem nine_at (s : ByteArray) (n : Nat) (h1 : 1 ≤ n) (hn : n ≤ s.size) (k : Nat) (h : k < (nine s n).size) :
    ((nine s n)[k].toNat : Int) = if h : k + 1 < n then (s[k + 1]'(by omega)).toNat else 48 := nine_at_raw s n h1 hn k h

/-- The bytes from 1 to 'n' are digits. -/
def RunTo (s : ByteArray) (n : Nat) : Prop := ∀ k (h : k < s.size), 1 ≤ k → k < n → isDig s[k].toNat
/-- The run of digits ends at 'n'. -/
def EndAt (s : ByteArray) (n : Nat) : Prop := ∀ h : n < s.size, ¬ isDig s[n].toNat

theorem nine_dig (s : ByteArray) (n : Nat) (h1 : 1 ≤ n) (hn : n ≤ s.size) (hr : RunTo s n) (k : Nat) (h : k < (nine s n).size) : isDig (nine s n)[k].toNat := by
  have e := nine_at s n h1 hn k h
  by_cases hk : k + 1 < n
  · rw [dif_pos hk] at e
    rw [e]
    exact hr (k + 1) (by omega) (by omega) hk
  · rw [dif_neg hk] at e
    unfold isDig; omega
theorem hor_congr (d d' : Nat → Int) : ∀ k, (∀ i, i < k → d i = d' i) → hor d k = hor d' k
  | 0, _ => rfl
  | k + 1, h => by simp only [hor]; rw [hor_congr d d' k (fun i hi => h i (by omega)), h k (by omega)]
theorem nine_nano (s : ByteArray) (n : Nat) (h1 : 1 ≤ n) (hn : n ≤ s.size) : hor (dig (nine s n)) (nine s n).size = nano s n := by
  have hz := nine_size s n
  unfold nano
  rw [hz]
  refine hor_congr _ _ 9 fun i hi => ?_
  rw [dig_at _ i (by omega), nine_at s n h1 hn]
  unfold dg
  by_cases hk : i + 1 < n
  · rw [dif_pos hk, if_pos hk, dig_at]
  · rw [dif_neg hk, if_neg hk]; rfl

theorem number_nine (s : ByteArray) (n : Nat) (w : World) (h1 : 1 ≤ n) (hn : n ≤ s.size) (hr : RunTo s n) :
    Calls Try.prog 32 #[.string (nine s n)] w fun e w' => e = .returned (.int .i64 (nano s n)) ∧ Below w.heap.size w w' := by
  have := number_any (nine s n) w (by rw [nine_size]; omega) (nine_dig s n h1 hn hr)
  rw [nine_nano s n h1 hn] at this
  exact this

theorem frac_none (s : ByteArray) (w : World) (hs : s.size ≤ maxLen) (h : ¬ Dot s) :
    Calls Try.prog 30 #[.string s] w fun e w' => e = .returned (.tuple #[.int .i64 0, .string s, .bool true]) ∧ w' = w := by
  have H : Hid (¬ Dot s) := h
  clear h
  go_enter Try.func30, Try.ntmps30
  go_wp2_with fail
  refine (hasPrefix_no s _ hs H).mono ?_
  rintro e w' ⟨rfl, rfl⟩
  go_wp2
  go_ret3
  exact ⟨rfl, rfl⟩

theorem frac_bad (s : ByteArray) (w : World) (hs : s.size ≤ maxLen) (h : Dot s) (hb : EndAt s 1) :
    Calls Try.prog 30 #[.string s] w fun e w' => e = .returned (.tuple #[.int .i64 0, .string s, .bool false]) ∧ w' = w := by
  have hs' := hs
  unfold maxLen at hs'
  have H : Hid (Dot s) := h
  have HB : Hid (EndAt s 1) := hb
  have h1 : 1 ≤ s.size := h.1
  clear h hb
  go_enter Try.func30, Try.ntmps30
  go_wp2_with fail
  refine (hasPrefix_yes s _ hs H).mono ?_
  rintro e w' ⟨rfl, rfl⟩
  go_wp2_with fail
  go_loop [5] (fun i => i = .int .i64 1) (fun i => 0)
  case atStart => rfl
  case round =>
    subst hrel
    by_cases h2 : 1 < s.size
    · have hd : (s[1].toNat : Int) < 48 ∨ 57 < (s[1].toNat : Int) := by
        have := HB.out h2; unfold isDig at this; omega
      rcases hd with hd | hd
      · go_wp2
        go_ret3
        exact ⟨rfl, rfl⟩
      · go_wp2
        go_ret3
        exact ⟨rfl, rfl⟩
    · go_wp2
      go_ret3
      exact ⟨rfl, rfl⟩

set_option maxHeartbeats 1000000 in
theorem frac_ok (s : ByteArray) (n : Nat) (w : World) (hs' : s.size ≤ 2000000) (h : Dot s) (h2 : 2 ≤ n) (hn : n ≤ s.size) (hr : RunTo s n) (he : EndAt s n) :
    Calls Try.prog 30 #[.string s] w fun e w' => e = .returned (.tuple #[.int .i64 (nano s n), .string (s.extract n s.size), .bool true]) ∧ Below w.heap.size w w' := by
  have hs : s.size ≤ maxLen := by unfold maxLen; omega
  have H : Hid (Dot s) := h
  have HE : Hid (EndAt s n) := he
  have HR : Hid (RunTo s n) := hr
  have HS : Hid (s.size ≤ maxLen) := hs
  clear h he hr hs
  go_enter Try.func30, Try.ntmps30
  go_wp2_with fail
  refine (hasPrefix_yes s _ HS H).mono ?_
  rintro e w' ⟨rfl, rfl⟩
  go_wp2_with fail
  go_loop [5] (fun i => ∃ k : Nat, 1 ≤ k ∧ k ≤ n ∧ i = .int .i64 k) (fun i => n - (intOf i).toNat)
  case atStart => exact ⟨1, by omega, by omega, rfl⟩
  case round =>
    obtain ⟨k, hk1, hk, rfl⟩ := hrel
    by_cases hlt : k < n
    · have hd := HR.out k (by omega) hk1 hlt
      have hd1 := hd.1
      have hd2 := hd.2
      clear hd
      have hks : k < s.size := by omega
      go_wp2
      go_round
      case rel => exact ⟨k + 1, by omega, by omega, by go_num⟩
      case measure => simp [intOf]; omega
    · have : k = n := by omega
      subst this
      have h1 : ((k : Int) == 1) = false := beq_eq_false_iff_ne.2 (by omega)
      have HN : Hid (∀ w, Calls Try.prog 32 #[.string (nine s k)] w fun e w' => e = .returned (.int .i64 (nano s k)) ∧ Below w.heap.size w w') := fun w => number_nine s k w hk1 hn HR.out
      by_cases hks : k < s.size
      · have hd : (s[k].toNat : Int) < 48 ∨ 57 < (s[k].toNat : Int) := by
          have := HE.out hks; unfold isDig at this; omega
        rcases hd with hd | hd
        · go_wp2
          go_region_with (go_at_call 32; refine (HN.out _).mono ?_; rintro e w1 ⟨rfl, hb1⟩)
          go_wp2
          go_ret3
          exact ⟨rfl, (Below.refl _ _).drew.trans hb1⟩
        · go_wp2
          go_region_with (go_at_call 32; refine (HN.out _).mono ?_; rintro e w1 ⟨rfl, hb1⟩)
          go_wp2
          go_ret3
          exact ⟨rfl, (Below.refl _ _).drew.trans hb1⟩
      · go_wp2
        go_region_with (go_at_call 32; refine (HN.out _).mono ?_; rintro e w1 ⟨rfl, hb1⟩)
        go_wp2
        go_ret3
        exact ⟨rfl, (Below.refl _ _).drew.trans hb1⟩

/-- How a call of 'ZZfraction' ends: three ways. -/
theorem zz_none (s : ByteArray) (w : World) (hs : s.size ≤ maxLen) (h : ¬ Dot s) :
    Calls Try.prog 25 #[.string s] w fun e w' => e = .returned (.tuple #[.int .i64 0, .string s, .bool true]) ∧ w' = w := by
  have H : Hid (¬ Dot s) := h
  clear h
  go_enter Try.func25, Try.ntmps25
  go_wp2_with fail
  refine (frac_none s _ hs H).mono ?_
  rintro e w' ⟨rfl, rfl⟩
  go_wp2
  go_ret3
  exact ⟨rfl, rfl⟩
theorem zz_bad (s : ByteArray) (w : World) (hs : s.size ≤ maxLen) (h : Dot s) (hb : EndAt s 1) :
    Calls Try.prog 25 #[.string s] w fun e w' => e = .returned (.tuple #[.int .i64 0, .string s, .bool false]) ∧ w' = w := by
  have H : Hid (Dot s) := h
  have HB : Hid (EndAt s 1) := hb
  clear h hb
  go_enter Try.func25, Try.ntmps25
  go_wp2_with fail
  refine (frac_bad s _ hs H HB).mono ?_
  rintro e w' ⟨rfl, rfl⟩
  go_wp2
  go_ret3
  exact ⟨rfl, rfl⟩
theorem zz_ok (s : ByteArray) (n : Nat) (w : World) (hs : s.size ≤ 2000000) (h : Dot s) (h2 : 2 ≤ n) (hn : n ≤ s.size) (hr : RunTo s n) (he : EndAt s n) :
    Calls Try.prog 25 #[.string s] w fun e w' => e = .returned (.tuple #[.int .i64 (nano s n), .string (s.extract n s.size), .bool true]) ∧ Below w.heap.size w w' := by
  have H : Hid (Dot s) := h
  have HE : Hid (EndAt s n) := he
  have HR : Hid (RunTo s n) := hr
  clear h he hr
  go_enter Try.func25, Try.ntmps25
  go_wp2_with fail
  refine (frac_ok s n _ hs H h2 hn HR HE).mono ?_
  rintro e w1 ⟨rfl, hb1⟩
  go_wp2
  go_ret3
  exact ⟨rfl, hb1⟩
end Go.Proofs.Qxb6600107a.Frac
