/-
  The walk of the law's own zzNine: nine decimal digits.
-/
import Derived.Test.Qxb6600107aFrac
namespace Go.Proofs.Qxb6600107a.Nine
open Go.RowKit Frac
set_option linter.unusedVariables false
set_option linter.unusedSimpArgs false

/-- 'n' divided by ten 'j' times. -/
def q (n : Int) : Nat → Int
  | 0 => n
  | j + 1 => q n j / 10
theorem q_nonneg (n : Int) (h : 0 ≤ n) : ∀ j, 0 ≤ q n j
  | 0 => h
  | j + 1 => by have := q_nonneg n h j; simp only [q]; omega
theorem q_le (n : Int) (h : 0 ≤ n) : ∀ j, q n j ≤ n
  | 0 => Int.le_refl _
  | j + 1 => by have := q_le n h j; have := q_nonneg n h j; simp only [q]; omega
theorem q_nine (n : Int) (h : 0 ≤ n) (h9 : n ≤ 999999999) : q n 9 = 0 := by
  simp only [q]; omega
/-- The digit at place 'i' of the nine. -/
def dn (n : Int) (i : Nat) : Int := q n (8 - i) % 10
theorem hor_q (n : Int) (h : 0 ≤ n) (h9 : n ≤ 999999999) : ∀ k, k ≤ 9 → hor (dn n) k = q n (9 - k)
  | 0, _ => by rw [q_nine n h h9]; rfl
  | k + 1, hk => by
    have e := hor_q n h h9 k (by omega)
    simp only [hor]
    rw [e]
    have e2 : 9 - k = (8 - k) + 1 := by omega
    have e3 : 9 - (k + 1) = 8 - k := by omega
    rw [e2, e3]
    simp only [q, dn]
    have := q_nonneg n h (8 - k)
    omega
/-- The nine digits as bytes. -/
def bytes (n : Int) : List UInt8 := (List.range 9).map fun i => UInt8.ofNat (48 + dn n i).toNat
def text (n : Int) : ByteArray := ⟨(bytes n).toArray⟩
theorem dn_bd (n : Int) (i : Nat) : 0 ≤ dn n i ∧ dn n i ≤ 9 := by unfold dn; omega
theorem bytes_length (n : Int) : (bytes n).length = 9 := by simp [bytes]
theorem text_size (n : Int) : (text n).size = 9 := by show (bytes n).toArray.size = 9; simp [bytes]
theorem bytes_at (n : Int) (k : Nat) (h : k < (bytes n).length) : ((bytes n)[k].toNat : Int) = 48 + dn n k := by
  have b := dn_bd n k
  have e : (bytes n)[k] = UInt8.ofNat (48 + dn n k).toNat := by simp [bytes]
  rw [e, UInt8.toNat_ofNat_of_lt']
  · omega
  · show _ < 256; omega
theorem text_at (n : Int) (k : Nat) (h : k < (text n).size) : ((text n)[k].toNat : Int) = 48 + dn n k := by
  have := bytes_at n k (by rw [bytes_length]; rw [text_size] at h; exact h)
  rw [← this]
  rfl
theorem text_dig (n : Int) (k : Nat) (h : k < (text n).size) : isDig (text n)[k].toNat := by
  have := text_at n k h
  have := dn_bd n k
  unfold isDig
  omega
theorem dig_text (n : Int) (k : Nat) (h : k < 9) : dig (text n) k = dn n k := by
  rw [dig_at _ _ (by rw [text_size]; exact h), text_at]; omega
theorem hor_text (n : Int) (h : 0 ≤ n) (h9 : n ≤ 999999999) : hor (dig (text n)) 9 = n := by
  rw [hor_congr _ (dn n) 9 (fun i hi => dig_text n i hi), hor_q n h h9 9 (Nat.le_refl _)]
  rfl

/-- The cells behind 'j' rounds: the last 'j' are written. -/
def buf (n : Int) (j : Nat) : Array Value := ((List.range 9).map fun i => if 9 ≤ i + j then Value.int .u8 (48 + dn n i) else .int .u8 0).toArray
theorem buf_at (n : Int) (j i : Nat) (h : i < 9) : (buf n j)[i]? = some (if 9 ≤ i + j then Value.int .u8 (48 + dn n i) else .int .u8 0) := by
  simp [buf, h]
theorem buf_set (n : Int) (j : Nat) (h : j < 9) : (buf n j).setIfInBounds (8 - j) (.int .u8 (48 + q n j % 10)) = buf n (j + 1) := by
  apply Array.ext_getElem?
  intro i
  rw [Array.getElem?_setIfInBounds]
  by_cases hi : i < 9
  · rw [buf_at n (j + 1) i hi, buf_at n j i hi]
    by_cases e : 8 - j = i
    · subst e
      rw [if_pos rfl, if_pos (by simp [buf]; omega), if_pos (by omega)]
      unfold dn
      rw [show 8 - (8 - j) = j by omega]
    · rw [if_neg e]
      by_cases e2 : 9 ≤ i + j
      · rw [if_pos e2, if_pos (by omega)]
      · rw [if_neg e2, if_neg (by omega)]
  · have e : 8 - j ≠ i := by omega
    rw [if_neg e]
    simp [buf, hi]

/-- The world behind 'j' rounds. -/
def W (w : World) (n : Int) (j : Nat) : World := w.alloc (.cells (buf n j) 5)
theorem W_cell (w : World) (n : Int) (j i : Nat) (h : i < 9) : (W w n j).cell? ⟨w.heap.size, i, none⟩ = some (if 9 ≤ i + j then Value.int .u8 (48 + dn n i) else .int .u8 0) := by
  rw [← buf_at n j i h]
  exact World.cell?_alloc_mark w (buf n j) 5 _ i
theorem W_frozen (w : World) (n : Int) (j i : Nat) : (W w n j).frozen? ⟨w.heap.size, i, none⟩ = w.frozen? ⟨w.heap.size, i, none⟩ :=
  frozen?_alloc_cells w (buf n j) 5 _
theorem frozen_new (w : World) (i : Nat) : w.frozen? ⟨w.heap.size, i, none⟩ = false := by
  have e : w.heap[w.heap.size]? = none := by simp
  simp [World.frozen?, e]
theorem W_set (w : World) (n : Int) (j : Nat) (h : j < 9) : (W w n j).setCell ⟨w.heap.size, 8 - j, none⟩ (.int .u8 (48 + q n j % 10)) = W w n (j + 1) := by
  unfold W
  rw [World.setCell_alloc_at _ _ _ _ _ rfl, buf_set n j h]
theorem W_zero (w : World) (n : Int) : w.alloc (.cells #[.int .u8 0, .int .u8 0, .int .u8 0, .int .u8 0, .int .u8 0, .int .u8 0, .int .u8 0, .int .u8 0, .int .u8 0] 5) = W w n 0 := by
  unfold W
  have e : buf n 0 = #[.int .u8 0, .int .u8 0, .int .u8 0, .int .u8 0, .int .u8 0, .int .u8 0, .int .u8 0, .int .u8 0, .int .u8 0] := by
    simp [buf, List.range, List.range.loop]
  rw [e]
theorem W_below (w : World) (n : Int) (j : Nat) : Below w.heap.size w (W w n j) := (Below.refl _ _).alloc (Nat.le_refl _) _

set_option maxHeartbeats 400000 in
theorem nine_any (n : Int) (w : World) (h0 : 0 ≤ n) (h9 : n ≤ 999999999) :
    Calls Try.prog 24 #[.int .i64 n] w fun e w' => e = .returned (.string (text n)) ∧ Below w.heap.size w w' := by
  have hmk : ∀ w, (Instr.makeSlice 28 (.int .i64 9) (.int .i64 9)).run Try.prog w = .ok (.slice (some ⟨w.heap.size, 0, none⟩) 9 9) (w.alloc (.cells #[.int .u8 0, .int .u8 0, .int .u8 0, .int .u8 0, .int .u8 0, .int .u8 0, .int .u8 0, .int .u8 0, .int .u8 0] 5)) := fun _ => by kernel_rfl
  go_enter Try.func24, Try.ntmps24
  go_wp2
  clear hmk
  rw [W_zero w n]
  go_loopw [0, 4] (fun nn i wr => ∃ j : Nat, j ≤ 9 ∧ nn = .int .i64 (q n j) ∧ i = .int .i64 (8 - (j : Int)) ∧ wr = W w n j) (fun _ i _ => (intOf i + 1).toNat)
  case atStart => exact ⟨0, by omega, rfl, rfl, rfl⟩
  case round =>
    obtain ⟨j, hj, rfl, rfl, rfl⟩ := hrel
    by_cases hlt : j < 9
    · have b1 := q_nonneg n h0 j
      have b2 := q_le n h0 j
      have b3 : q n j ≤ 999999999 := by omega
      have hc := W_cell w n j (8 - j) (by omega)
      rw [if_neg (by omega)] at hc
      have hf : (W w n j).frozen? ⟨w.heap.size, 8 - j, none⟩ = false := (W_frozen w n j (8 - j)).trans (frozen_new w _)
      have HS : Hid ((W w n j).setCell ⟨w.heap.size, 8 - j, none⟩ (.int .u8 (48 + q n j % 10)) = W w n (j + 1)) := W_set w n j hlt
      have HQ : Hid (q n (j + 1) = q n j / 10) := rfl
      have HM : Hid (8 - (j : Int) = ((8 - j : Nat) : Int)) := by show _ = _; omega
      have hm : 8 - j < 9 := by omega
      have HJ : Hid (((8 - j : Nat) : Int) - 1 = 8 - ((j + 1 : Nat) : Int)) := by show _ = _; omega
      rw [HM.out]
      clear b2 HM
      generalize 8 - j = m at *
      generalize W w n j = wr at *
      generalize q n j = Q at *
      go_wp2
      refine ⟨⟨j + 1, by omega, by rw [HQ.out], by rw [HJ.out], HS.out⟩, ?_⟩
      simp [intOf]
    · have : j = 9 := by omega
      subst this
      have hcv := run_convert_bytes_back (P := Try.prog) (W w n 9) 28 9 5 ⟨w.heap.size, 0, none⟩ 9 (bytes n) Try.underlying28 Try.underlying5 Try.underlying9 (fun i hi => by
        rw [bytes_at n i hi]
        rw [bytes_length] at hi
        have := W_cell w n 9 i hi
        rw [if_pos (by omega)] at this
        by_cases e : i = 0
        · subst e; simpa [Addr.add] using this
        · simpa [Addr.add, e] using this)
      rw [bytes_length] at hcv
      have HB := W_below w n 9
      generalize W w n 9 = wr at *
      have HB' : Hid (Below w.heap.size w wr) := HB
      clear HB
      go_wp2
      go_ret
      exact ⟨rfl, HB'.out⟩

/-! ### Reading back: a full stop, a run of digits, and what stands behind -/
theorem ext (a b : ByteArray) (hs : a.size = b.size) (h : ∀ k (x : k < a.size) (y : k < b.size), a[k] = b[k]) : a = b := by
  apply ByteArray.ext
  apply Array.ext
  · exact hs
  · intro i x y; exact h i x y
theorem nano_congr (s t : ByteArray) (n m : Nat) (h : ∀ i, i < 9 → dg s n i = dg t m i) : nano s n = nano t m := hor_congr _ _ 9 h

theorem zz_read (p r : ByteArray) (w : World) (hsz : p.size + r.size ≤ 2000000) (h2 : 2 ≤ p.size) (h0 : (p[0]'(by omega)).toNat = 46)
    (hd : ∀ k (h : k < p.size), 1 ≤ k → isDig p[k].toNat) (hr : ∀ h : 0 < r.size, ¬ isDig r[0].toNat) :
    Calls Try.prog 25 #[.string (p ++ r)] w fun e w' => e = .returned (.tuple #[.int .i64 (nano p p.size), .string r, .bool true]) ∧ Below w.heap.size w w' := by
  have hs : (p ++ r).size = p.size + r.size := ByteArray.size_append
  have e1 : nano (p ++ r) p.size = nano p p.size := nano_congr _ _ _ _ fun i _ => by
    unfold dg
    by_cases hi : i + 1 < p.size
    · rw [if_pos hi, if_pos hi, dig_at _ _ (by omega), dig_at _ _ hi, ByteArray.getElem_append_left hi]
    · rw [if_neg hi, if_neg hi]
  have e2 : (p ++ r).extract p.size (p ++ r).size = r := by
    refine ext _ _ (by rw [ByteArray.size_extract]; omega) fun k x y => ?_
    rw [ByteArray.getElem_extract, ByteArray.getElem_append_right (by omega)]
    simp
  have := zz_ok (p ++ r) p.size w (by omega) ⟨by omega, by rw [ByteArray.getElem_append_left (by omega)]; exact h0⟩ h2 (by omega)
    (fun k h k1 k2 => by rw [ByteArray.getElem_append_left k2]; exact hd k k2 k1)
    (fun h => by rw [ByteArray.getElem_append_right (by omega)]; simpa using hr (by omega))
  rw [e1, e2] at this
  exact this

/-- The full stop. -/
def dot : ByteArray := ⟨#[46]⟩
theorem dot_size : dot.size = 1 := rfl
theorem dot_at (p : ByteArray) (h : 0 < (dot ++ p).size) : (dot ++ p)[0].toNat = 46 := by
  rw [ByteArray.getElem_append_left (by rw [dot_size]; omega)]; rfl
theorem dot_next (p : ByteArray) (k : Nat) (h1 : 1 ≤ k) (h : k < (dot ++ p).size) : (dot ++ p)[k] = p[k - 1]'(by rw [ByteArray.size_append, dot_size] at h; omega) := by
  rw [ByteArray.getElem_append_right (by rw [dot_size]; omega)]; rfl
theorem dg_dot (p : ByteArray) (i : Nat) : dg (dot ++ p) (dot ++ p).size i = dig p i := by
  have hs : (dot ++ p).size = 1 + p.size := ByteArray.size_append
  unfold dg
  by_cases h : i + 1 < (dot ++ p).size
  · rw [if_pos h, dig_at _ _ h, dot_next p (i + 1) (by omega) h, dig_at p i (by omega)]
    rfl
  · rw [if_neg h]
    unfold dig
    rw [dif_neg (by omega)]

theorem nano_dot (p : ByteArray) : nano (dot ++ p) (dot ++ p).size = hor (dig p) 9 := hor_congr _ _ 9 fun i _ => dg_dot p i

theorem full_nano (n : Int) (h : 0 ≤ n) (h9 : n ≤ 999999999) (x : ByteArray) : nano (dot ++ text n ++ x) (dot ++ text n ++ x).size = n := by
  rw [ByteArray.append_assoc, nano_dot]
  refine Eq.trans ?_ (hor_text n h h9)
  refine hor_congr _ _ 9 fun i hi => ?_
  have ht := text_size n
  have hs : (text n ++ x).size = (text n).size + x.size := ByteArray.size_append
  rw [dig_at _ _ (by omega), dig_at _ _ (by omega), ByteArray.getElem_append_left (by omega)]
theorem full_dig (n : Int) (x : ByteArray) (hx : AllDig x) (k : Nat) (h : k < (dot ++ text n ++ x).size) (h1 : 1 ≤ k) : isDig (dot ++ text n ++ x)[k].toNat := by
  have ht := text_size n
  have hs : (dot ++ text n).size = 1 + (text n).size := ByteArray.size_append
  by_cases hk : k < (dot ++ text n).size
  · rw [ByteArray.getElem_append_left hk, dot_next _ k h1 hk]
    exact text_dig n _ _
  · rw [ByteArray.getElem_append_right (by omega)]
    exact hx _ _

/-- From 'e' on the nine digits are zeros. -/
def ZeroFrom (n : Int) (e : Nat) : Prop := ∀ i (h : i < (text n).size), e ≤ i → (text n)[i].toNat = 48
theorem cut_nano (n : Int) (h : 0 ≤ n) (h9 : n ≤ 999999999) (e : Nat) (he : e ≤ 9) (hz : ZeroFrom n e) :
    nano (dot ++ (text n).extract 0 e) (dot ++ (text n).extract 0 e).size = n := by
  rw [nano_dot]
  refine Eq.trans ?_ (hor_text n h h9)
  have ht := text_size n
  have hs : ((text n).extract 0 e).size = e := by rw [ByteArray.size_extract]; omega
  refine hor_congr _ _ 9 fun i hi => ?_
  by_cases hie : i < e
  · rw [dig_at _ _ (by omega), dig_at _ _ (by omega), ByteArray.getElem_extract]
    simp
  · have := hz i (by omega) (by omega)
    unfold dig
    rw [dif_neg (by omega), dif_pos (by omega), this]
    rfl
theorem cut_dig (n : Int) (e : Nat) (he : e ≤ 9) (k : Nat) (h : k < (dot ++ (text n).extract 0 e).size) (h1 : 1 ≤ k) : isDig (dot ++ (text n).extract 0 e)[k].toNat := by
  rw [dot_next _ k h1 h, ByteArray.getElem_extract]
  exact text_dig n _ _

theorem zz_full (n : Int) (x r : ByteArray) (w : World) (h : 0 ≤ n) (h9 : n ≤ 999999999) (hsz : x.size + r.size ≤ 1048576) (hx : AllDig x) (hr : ∀ h : 0 < r.size, ¬ isDig r[0].toNat) :
    Calls Try.prog 25 #[.string (dot ++ text n ++ x ++ r)] w fun e w' => e = .returned (.tuple #[.int .i64 n, .string r, .bool true]) ∧ Below w.heap.size w w' := by
  have ht := text_size n
  have hs : (dot ++ text n).size = 1 + (text n).size := ByteArray.size_append
  have hs2 : (dot ++ text n ++ x).size = (dot ++ text n).size + x.size := ByteArray.size_append
  have := zz_read (dot ++ text n ++ x) r w (by omega) (by omega) (by rw [ByteArray.getElem_append_left (by omega)]; exact dot_at _ _) (full_dig n x hx) hr
  rw [full_nano n h h9 x] at this
  exact this
theorem zz_cut (n : Int) (e : Nat) (r : ByteArray) (w : World) (h : 0 ≤ n) (h9 : n ≤ 999999999) (he1 : 1 ≤ e) (he : e ≤ 9) (hz : ZeroFrom n e) (hsz : r.size ≤ 1048576) (hr : ∀ h : 0 < r.size, ¬ isDig r[0].toNat) :
    Calls Try.prog 25 #[.string (dot ++ (text n).extract 0 e ++ r)] w fun e w' => e = .returned (.tuple #[.int .i64 n, .string r, .bool true]) ∧ Below w.heap.size w w' := by
  have ht := text_size n
  have hs : ((text n).extract 0 e).size = e := by rw [ByteArray.size_extract]; omega
  have hs2 : (dot ++ (text n).extract 0 e).size = 1 + ((text n).extract 0 e).size := ByteArray.size_append
  have := zz_read (dot ++ (text n).extract 0 e) r w (by omega) (by omega) (dot_at _ _) (cut_dig n e he) hr
  rw [cut_nano n h h9 e he hz] at this
  exact this
end Go.Proofs.Qxb6600107a.Nine
