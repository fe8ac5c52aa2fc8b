/-
  The walks of the law's own zzLowerASCII, zzLowerIfOneSpelling and zzBoolModel.
-/
import Derived.Test.Qxb6601223aSpell
namespace Go.Proofs.Qxb6601223a.Model
open Go.RowKit Words
set_option linter.unusedVariables false
set_option linter.unusedSimpArgs false

/-- The lower-case bytes. -/
def bytes (s : ByteArray) : List UInt8 := low s.data.toList
def text (s : ByteArray) : ByteArray := ⟨(bytes s).toArray⟩
theorem bytes_length (s : ByteArray) : (bytes s).length = s.size := by simp [bytes, low]
theorem bytes_at (s : ByteArray) (k : Nat) (h : k < s.size) : (bytes s)[k]'(by rw [bytes_length]; exact h) = lowB s[k] := by
  simp only [bytes, low, List.getElem_map]
  rfl
theorem text_toList (s : ByteArray) : (text s).toList = low s.toList := by
  rw [ByteArray.toList_eq s]
  exact ByteArray.toList_mk _
theorem lowB_up (c : UInt8) (h : isUp c = true) : ((lowB c).toNat : Int) = c.toNat + 32 := by
  unfold lowB
  rw [if_pos h, UInt8.toNat_ofNat_of_lt' (by unfold isUp at h; simp at h; show _ < 256; omega)]
  omega
theorem lowB_not (c : UInt8) (h : isUp c = false) : lowB c = c := by
  unfold lowB
  rw [if_neg (by simp [h])]

/-- The cells behind 'j' rounds: the first 'j' are written. -/
def buf (s : ByteArray) (j : Nat) : Array Value := ((List.range s.size).map fun i => if i < j then Value.int .u8 ((bytes s).getD i 0).toNat else .int .u8 0).toArray
theorem buf_at (s : ByteArray) (j i : Nat) (h : i < s.size) : (buf s j)[i]? = some (if i < j then Value.int .u8 ((bytes s).getD i 0).toNat else .int .u8 0) := by
  simp [buf, h]
theorem buf_set (s : ByteArray) (j : Nat) (h : j < s.size) : (buf s j).setIfInBounds j (.int .u8 (lowB s[j]).toNat) = buf s (j + 1) := by
  apply Array.ext_getElem?
  intro i
  rw [Array.getElem?_setIfInBounds]
  by_cases hi : i < s.size
  · rw [buf_at s (j + 1) i hi, buf_at s j i hi]
    by_cases e : j = i
    · subst e
      rw [if_pos rfl, if_pos (by simp [buf]; exact h), if_pos (by omega)]
      have := bytes_at s j h
      rw [List.getD_eq_getElem?_getD, List.getElem?_eq_getElem (by rw [bytes_length]; exact h), this]
      rfl
    · rw [if_neg e]
      by_cases e2 : i < j
      · rw [if_pos e2, if_pos (by omega)]
      · rw [if_neg e2, if_neg (by omega)]
  · have e : j ≠ i := by omega
    rw [if_neg e]
    simp [buf, hi]
theorem buf_zero (s : ByteArray) : madeCells #[Value.int .u8 0] s.size = buf s 0 := by
  apply Array.ext_getElem?
  intro i
  by_cases hi : i < s.size
  · rw [buf_at s 0 i hi, if_neg (by omega)]
    simp [madeCells, hi, Nat.mod_one]
  · simp [madeCells, buf, hi]
/-- The world behind 'j' rounds. -/
def W (w : World) (s : ByteArray) (j : Nat) : World := w.alloc (.cells (buf s j) 5)
theorem W_cell (w : World) (s : ByteArray) (j i : Nat) (h : i < s.size) : (W w s j).cell? ⟨w.heap.size, i, none⟩ = some (if i < j then Value.int .u8 ((bytes s).getD i 0).toNat else .int .u8 0) := by
  rw [← buf_at s j i h]
  exact World.cell?_alloc_mark w (buf s j) 5 _ i
theorem frozen_new (w : World) (i : Nat) : w.frozen? ⟨w.heap.size, i, none⟩ = false := by
  have e : w.heap[w.heap.size]? = none := by simp
  simp [World.frozen?, e]
theorem W_frozen (w : World) (s : ByteArray) (j i : Nat) : (W w s j).frozen? ⟨w.heap.size, i, none⟩ = false :=
  (frozen?_alloc_cells w (buf s j) 5 _).trans (frozen_new w i)
theorem W_set (w : World) (s : ByteArray) (j : Nat) (h : j < s.size) : (W w s j).setCell ⟨w.heap.size, j, none⟩ (.int .u8 (lowB s[j]).toNat) = W w s (j + 1) := by
  unfold W
  rw [World.setCell_alloc_at _ _ _ _ _ rfl, buf_set s j h]
theorem W_below (w : World) (s : ByteArray) (j : Nat) : Below w.heap.size w (W w s j) := (Below.refl _ _).alloc (Nat.le_refl _) _

theorem info5 : (Try.prog.info? 5).map (fun i => (i.zero, i.size, i.bytes)) = some (some (.int .u8 0), 1, 1) := by kernel_rfl
theorem made (s : ByteArray) (h : s.size ≤ 1048576) (w : World) :
    (Instr.makeSlice 27 (.int .i64 (s.size : Int)) (.int .i64 (s.size : Int))).run Try.prog w = .ok (.slice (some ⟨w.heap.size, 0, none⟩) s.size s.size) (W w s 0) := by
  unfold W
  rw [← buf_zero]
  exact run_make_row' 27 5 (.int .u8 0) 1 Try.underlying27 info5 rfl .i64 .i64 s.size (by omega) (by omega) w

set_option maxHeartbeats 400000 in
theorem lower_any (s : ByteArray) (w : World) (hs : s.size ≤ 1048576) :
    Calls Try.prog 15 #[.string s] w fun e w' => e = .returned (.string (text s)) ∧ Below w.heap.size w w' := by
  have hmk := made s hs
  go_enter Try.func15, Try.ntmps15
  go_wp2
  clear hmk
  go_loopw [4] (fun i wr => ∃ j : Nat, j ≤ s.size ∧ i = .int .i64 j ∧ wr = W w s j) (fun i _ => s.size - (intOf i).toNat)
  case atStart => exact ⟨0, by omega, rfl, rfl⟩
  case round =>
    obtain ⟨j, hj, rfl, rfl⟩ := hrel
    by_cases hlt : j < s.size
    · have hc := W_cell w s j j hlt
      rw [if_neg (by omega)] at hc
      have hf := W_frozen w s j j
      have HS : Hid ((W w s j).setCell ⟨w.heap.size, j, none⟩ (.int .u8 (lowB s[j]).toNat) = W w s (j + 1)) := W_set w s j hlt
      generalize W w s j = wr at *
      cases hu : isUp s[j]
      case true =>
        have HU : Hid (((lowB s[j]).toNat : Int) = s[j].toNat + 32) := lowB_up _ hu
        have u1 : (65 : Int) ≤ s[j].toNat := by unfold isUp at hu; simp at hu; omega
        have u2 : (s[j].toNat : Int) ≤ 90 := by unfold isUp at hu; simp at hu; omega
        clear hu
        go_wp2
        refine ⟨⟨j + 1, by omega, by go_num, by rw [← HU.out]; exact HS.out⟩, ?_⟩
        simp [intOf]
        omega
      case false =>
        have HU : Hid (lowB s[j] = s[j]) := lowB_not _ hu
        have u : (s[j].toNat : Int) < 65 ∨ 90 < (s[j].toNat : Int) := by unfold isUp at hu; simp at hu; omega
        clear hu
        rcases u with u | u
        · go_wp2
          refine ⟨⟨j + 1, by omega, by go_num, by have h := HS.out; rw [HU.out] at h; exact h⟩, ?_⟩
          simp [intOf]
          omega
        · have d : decide ((s[j].toNat : Int) ≤ 90) = false := by simp; omega
          go_wp2
          refine ⟨⟨j + 1, by omega, by go_num, by have h := HS.out; rw [HU.out] at h; exact h⟩, ?_⟩
          simp [intOf]
          omega
    · have : j = s.size := by omega
      subst this
      have hcv := run_convert_bytes_back (P := Try.prog) (W w s s.size) 27 9 5 ⟨w.heap.size, 0, none⟩ s.size (bytes s) Try.underlying27 Try.underlying5 Try.underlying9 (fun i hi => by
        have hi' : i < s.size := by rw [bytes_length] at hi; exact hi
        have := W_cell w s s.size i hi'
        rw [if_pos hi', List.getD_eq_getElem?_getD, List.getElem?_eq_getElem hi] at this
        by_cases e : i = 0
        · subst e; simpa [Addr.add] using this
        · simpa [Addr.add, e] using this)
      rw [bytes_length] at hcv
      have HB : Hid (Below w.heap.size w (W w s s.size)) := W_below w s s.size
      generalize W w s s.size = wr at *
      go_wp2
      go_ret
      exact ⟨rfl, HB.out⟩

/-! ### The three flags -/
/-- What the flags say behind 'k' rounds. -/
def Flags (s : ByteArray) (k : Nat) (x y t : Bool) : Prop :=
  x = (s.data.toList.take k).all isLo ∧ y = (s.data.toList.take k).all isUp ∧ t = title (s.data.toList.take k)
theorem take_snoc (s : ByteArray) (k : Nat) (h : k < s.size) : s.data.toList.take (k + 1) = s.data.toList.take k ++ [s[k]] := by
  rw [List.take_succ_eq_append_getElem (by simpa using h)]; rfl
theorem title_snoc (l : List UInt8) (c : UInt8) : title (l ++ [c]) = (title l && (if l.length = 0 then isUp c else isLo c)) := by
  cases l with
  | nil => simp [title]
  | cons a r => simp [title, List.all_append, Bool.and_assoc]
theorem flags_next {s : ByteArray} {k : Nat} {x y t : Bool} (h : Flags s k x y t) (hk : k < s.size) {bl bu : Bool} (hl : isLo s[k] = bl) (hu : isUp s[k] = bu) :
    Flags s (k + 1) (x && bl) (y && bu) (t && (if k = 0 then bu else bl)) := by
  obtain ⟨h1, h2, h3⟩ := h
  have hsz : s.data.toList.length = s.size := by simp
  have hlen : (s.data.toList.take k).length = k := by rw [List.length_take]; omega
  unfold Flags
  rw [take_snoc s k hk, title_snoc, hlen, List.all_append, List.all_append, ← h1, ← h2, ← h3, hl, hu]
  simp [hl, hu]
theorem flags_zero (s : ByteArray) : Flags s 0 true true true := ⟨rfl, rfl, rfl⟩
theorem flags_end {s : ByteArray} {x y t : Bool} (h : Flags s s.size x y t) : shaped s.toList = (x || y || t) := by
  obtain ⟨h1, h2, h3⟩ := h
  have e : s.data.toList.take s.size = s.toList := by rw [ByteArray.toList_eq]; exact List.take_of_length_le (by simp)
  rw [e] at h1 h2 h3
  unfold shaped
  rw [← h1, ← h2, ← h3]

theorem kinds (c : UInt8) : (isLo c = true ∧ isUp c = false ∧ 97 ≤ (c.toNat : Int) ∧ (c.toNat : Int) ≤ 122) ∨ (isLo c = false ∧ isUp c = true ∧ 65 ≤ (c.toNat : Int) ∧ (c.toNat : Int) ≤ 90) ∨
    (isLo c = false ∧ isUp c = false ∧ (c.toNat : Int) < 65) ∨ (isLo c = false ∧ isUp c = false ∧ 90 < (c.toNat : Int) ∧ (c.toNat : Int) < 97) ∨ (isLo c = false ∧ isUp c = false ∧ 122 < (c.toNat : Int)) := by
  unfold isLo isUp
  simp only [Bool.and_eq_true, Bool.and_eq_false_iff, decide_eq_true_eq, decide_eq_false_iff_not]
  omega

/-- How 'zzLowerIfOneSpelling' ends. -/
def EndsL (s : ByteArray) (w : World) (e : Ending) (w' : World) : Prop :=
  (shaped s.toList = true ∧ e = .returned (.tuple #[.string (text s), .bool true]) ∧ Below w.heap.size w w') ∨
  (shaped s.toList = false ∧ e = .returned (.tuple #[.string ⟨#[]⟩, .bool false]) ∧ Below w.heap.size w w')

set_option maxHeartbeats 2000000 in
theorem spell_any (s : ByteArray) (w : World) (hs : s.size ≤ 1048576) :
    Calls Try.prog 22 #[.string s] w fun e w' => EndsL s w e w' := by
  go_enter Try.func22, Try.ntmps22
  go_wp2
  go_loop [4, 5, 6, 7] (fun a b c i => ∃ (k : Nat) (x y t : Bool), k ≤ s.size ∧ i = .int .i64 k ∧ a = .bool x ∧ b = .bool y ∧ c = .bool t ∧ Flags s k x y t) (fun _ _ _ i => s.size - (intOf i).toNat)
  case atStart => exact ⟨0, true, true, true, by omega, rfl, rfl, rfl, rfl, flags_zero s⟩
  case round =>
    obtain ⟨k, x, y, t, hk, rfl, rfl, rfl, rfl, HF⟩ := hrel
    by_cases hlt : k < s.size
    · rcases kinds s[k] with ⟨kl, ku, u1, u2⟩ | ⟨kl, ku, u1, u2⟩ | ⟨kl, ku, u1⟩ | ⟨kl, ku, u1, u2⟩ | ⟨kl, ku, u1⟩
      · have HN := flags_next HF hlt kl ku
        clear kl ku HF
        have d0 : decide (97 ≤ (s[k].toNat : Int)) = true := by simp; omega
        have d1 : decide ((s[k].toNat : Int) ≤ 122) = true := by simp; omega
        have d2 : decide (65 ≤ (s[k].toNat : Int)) = true := by simp; omega
        have d3 : decide ((s[k].toNat : Int) ≤ 90) = false := by simp; omega
        by_cases k0 : k = 0
        · have k0' : ((k : Int) == 0) = true := beq_iff_eq.2 (by omega)
          have HN' : Hid (Flags s (k + 1) _ _ _) := HN
          rw [if_pos k0] at HN'
          have HK : Hid (k = 0) := k0
          clear HN k0
          go_wp2
          refine ⟨⟨k + 1, _, _, _, by omega, by go_num, rfl, rfl, rfl, by simpa using HN'.out⟩, ?_⟩
          simp [intOf]
          omega
        · have k0' : ((k : Int) == 0) = false := beq_eq_false_iff_ne.2 (by omega)
          have HN' : Hid (Flags s (k + 1) _ _ _) := HN
          rw [if_neg k0] at HN'
          clear HN k0
          go_wp2
          refine ⟨⟨k + 1, _, _, _, by omega, by go_num, rfl, rfl, rfl, by simpa using HN'.out⟩, ?_⟩
          simp [intOf]
          omega
      · have HN := flags_next HF hlt kl ku
        clear kl ku HF
        have d0 : decide (97 ≤ (s[k].toNat : Int)) = false := by simp; omega
        have d1 : decide (65 ≤ (s[k].toNat : Int)) = true := by simp; omega
        have d2 : decide ((s[k].toNat : Int) ≤ 90) = true := by simp; omega
        by_cases k0 : k = 0
        · have k0' : ((k : Int) == 0) = true := beq_iff_eq.2 (by omega)
          have HN' : Hid (Flags s (k + 1) _ _ _) := HN
          rw [if_pos k0] at HN'
          have HK : Hid (k = 0) := k0
          clear HN k0
          go_wp2
          refine ⟨⟨k + 1, _, _, _, by omega, by go_num, rfl, rfl, rfl, by simpa using HN'.out⟩, ?_⟩
          simp [intOf]
          omega
        · have k0' : ((k : Int) == 0) = false := beq_eq_false_iff_ne.2 (by omega)
          have HN' : Hid (Flags s (k + 1) _ _ _) := HN
          rw [if_neg k0] at HN'
          clear HN k0
          go_wp2
          refine ⟨⟨k + 1, _, _, _, by omega, by go_num, rfl, rfl, rfl, by simpa using HN'.out⟩, ?_⟩
          simp [intOf]
          omega
      · have HN := flags_next HF hlt kl ku
        clear kl ku HF
        have d0 : decide (97 ≤ (s[k].toNat : Int)) = false := by simp; omega
        have d1 : decide (65 ≤ (s[k].toNat : Int)) = false := by simp; omega
        by_cases k0 : k = 0
        · have k0' : ((k : Int) == 0) = true := beq_iff_eq.2 (by omega)
          have HN' : Hid (Flags s (k + 1) _ _ _) := HN
          rw [if_pos k0] at HN'
          have HK : Hid (k = 0) := k0
          clear HN k0
          go_wp2
          refine ⟨⟨k + 1, _, _, _, by omega, by go_num, rfl, rfl, rfl, by simpa using HN'.out⟩, ?_⟩
          simp [intOf]
          omega
        · have k0' : ((k : Int) == 0) = false := beq_eq_false_iff_ne.2 (by omega)
          have HN' : Hid (Flags s (k + 1) _ _ _) := HN
          rw [if_neg k0] at HN'
          clear HN k0
          go_wp2
          refine ⟨⟨k + 1, _, _, _, by omega, by go_num, rfl, rfl, rfl, by simpa using HN'.out⟩, ?_⟩
          simp [intOf]
          omega
      · have HN := flags_next HF hlt kl ku
        clear kl ku HF
        have d0 : decide (97 ≤ (s[k].toNat : Int)) = false := by simp; omega
        have d1 : decide (65 ≤ (s[k].toNat : Int)) = true := by simp; omega
        have d2 : decide ((s[k].toNat : Int) ≤ 90) = false := by simp; omega
        by_cases k0 : k = 0
        · have k0' : ((k : Int) == 0) = true := beq_iff_eq.2 (by omega)
          have HN' : Hid (Flags s (k + 1) _ _ _) := HN
          rw [if_pos k0] at HN'
          have HK : Hid (k = 0) := k0
          clear HN k0
          go_wp2
          refine ⟨⟨k + 1, _, _, _, by omega, by go_num, rfl, rfl, rfl, by simpa using HN'.out⟩, ?_⟩
          simp [intOf]
          omega
        · have k0' : ((k : Int) == 0) = false := beq_eq_false_iff_ne.2 (by omega)
          have HN' : Hid (Flags s (k + 1) _ _ _) := HN
          rw [if_neg k0] at HN'
          clear HN k0
          go_wp2
          refine ⟨⟨k + 1, _, _, _, by omega, by go_num, rfl, rfl, rfl, by simpa using HN'.out⟩, ?_⟩
          simp [intOf]
          omega
      · have HN := flags_next HF hlt kl ku
        clear kl ku HF
        have d0 : decide (97 ≤ (s[k].toNat : Int)) = true := by simp; omega
        have d1 : decide ((s[k].toNat : Int) ≤ 122) = false := by simp; omega
        have d2 : decide (65 ≤ (s[k].toNat : Int)) = true := by simp; omega
        have d3 : decide ((s[k].toNat : Int) ≤ 90) = false := by simp; omega
        by_cases k0 : k = 0
        · have k0' : ((k : Int) == 0) = true := beq_iff_eq.2 (by omega)
          have HN' : Hid (Flags s (k + 1) _ _ _) := HN
          rw [if_pos k0] at HN'
          have HK : Hid (k = 0) := k0
          clear HN k0
          go_wp2
          refine ⟨⟨k + 1, _, _, _, by omega, by go_num, rfl, rfl, rfl, by simpa using HN'.out⟩, ?_⟩
          simp [intOf]
          omega
        · have k0' : ((k : Int) == 0) = false := beq_eq_false_iff_ne.2 (by omega)
          have HN' : Hid (Flags s (k + 1) _ _ _) := HN
          rw [if_neg k0] at HN'
          clear HN k0
          go_wp2
          refine ⟨⟨k + 1, _, _, _, by omega, by go_num, rfl, rfl, rfl, by simpa using HN'.out⟩, ?_⟩
          simp [intOf]
          omega
    · have : k = s.size := by omega
      subst this
      have HE : Hid (shaped s.toList = (x || y || t)) := flags_end HF
      clear HF
      cases x <;> cases y <;> cases t
      all_goals
        go_wp2_with fail
        first
          | (go_at_call 15
             refine (lower_any s _ hs).mono ?_
             rintro e w1 ⟨rfl, hb⟩
             have HB : Hid (Below w.heap.size w w1) := hb
             clear hb
             go_wp2
             go_ret2
             exact .inl ⟨HE.out, rfl, HB.out⟩)
          | (go_ret2
             exact .inr ⟨HE.out, rfl, Below.refl _ _⟩)

/-- How 'zzBoolModel' ends. -/
def EndsM (s : ByteArray) (p : Bool) (w : World) (e : Ending) (w' : World) : Prop :=
  ∃ x y : Bool, e = .returned (.tuple #[.bool x, .bool y]) ∧ (x, y) = mo s.toList p ∧ Below w.heap.size w w'
theorem mo_shaped {l : List UInt8} {p x y : Bool} (h : shaped l = true) (hl : (x, y) = Words.look (low l) p) : (x, y) = mo l p := by
  unfold mo; rw [if_pos h]; exact hl
theorem mo_not {l : List UInt8} {p : Bool} (h : shaped l = false) : (false, false) = mo l p := by
  unfold mo; rw [if_neg (by simp [h])]

set_option maxHeartbeats 1000000 in
theorem model_any (s : ByteArray) (p : Bool) (w : World) (hs : s.size ≤ 1048576) :
    Calls Try.prog 11 #[.string s, .bool p] w fun e w' => EndsM s p w e w' := by
  go_enter Try.func11, Try.ntmps11
  go_wp2_with fail
  refine (spell_any s _ hs).mono ?_
  rintro e w1 (⟨hsh, rfl, hb⟩ | ⟨hsh, rfl, hb⟩)
  · have HB : Hid (Below w.heap.size w w1) := hb
    have HL : Hid (∀ x y, (x, y) = Words.look (text s).toList p → (x, y) = mo s.toList p) := fun x y h => mo_shaped hsh (by rw [text_toList] at h; exact h)
    clear hb hsh
    generalize text s = t at *
    cases h0 : (t.toList == [121])
    case true =>
      have HX := HL.out _ _ (show (true, true) = Words.look t.toList p by unfold Words.look; simp only [h0]; rfl)
      have HXX : Hid (_ = mo s.toList p) := HX
      clear HX HL
      go_wp2
      go_ret2
      exact ⟨_, _, rfl, HXX.out, HB.out⟩
    cases h1 : (t.toList == [121, 101, 115])
    case true =>
      have HX := HL.out _ _ (show (true, true) = Words.look t.toList p by unfold Words.look; simp only [h0, h1]; rfl)
      have HXX : Hid (_ = mo s.toList p) := HX
      clear HX HL
      go_wp2
      go_ret2
      exact ⟨_, _, rfl, HXX.out, HB.out⟩
    cases h2 : (t.toList == [111, 110])
    case true =>
      have HX := HL.out _ _ (show (true, true) = Words.look t.toList p by unfold Words.look; simp only [h0, h1, h2]; rfl)
      have HXX : Hid (_ = mo s.toList p) := HX
      clear HX HL
      go_wp2
      go_ret2
      exact ⟨_, _, rfl, HXX.out, HB.out⟩
    cases h3 : (t.toList == [110])
    case true =>
      have HX := HL.out _ _ (show (false, true) = Words.look t.toList p by unfold Words.look; simp only [h0, h1, h2, h3]; rfl)
      have HXX : Hid (_ = mo s.toList p) := HX
      clear HX HL
      go_wp2
      go_ret2
      exact ⟨_, _, rfl, HXX.out, HB.out⟩
    cases h4 : (t.toList == [110, 111])
    case true =>
      have HX := HL.out _ _ (show (false, true) = Words.look t.toList p by unfold Words.look; simp only [h0, h1, h2, h3, h4]; rfl)
      have HXX : Hid (_ = mo s.toList p) := HX
      clear HX HL
      go_wp2
      go_ret2
      exact ⟨_, _, rfl, HXX.out, HB.out⟩
    cases h5 : (t.toList == [111, 102, 102])
    case true =>
      have HX := HL.out _ _ (show (false, true) = Words.look t.toList p by unfold Words.look; simp only [h0, h1, h2, h3, h4, h5]; rfl)
      have HXX : Hid (_ = mo s.toList p) := HX
      clear HX HL
      go_wp2
      go_ret2
      exact ⟨_, _, rfl, HXX.out, HB.out⟩
    cases h6 : (t.toList == [116, 114, 117, 101])
    case true =>
      have HX := HL.out _ _ (show (true, p) = Words.look t.toList p by unfold Words.look; simp only [h0, h1, h2, h3, h4, h5, h6]; rfl)
      have HXX : Hid (_ = mo s.toList p) := HX
      clear HX HL
      go_wp2
      go_ret2
      exact ⟨_, _, rfl, HXX.out, HB.out⟩
    cases h7 : (t.toList == [102, 97, 108, 115, 101])
    case true =>
      have HX := HL.out _ _ (show (false, p) = Words.look t.toList p by unfold Words.look; simp only [h0, h1, h2, h3, h4, h5, h6, h7]; rfl)
      have HXX : Hid (_ = mo s.toList p) := HX
      clear HX HL
      go_wp2
      go_ret2
      exact ⟨_, _, rfl, HXX.out, HB.out⟩
    have HX := HL.out _ _ (show (false, false) = Words.look t.toList p by unfold Words.look; simp only [h0, h1, h2, h3, h4, h5, h6, h7]; rfl)
    have HXX : Hid (_ = mo s.toList p) := HX
    clear HX HL
    go_wp2
    go_ret2
    exact ⟨_, _, rfl, HXX.out, HB.out⟩
  · have HB : Hid (Below w.heap.size w w1) := hb
    have HX : Hid ((false, false) = mo s.toList p) := mo_not hsh
    clear hb hsh
    go_wp2
    go_ret2
    exact ⟨_, _, rfl, HX.out, HB.out⟩
end Go.Proofs.Qxb6601223a.Model
