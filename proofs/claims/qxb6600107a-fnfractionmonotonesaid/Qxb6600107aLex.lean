/-
  The walk of the law's own zzLexLE, and the plain law: what sorts no later reads as no more.
-/
import Derived.Test.Qxb6600107aFrac
import Derived.RegionTactic
import Derived.BigQuiet
import Derived.Deep.QuietTactic
namespace Go.Proofs.Qxb6600107a.Lex
open Go.RowKit Frac
set_option linter.unusedVariables false
set_option linter.unusedSimpArgs false

/-- The first 'k' bytes agree. -/
def Same (a b : ByteArray) (k : Nat) : Prop := ∀ j (h : j < a.size) (h' : j < b.size), j < k → a[j].toNat = b[j].toNat
/-- 'a' sorts no later than 'b'. -/
def LE (a b : ByteArray) : Prop := (∃ k, ∃ h : k < a.size, ∃ h' : k < b.size, Same a b k ∧ a[k].toNat < b[k].toNat) ∨ (a.size ≤ b.size ∧ Same a b a.size)

theorem same_succ {a b : ByteArray} {k : Nat} (h : Same a b k) (x : k < a.size) (y : k < b.size) (e : a[k].toNat = b[k].toNat) : Same a b (k + 1) := fun j p q hj => by
  by_cases ej : j = k
  · subst ej; exact e
  · exact h j p q (by omega)

theorem hor_eq (d d' : Nat → Int) (k : Nat) (h : ∀ i, i < k → d i = d' i) (m : Nat) (hm : m ≤ k) : hor d m = hor d' m := hor_congr d d' m fun i hi => h i (by omega)
theorem hor_lt (d d' : Nat → Int) (hd : ∀ i, 0 ≤ d i ∧ d i ≤ 9) (hd' : ∀ i, 0 ≤ d' i ∧ d' i ≤ 9) (k : Nat) (h : ∀ i, i < k → d i = d' i) (hk : d k < d' k) : ∀ x, hor d (k + 1 + x) + 1 ≤ hor d' (k + 1 + x)
  | 0 => by simp only [Nat.add_zero, hor]; rw [hor_eq d d' k h k (Nat.le_refl _)]; omega
  | x + 1 => by
    have := hor_lt d d' hd hd' k h hk x
    have a := hd (k + 1 + x)
    have b := hd' (k + 1 + x)
    show hor d (k + 1 + x) * 10 + d (k + 1 + x) + 1 ≤ hor d' (k + 1 + x) * 10 + d' (k + 1 + x)
    omega
theorem hor_mono (d d' : Nat → Int) (h : ∀ i, d i ≤ d' i) : ∀ m, hor d m ≤ hor d' m
  | 0 => Int.le_refl _
  | m + 1 => by have := hor_mono d d' h m; have := h m; simp only [hor]; omega
theorem le_hor (a b : ByteArray) (ha : AllDig a) (hb : AllDig b) (h : LE a b) : hor (dig a) 9 ≤ hor (dig b) 9 := by
  have da := dig_bd a ha
  have db := dig_bd b hb
  rcases h with ⟨k, h1, h2, hs, hlt⟩ | ⟨hsz, hs⟩
  · have he : ∀ i, i < k → dig a i = dig b i := fun i hi => by
      rw [dig_at a i (by omega), dig_at b i (by omega), hs i (by omega) (by omega) hi]
    have hk : dig a k < dig b k := by rw [dig_at a k h1, dig_at b k h2]; omega
    by_cases h9 : 9 ≤ k
    · rw [hor_eq _ _ k he 9 h9]; exact Int.le_refl _
    · have := hor_lt _ _ da db k he hk (9 - (k + 1))
      rw [show k + 1 + (9 - (k + 1)) = 9 by omega] at this
      omega
  · refine hor_mono _ _ (fun i => ?_) 9
    by_cases hi : i < a.size
    · rw [dig_at a i hi, dig_at b i (by omega), hs i hi (by omega) hi]; exact Int.le_refl _
    · have := db i
      unfold dig at this ⊢
      rw [dif_neg hi]
      exact this.1

theorem below_drewN {B : Nat} {a w : World} (h : Below B a w) (n : Nat) : Below B a (w.drewN n) := h.trans ⟨rfl, rfl, rfl, Nat.le_refl _, fun _ _ => rfl⟩

/-- How a call of 'zzLexLE' ends. -/
def Ends (a b : ByteArray) (w : World) (e : Ending) (w' : World) : Prop := ∃ x : Bool, e = .returned (.bool x) ∧ (x = true → LE a b) ∧ Below w.heap.size w w'

set_option maxHeartbeats 1000000 in
theorem lex_any (a b : ByteArray) (w : World) (hsa : a.size ≤ 1048576) (hsb : b.size ≤ 1048576) :
    Calls Try.prog 28 #[.string a, .string b] w fun e w' => Ends a b w e w' := by
  by_cases hba : b.size < a.size
  · go_enter Try.func28, Try.ntmps28
    go_wp2
    go_loopw [6] (fun i wr => ∃ k : Nat, k ≤ b.size ∧ i = .int .i64 k ∧ Same a b k ∧ Hid (Below w.heap.size w wr)) (fun i _ => b.size - (intOf i).toNat)
    case atStart => exact ⟨0, Nat.zero_le _, rfl, fun _ _ _ h => by omega, Below.refl _ _⟩
    case round =>
      obtain ⟨k, hk, rfl, HS, HB⟩ := hrel
      by_cases hlt : k < b.size
      · have hlt' : k < a.size := by omega
        by_cases he : a[k].toNat = b[k].toNat
        · have he' : ((a[k].toNat : Int) != (b[k].toNat : Int)) = false := by rw [bne_eq_false_iff_eq]; omega
          have HE : Hid (a[k].toNat = b[k].toNat) := he
          clear he
          go_wp2
          go_quiet (fail)
          go_wp2
          refine ⟨⟨k + 1, by omega, by go_num, same_succ HS hlt' hlt HE.out, below_drewN HB.out _⟩, ?_⟩
          simp [intOf]
          omega
        · have he' : ((a[k].toNat : Int) != (b[k].toNat : Int)) = true := by rw [bne_iff_ne]; omega
          clear he
          go_wp2
          go_quiet (fail)
          go_wp2
          go_quiet (fail)
          go_wp2
          go_ret
          exact ⟨_, rfl, fun h => .inl ⟨k, hlt', hlt, HS, of_decide_eq_true h⟩, below_drewN (below_drewN HB.out _) _⟩
      · go_wp2
        go_ret
        exact ⟨_, rfl, fun h => .inr ⟨of_decide_eq_true h, fun j x y hj => HS j x y (by omega)⟩, HB.out⟩
  · go_enter Try.func28, Try.ntmps28
    go_wp2
    go_loopw [6] (fun i wr => ∃ k : Nat, k ≤ a.size ∧ i = .int .i64 k ∧ Same a b k ∧ Hid (Below w.heap.size w wr)) (fun i _ => a.size - (intOf i).toNat)
    case atStart => exact ⟨0, Nat.zero_le _, rfl, fun _ _ _ h => by omega, Below.refl _ _⟩
    case round =>
      obtain ⟨k, hk, rfl, HS, HB⟩ := hrel
      by_cases hlt : k < a.size
      · have hlt' : k < b.size := by omega
        by_cases he : a[k].toNat = b[k].toNat
        · have he' : ((a[k].toNat : Int) != (b[k].toNat : Int)) = false := by rw [bne_eq_false_iff_eq]; omega
          have HE : Hid (a[k].toNat = b[k].toNat) := he
          clear he
          go_wp2
          go_quiet (fail)
          go_wp2
          refine ⟨⟨k + 1, by omega, by go_num, same_succ HS hlt hlt' HE.out, below_drewN HB.out _⟩, ?_⟩
          simp [intOf]
          omega
        · have he' : ((a[k].toNat : Int) != (b[k].toNat : Int)) = true := by rw [bne_iff_ne]; omega
          clear he
          go_wp2
          go_quiet (fail)
          go_wp2
          go_quiet (fail)
          go_wp2
          go_ret
          exact ⟨_, rfl, fun h => .inl ⟨k, hlt, hlt', HS, of_decide_eq_true h⟩, below_drewN (below_drewN HB.out _) _⟩
      · go_wp2
        go_ret
        exact ⟨_, rfl, fun h => .inr ⟨of_decide_eq_true h, fun j x y hj => HS j x y (by omega)⟩, HB.out⟩
end Go.Proofs.Qxb6600107a.Lex
