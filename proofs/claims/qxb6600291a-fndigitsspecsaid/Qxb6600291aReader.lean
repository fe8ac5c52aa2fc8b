/-
  The walks of (*jsonin.Reader).space and .digits and of ZZSpace, ZZDigits.
-/
import Derived.Test.Qxb6600291aProg
import Derived.WalkKit
import Derived.WalkSpells
import Derived.ProofKit
import Derived.Below
import Derived.BigQuiet
import Derived.Deep.QuietTactic
import Derived.Laws.IdiomStrings
namespace Go.Proofs.Qxb6600291a.Reader
open Go.RowKit
set_option linter.unusedVariables false
set_option linter.unusedSimpArgs false

theorem below_drewN {B : Nat} {a w : World} (h : Below B a w) (n : Nat) : Below B a (w.drewN n) := h.trans ⟨rfl, rfl, rfl, Nat.le_refl _, fun _ _ => rfl⟩

/-- The world in mid-walk: the Reader lies in block 'R' with the slice 'sl' and the place 'k'; below 'R' all is as in 'w'. -/
def St (w : World) (R : Nat) (sl : Value) (k : Int) (wr : World) : Prop :=
  wr.cell? ⟨R, 0, none⟩ = some sl ∧ wr.cell? ⟨R, 1, none⟩ = some (.int .i64 k) ∧ wr.frozen? ⟨R, 1, none⟩ = false ∧ Below R w wr
theorem St.drewN {w : World} {R : Nat} {sl : Value} {k : Int} {wr : World} (h : St w R sl k wr) (n : Nat) : St w R sl k (wr.drewN n) :=
  ⟨h.1, h.2.1, h.2.2.1, below_drewN h.2.2.2 n⟩
theorem St.put {w : World} {R : Nat} {sl : Value} {k : Int} {wr : World} (h : St w R sl k wr) (m : Int) : St w R sl m (wr.setCell ⟨R, 1, none⟩ (.int .i64 m)) :=
  ⟨(World.cell?_setCell_other _ _ _ _ (by simp)).trans h.1, World.cell?_setCell_same _ _ _ h.2.1, (World.frozen?_setCell _ _ _ _).trans h.2.2.1, h.2.2.2.setCell (Nat.le_refl _) _⟩
/-- The place in the Reader, for a measure. -/
def offOf (R : Nat) (wr : World) : Nat := match wr.cell? ⟨R, 1, none⟩ with | some (.int _ q) => q.toNat | _ => 0
theorem offOf_st {w : World} {R : Nat} {sl : Value} {k : Int} {wr : World} (h : St w R sl k wr) : offOf R wr = k.toNat := by
  unfold offOf; rw [h.2.1]

/-- A run of 'p' that begins at 'off' ends at 'k'. -/
def Stop (p : Int → Prop) (z : Nat → Int) (len off k : Nat) : Prop := off ≤ k ∧ k ≤ len ∧ (∀ j, off ≤ j → j < k → p (z j)) ∧ (k < len → ¬ p (z k))

/-- White space as JSON has it. -/
def sp (c : Int) : Prop := c = 32 ∨ c = 9 ∨ c = 10 ∨ c = 13
/-- A decimal digit. -/
def dd (c : Int) : Prop := 48 ≤ c ∧ c ≤ 57

/-- The end of a round that has gone one byte on. -/
theorem round_end {w : World} {R : Nat} {sl : Value} {wr : World} {p : Int → Prop} {z : Nat → Int} {len off k : Nat} (hs : St w R sl k wr) (hS : ∀ j, off ≤ j → j < k → p (z j)) (hp : p (z k)) (h1 : off ≤ k) (h2 : k < len) (n : Nat) :
    (∃ k_1 : Nat, off ≤ k_1 ∧ k_1 ≤ len ∧ Hid (∀ j, off ≤ j → j < k_1 → p (z j)) ∧ St w R sl k_1 ((wr.drewN n).setCell ⟨R, 1, none⟩ (.int .i64 ((k : Int) + 1)))) ∧
    len - offOf R ((wr.drewN n).setCell ⟨R, 1, none⟩ (.int .i64 ((k : Int) + 1))) < len - offOf R wr := by
  have e : ((k + 1 : Nat) : Int) = (k : Int) + 1 := by omega
  refine ⟨⟨k + 1, by omega, by omega, fun j a b => ?_, by rw [e]; exact (hs.drewN n).put _⟩, ?_⟩
  · by_cases ej : j = k
    · subst ej; exact hp
    · exact hS j a (by omega)
  · rw [offOf_st ((hs.drewN n).put _), offOf_st hs]
    omega

/-- How 'space' ends. -/
def EndsS (p : Int → Prop) (z : Nat → Int) (len off : Nat) (w : World) (R : Nat) (sl : Value) (e : Ending) (w' : World) : Prop :=
  e = .returned (.tuple #[]) ∧ ∃ k : Nat, Stop p z len off k ∧ St w R sl k w'

set_option maxHeartbeats 1000000 in
theorem space_in (R B len cap : Nat) (z : Nat → Int) (off : Nat) (w w0 : World) (hst : St w R (.slice (some ⟨B, 0, none⟩) len cap) off w0)
    (hz : ∀ j, j < len → w.cell? ⟨B, j, none⟩ = some (.int .u8 (z j))) (hB : B < R) (hlen : len ≤ 1048576) (hoff : off ≤ len) :
    Calls Try.prog 20 #[.pointer (some ⟨R, 0, none⟩)] w0 fun e w' => EndsS sp z len off w R (.slice (some ⟨B, 0, none⟩) len cap) e w' := by
  have HZ : Hid (∀ j, j < len → w.cell? ⟨B, j, none⟩ = some (.int .u8 (z j))) := hz
  have HST : Hid (St w R (.slice (some ⟨B, 0, none⟩) len cap) off w0) := hst
  clear hz hst
  go_enter Try.func20, Try.ntmps20
  go_wp2
  go_loopw [] (fun wr => ∃ k : Nat, off ≤ k ∧ k ≤ len ∧ Hid (∀ j, off ≤ j → j < k → sp (z j)) ∧ St w R (.slice (some ⟨B, 0, none⟩) len cap) k wr) (fun wr => len - offOf R wr)
  case atStart => exact ⟨off, by omega, by omega, fun j _ _ => by omega, HST.out⟩
  case round =>
    obtain ⟨k, hk1, hk2, HS, hs⟩ := hrel
    obtain ⟨c0, c1, hf, hbl⟩ := id hs
    have HS2 : Hid (St w R (.slice (some ⟨B, 0, none⟩) len cap) k wr) := hs
    clear hs
    by_cases hlt : k < len
    · have hc := (hbl.cell (p := ⟨B, k, none⟩) hB).trans (HZ.out k hlt)
      clear hbl
      go_wp2
      go_quiet (fail)
      go_wp2
      go_quiet (fail)
      go_wp2
      all_goals
        first
          | (refine round_end HS2.out HS.out ?_ hk1 hlt _
             simp only [beq_iff_eq, beq_eq_false_iff_ne] at *
             unfold sp
             omega)
          | (refine bodyPost_ret (results_none rfl _ _ _) rfl ⟨rfl, k, ⟨hk1, hk2, HS.out, fun _ => ?_⟩, HS2.out.drewN _⟩
             simp only [beq_iff_eq, beq_eq_false_iff_ne] at *
             unfold sp
             omega)
    · clear hbl
      go_wp2
      go_quiet (fail)
      go_wp2
      go_end0
      exact ⟨rfl, k, ⟨hk1, hk2, HS.out, fun h => absurd h hlt⟩, HS2.out.drewN _⟩

set_option maxHeartbeats 400000 in
theorem space_out (R : Nat) (a : Option Addr) (len cap : Nat) (off : Int) (w w0 : World) (hst : St w R (.slice a len cap) off w0) (hlen : len ≤ 1048576) (hoff : (len : Int) ≤ off) :
    Calls Try.prog 20 #[.pointer (some ⟨R, 0, none⟩)] w0 fun e w' => e = .returned (.tuple #[]) ∧ St w R (.slice a len cap) off w' := by
  have HST : Hid (St w R (.slice a len cap) off w0) := hst
  clear hst
  go_enter Try.func20, Try.ntmps20
  go_wp2
  go_loopw [] (fun wr => St w R (.slice a len cap) off wr) (fun wr => 0)
  case atStart => exact HST.out
  case round =>
    obtain ⟨c0, c1, hf, hbl⟩ := id hrel
    have HS2 : Hid (St w R (.slice a len cap) off wr) := hrel
    clear hrel hbl
    go_wp2
    go_quiet (fail)
    go_wp2
    go_end0
    exact ⟨rfl, HS2.out.drewN _⟩

/-- A new Reader. -/
theorem st_new (w : World) (sl : Value) (off : Int) : St w w.heap.size sl off (w.alloc (.cells #[sl, .int .i64 off, .int .i64 0] 33)) :=
  ⟨World.cell?_alloc_mark w _ 33 _ 0, World.cell?_alloc_mark w _ 33 _ 1, (frozen?_alloc_cells w _ 33 _).trans (by
    have e : w.heap[w.heap.size]? = none := by simp
    simp [World.frozen?, e]), (Below.refl _ _).alloc (Nat.le_refl _) _⟩

/-- How 'ZZSpace' ends. -/
def EndsZ (z : Nat → Int) (len off : Nat) (w : World) (e : Ending) (w' : World) : Prop :=
  ∃ k : Nat, e = .returned (.int .i64 k) ∧ Stop sp z len off k ∧ Below w.heap.size w w'

set_option maxHeartbeats 400000 in
theorem zzspace_in (B len cap : Nat) (z : Nat → Int) (off : Nat) (w : World)
    (hz : ∀ j, j < len → w.cell? ⟨B, j, none⟩ = some (.int .u8 (z j))) (hB : B < w.heap.size) (hlen : len ≤ 1048576) (hoff : off ≤ len) :
    Calls Try.prog 10 #[.slice (some ⟨B, 0, none⟩) len cap, .int .i64 off] w fun e w' => EndsZ z len off w e w' := by
  have HZ : Hid (∀ j, j < len → w.cell? ⟨B, j, none⟩ = some (.int .u8 (z j))) := hz
  clear hz
  go_enter Try.func10, Try.ntmps10
  go_wp2_with fail
  refine (space_in w.heap.size B len cap z off w _ (st_new w (.slice (some ⟨B, 0, none⟩) len cap) off) HZ.out hB hlen hoff).mono ?_
  rintro e w1 ⟨rfl, k, hstop, hst⟩
  obtain ⟨c0, c1, hf, hb⟩ := hst
  have HB : Hid (Below w.heap.size w w1) := hb
  clear hb c0 hf
  go_wp2
  go_ret
  exact ⟨k, rfl, hstop, HB.out⟩
set_option maxHeartbeats 400000 in
theorem zzspace_out (a : Option Addr) (len cap : Nat) (off : Int) (w : World) (hlen : len ≤ 1048576) (hoff : (len : Int) ≤ off) :
    Calls Try.prog 10 #[.slice a len cap, .int .i64 off] w fun e w' => e = .returned (.int .i64 off) ∧ Below w.heap.size w w' := by
  go_enter Try.func10, Try.ntmps10
  go_wp2_with fail
  refine (space_out w.heap.size a len cap off w _ (st_new w (.slice a len cap) off) hlen hoff).mono ?_
  rintro e w1 ⟨rfl, hst⟩
  obtain ⟨c0, c1, hf, hb⟩ := hst
  have HB : Hid (Below w.heap.size w w1) := hb
  clear hb c0 hf
  go_wp2
  go_ret
  exact ⟨rfl, HB.out⟩

/-- How 'zzIsJSONSpace' ends. -/
theorem isSpace_yes (c : Int) (w : World) (h : sp c) :
    Calls Try.prog 11 #[.int .u8 c] w fun e w' => e = .returned (.bool true) ∧ w' = w := by
  unfold sp at h
  rcases h with rfl | rfl | rfl | rfl
  all_goals
    go_enter Try.func11, Try.ntmps11
    go_wp2
    go_ret
    exact ⟨rfl, rfl⟩
theorem isSpace_no (c : Int) (w : World) (h : ¬ sp c) :
    Calls Try.prog 11 #[.int .u8 c] w fun e w' => e = .returned (.bool false) ∧ w' = w := by
  unfold sp at h
  have h1 : (c == 32) = false := beq_eq_false_iff_ne.2 (by omega)
  have h2 : (c == 9) = false := beq_eq_false_iff_ne.2 (by omega)
  have h3 : (c == 10) = false := beq_eq_false_iff_ne.2 (by omega)
  have h4 : (c == 13) = false := beq_eq_false_iff_ne.2 (by omega)
  clear h
  go_enter Try.func11, Try.ntmps11
  go_wp2
  go_ret
  exact ⟨rfl, rfl⟩
theorem isDec_yes (c : Int) (w : World) (h : dd c) :
    Calls Try.prog 18 #[.int .u8 c] w fun e w' => e = .returned (.bool true) ∧ w' = w := by
  have h1 := h.1
  have h2 := h.2
  clear h
  go_enter Try.func18, Try.ntmps18
  go_wp2
  go_ret
  exact ⟨rfl, rfl⟩
theorem isDec_no (c : Int) (w : World) (h : ¬ dd c) :
    Calls Try.prog 18 #[.int .u8 c] w fun e w' => e = .returned (.bool false) ∧ w' = w := by
  have h1 : c < 48 ∨ 57 < c := by unfold dd at h; omega
  clear h
  rcases h1 with h1 | h1
  · go_enter Try.func18, Try.ntmps18
    go_wp2
    go_ret
    exact ⟨rfl, rfl⟩
  · have hd : decide (c ≤ 57) = false := by simp; omega
    go_enter Try.func18, Try.ntmps18
    go_wp2
    go_ret
    exact ⟨rfl, rfl⟩

end Go.Proofs.Qxb6600291a.Reader
