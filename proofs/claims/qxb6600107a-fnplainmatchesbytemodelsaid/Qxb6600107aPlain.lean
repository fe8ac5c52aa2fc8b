/-
  The walks of jsondoc.Plain and of the law's own byte model.
-/
import Derived.Test.Qxb6600107aProg
import Derived.WalkKit
import Derived.WalkSpells
import Derived.ProofKit
import Derived.Laws.RangeAny
namespace Go.Proofs.Qxb6600107a.Plain
open Go.RowKit
set_option linter.unusedVariables false
set_option linter.unusedSimpArgs false

/-- One byte (or rune): a letter, a digit, '-' or '_'. -/
def plain (c : Int) : Prop := 97 ≤ c ∧ c ≤ 122 ∨ 65 ≤ c ∧ c ≤ 90 ∨ 48 ≤ c ∧ c ≤ 57 ∨ c = 45 ∨ c = 95

/-- All bytes below 'k' are plain. -/
def Upto (s : ByteArray) (k : Nat) : Prop := ∀ j (h : j < s.size), j < k → plain s[j].toNat
theorem upto_zero (s : ByteArray) : Upto s 0 := fun _ _ h => by omega
theorem upto_succ {s : ByteArray} {k : Nat} (h : Upto s k) (a : k < s.size) (o : plain s[k].toNat) : Upto s (k + 1) := fun j x hj => by
  by_cases e : j = k
  · subst e; exact o
  · exact h j x (by omega)
theorem upto_mono {s : ByteArray} {k n : Nat} (h : Upto s n) (hk : k ≤ n) : Upto s k := fun j x hj => h j x (by omega)
theorem not_upto {s : ByteArray} {k n : Nat} (a : k < s.size) (hn : k < n) (o : ¬ plain s[k].toNat) : ¬ Upto s n := fun h => o (h k a hn)

/-- The whole name is plain. -/
def IsPlain (s : ByteArray) : Prop := 0 < s.size ∧ Upto s s.size

/-- How a call of 'Plain' ends. -/
def Ends (s : ByteArray) (w : World) (e : Ending) (w' : World) : Prop := ∃ b : Bool, e = .returned (.bool b) ∧ (b = true ↔ IsPlain s) ∧ Grown w w'
theorem Ends.yes {s : ByteArray} {w w' : World} (h : IsPlain s) (g : Grown w w') : Ends s w (.returned (.bool true)) w' := ⟨true, rfl, by simp [h], g⟩
theorem Ends.no {s : ByteArray} {w w' : World} (h : ¬ IsPlain s) (g : Grown w w') : Ends s w (.returned (.bool false)) w' := ⟨false, rfl, by simp [h], g⟩

/-- How a call of 'zzPlainByte' ends. -/
def EndsB (c : Int) (w : World) (e : Ending) (w' : World) : Prop := ∃ b : Bool, e = .returned (.bool b) ∧ (b = true ↔ plain c) ∧ w' = w

theorem plainByte_any (c : Int) (w : World) :
    Calls Try.prog 13 #[.int .u8 c] w fun e w' => EndsB c w e w' := by
  go_enter Try.func13, Try.ntmps13
  go_wp2
  all_goals
    go_ret
    refine ⟨_, rfl, ?_, rfl⟩
    simp
    unfold plain
    omega

theorem plainByte_yes (c : Int) (w : World) (h : plain c) :
    Calls Try.prog 13 #[.int .u8 c] w fun e w' => e = .returned (.bool true) ∧ w' = w :=
  (plainByte_any c w).mono (by rintro e w' ⟨b, rfl, hb, rfl⟩; have : b = true := hb.2 h; subst this; exact ⟨rfl, rfl⟩)
theorem plainByte_no (c : Int) (w : World) (h : ¬ plain c) :
    Calls Try.prog 13 #[.int .u8 c] w fun e w' => e = .returned (.bool false) ∧ w' = w :=
  (plainByte_any c w).mono (by rintro e w' ⟨b, rfl, hb, rfl⟩; have : b = false := by { cases b with | false => rfl | true => exact absurd (hb.1 rfl) h }; subst this; exact ⟨rfl, rfl⟩)

theorem isEmpty_yes (s : ByteArray) (h : s.size = 0) : s.toList.isEmpty = true := by
  rw [ByteArray.toList_eq, List.isEmpty_iff_length_eq_zero]; simpa using h
theorem isEmpty_no (s : ByteArray) (h : ¬ s.size = 0) : s.toList.isEmpty = false := by
  cases e : s.toList.isEmpty with
  | false => rfl
  | true => rw [ByteArray.toList_eq, List.isEmpty_iff_length_eq_zero] at e; exact absurd (by simpa using e) h

theorem frozen?_iter (w : World) (s : ByteArray) (pos : Nat) (a : Addr) : (w.alloc (.stringIter s pos)).frozen? a = w.frozen? a := by
  by_cases h : a.block = w.heap.size
  · have e1 : (w.alloc (.stringIter s pos)).heap[a.block]? = some (.stringIter s pos) := by rw [h]; exact (MapKept.heap_alloc w _).1
    have e2 : w.heap[a.block]? = none := by rw [h]; simp
    simp [World.frozen?, e1, e2]
  · exact World.frozen?_alloc_old _ _ _ h
theorem grown_iter (w : World) (s : ByteArray) (pos : Nat) : Grown w (w.iter s pos) :=
  ⟨World.keptBut_alloc _ _ _, fun a => frozen?_iter w s pos a, by show w.heap.size ≤ (w.heap.push _).size; simp⟩

set_option maxHeartbeats 1000000 in
set_option maxRecDepth 100000 in
theorem plain_any (s : ByteArray) (w : World) (hs : s.size ≤ maxLen) :
    Calls Try.prog 14 #[.string s] w fun e w' => Ends s w e w' := by
  unfold maxLen at hs
  by_cases h0 : s.size = 0
  case pos =>
    have he := isEmpty_yes s h0
    have HE : Hid (s.size = 0) := h0
    clear h0
    go_enter Try.func14, Try.ntmps14
    go_wp2
    go_ret
    exact Ends.no (fun h => by have := h.1; have := HE.out; omega) (Grown.refl _)
  case neg =>
    have he := isEmpty_no s h0
    have h1 : 0 < s.size := by omega
    clear h0
    go_enter Try.func14, Try.ntmps14
    go_wp2
    go_loopw [] (fun w' => ∃ pos : Nat, pos ≤ s.size ∧ w' = w.iter s pos ∧ Upto s pos) (fun w' => s.size - w'.iterPos w.heap.size)
    case atStart => exact ⟨0, by omega, rfl, upto_zero s⟩
    case round =>
      obtain ⟨pos, hpos, rfl, HU⟩ := hrel
      by_cases hp : pos < s.size
      · by_cases ha : s[pos].toNat < 128
        · have hnx : ∀ ty, (Instr.next (.pointer (some ⟨w.heap.size, 0, none⟩)) true ty).run Try.prog (w.iter s pos) = _ := fun ty => run_next_ascii w s pos ty hp ha
          go_wp2
          all_goals
            first
              | (go_ret
                 refine Ends.no (fun h => not_upto hp hp ?_ h.2) (grown_iter _ _ _)
                 simp only [beq_iff_eq, beq_eq_false_iff_ne] at *
                 unfold plain
                 omega)
              | (refine ⟨⟨pos + 1, by omega, rfl, upto_succ HU hp ?_⟩, by simp; omega⟩
                 try simp only [beq_iff_eq, beq_eq_false_iff_ne] at *
                 unfold plain
                 omega)
        · have hd := decode_high s pos hp (by omega)
          have hnx : ∀ ty, (Instr.next (.pointer (some ⟨w.heap.size, 0, none⟩)) true ty).run Try.prog (w.iter s pos) = _ := fun ty => run_next_any w s pos ty hp
          go_wp2
          go_ret
          exact Ends.no (fun h => not_upto hp hp (by unfold plain; omega) h.2) (grown_iter _ _ _)
      · have hnx : ∀ ty, (Instr.next (.pointer (some ⟨w.heap.size, 0, none⟩)) true ty).run Try.prog (w.iter s pos) = _ := fun ty => run_next_end w s pos ty hp
        go_wp2
        go_ret
        exact Ends.yes ⟨h1, upto_mono HU (by omega)⟩ (grown_iter _ _ _)
end Go.Proofs.Qxb6600107a.Plain
