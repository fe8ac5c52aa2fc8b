/-
  The walks of (*jsonin.Reader).digits and of ZZDigits.
-/
import Derived.Test.Qxb6600291aReader
namespace Go.Proofs.Qxb6600291a.Digits
open Go.RowKit Reader
set_option linter.unusedVariables false
set_option linter.unusedSimpArgs false

/-- How 'digits' ends. -/
def EndsD (z : Nat → Int) (len off : Nat) (w : World) (R : Nat) (sl : Value) (e : Ending) (w' : World) : Prop :=
  ∃ k : Nat, e = .returned (.bool (decide (off < k))) ∧ Stop dd z len off k ∧ St w R sl k w'

set_option maxHeartbeats 1000000 in
theorem digits_in (R B len cap : Nat) (z : Nat → Int) (off : Nat) (w w0 : World) (hst : St w R (.slice (some ⟨B, 0, none⟩) len cap) off w0)
    (hz : ∀ j, j < len → w.cell? ⟨B, j, none⟩ = some (.int .u8 (z j))) (hB : B < R) (hlen : len ≤ 1048576) (hoff : off ≤ len) :
    Calls Try.prog 22 #[.pointer (some ⟨R, 0, none⟩)] w0 fun e w' => EndsD z len off w R (.slice (some ⟨B, 0, none⟩) len cap) e w' := by
  have HZ : Hid (∀ j, j < len → w.cell? ⟨B, j, none⟩ = some (.int .u8 (z j))) := hz
  have HST : Hid (St w R (.slice (some ⟨B, 0, none⟩) len cap) off w0) := hst
  have c1 := hst.2.1
  clear hz hst
  go_enter Try.func22, Try.ntmps22
  go_wp2
  clear c1
  go_loopw [] (fun wr => ∃ k : Nat, off ≤ k ∧ k ≤ len ∧ Hid (∀ j, off ≤ j → j < k → dd (z j)) ∧ St w R (.slice (some ⟨B, 0, none⟩) len cap) k wr) (fun wr => len - offOf R wr)
  case atStart => exact ⟨off, by omega, by omega, fun j _ _ => by omega, HST.out⟩
  case round =>
    obtain ⟨k, hk1, hk2, HS, hs⟩ := hrel
    obtain ⟨c0, c1, hf, hbl⟩ := id hs
    have HS2 : Hid (St w R (.slice (some ⟨B, 0, none⟩) len cap) k wr) := hs
    clear hs
    by_cases hlt : k < len
    · have hc := (hbl.cell (p := ⟨B, k, none⟩) hB).trans (HZ.out k hlt)
      clear hbl
      have dl : decide (k < len) = true := by simp; omega
      by_cases h48 : 48 ≤ z k
      · by_cases h57 : z k ≤ 57
        · have d1 : decide (48 ≤ z k) = true := by simp; omega
          have d2 : decide (z k ≤ 57) = true := by simp; omega
          go_wp2
          go_quiet (fail)
          go_wp2
          exact round_end HS2.out HS.out ⟨h48, h57⟩ hk1 hlt _
        · have d1 : decide (48 ≤ z k) = true := by simp; omega
          have d2 : decide (z k ≤ 57) = false := by simp; omega
          go_wp2
          go_quiet (fail)
          go_wp2
          go_ret
          exact ⟨k, rfl, ⟨hk1, hk2, HS.out, fun _ h => absurd h.2 (by omega)⟩, HS2.out.drewN _⟩
      · have d1 : decide (48 ≤ z k) = false := by simp; omega
        go_wp2
        go_quiet (fail)
        go_wp2
        go_ret
        exact ⟨k, rfl, ⟨hk1, hk2, HS.out, fun _ h => absurd h.1 (by omega)⟩, HS2.out.drewN _⟩
    · clear hbl
      have dl : decide (k < len) = false := by simp; omega
      go_wp2
      go_quiet (fail)
      go_wp2
      go_ret
      exact ⟨k, rfl, ⟨hk1, hk2, HS.out, fun h => absurd h hlt⟩, HS2.out.drewN _⟩

set_option maxHeartbeats 400000 in
theorem digits_out (R : Nat) (a : Option Addr) (len cap : Nat) (off : Int) (w w0 : World) (hst : St w R (.slice a len cap) off w0) (hlen : len ≤ 1048576) (hoff : (len : Int) ≤ off) :
    Calls Try.prog 22 #[.pointer (some ⟨R, 0, none⟩)] w0 fun e w' => e = .returned (.bool false) ∧ St w R (.slice a len cap) off w' := by
  have HST : Hid (St w R (.slice a len cap) off w0) := hst
  have c1 := hst.2.1
  clear hst
  go_enter Try.func22, Try.ntmps22
  go_wp2
  clear c1
  go_loopw [] (fun wr => St w R (.slice a len cap) off wr) (fun wr => 0)
  case atStart => exact HST.out
  case round =>
    obtain ⟨c0, c1, hf, hbl⟩ := id hrel
    have HS2 : Hid (St w R (.slice a len cap) off wr) := hrel
    clear hrel hbl
    have dl : decide (off < (len : Int)) = false := by simp; omega
    go_wp2
    go_quiet (fail)
    go_wp2
    go_ret
    exact ⟨by simp, HS2.out.drewN _⟩

/-- How 'ZZDigits' ends. -/
def EndsZ (z : Nat → Int) (len off : Nat) (w : World) (e : Ending) (w' : World) : Prop :=
  ∃ k : Nat, e = .returned (.tuple #[.int .i64 k, .bool (decide (off < k))]) ∧ Stop dd z len off k ∧ Below w.heap.size w w'

set_option maxHeartbeats 400000 in
theorem zzdigits_in (B len cap : Nat) (z : Nat → Int) (off : Nat) (w : World)
    (hz : ∀ j, j < len → w.cell? ⟨B, j, none⟩ = some (.int .u8 (z j))) (hB : B < w.heap.size) (hlen : len ≤ 1048576) (hoff : off ≤ len) :
    Calls Try.prog 17 #[.slice (some ⟨B, 0, none⟩) len cap, .int .i64 off] w fun e w' => EndsZ z len off w e w' := by
  have HZ : Hid (∀ j, j < len → w.cell? ⟨B, j, none⟩ = some (.int .u8 (z j))) := hz
  clear hz
  go_enter Try.func17, Try.ntmps17
  go_wp2_with fail
  refine (digits_in w.heap.size B len cap z off w _ (st_new w (.slice (some ⟨B, 0, none⟩) len cap) off) HZ.out hB hlen hoff).mono ?_
  rintro e w1 ⟨k, rfl, hstop, hst⟩
  obtain ⟨c0, c1, hf, hb⟩ := hst
  have HB : Hid (Below w.heap.size w w1) := hb
  clear hb c0 hf
  go_wp2
  go_ret2
  exact ⟨k, rfl, hstop, HB.out⟩
set_option maxHeartbeats 400000 in
theorem zzdigits_out (a : Option Addr) (len cap : Nat) (off : Int) (w : World) (hlen : len ≤ 1048576) (hoff : (len : Int) ≤ off) :
    Calls Try.prog 17 #[.slice a len cap, .int .i64 off] w fun e w' => e = .returned (.tuple #[.int .i64 off, .bool false]) ∧ Below w.heap.size w w' := by
  go_enter Try.func17, Try.ntmps17
  go_wp2_with fail
  refine (digits_out w.heap.size a len cap off w _ (st_new w (.slice a len cap) off) hlen hoff).mono ?_
  rintro e w1 ⟨rfl, hst⟩
  obtain ⟨c0, c1, hf, hb⟩ := hst
  have HB : Hid (Below w.heap.size w w1) := hb
  clear hb c0 hf
  go_wp2
  go_ret2
  exact ⟨rfl, HB.out⟩
end Go.Proofs.Qxb6600291a.Digits
