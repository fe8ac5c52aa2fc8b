/-
  The walks of repo.boolOf, repo.ZZboolOf and of the law's own model.
-/
import Derived.Test.Qxb6601223aWords
import Derived.WalkKit
import Derived.WalkSpells
import Derived.ProofKit
import Derived.Below
import Derived.Laws.IdiomStrings
import Derived.Deep.OwnRows
namespace Go.Proofs.Qxb6601223a.Spell
open Go.RowKit Words
set_option linter.unusedVariables false
set_option linter.unusedSimpArgs false

/-- How 'boolOf' ends. -/
def EndsB (s : ByteArray) (p : Bool) (w : World) (e : Ending) (w' : World) : Prop :=
  ∃ x y : Bool, e = .returned (.tuple #[.bool x, .bool y]) ∧ (x, y) = bo s.toList p ∧ w' = w

/-! ### One way through the switch a theorem: every test is decided ahead of the walk -/
theorem b0 (s : ByteArray) (p : Bool) (w : World)  (h0 : (s.toList == [121]) = true) :
    Calls Try.prog 21 #[.string s, .bool p] w fun e w' => e = .returned (.tuple #[.bool true, .bool true]) ∧ w' = w := by
  go_enter Try.func21, Try.ntmps21
  go_wp2
  go_ret2
  exact ⟨rfl, rfl⟩
theorem b1 (s : ByteArray) (p : Bool) (w : World) (h0 : (s.toList == [121]) = false) (h1 : (s.toList == [89]) = true) :
    Calls Try.prog 21 #[.string s, .bool p] w fun e w' => e = .returned (.tuple #[.bool true, .bool true]) ∧ w' = w := by
  go_enter Try.func21, Try.ntmps21
  go_wp2
  go_ret2
  exact ⟨rfl, rfl⟩
theorem b2 (s : ByteArray) (p : Bool) (w : World) (h0 : (s.toList == [121]) = false) (h1 : (s.toList == [89]) = false) (h2 : (s.toList == [121, 101, 115]) = true) :
    Calls Try.prog 21 #[.string s, .bool p] w fun e w' => e = .returned (.tuple #[.bool true, .bool true]) ∧ w' = w := by
  go_enter Try.func21, Try.ntmps21
  go_wp2
  go_ret2
  exact ⟨rfl, rfl⟩
theorem b3 (s : ByteArray) (p : Bool) (w : World) (h0 : (s.toList == [121]) = false) (h1 : (s.toList == [89]) = false) (h2 : (s.toList == [121, 101, 115]) = false) (h3 : (s.toList == [89, 101, 115]) = true) :
    Calls Try.prog 21 #[.string s, .bool p] w fun e w' => e = .returned (.tuple #[.bool true, .bool true]) ∧ w' = w := by
  go_enter Try.func21, Try.ntmps21
  go_wp2
  go_ret2
  exact ⟨rfl, rfl⟩
theorem b4 (s : ByteArray) (p : Bool) (w : World) (h0 : (s.toList == [121]) = false) (h1 : (s.toList == [89]) = false) (h2 : (s.toList == [121, 101, 115]) = false) (h3 : (s.toList == [89, 101, 115]) = false) (h4 : (s.toList == [89, 69, 83]) = true) :
    Calls Try.prog 21 #[.string s, .bool p] w fun e w' => e = .returned (.tuple #[.bool true, .bool true]) ∧ w' = w := by
  go_enter Try.func21, Try.ntmps21
  go_wp2
  go_ret2
  exact ⟨rfl, rfl⟩
theorem b5 (s : ByteArray) (p : Bool) (w : World) (h0 : (s.toList == [121]) = false) (h1 : (s.toList == [89]) = false) (h2 : (s.toList == [121, 101, 115]) = false) (h3 : (s.toList == [89, 101, 115]) = false) (h4 : (s.toList == [89, 69, 83]) = false) (h5 : (s.toList == [111, 110]) = true) :
    Calls Try.prog 21 #[.string s, .bool p] w fun e w' => e = .returned (.tuple #[.bool true, .bool true]) ∧ w' = w := by
  go_enter Try.func21, Try.ntmps21
  go_wp2
  go_ret2
  exact ⟨rfl, rfl⟩
theorem b6 (s : ByteArray) (p : Bool) (w : World) (h0 : (s.toList == [121]) = false) (h1 : (s.toList == [89]) = false) (h2 : (s.toList == [121, 101, 115]) = false) (h3 : (s.toList == [89, 101, 115]) = false) (h4 : (s.toList == [89, 69, 83]) = false) (h5 : (s.toList == [111, 110]) = false) (h6 : (s.toList == [79, 110]) = true) :
    Calls Try.prog 21 #[.string s, .bool p] w fun e w' => e = .returned (.tuple #[.bool true, .bool true]) ∧ w' = w := by
  go_enter Try.func21, Try.ntmps21
  go_wp2
  go_ret2
  exact ⟨rfl, rfl⟩
theorem b7 (s : ByteArray) (p : Bool) (w : World) (h0 : (s.toList == [121]) = false) (h1 : (s.toList == [89]) = false) (h2 : (s.toList == [121, 101, 115]) = false) (h3 : (s.toList == [89, 101, 115]) = false) (h4 : (s.toList == [89, 69, 83]) = false) (h5 : (s.toList == [111, 110]) = false) (h6 : (s.toList == [79, 110]) = false) (h7 : (s.toList == [79, 78]) = true) :
    Calls Try.prog 21 #[.string s, .bool p] w fun e w' => e = .returned (.tuple #[.bool true, .bool true]) ∧ w' = w := by
  go_enter Try.func21, Try.ntmps21
  go_wp2
  go_ret2
  exact ⟨rfl, rfl⟩
theorem b8 (s : ByteArray) (p : Bool) (w : World) (h0 : (s.toList == [121]) = false) (h1 : (s.toList == [89]) = false) (h2 : (s.toList == [121, 101, 115]) = false) (h3 : (s.toList == [89, 101, 115]) = false) (h4 : (s.toList == [89, 69, 83]) = false) (h5 : (s.toList == [111, 110]) = false) (h6 : (s.toList == [79, 110]) = false) (h7 : (s.toList == [79, 78]) = false) (h8 : (s.toList == [110]) = true) :
    Calls Try.prog 21 #[.string s, .bool p] w fun e w' => e = .returned (.tuple #[.bool false, .bool true]) ∧ w' = w := by
  go_enter Try.func21, Try.ntmps21
  go_wp2
  go_ret2
  exact ⟨rfl, rfl⟩
theorem b9 (s : ByteArray) (p : Bool) (w : World) (h0 : (s.toList == [121]) = false) (h1 : (s.toList == [89]) = false) (h2 : (s.toList == [121, 101, 115]) = false) (h3 : (s.toList == [89, 101, 115]) = false) (h4 : (s.toList == [89, 69, 83]) = false) (h5 : (s.toList == [111, 110]) = false) (h6 : (s.toList == [79, 110]) = false) (h7 : (s.toList == [79, 78]) = false) (h8 : (s.toList == [110]) = false) (h9 : (s.toList == [78]) = true) :
    Calls Try.prog 21 #[.string s, .bool p] w fun e w' => e = .returned (.tuple #[.bool false, .bool true]) ∧ w' = w := by
  go_enter Try.func21, Try.ntmps21
  go_wp2
  go_ret2
  exact ⟨rfl, rfl⟩
theorem b10 (s : ByteArray) (p : Bool) (w : World) (h0 : (s.toList == [121]) = false) (h1 : (s.toList == [89]) = false) (h2 : (s.toList == [121, 101, 115]) = false) (h3 : (s.toList == [89, 101, 115]) = false) (h4 : (s.toList == [89, 69, 83]) = false) (h5 : (s.toList == [111, 110]) = false) (h6 : (s.toList == [79, 110]) = false) (h7 : (s.toList == [79, 78]) = false) (h8 : (s.toList == [110]) = false) (h9 : (s.toList == [78]) = false) (h10 : (s.toList == [110, 111]) = true) :
    Calls Try.prog 21 #[.string s, .bool p] w fun e w' => e = .returned (.tuple #[.bool false, .bool true]) ∧ w' = w := by
  go_enter Try.func21, Try.ntmps21
  go_wp2
  go_ret2
  exact ⟨rfl, rfl⟩
theorem b11 (s : ByteArray) (p : Bool) (w : World) (h0 : (s.toList == [121]) = false) (h1 : (s.toList == [89]) = false) (h2 : (s.toList == [121, 101, 115]) = false) (h3 : (s.toList == [89, 101, 115]) = false) (h4 : (s.toList == [89, 69, 83]) = false) (h5 : (s.toList == [111, 110]) = false) (h6 : (s.toList == [79, 110]) = false) (h7 : (s.toList == [79, 78]) = false) (h8 : (s.toList == [110]) = false) (h9 : (s.toList == [78]) = false) (h10 : (s.toList == [110, 111]) = false) (h11 : (s.toList == [78, 111]) = true) :
    Calls Try.prog 21 #[.string s, .bool p] w fun e w' => e = .returned (.tuple #[.bool false, .bool true]) ∧ w' = w := by
  go_enter Try.func21, Try.ntmps21
  go_wp2
  go_ret2
  exact ⟨rfl, rfl⟩
theorem b12 (s : ByteArray) (p : Bool) (w : World) (h0 : (s.toList == [121]) = false) (h1 : (s.toList == [89]) = false) (h2 : (s.toList == [121, 101, 115]) = false) (h3 : (s.toList == [89, 101, 115]) = false) (h4 : (s.toList == [89, 69, 83]) = false) (h5 : (s.toList == [111, 110]) = false) (h6 : (s.toList == [79, 110]) = false) (h7 : (s.toList == [79, 78]) = false) (h8 : (s.toList == [110]) = false) (h9 : (s.toList == [78]) = false) (h10 : (s.toList == [110, 111]) = false) (h11 : (s.toList == [78, 111]) = false) (h12 : (s.toList == [78, 79]) = true) :
    Calls Try.prog 21 #[.string s, .bool p] w fun e w' => e = .returned (.tuple #[.bool false, .bool true]) ∧ w' = w := by
  go_enter Try.func21, Try.ntmps21
  go_wp2
  go_ret2
  exact ⟨rfl, rfl⟩
theorem b13 (s : ByteArray) (p : Bool) (w : World) (h0 : (s.toList == [121]) = false) (h1 : (s.toList == [89]) = false) (h2 : (s.toList == [121, 101, 115]) = false) (h3 : (s.toList == [89, 101, 115]) = false) (h4 : (s.toList == [89, 69, 83]) = false) (h5 : (s.toList == [111, 110]) = false) (h6 : (s.toList == [79, 110]) = false) (h7 : (s.toList == [79, 78]) = false) (h8 : (s.toList == [110]) = false) (h9 : (s.toList == [78]) = false) (h10 : (s.toList == [110, 111]) = false) (h11 : (s.toList == [78, 111]) = false) (h12 : (s.toList == [78, 79]) = false) (h13 : (s.toList == [111, 102, 102]) = true) :
    Calls Try.prog 21 #[.string s, .bool p] w fun e w' => e = .returned (.tuple #[.bool false, .bool true]) ∧ w' = w := by
  go_enter Try.func21, Try.ntmps21
  go_wp2
  go_ret2
  exact ⟨rfl, rfl⟩
theorem b14 (s : ByteArray) (p : Bool) (w : World) (h0 : (s.toList == [121]) = false) (h1 : (s.toList == [89]) = false) (h2 : (s.toList == [121, 101, 115]) = false) (h3 : (s.toList == [89, 101, 115]) = false) (h4 : (s.toList == [89, 69, 83]) = false) (h5 : (s.toList == [111, 110]) = false) (h6 : (s.toList == [79, 110]) = false) (h7 : (s.toList == [79, 78]) = false) (h8 : (s.toList == [110]) = false) (h9 : (s.toList == [78]) = false) (h10 : (s.toList == [110, 111]) = false) (h11 : (s.toList == [78, 111]) = false) (h12 : (s.toList == [78, 79]) = false) (h13 : (s.toList == [111, 102, 102]) = false) (h14 : (s.toList == [79, 102, 102]) = true) :
    Calls Try.prog 21 #[.string s, .bool p] w fun e w' => e = .returned (.tuple #[.bool false, .bool true]) ∧ w' = w := by
  go_enter Try.func21, Try.ntmps21
  go_wp2
  go_ret2
  exact ⟨rfl, rfl⟩
theorem b15 (s : ByteArray) (p : Bool) (w : World) (h0 : (s.toList == [121]) = false) (h1 : (s.toList == [89]) = false) (h2 : (s.toList == [121, 101, 115]) = false) (h3 : (s.toList == [89, 101, 115]) = false) (h4 : (s.toList == [89, 69, 83]) = false) (h5 : (s.toList == [111, 110]) = false) (h6 : (s.toList == [79, 110]) = false) (h7 : (s.toList == [79, 78]) = false) (h8 : (s.toList == [110]) = false) (h9 : (s.toList == [78]) = false) (h10 : (s.toList == [110, 111]) = false) (h11 : (s.toList == [78, 111]) = false) (h12 : (s.toList == [78, 79]) = false) (h13 : (s.toList == [111, 102, 102]) = false) (h14 : (s.toList == [79, 102, 102]) = false) (h15 : (s.toList == [79, 70, 70]) = true) :
    Calls Try.prog 21 #[.string s, .bool p] w fun e w' => e = .returned (.tuple #[.bool false, .bool true]) ∧ w' = w := by
  go_enter Try.func21, Try.ntmps21
  go_wp2
  go_ret2
  exact ⟨rfl, rfl⟩
theorem b16 (s : ByteArray) (p : Bool) (w : World) (h0 : (s.toList == [121]) = false) (h1 : (s.toList == [89]) = false) (h2 : (s.toList == [121, 101, 115]) = false) (h3 : (s.toList == [89, 101, 115]) = false) (h4 : (s.toList == [89, 69, 83]) = false) (h5 : (s.toList == [111, 110]) = false) (h6 : (s.toList == [79, 110]) = false) (h7 : (s.toList == [79, 78]) = false) (h8 : (s.toList == [110]) = false) (h9 : (s.toList == [78]) = false) (h10 : (s.toList == [110, 111]) = false) (h11 : (s.toList == [78, 111]) = false) (h12 : (s.toList == [78, 79]) = false) (h13 : (s.toList == [111, 102, 102]) = false) (h14 : (s.toList == [79, 102, 102]) = false) (h15 : (s.toList == [79, 70, 70]) = false) (h16 : (s.toList == [116, 114, 117, 101]) = true) :
    Calls Try.prog 21 #[.string s, .bool p] w fun e w' => e = .returned (.tuple #[.bool true, .bool p]) ∧ w' = w := by
  go_enter Try.func21, Try.ntmps21
  go_wp2
  go_ret2
  exact ⟨rfl, rfl⟩
theorem b17 (s : ByteArray) (p : Bool) (w : World) (h0 : (s.toList == [121]) = false) (h1 : (s.toList == [89]) = false) (h2 : (s.toList == [121, 101, 115]) = false) (h3 : (s.toList == [89, 101, 115]) = false) (h4 : (s.toList == [89, 69, 83]) = false) (h5 : (s.toList == [111, 110]) = false) (h6 : (s.toList == [79, 110]) = false) (h7 : (s.toList == [79, 78]) = false) (h8 : (s.toList == [110]) = false) (h9 : (s.toList == [78]) = false) (h10 : (s.toList == [110, 111]) = false) (h11 : (s.toList == [78, 111]) = false) (h12 : (s.toList == [78, 79]) = false) (h13 : (s.toList == [111, 102, 102]) = false) (h14 : (s.toList == [79, 102, 102]) = false) (h15 : (s.toList == [79, 70, 70]) = false) (h16 : (s.toList == [116, 114, 117, 101]) = false) (h17 : (s.toList == [84, 114, 117, 101]) = true) :
    Calls Try.prog 21 #[.string s, .bool p] w fun e w' => e = .returned (.tuple #[.bool true, .bool p]) ∧ w' = w := by
  go_enter Try.func21, Try.ntmps21
  go_wp2
  go_ret2
  exact ⟨rfl, rfl⟩
theorem b18 (s : ByteArray) (p : Bool) (w : World) (h0 : (s.toList == [121]) = false) (h1 : (s.toList == [89]) = false) (h2 : (s.toList == [121, 101, 115]) = false) (h3 : (s.toList == [89, 101, 115]) = false) (h4 : (s.toList == [89, 69, 83]) = false) (h5 : (s.toList == [111, 110]) = false) (h6 : (s.toList == [79, 110]) = false) (h7 : (s.toList == [79, 78]) = false) (h8 : (s.toList == [110]) = false) (h9 : (s.toList == [78]) = false) (h10 : (s.toList == [110, 111]) = false) (h11 : (s.toList == [78, 111]) = false) (h12 : (s.toList == [78, 79]) = false) (h13 : (s.toList == [111, 102, 102]) = false) (h14 : (s.toList == [79, 102, 102]) = false) (h15 : (s.toList == [79, 70, 70]) = false) (h16 : (s.toList == [116, 114, 117, 101]) = false) (h17 : (s.toList == [84, 114, 117, 101]) = false) (h18 : (s.toList == [84, 82, 85, 69]) = true) :
    Calls Try.prog 21 #[.string s, .bool p] w fun e w' => e = .returned (.tuple #[.bool true, .bool p]) ∧ w' = w := by
  go_enter Try.func21, Try.ntmps21
  go_wp2
  go_ret2
  exact ⟨rfl, rfl⟩
theorem b19 (s : ByteArray) (p : Bool) (w : World) (h0 : (s.toList == [121]) = false) (h1 : (s.toList == [89]) = false) (h2 : (s.toList == [121, 101, 115]) = false) (h3 : (s.toList == [89, 101, 115]) = false) (h4 : (s.toList == [89, 69, 83]) = false) (h5 : (s.toList == [111, 110]) = false) (h6 : (s.toList == [79, 110]) = false) (h7 : (s.toList == [79, 78]) = false) (h8 : (s.toList == [110]) = false) (h9 : (s.toList == [78]) = false) (h10 : (s.toList == [110, 111]) = false) (h11 : (s.toList == [78, 111]) = false) (h12 : (s.toList == [78, 79]) = false) (h13 : (s.toList == [111, 102, 102]) = false) (h14 : (s.toList == [79, 102, 102]) = false) (h15 : (s.toList == [79, 70, 70]) = false) (h16 : (s.toList == [116, 114, 117, 101]) = false) (h17 : (s.toList == [84, 114, 117, 101]) = false) (h18 : (s.toList == [84, 82, 85, 69]) = false) (h19 : (s.toList == [102, 97, 108, 115, 101]) = true) :
    Calls Try.prog 21 #[.string s, .bool p] w fun e w' => e = .returned (.tuple #[.bool false, .bool p]) ∧ w' = w := by
  go_enter Try.func21, Try.ntmps21
  go_wp2
  go_ret2
  exact ⟨rfl, rfl⟩
theorem b20 (s : ByteArray) (p : Bool) (w : World) (h0 : (s.toList == [121]) = false) (h1 : (s.toList == [89]) = false) (h2 : (s.toList == [121, 101, 115]) = false) (h3 : (s.toList == [89, 101, 115]) = false) (h4 : (s.toList == [89, 69, 83]) = false) (h5 : (s.toList == [111, 110]) = false) (h6 : (s.toList == [79, 110]) = false) (h7 : (s.toList == [79, 78]) = false) (h8 : (s.toList == [110]) = false) (h9 : (s.toList == [78]) = false) (h10 : (s.toList == [110, 111]) = false) (h11 : (s.toList == [78, 111]) = false) (h12 : (s.toList == [78, 79]) = false) (h13 : (s.toList == [111, 102, 102]) = false) (h14 : (s.toList == [79, 102, 102]) = false) (h15 : (s.toList == [79, 70, 70]) = false) (h16 : (s.toList == [116, 114, 117, 101]) = false) (h17 : (s.toList == [84, 114, 117, 101]) = false) (h18 : (s.toList == [84, 82, 85, 69]) = false) (h19 : (s.toList == [102, 97, 108, 115, 101]) = false) (h20 : (s.toList == [70, 97, 108, 115, 101]) = true) :
    Calls Try.prog 21 #[.string s, .bool p] w fun e w' => e = .returned (.tuple #[.bool false, .bool p]) ∧ w' = w := by
  go_enter Try.func21, Try.ntmps21
  go_wp2
  go_ret2
  exact ⟨rfl, rfl⟩
theorem b21 (s : ByteArray) (p : Bool) (w : World) (h0 : (s.toList == [121]) = false) (h1 : (s.toList == [89]) = false) (h2 : (s.toList == [121, 101, 115]) = false) (h3 : (s.toList == [89, 101, 115]) = false) (h4 : (s.toList == [89, 69, 83]) = false) (h5 : (s.toList == [111, 110]) = false) (h6 : (s.toList == [79, 110]) = false) (h7 : (s.toList == [79, 78]) = false) (h8 : (s.toList == [110]) = false) (h9 : (s.toList == [78]) = false) (h10 : (s.toList == [110, 111]) = false) (h11 : (s.toList == [78, 111]) = false) (h12 : (s.toList == [78, 79]) = false) (h13 : (s.toList == [111, 102, 102]) = false) (h14 : (s.toList == [79, 102, 102]) = false) (h15 : (s.toList == [79, 70, 70]) = false) (h16 : (s.toList == [116, 114, 117, 101]) = false) (h17 : (s.toList == [84, 114, 117, 101]) = false) (h18 : (s.toList == [84, 82, 85, 69]) = false) (h19 : (s.toList == [102, 97, 108, 115, 101]) = false) (h20 : (s.toList == [70, 97, 108, 115, 101]) = false) (h21 : (s.toList == [70, 65, 76, 83, 69]) = true) :
    Calls Try.prog 21 #[.string s, .bool p] w fun e w' => e = .returned (.tuple #[.bool false, .bool p]) ∧ w' = w := by
  go_enter Try.func21, Try.ntmps21
  go_wp2
  go_ret2
  exact ⟨rfl, rfl⟩
theorem b22 (s : ByteArray) (p : Bool) (w : World) (h0 : (s.toList == [121]) = false) (h1 : (s.toList == [89]) = false) (h2 : (s.toList == [121, 101, 115]) = false) (h3 : (s.toList == [89, 101, 115]) = false) (h4 : (s.toList == [89, 69, 83]) = false) (h5 : (s.toList == [111, 110]) = false) (h6 : (s.toList == [79, 110]) = false) (h7 : (s.toList == [79, 78]) = false) (h8 : (s.toList == [110]) = false) (h9 : (s.toList == [78]) = false) (h10 : (s.toList == [110, 111]) = false) (h11 : (s.toList == [78, 111]) = false) (h12 : (s.toList == [78, 79]) = false) (h13 : (s.toList == [111, 102, 102]) = false) (h14 : (s.toList == [79, 102, 102]) = false) (h15 : (s.toList == [79, 70, 70]) = false) (h16 : (s.toList == [116, 114, 117, 101]) = false) (h17 : (s.toList == [84, 114, 117, 101]) = false) (h18 : (s.toList == [84, 82, 85, 69]) = false) (h19 : (s.toList == [102, 97, 108, 115, 101]) = false) (h20 : (s.toList == [70, 97, 108, 115, 101]) = false) (h21 : (s.toList == [70, 65, 76, 83, 69]) = false) :
    Calls Try.prog 21 #[.string s, .bool p] w fun e w' => e = .returned (.tuple #[.bool false, .bool false]) ∧ w' = w := by
  go_enter Try.func21, Try.ntmps21
  go_wp2
  go_ret2
  exact ⟨rfl, rfl⟩

theorem endsB {s : ByteArray} {p x y : Bool} {w : World} (h : Calls Try.prog 21 #[.string s, .bool p] w fun e w' => e = .returned (.tuple #[.bool x, .bool y]) ∧ w' = w) (hb : (x, y) = bo s.toList p) :
    Calls Try.prog 21 #[.string s, .bool p] w fun e w' => EndsB s p w e w' :=
  h.mono (by rintro e w' ⟨rfl, rfl⟩; exact ⟨x, y, rfl, hb, rfl⟩)

theorem boolOf_any (s : ByteArray) (p : Bool) (w : World) :
    Calls Try.prog 21 #[.string s, .bool p] w fun e w' => EndsB s p w e w' := by
  cases h0 : (s.toList == [121])
  case true => exact endsB (b0 s p w h0) (by unfold bo; simp only [h0]; rfl)
  cases h1 : (s.toList == [89])
  case true => exact endsB (b1 s p w h0 h1) (by unfold bo; simp only [h0, h1]; rfl)
  cases h2 : (s.toList == [121, 101, 115])
  case true => exact endsB (b2 s p w h0 h1 h2) (by unfold bo; simp only [h0, h1, h2]; rfl)
  cases h3 : (s.toList == [89, 101, 115])
  case true => exact endsB (b3 s p w h0 h1 h2 h3) (by unfold bo; simp only [h0, h1, h2, h3]; rfl)
  cases h4 : (s.toList == [89, 69, 83])
  case true => exact endsB (b4 s p w h0 h1 h2 h3 h4) (by unfold bo; simp only [h0, h1, h2, h3, h4]; rfl)
  cases h5 : (s.toList == [111, 110])
  case true => exact endsB (b5 s p w h0 h1 h2 h3 h4 h5) (by unfold bo; simp only [h0, h1, h2, h3, h4, h5]; rfl)
  cases h6 : (s.toList == [79, 110])
  case true => exact endsB (b6 s p w h0 h1 h2 h3 h4 h5 h6) (by unfold bo; simp only [h0, h1, h2, h3, h4, h5, h6]; rfl)
  cases h7 : (s.toList == [79, 78])
  case true => exact endsB (b7 s p w h0 h1 h2 h3 h4 h5 h6 h7) (by unfold bo; simp only [h0, h1, h2, h3, h4, h5, h6, h7]; rfl)
  cases h8 : (s.toList == [110])
  case true => exact endsB (b8 s p w h0 h1 h2 h3 h4 h5 h6 h7 h8) (by unfold bo; simp only [h0, h1, h2, h3, h4, h5, h6, h7, h8]; rfl)
  cases h9 : (s.toList == [78])
  case true => exact endsB (b9 s p w h0 h1 h2 h3 h4 h5 h6 h7 h8 h9) (by unfold bo; simp only [h0, h1, h2, h3, h4, h5, h6, h7, h8, h9]; rfl)
  cases h10 : (s.toList == [110, 111])
  case true => exact endsB (b10 s p w h0 h1 h2 h3 h4 h5 h6 h7 h8 h9 h10) (by unfold bo; simp only [h0, h1, h2, h3, h4, h5, h6, h7, h8, h9, h10]; rfl)
  cases h11 : (s.toList == [78, 111])
  case true => exact endsB (b11 s p w h0 h1 h2 h3 h4 h5 h6 h7 h8 h9 h10 h11) (by unfold bo; simp only [h0, h1, h2, h3, h4, h5, h6, h7, h8, h9, h10, h11]; rfl)
  cases h12 : (s.toList == [78, 79])
  case true => exact endsB (b12 s p w h0 h1 h2 h3 h4 h5 h6 h7 h8 h9 h10 h11 h12) (by unfold bo; simp only [h0, h1, h2, h3, h4, h5, h6, h7, h8, h9, h10, h11, h12]; rfl)
  cases h13 : (s.toList == [111, 102, 102])
  case true => exact endsB (b13 s p w h0 h1 h2 h3 h4 h5 h6 h7 h8 h9 h10 h11 h12 h13) (by unfold bo; simp only [h0, h1, h2, h3, h4, h5, h6, h7, h8, h9, h10, h11, h12, h13]; rfl)
  cases h14 : (s.toList == [79, 102, 102])
  case true => exact endsB (b14 s p w h0 h1 h2 h3 h4 h5 h6 h7 h8 h9 h10 h11 h12 h13 h14) (by unfold bo; simp only [h0, h1, h2, h3, h4, h5, h6, h7, h8, h9, h10, h11, h12, h13, h14]; rfl)
  cases h15 : (s.toList == [79, 70, 70])
  case true => exact endsB (b15 s p w h0 h1 h2 h3 h4 h5 h6 h7 h8 h9 h10 h11 h12 h13 h14 h15) (by unfold bo; simp only [h0, h1, h2, h3, h4, h5, h6, h7, h8, h9, h10, h11, h12, h13, h14, h15]; rfl)
  cases h16 : (s.toList == [116, 114, 117, 101])
  case true => exact endsB (b16 s p w h0 h1 h2 h3 h4 h5 h6 h7 h8 h9 h10 h11 h12 h13 h14 h15 h16) (by unfold bo; simp only [h0, h1, h2, h3, h4, h5, h6, h7, h8, h9, h10, h11, h12, h13, h14, h15, h16]; rfl)
  cases h17 : (s.toList == [84, 114, 117, 101])
  case true => exact endsB (b17 s p w h0 h1 h2 h3 h4 h5 h6 h7 h8 h9 h10 h11 h12 h13 h14 h15 h16 h17) (by unfold bo; simp only [h0, h1, h2, h3, h4, h5, h6, h7, h8, h9, h10, h11, h12, h13, h14, h15, h16, h17]; rfl)
  cases h18 : (s.toList == [84, 82, 85, 69])
  case true => exact endsB (b18 s p w h0 h1 h2 h3 h4 h5 h6 h7 h8 h9 h10 h11 h12 h13 h14 h15 h16 h17 h18) (by unfold bo; simp only [h0, h1, h2, h3, h4, h5, h6, h7, h8, h9, h10, h11, h12, h13, h14, h15, h16, h17, h18]; rfl)
  cases h19 : (s.toList == [102, 97, 108, 115, 101])
  case true => exact endsB (b19 s p w h0 h1 h2 h3 h4 h5 h6 h7 h8 h9 h10 h11 h12 h13 h14 h15 h16 h17 h18 h19) (by unfold bo; simp only [h0, h1, h2, h3, h4, h5, h6, h7, h8, h9, h10, h11, h12, h13, h14, h15, h16, h17, h18, h19]; rfl)
  cases h20 : (s.toList == [70, 97, 108, 115, 101])
  case true => exact endsB (b20 s p w h0 h1 h2 h3 h4 h5 h6 h7 h8 h9 h10 h11 h12 h13 h14 h15 h16 h17 h18 h19 h20) (by unfold bo; simp only [h0, h1, h2, h3, h4, h5, h6, h7, h8, h9, h10, h11, h12, h13, h14, h15, h16, h17, h18, h19, h20]; rfl)
  cases h21 : (s.toList == [70, 65, 76, 83, 69])
  case true => exact endsB (b21 s p w h0 h1 h2 h3 h4 h5 h6 h7 h8 h9 h10 h11 h12 h13 h14 h15 h16 h17 h18 h19 h20 h21) (by unfold bo; simp only [h0, h1, h2, h3, h4, h5, h6, h7, h8, h9, h10, h11, h12, h13, h14, h15, h16, h17, h18, h19, h20, h21]; rfl)
  exact endsB (b22 s p w h0 h1 h2 h3 h4 h5 h6 h7 h8 h9 h10 h11 h12 h13 h14 h15 h16 h17 h18 h19 h20 h21) (by unfold bo; simp only [h0, h1, h2, h3, h4, h5, h6, h7, h8, h9, h10, h11, h12, h13, h14, h15, h16, h17, h18, h19, h20, h21]; rfl)

theorem zz_any (s : ByteArray) (p : Bool) (w : World) :
    Calls Try.prog 10 #[.string s, .bool p] w fun e w' => EndsB s p w e w' := by
  go_enter Try.func10, Try.ntmps10
  go_wp2_with fail
  refine (boolOf_any s p _).mono ?_
  rintro e w ⟨x, y, rfl, h, rfl⟩
  have H : Hid ((x, y) = bo s.toList p) := h
  clear h
  go_wp2
  go_ret2
  exact ⟨x, y, rfl, H.out, rfl⟩
end Go.Proofs.Qxb6601223a.Spell
