/-
  THE THREE FACTS OF A ROW THAT READ THE DUMP's HEAD (make, liftsFinal, mayEnter), each without running 'String.toList' over the head in the kernel (that run wants 90 s and more than 10 GB at a head of a thousand signs).
  'head' is the list of the head's signs as numbers; the kernel holds it against the loaded program.
-/
import Derived.Test.Qxb6600291aRows
import Derived.JoinedOf
import Derived.KernelRfl
namespace Go.Proofs.Qxb6600291a.Head
set_option maxRecDepth 100000
theorem make_of (P : Program) (l : List Char) (tl : List (List Char)) (h : P.initOrder.toList = l) (h2 : behindMainWord (wordsSigns l) = "cut".toList :: tl) : P.make = some .cut := by
  unfold Program.make
  rw [h, h2]
  rfl
theorem final_of (P : Program) (l : List Char) (h : P.initOrder.toList = l) (h3 : ((behindMainWord (wordsSigns l)).head? == some "carried".toList) = false)
    (h4 : (stripLifts liftWords (behindMainWord (wordsSigns l))).1 = []) : P.liftsFinal = false := by
  unfold Program.liftsFinal Program.headLifts
  rw [h]
  simp only [h3, h4]
  split <;> rfl
theorem enter_of (P : Program) (l : List Char) (tl : List (List Char)) (h : P.initOrder.toList = l) (h2 : behindMainWord (wordsSigns l) = "cut".toList :: tl)
    (s1 : (stripLifts liftWords ("cut".toList :: tl)).1 = []) (s2 : ((stripLifts liftWords ("cut".toList :: tl)).2.head? == some "cut".toList) = true)
    (l1 : P.laysLater = false) (l2 : P.bearsReflect = false) (l3 : P.doorFits [] = true) : P.mayEnter = true := by
  unfold Program.mayEnter
  rw [h, h2]
  dsimp only
  rw [s1, s2, l1, l2, l3]
  simp
def head : List Char := [
  104, 97, 114, 110, 101, 115, 115, 32, 57, 102, 98, 51, 100, 49, 101, 97, 100, 98, 57, 99, 100, 56, 100, 99, 54, 55, 48, 57, 55, 53, 97, 56, 55,
  102, 100, 101, 56, 56, 101, 101, 50, 100, 50, 99, 54, 53, 56, 101, 52, 49, 56, 98, 99, 100, 102, 48, 52, 56, 102, 54, 53, 97, 54, 50, 55, 99, 97,
  54, 102, 55, 48, 48, 32, 99, 117, 116, 32, 97, 116, 32, 101, 120, 97, 109, 112, 108, 101, 46, 99, 111, 109, 47, 98, 101, 108, 108, 119, 101, 116,
  104, 101, 114, 47, 98, 101, 108, 108, 119, 101, 116, 104, 101, 114, 47, 122, 122, 108, 97, 119, 115, 95, 112, 107, 103, 95, 106, 115, 111, 110,
  105, 110, 95, 98, 49, 46, 70, 110, 83, 112, 97, 99, 101, 83, 112, 101, 99, 32, 101, 120, 97, 109, 112, 108, 101, 46, 99, 111, 109, 47, 98, 101,
  108, 108, 119, 101, 116, 104, 101, 114, 47, 98, 101, 108, 108, 119, 101, 116, 104, 101, 114, 47, 122, 122, 108, 97, 119, 115, 95, 112, 107, 103,
  95, 106, 115, 111, 110, 105, 110, 95, 98, 49, 46, 70, 110, 83, 112, 97, 99, 101, 73, 100, 101, 109, 112, 111, 116, 101, 110, 116, 32, 101, 120, 97,
  109, 112, 108, 101, 46, 99, 111, 109, 47, 98, 101, 108, 108, 119, 101, 116, 104, 101, 114, 47, 98, 101, 108, 108, 119, 101, 116, 104, 101, 114, 47,
  122, 122, 108, 97, 119, 115, 95, 112, 107, 103, 95, 106, 115, 111, 110, 105, 110, 95, 98, 49, 46, 70, 110, 83, 112, 97, 99, 101, 77, 111, 110, 111,
  116, 111, 110, 101, 32, 101, 120, 97, 109, 112, 108, 101, 46, 99, 111, 109, 47, 98, 101, 108, 108, 119, 101, 116, 104, 101, 114, 47, 98, 101, 108,
  108, 119, 101, 116, 104, 101, 114, 47, 122, 122, 108, 97, 119, 115, 95, 112, 107, 103, 95, 106, 115, 111, 110, 105, 110, 95, 98, 49, 46, 70, 110,
  87, 111, 114, 100, 65, 102, 116, 101, 114, 83, 112, 97, 99, 101, 82, 111, 117, 110, 100, 84, 114, 105, 112, 32, 101, 120, 97, 109, 112, 108, 101,
  46, 99, 111, 109, 47, 98, 101, 108, 108, 119, 101, 116, 104, 101, 114, 47, 98, 101, 108, 108, 119, 101, 116, 104, 101, 114, 47, 122, 122, 108, 97,
  119, 115, 95, 112, 107, 103, 95, 106, 115, 111, 110, 105, 110, 95, 98, 49, 46, 70, 110, 68, 105, 103, 105, 116, 115, 83, 112, 101, 99, 32, 101,
  120, 97, 109, 112, 108, 101, 46, 99, 111, 109, 47, 98, 101, 108, 108, 119, 101, 116, 104, 101, 114, 47, 98, 101, 108, 108, 119, 101, 116, 104, 101,
  114, 47, 122, 122, 108, 97, 119, 115, 95, 112, 107, 103, 95, 106, 115, 111, 110, 105, 110, 95, 98, 49, 46, 70, 110, 68, 105, 103, 105, 116, 115,
  83, 101, 99, 111, 110, 100, 67, 97, 108, 108, 82, 101, 97, 100, 115, 78, 111, 116, 104, 105, 110, 103].map Char.ofNat
def tl : List (List Char) := (behindMainWord (wordsSigns head)).tail
theorem h0 : Try.pinned.checked.prog.initOrder = String.ofList head := by kernel_rfl
theorem h1 : Try.pinned.checked.prog.initOrder.toList = head := by rw [h0, String.toList_ofList]
theorem h2 : behindMainWord (wordsSigns head) = "cut".toList :: tl := by kernel_rfl
theorem l1 : Try.pinned.checked.prog.laysLater = false := by kernel_rfl
theorem l2 : Try.pinned.checked.prog.bearsReflect = false := by kernel_rfl
theorem l3 : Try.pinned.checked.prog.doorFits [] = true := by kernel_rfl
theorem s0 : ((behindMainWord (wordsSigns head)).head? == some "carried".toList) = false := by kernel_rfl
theorem s1 : (stripLifts liftWords ("cut".toList :: tl)).1 = [] := by kernel_rfl
theorem s1' : (stripLifts liftWords (behindMainWord (wordsSigns head))).1 = [] := by kernel_rfl
theorem s2 : ((stripLifts liftWords ("cut".toList :: tl)).2.head? == some "cut".toList) = true := by kernel_rfl
theorem make_is : Try.pinned.checked.prog.make = some .cut := make_of _ _ _ h1 h2
theorem final_is : Try.pinned.checked.prog.liftsFinal = false := final_of _ _ h1 s0 s1'
theorem enter_is : Try.pinned.checked.prog.mayEnter = true := enter_of _ _ _ h1 h2 s1 s2 l1 l2 l3
end Go.Proofs.Qxb6600291a.Head
