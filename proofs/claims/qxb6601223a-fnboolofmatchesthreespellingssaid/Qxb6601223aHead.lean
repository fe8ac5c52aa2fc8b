/-
  THE THREE FACTS OF A ROW THAT READ THE DUMP's HEAD (make, liftsFinal, mayEnter), each without running 'String.toList' over the head in the kernel (that run wants 90 s and more than 10 GB at a head of a thousand signs).
  'head' is the list of the head's signs as numbers; the kernel holds it against the loaded program.
-/
import Derived.Test.Qxb6601223aRows
import Derived.JoinedOf
import Derived.KernelRfl
namespace Go.Proofs.Qxb6601223a.Head
set_option maxRecDepth 100000
theorem make_of (P : Program) (l : List Char) (tl : List (List Char)) (h : P.initOrder.toList = l) (h2 : behindMainWord (wordsSigns l) = "cut".toList :: tl) : P.make = some .cut := by
  unfold Program.make
  rw [h, h2]
  rfl
theorem final_of (P : Program) (l : List Char) (h : P.initOrder.toList = l) (h3 : ((behindMainWord (wordsSigns l)).head? == some "carried".toList) = false)
    (h4 : (stripLifts liftWords (behindMainWord (wordsSigns l))).1 = []) : P.liftsFinal = false := by
  unfold Program.liftsFinal Program.headLifts
  rw [h]
  simp only [h3, h4]
  split <;> rfl
theorem enter_of (P : Program) (l : List Char) (tl : List (List Char)) (h : P.initOrder.toList = l) (h2 : behindMainWord (wordsSigns l) = "cut".toList :: tl)
    (s1 : (stripLifts liftWords ("cut".toList :: tl)).1 = []) (s2 : ((stripLifts liftWords ("cut".toList :: tl)).2.head? == some "cut".toList) = true)
    (l1 : P.laysLater = false) (l2 : P.bearsReflect = false) (l3 : P.doorFits [] = true) : P.mayEnter = true := by
  unfold Program.mayEnter
  rw [h, h2]
  dsimp only
  rw [s1, s2, l1, l2, l3]
  simp
def head : List Char := [
  104, 97, 114, 110, 101, 115, 115, 32, 52, 54, 98, 98, 99, 52, 48, 97, 57, 57, 56, 57, 99, 49, 48, 102, 48, 99, 49, 101, 55, 101, 102, 51, 52, 97,
  101, 98, 51, 49, 48, 52, 54, 57, 98, 51, 98, 100, 56, 48, 51, 49, 55, 54, 48, 54, 97, 57, 100, 101, 98, 49, 102, 99, 51, 102, 97, 55, 99, 57, 101,
  98, 102, 56, 32, 99, 117, 116, 32, 97, 116, 32, 101, 120, 97, 109, 112, 108, 101, 46, 99, 111, 109, 47, 119, 105, 110, 100, 108, 97, 115, 115, 47,
  119, 105, 110, 100, 108, 97, 115, 115, 47, 122, 122, 108, 97, 119, 115, 95, 105, 110, 116, 101, 114, 110, 97, 108, 95, 114, 101, 112, 111, 95, 98,
  49, 46, 70, 110, 66, 111, 111, 108, 79, 102, 77, 97, 116, 99, 104, 101, 115, 84, 104, 114, 101, 101, 83, 112, 101, 108, 108, 105, 110, 103, 115,
  32, 101, 120, 97, 109, 112, 108, 101, 46, 99, 111, 109, 47, 119, 105, 110, 100, 108, 97, 115, 115, 47, 119, 105, 110, 100, 108, 97, 115, 115, 47,
  122, 122, 108, 97, 119, 115, 95, 105, 110, 116, 101, 114, 110, 97, 108, 95, 114, 101, 112, 111, 95, 98, 49, 46, 70, 110, 66, 111, 111, 108, 79,
  102, 80, 108, 97, 105, 110, 79, 110, 108, 121, 87, 105, 100, 101, 110, 115, 32, 101, 120, 97, 109, 112, 108, 101, 46, 99, 111, 109, 47, 119, 105,
  110, 100, 108, 97, 115, 115, 47, 119, 105, 110, 100, 108, 97, 115, 115, 47, 122, 122, 108, 97, 119, 115, 95, 105, 110, 116, 101, 114, 110, 97, 108,
  95, 114, 101, 112, 111, 95, 98, 49, 46, 70, 110, 66, 111, 111, 108, 79, 102, 67, 97, 115, 101, 70, 111, 108, 100, 115, 32, 101, 120, 97, 109, 112,
  108, 101, 46, 99, 111, 109, 47, 119, 105, 110, 100, 108, 97, 115, 115, 47, 119, 105, 110, 100, 108, 97, 115, 115, 47, 122, 122, 108, 97, 119, 115,
  95, 105, 110, 116, 101, 114, 110, 97, 108, 95, 114, 101, 112, 111, 95, 98, 49, 46, 70, 110, 80, 108, 97, 105, 110, 69, 110, 100, 77, 97, 116, 99,
  104, 101, 115, 77, 111, 100, 101, 108, 32, 101, 120, 97, 109, 112, 108, 101, 46, 99, 111, 109, 47, 119, 105, 110, 100, 108, 97, 115, 115, 47, 119,
  105, 110, 100, 108, 97, 115, 115, 47, 122, 122, 108, 97, 119, 115, 95, 105, 110, 116, 101, 114, 110, 97, 108, 95, 114, 101, 112, 111, 95, 98, 49,
  46, 70, 110, 80, 108, 97, 105, 110, 69, 110, 100, 82, 101, 97, 100, 115, 79, 110, 108, 121, 73, 116, 115, 87, 105, 110, 100, 111, 119, 32, 101,
  120, 97, 109, 112, 108, 101, 46, 99, 111, 109, 47, 119, 105, 110, 100, 108, 97, 115, 115, 47, 119, 105, 110, 100, 108, 97, 115, 115, 47, 122, 122,
  108, 97, 119, 115, 95, 105, 110, 116, 101, 114, 110, 97, 108, 95, 114, 101, 112, 111, 95, 98, 49, 46, 70, 110, 80, 108, 97, 105, 110, 69, 110, 100,
  84, 114, 105, 109, 109, 101, 100, 84, 101, 120, 116, 73, 115, 70, 105, 120, 101, 100].map Char.ofNat
def tl : List (List Char) := (behindMainWord (wordsSigns head)).tail
theorem h0 : Try.pinned.checked.prog.initOrder = String.ofList head := by kernel_rfl
theorem h1 : Try.pinned.checked.prog.initOrder.toList = head := by rw [h0, String.toList_ofList]
theorem h2 : behindMainWord (wordsSigns head) = "cut".toList :: tl := by kernel_rfl
theorem l1 : Try.pinned.checked.prog.laysLater = false := by kernel_rfl
theorem l2 : Try.pinned.checked.prog.bearsReflect = false := by kernel_rfl
theorem l3 : Try.pinned.checked.prog.doorFits [] = true := by kernel_rfl
theorem s0 : ((behindMainWord (wordsSigns head)).head? == some "carried".toList) = false := by kernel_rfl
theorem s1 : (stripLifts liftWords ("cut".toList :: tl)).1 = [] := by kernel_rfl
theorem s1' : (stripLifts liftWords (behindMainWord (wordsSigns head))).1 = [] := by kernel_rfl
theorem s2 : ((stripLifts liftWords ("cut".toList :: tl)).2.head? == some "cut".toList) = true := by kernel_rfl
theorem make_is : Try.pinned.checked.prog.make = some .cut := make_of _ _ _ h1 h2
theorem final_is : Try.pinned.checked.prog.liftsFinal = false := final_of _ _ h1 s0 s1'
theorem enter_is : Try.pinned.checked.prog.mayEnter = true := enter_of _ _ _ h1 h2 s1 s2 l1 l2 l3
end Go.Proofs.Qxb6601223a.Head
