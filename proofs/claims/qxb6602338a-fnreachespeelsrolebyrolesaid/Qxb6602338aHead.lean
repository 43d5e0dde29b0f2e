/-
  THE DUMP's HEAD, as a list of signs: so that the two closed facts that read its words are cheap to check (asked of the string itself, each takes some nine gigabytes in the kernel).
-/
import Derived.Test.Qxb6602338aRows
namespace Go.Proofs.Qxb6602338a

def headSigns : List Char := ['h', 'a', 'r', 'n', 'e', 's', 's', ' ', '5', 'e', 'b', '1', 'e', '8', '7', 'c', '1', 'c', '9', '1', '9', '3', 'a', '2', 'e', '9', '5', 'b', '6', '3', 'd', '3', '5', '8', '2', '5', '6', 'e', '2', '9', 'b', '6', '0', '0', '1', 'b', 'e', '3', '2', '4', 'f', '6', '1', '3', '6', 'f', '9', '5', '3', '7', '0', '0', '0', '9', 'c', '4', 'a', '7', '0', '0', '0', '0', ' ', 'c', 'u', 't', ' ', 'a', 't', ' ', 'e', 'x', 'a', 'm', 'p', 'l', 'e', '.', 'c', 'o', 'm', '/', 'l', 'e', 'a', 'f', 'c', 'u', 't', 't', 'e', 'r', '/', 'l', 'e', 'a', 'f', 'c', 'u', 't', 't', 'e', 'r', '/', 'z', 'z', 'l', 'a', 'w', 's', '_', 'p', 'k', 'g', '_', 'r', 'b', 'a', 'c', '_', 'b', '1', '.', 'F', 'n', 'R', 'e', 'a', 'c', 'h', 'e', 's', 'P', 'e', 'e', 'l', 's', 'R', 'o', 'l', 'e', 'B', 'y', 'R', 'o', 'l', 'e', ' ', 'e', 'x', 'a', 'm', 'p', 'l', 'e', '.', 'c', 'o', 'm', '/', 'l', 'e', 'a', 'f', 'c', 'u', 't', 't', 'e', 'r', '/', 'l', 'e', 'a', 'f', 'c', 'u', 't', 't', 'e', 'r', '/', 'z', 'z', 'l', 'a', 'w', 's', '_', 'p', 'k', 'g', '_', 'r', 'b', 'a', 'c', '_', 'b', '1', '.', 'F', 'n', 'R', 'e', 'a', 'c', 'h', 'e', 's', 'G', 'r', 'o', 'w', 's', 'W', 'i', 't', 'h', 'S', 'c', 'o', 'p', 'e', 's', ' ', 'e', 'x', 'a', 'm', 'p', 'l', 'e', '.', 'c', 'o', 'm', '/', 'l', 'e', 'a', 'f', 'c', 'u', 't', 't', 'e', 'r', '/', 'l', 'e', 'a', 'f', 'c', 'u', 't', 't', 'e', 'r', '/', 'z', 'z', 'l', 'a', 'w', 's', '_', 'p', 'k', 'g', '_', 'r', 'b', 'a', 'c', '_', 'b', '1', '.', 'F', 'n', 'R', 'e', 'a', 'c', 'h', 'e', 's', 'N', 'o', 't', 'h', 'i', 'n', 'g', 'O', 'f', 'A', 'n', 'E', 'm', 'p', 't', 'y', 'S', 'c', 'o', 'p', 'e', ' ', 'e', 'x', 'a', 'm', 'p', 'l', 'e', '.', 'c', 'o', 'm', '/', 'l', 'e', 'a', 'f', 'c', 'u', 't', 't', 'e', 'r', '/', 'l', 'e', 'a', 'f', 'c', 'u', 't', 't', 'e', 'r', '/', 'z', 'z', 'l', 'a', 'w', 's', '_', 'p', 'k', 'g', '_', 'r', 'b', 'a', 'c', '_', 'b', '1', '.', 'F', 'n', 'U', 'n', 'i', 'o', 'n', 'P', 'o', 'i', 'n', 't', 'w', 'i', 's', 'e', ' ', 'e', 'x', 'a', 'm', 'p', 'l', 'e', '.', 'c', 'o', 'm', '/', 'l', 'e', 'a', 'f', 'c', 'u', 't', 't', 'e', 'r', '/', 'l', 'e', 'a', 'f', 'c', 'u', 't', 't', 'e', 'r', '/', 'z', 'z', 'l', 'a', 'w', 's', '_', 'p', 'k', 'g', '_', 'r', 'b', 'a', 'c', '_', 'b', '1', '.', 'F', 'n', 'U', 'n', 'i', 'o', 'n', 'L', 'e', 'a', 's', 't', 'U', 'p', 'p', 'e', 'r', 'B', 'o', 'u', 'n', 'd', ' ', 'e', 'x', 'a', 'm', 'p', 'l', 'e', '.', 'c', 'o', 'm', '/', 'l', 'e', 'a', 'f', 'c', 'u', 't', 't', 'e', 'r', '/', 'l', 'e', 'a', 'f', 'c', 'u', 't', 't', 'e', 'r', '/', 'z', 'z', 'l', 'a', 'w', 's', '_', 'p', 'k', 'g', '_', 'r', 'b', 'a', 'c', '_', 'b', '1', '.', 'F', 'n', 'U', 'n', 'i', 'o', 'n', 'S', 'i', 'z', 'e', 'B', 'o', 'u', 'n', 'd', 's', ' ', 'e', 'x', 'a', 'm', 'p', 'l', 'e', '.', 'c', 'o', 'm', '/', 'l', 'e', 'a', 'f', 'c', 'u', 't', 't', 'e', 'r', '/', 'l', 'e', 'a', 'f', 'c', 'u', 't', 't', 'e', 'r', '/', 'z', 'z', 'l', 'a', 'w', 's', '_', 'p', 'k', 'g', '_', 'r', 'b', 'a', 'c', '_', 'b', '1', '.', 'F', 'n', 'W', 'i', 't', 'h', 'i', 'n', 'P', 'e', 'e', 'l', 's', 'K', 'e', 'y', 'B', 'y', 'K', 'e', 'y', ' ', 'e', 'x', 'a', 'm', 'p', 'l', 'e', '.', 'c', 'o', 'm', '/', 'l', 'e', 'a', 'f', 'c', 'u', 't', 't', 'e', 'r', '/', 'l', 'e', 'a', 'f', 'c', 'u', 't', 't', 'e', 'r', '/', 'z', 'z', 'l', 'a', 'w', 's', '_', 'p', 'k', 'g', '_', 'r', 'b', 'a', 'c', '_', 'b', '1', '.', 'F', 'n', 'W', 'i', 't', 'h', 'i', 'n', 'E', 'm', 'p', 't', 'y', 'A', 'n', 'd', 'S', 'i', 'z', 'e', ' ', 'e', 'x', 'a', 'm', 'p', 'l', 'e', '.', 'c', 'o', 'm', '/', 'l', 'e', 'a', 'f', 'c', 'u', 't', 't', 'e', 'r', '/', 'l', 'e', 'a', 'f', 'c', 'u', 't', 't', 'e', 'r', '/', 'z', 'z', 'l', 'a', 'w', 's', '_', 'p', 'k', 'g', '_', 'r', 'b', 'a', 'c', '_', 'b', '1', '.', 'F', 'n', 'W', 'i', 't', 'h', 'i', 'n', 'T', 'r', 'a', 'n', 's', 'i', 't', 'i', 'v', 'e']

theorem head_text : Try.prog.initOrder = String.ofList headSigns := by
  conv => lhs; whnf
  kernel_rfl
theorem head_signs : Try.prog.initOrder.toList = headSigns := by rw [head_text, String.toList_ofList]

/-- asked of any program with that head: nothing of the loaded one is unfolded here -/
theorem mayEnter_of (P : Program) (h : P.initOrder.toList = headSigns) (h1 : P.laysLater = false) (h2 : P.bearsReflect = false) (h3 : P.doorFits [] = true) : P.mayEnter = true := by
  have e : behindMainWord (wordsSigns headSigns) = ['c', 'u', 't'] :: (behindMainWord (wordsSigns headSigns)).tail := by kernel_rfl
  have e2 : (stripLifts liftWords (['c', 'u', 't'] :: (behindMainWord (wordsSigns headSigns)).tail)).1 = [] := by kernel_rfl
  have e3 : ((stripLifts liftWords (['c', 'u', 't'] :: (behindMainWord (wordsSigns headSigns)).tail)).2.head? == some "cut".toList) = true := by kernel_rfl
  unfold Program.mayEnter
  rw [h, e]
  simp only [e2, e3, h1, h2, h3]
  decide
theorem liftsFinal_of (P : Program) (h : P.initOrder.toList = headSigns) : P.liftsFinal = false := by
  unfold Program.liftsFinal Program.headLifts
  rw [h]
  kernel_rfl

theorem make_of (P : Program) (h : P.initOrder.toList = headSigns) : P.make = some .cut := by
  have e : behindMainWord (wordsSigns headSigns) = ['c', 'u', 't'] :: (behindMainWord (wordsSigns headSigns)).tail := by kernel_rfl
  unfold Program.make
  rw [h, e]
  generalize (behindMainWord (wordsSigns headSigns)).tail = r
  simp

theorem lays : Try.prog.laysLater = false := by kernel_rfl
theorem reflects : Try.prog.bearsReflect = false := by kernel_rfl
theorem doors : Try.prog.doorFits [] = true := by kernel_rfl

theorem mayEnter : Try.prog.mayEnter = true := mayEnter_of _ head_signs lays reflects doors
theorem make_cut : Try.prog.make = some .cut := make_of _ head_signs
theorem liftsFinal : Try.prog.liftsFinal = false := liftsFinal_of _ head_signs

end Go.Proofs.Qxb6602338a
