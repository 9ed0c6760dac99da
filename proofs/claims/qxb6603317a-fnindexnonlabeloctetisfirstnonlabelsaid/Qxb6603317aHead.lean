/- What costs the kernel most among the rows' closed facts is reading the program's head out of a string: here it is read once, by 'String.toList_ofList'; each fact that reads it is then closed over the list. -/
import Derived.Test.Qxb6603317aRows
import Derived.ProofKit
namespace Go.Proofs.Qxb6603317a.Head
open Go.ChangeShapes Go.WideShapes Go.ChangeAt Go.RowKit
set_option maxRecDepth 100000
def signs : List Char := ['h', 'a', 'r', 'n', 'e', 's', 's', ' ', '0', 'e', 'f', '8', '8', '5', '1', '9', 'f', '9', 'b', 'f', '1', '0', '2', '8', '9', '8', 'a', 'c', '7', '2', '9', '7', '7', '4', 'b', '9', '9', 'f', 'b', 'f', '4', '4', 'a', 'd', 'b', '2', '2', '0', 'f', '8', 'a', 'a', '1', '5', 'e', 'e', 'a', '9', '1', '9', 'c', 'e', 'f', '6', '4', '8', 'c', '4', '5', 'c', 'b', '7', ' ', 'c', 'u', 't', ' ', 'a', 't', ' ', 'e', 'x', 'a', 'm', 'p', 'l', 'e', '.', 'c', 'o', 'm', '/', 'f', 'l', 'o', 'w', 'm', 'e', 'n', 'd', '/', 'f', 'l', 'o', 'w', 'm', 'e', 'n', 'd', '/', 'z', 'z', 'l', 'a', 'w', 's', '_', 'i', 'n', 't', 'e', 'r', 'n', 'a', 'l', '_', 'n', 'a', 's', '5', 'g', 's', 'm', '_', 'b', '1', '.', 'F', 'n', 'I', 'n', 'd', 'e', 'x', 'N', 'o', 'n', 'L', 'a', 'b', 'e', 'l', 'O', 'c', 't', 'e', 't', 'I', 's', 'F', 'i', 'r', 's', 't', 'N', 'o', 'n', 'L', 'a', 'b', 'e', 'l', ' ', 'e', 'x', 'a', 'm', 'p', 'l', 'e', '.', 'c', 'o', 'm', '/', 'f', 'l', 'o', 'w', 'm', 'e', 'n', 'd', '/', 'f', 'l', 'o', 'w', 'm', 'e', 'n', 'd', '/', 'z', 'z', 'l', 'a', 'w', 's', '_', 'i', 'n', 't', 'e', 'r', 'n', 'a', 'l', '_', 'n', 'a', 's', '5', 'g', 's', 'm', '_', 'b', '1', '.', 'F', 'n', 'I', 'n', 'd', 'e', 'x', 'N', 'o', 'n', 'L', 'a', 'b', 'e', 'l', 'O', 'c', 't', 'e', 't', 'O', 'f', 'C', 'o', 'n', 'c', 'a', 't', 'e', 'n', 'a', 't', 'i', 'o', 'n', ' ', 'e', 'x', 'a', 'm', 'p', 'l', 'e', '.', 'c', 'o', 'm', '/', 'f', 'l', 'o', 'w', 'm', 'e', 'n', 'd', '/', 'f', 'l', 'o', 'w', 'm', 'e', 'n', 'd', '/', 'z', 'z', 'l', 'a', 'w', 's', '_', 'i', 'n', 't', 'e', 'r', 'n', 'a', 'l', '_', 'n', 'a', 's', '5', 'g', 's', 'm', '_', 'b', '1', '.', 'F', 'n', 'I', 'n', 'd', 'e', 'x', 'N', 'o', 'n', 'L', 'a', 'b', 'e', 'l', 'O', 'c', 't', 'e', 't', 'I', 'g', 'n', 'o', 'r', 'e', 's', 'L', 'e', 't', 't', 'e', 'r', 'C', 'a', 's', 'e']
theorem ord0 : Try.pinned.checked.prog.initOrder = String.ofList signs := by kernel_rfl
theorem ord : Try.pinned.checked.prog.initOrder.toList = signs := (congrArg String.toList ord0).trans String.toList_ofList
theorem words0 : behindMainWord (wordsSigns signs) = ['c', 'u', 't'] :: (behindMainWord (wordsSigns signs)).tail := by kernel_rfl
theorem words : behindMainWord (wordsSigns Try.pinned.checked.prog.initOrder.toList) = ['c', 'u', 't'] :: (behindMainWord (wordsSigns signs)).tail := by rw [ord]; exact words0
theorem mayEnter : Try.pinned.checked.prog.mayEnter = true := by rw [Program.mayEnter.eq_1, words]; kernel_rfl
theorem headLifts : Try.pinned.checked.prog.headLifts = [] := by rw [Program.headLifts.eq_1, words]; kernel_rfl
theorem liftsFinal : Try.pinned.checked.prog.liftsFinal = false := by rw [Program.liftsFinal.eq_1, words, headLifts]; kernel_rfl
theorem make : Try.pinned.checked.prog.make = some .cut := by rw [Program.make.eq_1, words]; kernel_rfl
#print axioms make
end Go.Proofs.Qxb6603317a.Head
