/- What the head of the dump says: read as a list of signs, not as a text. -/
import Derived.Test.YteigfmchnblkgaaDoorRows
import Derived.KernelRfl
namespace Go.Proofs.YteigfmchnblkgaaDoor.Heads
open Go
set_option maxRecDepth 100000
def signs : List Char := ['h', 'a', 'r', 'n', 'e', 's', 's', ' ', '0', 'b', 'e', '3', 'd', '7', 'f', '4', 'f', '9', '9', 'c', '4', 'e', 'c', '6', '1', '4', 'f', 'e', '0', 'b', '0', '4', '6', '6', '7', '1', '1', '2', '8', 'b', 'd', '1', 'a', '2', 'b', '6', 'd', 'b', '4', '7', '7', 'f', '2', 'e', '4', '7', '7', 'a', '5', 'c', 'd', '9', '2', '7', 'e', '9', '3', '7', 'f', '3', 'e', '2', ' ', 'c', 'u', 't', ' ', 'a', 't', ' ', 'g', 'i', 'v', 'e', 'n', '.', 'e', 'x', 'a', 'm', 'p', 'l', 'e', '/', 'p', 'u', 'b', '-', 'e', 'p', 'o', 'd', 'e', '/', 'l', 'a', 'w', 's', '.', 'F', 'n', 'S', 'e', 'l', 'O', 'p', 'p', 'o', 's', 'i', 't', 'e']
def ws : List (List Char) := [['c', 'u', 't'], ['a', 't'], ['g', 'i', 'v', 'e', 'n', '.', 'e', 'x', 'a', 'm', 'p', 'l', 'e', '/', 'p', 'u', 'b', '-', 'e', 'p', 'o', 'd', 'e', '/', 'l', 'a', 'w', 's', '.', 'F', 'n', 'S', 'e', 'l', 'O', 'p', 'p', 'o', 's', 'i', 't', 'e']]
theorem signs_eq : Tryd.prog.initOrder.toList = signs := (congrArg String.toList (show Tryd.prog.initOrder = String.ofList signs by kernel_rfl)).trans String.toList_ofList
theorem words_eq : behindMainWord (wordsSigns signs) = ws := by kernel_rfl
theorem words : behindMainWord (wordsSigns Tryd.prog.initOrder.toList) = ws := by rw [signs_eq]; exact words_eq
theorem mayEnter_of {P : Program} (h : behindMainWord (wordsSigns P.initOrder.toList) = ws) (h1 : P.laysLater = false) (h2 : P.bearsReflect = false) (h3 : P.doorFits [] = true) : P.mayEnter = true := by
  unfold Program.mayEnter
  rw [h, h1, h2]
  generalize P.doorFits = D at h3 ⊢
  exact Eq.trans (b := D []) (by kernel_rfl) h3
theorem headLifts_of {P : Program} (h : behindMainWord (wordsSigns P.initOrder.toList) = ws) : P.headLifts = [] := by unfold Program.headLifts; rw [h]; kernel_rfl
theorem liftsFinal_of {P : Program} (h : behindMainWord (wordsSigns P.initOrder.toList) = ws) : P.liftsFinal = false := by unfold Program.liftsFinal; simp only [h, headLifts_of h]; kernel_rfl
theorem make_of {P : Program} (h : behindMainWord (wordsSigns P.initOrder.toList) = ws) : P.make = some .cut := by unfold Program.make; rw [h]; kernel_rfl
theorem mainIs_of {P : Program} (h : P.initOrder.toList = signs) : P.mainIs = some (true, "0be3d7f4f99c4ec614fe0b046671128bd1a2b6db477f2e477a5cd927e937f3e2".toList) := by unfold Program.mainIs; rw [h]; kernel_rfl
theorem laysLater : Tryd.prog.laysLater = false := by kernel_rfl
theorem bearsReflect : Tryd.prog.bearsReflect = false := by kernel_rfl
theorem doorFits : Tryd.prog.doorFits [] = true := by kernel_rfl
theorem mayEnter : Tryd.prog.mayEnter = true := mayEnter_of words laysLater bearsReflect doorFits
theorem headLifts : Tryd.prog.headLifts = [] := headLifts_of words
theorem liftsFinal : Tryd.prog.liftsFinal = false := liftsFinal_of words
theorem make : Tryd.prog.make = some .cut := make_of words
theorem mainIs : Tryd.prog.mainIs = some (true, "0be3d7f4f99c4ec614fe0b046671128bd1a2b6db477f2e477a5cd927e937f3e2".toList) := mainIs_of signs_eq
end Go.Proofs.YteigfmchnblkgaaDoor.Heads
