import Derived.Test.YtdledchhpjkilaaDoorCards
import Derived.Test.YtdledchhpjkilaaDoorTie
import Derived.WalkKit
import Derived.ProofKit
import Derived.OpenShut
import Derived.Deep.DeepHandedRow
import Derived.Lib.LaidTab
import Derived.Lib.ItoaNum
import Derived.Stop.LaidErr
import Derived.Test.YtdledchhpjkilaaDoorRows
import Derived.KernelRfl
/- The tables that the rows list, and a world that holds them (for the witnesses). -/
namespace Go.Proofs.YtdledchhpjkilaaDoor.Laid
open Go.ChangeShapes Go.WideShapes Go.ChangeAt Go.RowKit
def laid : List (String × DataW Unit) := [("math/bits.deBruijn32tab", Rows.laid_math_bits_deBruijn32tab), ("math/bits.deBruijn64tab", Rows.laid_math_bits_deBruijn64tab), ("internal/strconv.uint64pow10", Rows.laid_internal_strconv_uint64pow10)]
theorem own : ownKnob Tryd.prog.godebug = none := by kernel_rfl
theorem gPow : Tryd.prog.globalNamed "internal/strconv.uint64pow10" = some 0 := by kernel_rfl
theorem gPowType : (Tryd.prog.globals[0]?).map (·.type) = some 53 := by kernel_rfl
theorem cells53 : Tryd.prog.cellsOf 53 = 20 := by kernel_rfl
theorem cells57 : Tryd.prog.cellsOf 57 = 1 := by kernel_rfl
theorem table {W : World} (h : laidMetH Tryd.prog laid W) : Lib.TabIs Tryd.prog W "internal/strconv.uint64pow10" .u64 Lib.pow10Tab :=
  Lib.tabIs_of_head (rest := []) gPow gPowType Tryd.underlying53 Tryd.underlying57 cells57 cells53 (laidMet.tail (laidMet.tail h))
def cellsOf : DataW Unit → Array Value
  | .agg l => (l.map fun
    | .lit (.int k z) => Value.int k z
    | _ => .int .u8 0).toArray
  | _ => #[]
def lay (d : DataW Unit) : Obj → Obj
  | .cells _ t frozen => .cells (cellsOf d) t frozen
  | o => o
noncomputable def laidWorld (os : Os) : World :=
  { World.holding Tryd.prog os ⟨#[], #[], []⟩ with heap := (((World.holding Tryd.prog os ⟨#[], #[], []⟩).heap.modify 0 (lay Rows.laid_internal_strconv_uint64pow10)).modify 1 (lay Rows.laid_math_bits_deBruijn32tab)).modify 2 (lay Rows.laid_math_bits_deBruijn64tab) }
set_option maxRecDepth 100000 in
theorem laid_met (os : Os) : laidMet Tryd.prog laid ((laidWorld os).forCall (fun _ _ => 0) ⟨#[], #[.string ByteArray.empty], []⟩).memory :=
  laidMet_of_run' 8 (by kernel_rfl) (by kernel_rfl)
end Go.Proofs.YtdledchhpjkilaaDoor.Laid

/- What the head of the dump says: read as a list of signs, not as a text. -/
namespace Go.Proofs.YtdledchhpjkilaaDoor.Heads
open Go
set_option maxRecDepth 100000
def signs : List Char := ['h', 'a', 'r', 'n', 'e', 's', 's', ' ', '5', '7', '4', 'c', 'd', '7', '8', 'c', 'd', 'f', '0', 'd', '6', '5', '5', 'f', '4', 'b', '0', '3', '2', '3', 'e', 'd', 'c', 'f', 'f', '1', '9', '7', 'c', '0', 'f', 'b', 'a', 'e', '3', 'e', 'f', '1', '3', 'f', '5', '7', '7', '7', 'd', 'b', '9', '5', 'b', 'b', '8', '0', '3', 'c', '9', 'c', '5', '9', '3', '4', 'a', '9', ' ', 'c', 'u', 't', ' ', 'a', 't', ' ', 'g', 'i', 'v', 'e', 'n', '.', 'e', 'x', 'a', 'm', 'p', 'l', 'e', '/', 'p', 'u', 'b', '-', 'e', 'p', 'o', 'd', 'e', '/', 'l', 'a', 'w', 's', '.', 'F', 'n', 'N', 'a', 'm', 'e', 'L', 'a', 'b', 'e', 'l', ' ', 'g', 'i', 'v', 'e', 'n', '.', 'e', 'x', 'a', 'm', 'p', 'l', 'e', '/', 'p', 'u', 'b', '-', 'e', 'p', 'o', 'd', 'e', '/', 'l', 'a', 'w', 's', '.', 'F', 'n', 'N', 'a', 'm', 'e', 'H', 'e', 'a', 'd', 'e', 'r', 'N', 'a', 'm', 'e', ' ', 'g', 'i', 'v', 'e', 'n', '.', 'e', 'x', 'a', 'm', 'p', 'l', 'e', '/', 'p', 'u', 'b', '-', 'e', 'p', 'o', 'd', 'e', '/', 'l', 'a', 'w', 's', '.', 'F', 'n', 'N', 'a', 'm', 'e', 'C', 'I', 'd', 'e', 'n', 't', 'i', 'f', 'i', 'e', 'r', ' ', 'g', 'i', 'v', 'e', 'n', '.', 'e', 'x', 'a', 'm', 'p', 'l', 'e', '/', 'p', 'u', 'b', '-', 'e', 'p', 'o', 'd', 'e', '/', 'l', 'a', 'w', 's', '.', 'F', 'n', 'N', 'a', 'm', 'e', 'P', 'e', 'r', 'c', 'e', 'n', 't', ' ', 'g', 'i', 'v', 'e', 'n', '.', 'e', 'x', 'a', 'm', 'p', 'l', 'e', '/', 'p', 'u', 'b', '-', 'e', 'p', 'o', 'd', 'e', '/', 'l', 'a', 'w', 's', '.', 'F', 'n', 'N', 'a', 'm', 'e', 'O', 'l', 'd', 'L', 'a', 'b', 'e', 'l', ' ', 'g', 'i', 'v', 'e', 'n', '.', 'e', 'x', 'a', 'm', 'p', 'l', 'e', '/', 'p', 'u', 'b', '-', 'e', 'p', 'o', 'd', 'e', '/', 'l', 'a', 'w', 's', '.', 'F', 'n', 'N', 'a', 'm', 'e', 'L', 'a', 'b', 'e', 'l', 'V', 'a', 'l', 'u', 'e', ' ', 'g', 'i', 'v', 'e', 'n', '.', 'e', 'x', 'a', 'm', 'p', 'l', 'e', '/', 'p', 'u', 'b', '-', 'e', 'p', 'o', 'd', 'e', '/', 'l', 'a', 'w', 's', '.', 'F', 'n', 'N', 'a', 'm', 'e', 'E', 'n', 'v', 'N', 'a', 'm', 'e', ' ', 'g', 'i', 'v', 'e', 'n', '.', 'e', 'x', 'a', 'm', 'p', 'l', 'e', '/', 'p', 'u', 'b', '-', 'e', 'p', 'o', 'd', 'e', '/', 'l', 'a', 'w', 's', '.', 'F', 'n', 'N', 'a', 'm', 'e', 'C', 'o', 'n', 'f', 'i', 'g', 'K', 'e', 'y', ' ', 'g', 'i', 'v', 'e', 'n', '.', 'e', 'x', 'a', 'm', 'p', 'l', 'e', '/', 'p', 'u', 'b', '-', 'e', 'p', 'o', 'd', 'e', '/', 'l', 'a', 'w', 's', '.', 'F', 'n', 'N', 'u', 'm', 'b', 'e', 'r', 's', ' ', 'g', 'i', 'v', 'e', 'n', '.', 'e', 'x', 'a', 'm', 'p', 'l', 'e', '/', 'p', 'u', 'b', '-', 'e', 'p', 'o', 'd', 'e', '/', 'l', 'a', 'w', 's', '.', 'F', 'n', 'N', 'a', 'm', 'e', 'S', 'u', 'b', 'd', 'o', 'm', 'a', 'i', 'n', ' ', 'g', 'i', 'v', 'e', 'n', '.', 'e', 'x', 'a', 'm', 'p', 'l', 'e', '/', 'p', 'u', 'b', '-', 'e', 'p', 'o', 'd', 'e', '/', 'l', 'a', 'w', 's', '.', 'F', 'n', 'N', 'a', 'm', 'e', 'W', 'i', 'l', 'd', 'c', 'a', 'r', 'd', ' ', 'g', 'i', 'v', 'e', 'n', '.', 'e', 'x', 'a', 'm', 'p', 'l', 'e', '/', 'p', 'u', 'b', '-', 'e', 'p', 'o', 'd', 'e', '/', 'l', 'a', 'w', 's', '.', 'F', 'n', 'N', 'a', 'm', 'e', 'P', 'o', 'r', 't', 'N', 'a', 'm', 'e', ' ', 'g', 'i', 'v', 'e', 'n', '.', 'e', 'x', 'a', 'm', 'p', 'l', 'e', '/', 'p', 'u', 'b', '-', 'e', 'p', 'o', 'd', 'e', '/', 'l', 'a', 'w', 's', '.', 'F', 'n', 'N', 'a', 'm', 'e', 'F', 'u', 'l', 'l', 'N', 'a', 'm', 'e', ' ', 'g', 'i', 'v', 'e', 'n', '.', 'e', 'x', 'a', 'm', 'p', 'l', 'e', '/', 'p', 'u', 'b', '-', 'e', 'p', 'o', 'd', 'e', '/', 'l', 'a', 'w', 's', '.', 'F', 'n', 'N', 'a', 'm', 'e', 'D', 'o', 'm', 'a', 'i', 'n', 'N', 'a', 'm', 'e', ' ', 'g', 'i', 'v', 'e', 'n', '.', 'e', 'x', 'a', 'm', 'p', 'l', 'e', '/', 'p', 'u', 'b', '-', 'e', 'p', 'o', 'd', 'e', '/', 'l', 'a', 'w', 's', '.', 'F', 'n', 'N', 'a', 'm', 'e', 'D', 'o', 'm', 'a', 'i', 'n', 'P', 'a', 't', 'h', ' ', 'g', 'i', 'v', 'e', 'n', '.', 'e', 'x', 'a', 'm', 'p', 'l', 'e', '/', 'p', 'u', 'b', '-', 'e', 'p', 'o', 'd', 'e', '/', 'l', 'a', 'w', 's', '.', 'F', 'n', 'N', 'a', 'm', 'e', 'Q', 'u', 'a', 'l', 'i', 'f', 'i', 'e', 'd', 'N', 'a', 'm', 'e']
def ws : List (List Char) := [['c', 'u', 't'], ['a', 't'], ['g', 'i', 'v', 'e', 'n', '.', 'e', 'x', 'a', 'm', 'p', 'l', 'e', '/', 'p', 'u', 'b', '-', 'e', 'p', 'o', 'd', 'e', '/', 'l', 'a', 'w', 's', '.', 'F', 'n', 'N', 'a', 'm', 'e', 'L', 'a', 'b', 'e', 'l'], ['g', 'i', 'v', 'e', 'n', '.', 'e', 'x', 'a', 'm', 'p', 'l', 'e', '/', 'p', 'u', 'b', '-', 'e', 'p', 'o', 'd', 'e', '/', 'l', 'a', 'w', 's', '.', 'F', 'n', 'N', 'a', 'm', 'e', 'H', 'e', 'a', 'd', 'e', 'r', 'N', 'a', 'm', 'e'], ['g', 'i', 'v', 'e', 'n', '.', 'e', 'x', 'a', 'm', 'p', 'l', 'e', '/', 'p', 'u', 'b', '-', 'e', 'p', 'o', 'd', 'e', '/', 'l', 'a', 'w', 's', '.', 'F', 'n', 'N', 'a', 'm', 'e', 'C', 'I', 'd', 'e', 'n', 't', 'i', 'f', 'i', 'e', 'r'], ['g', 'i', 'v', 'e', 'n', '.', 'e', 'x', 'a', 'm', 'p', 'l', 'e', '/', 'p', 'u', 'b', '-', 'e', 'p', 'o', 'd', 'e', '/', 'l', 'a', 'w', 's', '.', 'F', 'n', 'N', 'a', 'm', 'e', 'P', 'e', 'r', 'c', 'e', 'n', 't'], ['g', 'i', 'v', 'e', 'n', '.', 'e', 'x', 'a', 'm', 'p', 'l', 'e', '/', 'p', 'u', 'b', '-', 'e', 'p', 'o', 'd', 'e', '/', 'l', 'a', 'w', 's', '.', 'F', 'n', 'N', 'a', 'm', 'e', 'O', 'l', 'd', 'L', 'a', 'b', 'e', 'l'], ['g', 'i', 'v', 'e', 'n', '.', 'e', 'x', 'a', 'm', 'p', 'l', 'e', '/', 'p', 'u', 'b', '-', 'e', 'p', 'o', 'd', 'e', '/', 'l', 'a', 'w', 's', '.', 'F', 'n', 'N', 'a', 'm', 'e', 'L', 'a', 'b', 'e', 'l', 'V', 'a', 'l', 'u', 'e'], ['g', 'i', 'v', 'e', 'n', '.', 'e', 'x', 'a', 'm', 'p', 'l', 'e', '/', 'p', 'u', 'b', '-', 'e', 'p', 'o', 'd', 'e', '/', 'l', 'a', 'w', 's', '.', 'F', 'n', 'N', 'a', 'm', 'e', 'E', 'n', 'v', 'N', 'a', 'm', 'e'], ['g', 'i', 'v', 'e', 'n', '.', 'e', 'x', 'a', 'm', 'p', 'l', 'e', '/', 'p', 'u', 'b', '-', 'e', 'p', 'o', 'd', 'e', '/', 'l', 'a', 'w', 's', '.', 'F', 'n', 'N', 'a', 'm', 'e', 'C', 'o', 'n', 'f', 'i', 'g', 'K', 'e', 'y'], ['g', 'i', 'v', 'e', 'n', '.', 'e', 'x', 'a', 'm', 'p', 'l', 'e', '/', 'p', 'u', 'b', '-', 'e', 'p', 'o', 'd', 'e', '/', 'l', 'a', 'w', 's', '.', 'F', 'n', 'N', 'u', 'm', 'b', 'e', 'r', 's'], ['g', 'i', 'v', 'e', 'n', '.', 'e', 'x', 'a', 'm', 'p', 'l', 'e', '/', 'p', 'u', 'b', '-', 'e', 'p', 'o', 'd', 'e', '/', 'l', 'a', 'w', 's', '.', 'F', 'n', 'N', 'a', 'm', 'e', 'S', 'u', 'b', 'd', 'o', 'm', 'a', 'i', 'n'], ['g', 'i', 'v', 'e', 'n', '.', 'e', 'x', 'a', 'm', 'p', 'l', 'e', '/', 'p', 'u', 'b', '-', 'e', 'p', 'o', 'd', 'e', '/', 'l', 'a', 'w', 's', '.', 'F', 'n', 'N', 'a', 'm', 'e', 'W', 'i', 'l', 'd', 'c', 'a', 'r', 'd'], ['g', 'i', 'v', 'e', 'n', '.', 'e', 'x', 'a', 'm', 'p', 'l', 'e', '/', 'p', 'u', 'b', '-', 'e', 'p', 'o', 'd', 'e', '/', 'l', 'a', 'w', 's', '.', 'F', 'n', 'N', 'a', 'm', 'e', 'P', 'o', 'r', 't', 'N', 'a', 'm', 'e'], ['g', 'i', 'v', 'e', 'n', '.', 'e', 'x', 'a', 'm', 'p', 'l', 'e', '/', 'p', 'u', 'b', '-', 'e', 'p', 'o', 'd', 'e', '/', 'l', 'a', 'w', 's', '.', 'F', 'n', 'N', 'a', 'm', 'e', 'F', 'u', 'l', 'l', 'N', 'a', 'm', 'e'], ['g', 'i', 'v', 'e', 'n', '.', 'e', 'x', 'a', 'm', 'p', 'l', 'e', '/', 'p', 'u', 'b', '-', 'e', 'p', 'o', 'd', 'e', '/', 'l', 'a', 'w', 's', '.', 'F', 'n', 'N', 'a', 'm', 'e', 'D', 'o', 'm', 'a', 'i', 'n', 'N', 'a', 'm', 'e'], ['g', 'i', 'v', 'e', 'n', '.', 'e', 'x', 'a', 'm', 'p', 'l', 'e', '/', 'p', 'u', 'b', '-', 'e', 'p', 'o', 'd', 'e', '/', 'l', 'a', 'w', 's', '.', 'F', 'n', 'N', 'a', 'm', 'e', 'D', 'o', 'm', 'a', 'i', 'n', 'P', 'a', 't', 'h'], ['g', 'i', 'v', 'e', 'n', '.', 'e', 'x', 'a', 'm', 'p', 'l', 'e', '/', 'p', 'u', 'b', '-', 'e', 'p', 'o', 'd', 'e', '/', 'l', 'a', 'w', 's', '.', 'F', 'n', 'N', 'a', 'm', 'e', 'Q', 'u', 'a', 'l', 'i', 'f', 'i', 'e', 'd', 'N', 'a', 'm', 'e']]
theorem signs_eq : Tryd.prog.initOrder.toList = signs := (congrArg String.toList (show Tryd.prog.initOrder = String.ofList signs by kernel_rfl)).trans String.toList_ofList
theorem words_eq : behindMainWord (wordsSigns signs) = ws := by kernel_rfl
theorem words : behindMainWord (wordsSigns Tryd.prog.initOrder.toList) = ws := by rw [signs_eq]; exact words_eq
theorem mayEnter_of {P : Program} (h : behindMainWord (wordsSigns P.initOrder.toList) = ws) (h1 : P.laysLater = false) (h2 : P.bearsReflect = false) (h3 : P.doorFits [] = true) : P.mayEnter = true := by
  unfold Program.mayEnter
  rw [h, h1, h2]
  generalize P.doorFits = D at h3 ⊢
  exact Eq.trans (b := D []) (by kernel_rfl) h3
theorem headLifts_of {P : Program} (h : behindMainWord (wordsSigns P.initOrder.toList) = ws) : P.headLifts = [] := by unfold Program.headLifts; rw [h]; kernel_rfl
theorem liftsFinal_of {P : Program} (h : behindMainWord (wordsSigns P.initOrder.toList) = ws) : P.liftsFinal = false := by unfold Program.liftsFinal; simp only [h, headLifts_of h]; kernel_rfl
theorem make_of {P : Program} (h : behindMainWord (wordsSigns P.initOrder.toList) = ws) : P.make = some .cut := by unfold Program.make; rw [h]; kernel_rfl
theorem mainIs_of {P : Program} (h : P.initOrder.toList = signs) : P.mainIs = some (true, "574cd78cdf0d655f4b0323edcff197c0fbae3ef13f5777db95bb803c9c5934a9".toList) := by unfold Program.mainIs; rw [h]; kernel_rfl
theorem laysLater : Tryd.prog.laysLater = false := by kernel_rfl
theorem bearsReflect : Tryd.prog.bearsReflect = false := by kernel_rfl
theorem doorFits : Tryd.prog.doorFits [] = true := by kernel_rfl
theorem mayEnter : Tryd.prog.mayEnter = true := mayEnter_of words laysLater bearsReflect doorFits
theorem headLifts : Tryd.prog.headLifts = [] := headLifts_of words
theorem liftsFinal : Tryd.prog.liftsFinal = false := liftsFinal_of words
theorem make : Tryd.prog.make = some .cut := make_of words
theorem mainIs : Tryd.prog.mainIs = some (true, "574cd78cdf0d655f4b0323edcff197c0fbae3ef13f5777db95bb803c9c5934a9".toList) := mainIs_of signs_eq
end Go.Proofs.YtdledchhpjkilaaDoor.Heads
