/- The tables that the rows list, and a world that holds them (for the witnesses). -/
import Derived.Test.YtdledchhpjkilaaDoorCards
import Derived.Test.YtdledchhpjkilaaDoorTie
import Derived.WalkKit
import Derived.ProofKit
import Derived.OpenShut
import Derived.Deep.DeepHandedRow
import Derived.Lib.LaidTab
import Derived.Lib.ItoaNum
import Derived.Stop.LaidErr
namespace Go.Proofs.YtdledchhpjkilaaDoor.Laid
open Go.ChangeShapes Go.WideShapes Go.ChangeAt Go.RowKit
def laid : List (String × DataW Unit) := [("math/bits.deBruijn32tab", Rows.laid_math_bits_deBruijn32tab), ("math/bits.deBruijn64tab", Rows.laid_math_bits_deBruijn64tab), ("internal/strconv.uint64pow10", Rows.laid_internal_strconv_uint64pow10)]
theorem own : ownKnob Tryd.prog.godebug = none := by kernel_rfl
theorem gPow : Tryd.prog.globalNamed "internal/strconv.uint64pow10" = some 0 := by kernel_rfl
theorem gPowType : (Tryd.prog.globals[0]?).map (·.type) = some 53 := by kernel_rfl
theorem cells53 : Tryd.prog.cellsOf 53 = 20 := by kernel_rfl
theorem cells57 : Tryd.prog.cellsOf 57 = 1 := by kernel_rfl
theorem table {W : World} (h : laidMetH Tryd.prog laid W) : Lib.TabIs Tryd.prog W "internal/strconv.uint64pow10" .u64 Lib.pow10Tab :=
  Lib.tabIs_of_head (rest := []) gPow gPowType Tryd.underlying53 Tryd.underlying57 cells57 cells53 (laidMet.tail (laidMet.tail h))
def cellsOf : DataW Unit → Array Value
  | .agg l => (l.map fun
    | .lit (.int k z) => Value.int k z
    | _ => .int .u8 0).toArray
  | _ => #[]
def lay (d : DataW Unit) : Obj → Obj
  | .cells _ t frozen => .cells (cellsOf d) t frozen
  | o => o
noncomputable def laidWorld (os : Os) : World :=
  { World.holding Tryd.prog os ⟨#[], #[], []⟩ with heap := (((World.holding Tryd.prog os ⟨#[], #[], []⟩).heap.modify 0 (lay Rows.laid_internal_strconv_uint64pow10)).modify 1 (lay Rows.laid_math_bits_deBruijn32tab)).modify 2 (lay Rows.laid_math_bits_deBruijn64tab) }
set_option maxRecDepth 100000 in
theorem laid_met (os : Os) : laidMet Tryd.prog laid ((laidWorld os).forCall (fun _ _ => 0) ⟨#[], #[.string ByteArray.empty], []⟩).memory :=
  laidMet_of_run' 8 (by kernel_rfl) (by kernel_rfl)
end Go.Proofs.YtdledchhpjkilaaDoor.Laid
