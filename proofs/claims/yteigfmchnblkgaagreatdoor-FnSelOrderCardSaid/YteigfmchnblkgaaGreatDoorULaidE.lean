/- The tables and the errors that the rows list, and a world that holds them (for the witnesses). -/
import Derived.Test.YteigfmchnblkgaaGreatDoorCards
import Derived.Test.YteigfmchnblkgaaGreatDoorTie
import Derived.Test.YteigfmchnblkgaaGreatDoorUGLabA
import Derived.WalkKit
import Derived.ProofKit
import Derived.OpenShut
import Derived.Deep.DeepHandedRow
import Derived.Lib.LaidTab
import Derived.Lib.ItoaNum
import Derived.Stop.LaidErr
namespace Go.Proofs.YteigfmchnblkgaaGreatDoor.Laid
open Go.ChangeShapes Go.WideShapes Go.ChangeAt Go.RowKit
def laid : List (String × DataW Unit) := [("math/bits.deBruijn32tab", Rows.laid_math_bits_deBruijn32tab), ("math/bits.deBruijn64tab", Rows.laid_math_bits_deBruijn64tab), ("internal/strconv.uint64pow10", Rows.laid_internal_strconv_uint64pow10), ("strconv.ErrRange", Rows.laid_strconv_ErrRange), ("strconv.ErrSyntax", Rows.laid_strconv_ErrSyntax)]
theorem own : ownKnob Tryz.prog.godebug = none := by kernel_rfl
theorem gPow : Tryz.prog.globalNamed "internal/strconv.uint64pow10" = some 4 := by kernel_rfl
theorem gPowType : (Tryz.prog.globals[4]?).map (·.type) = some 256 := by kernel_rfl
theorem cellsArr : Tryz.prog.cellsOf 256 = 20 := by kernel_rfl
theorem cellsU : Tryz.prog.cellsOf 141 = 1 := by kernel_rfl
theorem cellsE : Tryz.prog.cellsOf 164 = 1 := by kernel_rfl
theorem cellsStr : Tryz.prog.cellsOf 9 = 1 := by kernel_rfl
theorem table {W : World} (h : laidMetH Tryz.prog laid W) : Lib.TabIs Tryz.prog W "internal/strconv.uint64pow10" .u64 Lib.pow10Tab :=
  Lib.tabIs_of_head (rest := [("strconv.ErrRange", Rows.laid_strconv_ErrRange), ("strconv.ErrSyntax", Rows.laid_strconv_ErrSyntax)]) gPow gPowType Tryz.underlying256 Tryz.underlying141 cellsU cellsArr (laidMet.tail (laidMet.tail h))
theorem star : "*" ++ "errors.errorString" = "*errors.errorString" := by decide
theorem rowE (u : TypeId) (h : Tryz.prog.typeName? 3 u = some "*errors.errorString") : u = 162 :=
  typeName_ptr_named (nm := "errors.errorString") (by rw [star]; kernel_rfl) (by kernel_rfl) (by decide) u (by rw [star]; exact h)
theorem gR : Tryz.prog.globalNamed "strconv.ErrRange" = some 1 := by kernel_rfl
theorem gRType : (Tryz.prog.globals[1]?).map (·.type) = some 83 := by kernel_rfl
theorem gS : Tryz.prog.globalNamed "strconv.ErrSyntax" = some 0 := by kernel_rfl
theorem gSType : (Tryz.prog.globals[0]?).map (·.type) = some 83 := by kernel_rfl
theorem tv {W : World} (h : laidMetH Tryz.prog laid W) : Hand.TV W := by
  refine ⟨table h, ?_, ?_⟩
  · obtain ⟨a, s, hv, _⟩ := laid_sentinel (r := []) (laidMet.tail (laidMet.tail (laidMet.tail (laidMet.tail h)))) gS gSType Tryz.underlying83 rowE Tryz.underlying162 Tryz.underlying164 rfl rfl Tryz.underlying9 cellsE cellsStr
    exact ⟨_, by simpa using World.var?_cell gS hv 0, .inr ⟨_, _, rfl⟩⟩
  · obtain ⟨a, s, hv, _⟩ := laid_sentinel (r := [("strconv.ErrSyntax", Rows.laid_strconv_ErrSyntax)]) (laidMet.tail (laidMet.tail (laidMet.tail h))) gR gRType Tryz.underlying83 rowE Tryz.underlying162 Tryz.underlying164 rfl rfl Tryz.underlying9 cellsE cellsStr
    exact ⟨_, by simpa using World.var?_cell gR hv 0, .inr ⟨_, _, rfl⟩⟩
def cellsOf : DataW Unit → Array Value
  | .agg l => (l.map fun
    | .lit (.int k z) => Value.int k z
    | _ => .int .u8 0).toArray
  | _ => #[]
def lay (d : DataW Unit) : Obj → Obj
  | .cells _ t frozen => .cells (cellsOf d) t frozen
  | o => o
noncomputable def low : Nat := (World.holding Tryz.prog default ⟨#[], #[], []⟩).heap.size
noncomputable def layE (k : Nat) : Obj → Obj
  | .cells _ t frozen => .cells #[.iface 162 (.pointer (some ⟨low + k, 0, none⟩))] t frozen
  | o => o
noncomputable def laidWorld (os : Os) : World :=
  let w0 := World.holding Tryz.prog os ⟨#[.cells #[.string ⟨#[118, 97, 108, 117, 101, 32, 111, 117, 116, 32, 111, 102, 32, 114, 97, 110, 103, 101]⟩] 164, .cells #[.string ⟨#[105, 110, 118, 97, 108, 105, 100, 32, 115, 121, 110, 116, 97, 120]⟩] 164], #[], []⟩
  { w0 with heap := (((((w0.heap.modify 5 (lay Rows.laid_math_bits_deBruijn32tab)).modify 6 (lay Rows.laid_math_bits_deBruijn64tab)).modify 4 (lay Rows.laid_internal_strconv_uint64pow10)).modify 1 (layE 0)).modify 0 (layE 1)) }
set_option maxRecDepth 100000 in
theorem laid_met (os : Os) (args : Array Value) : laidMet Tryz.prog laid ((laidWorld os).forCall (fun _ _ => 0) ⟨#[], args, []⟩).memory :=
  laidMet_of_run' 8 (by kernel_rfl) (by kernel_rfl)
end Go.Proofs.YteigfmchnblkgaaGreatDoor.Laid
