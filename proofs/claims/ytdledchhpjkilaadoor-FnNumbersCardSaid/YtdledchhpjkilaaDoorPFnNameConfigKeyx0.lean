-- PRINTED BY print.sh 35421559b90ae4d0a3588c463048766b98c2df88dd9212a6774a882060cdf62d: not written by this session
import Derived.Test.YtdledchhpjkilaaDoorProg
import Derived.Below
import Derived.Deep.Draws
import Derived.Deep.AppendLies
import Derived.Maps.AppendAt
import Derived.OwnWalk
import Derived.Laws.BytesArg
import Derived.Laws.MakeOwn
import Derived.Laws.OwnMore
import Derived.Deep.OwnRows
import Derived.Tactics
import Derived.Lib.ConvBytes
import Derived.Laws.Slices
import Derived.WalkKit
import Derived.KernelRfl
import Derived.RowKit3
import Derived.Deep.LoopGhost
import Derived.Deep.QuietTactic
import Derived.BigQuiet
import Derived.WideLaws
import Derived.Deep.DeepCutAuto
import Derived.Deep.CutBlock
import Derived.Deep.RegionHeld3
import Derived.Laws.Rows
import Derived.Lib.AppendStr
import Derived.ArgAppend
import Derived.Laws.IdiomCopy
import Derived.OrdersHeld
import Derived.Laws.BitsLemmas
import Derived.RowKit
import Derived.Test.YtdledchhpjkilaaDoorWWords
import Derived.Test.YtdledchhpjkilaaDoorWLast
import Derived.Test.YtdledchhpjkilaaDoorWTab
import Derived.Test.YtdledchhpjkilaaDoorWFour
import Derived.Test.YtdledchhpjkilaaDoorWQPut
import Derived.Test.YtdledchhpjkilaaDoorWApart
import Derived.Test.YtdledchhpjkilaaDoorWArr
import Derived.Test.YtdledchhpjkilaaDoorWZeros
import Derived.Test.YtdledchhpjkilaaDoorWFoot
import Derived.Test.YtdledchhpjkilaaDoorWKept
import Derived.Test.YtdledchhpjkilaaDoorWShare
import Derived.Test.YtdledchhpjkilaaDoorWN
import Derived.Test.YtdledchhpjkilaaDoorWFootNe
import Derived.Test.YtdledchhpjkilaaDoorWAt
import Derived.Test.YtdledchhpjkilaaDoorWEqStruct
import Derived.Test.YtdledchhpjkilaaDoorWRepsOne
import Derived.Test.YtdledchhpjkilaaDoorWInv
import Derived.Test.YtdledchhpjkilaaDoorWInvWords
import Derived.Test.YtdledchhpjkilaaDoorWGuard
import Derived.Test.YtdledchhpjkilaaDoorWNEv
import Derived.Test.YtdledchhpjkilaaDoorWMore
namespace Go.Proofs.YtdledchhpjkilaaDoor.PFnNameConfigKey
open Go.RowKit Go.Proofs.YtdledchhpjkilaaDoorW.PrintWords Go.Proofs.YtdledchhpjkilaaDoorW.PrintLast Go.Proofs.YtdledchhpjkilaaDoorW.PrintMore
attribute [local go_sem] max2_int min2_int max_two min_two max_three min_three max_four min_four   -- for this text's walks alone
set_option linter.unusedVariables false
set_option linter.unusedSimpArgs false



def errW : Option Int → Value
  | none => .nilIface
  | some c => .iface 0 (.int .i64 c)
theorem errW_none : errW none = .nilIface := rfl
theorem errW_some (c : Int) : errW (some c) = .iface 0 (.int .i64 c) := rfl

theorem info9 : (Tryd.prog.info? 9).map (fun i => (i.zero, i.size, i.bytes)) = some (some (.string ⟨#[]⟩), 1, 16) := by kernel_rfl
-- the values' own types

end Go.Proofs.YtdledchhpjkilaaDoor.PFnNameConfigKey
