/- zzWildcard and DnsWild. -/
import Derived.Test.YteigfmchnblkgaaDoorNmSub89
import Derived.Test.YteigfmchnblkgaaDoorNmSub37
namespace Go.Proofs.YteigfmchnblkgaaDoor.Hand
open Go.RowKit Go.Proofs.YteigfmchnblkgaaDoorW.PrintWords Go.Proofs.YteigfmchnblkgaaDoorW.PrintLast Go.Proofs.YteigfmchnblkgaaDoorW.PrintMore Go.Proofs.YteigfmchnblkgaaDoor.Base
set_option linter.unusedVariables false
set_option linter.unusedSimpArgs false
set_option maxRecDepth 100000
def wild (x : L) : Bool := decide (2 < x.length) && (x.take 2 == [42, 46] && sub (x.drop 2))
def pWild (x : L) : Bool := most 253 x && wild x
theorem zzSub_calls (s : ByteArray) (hs : s.size ≤ 140737488351) (w : World) : Calls Tryd.prog 53 #[.string s] w fun e w' => e = .returned (.bool (sub s.data.toList)) ∧ Below w.heap.size w w' := sub89_calls s hs w
theorem pSub_calls (s : ByteArray) (hs : s.size ≤ 140737488351) (w : World) : Calls Tryd.prog 27 #[.string s] w fun e w' => e = .returned (.bool (most 253 s.data.toList && sub s.data.toList)) ∧ Below w.heap.size w w' := by
  have h := sub37_calls s hs w
  have e : pSub s.data.toList = (most 253 s.data.toList && sub s.data.toList) := by show (_ && most 253 s.data.toList) = _; rw [Bool.and_comm]; rfl
  rw [e] at h; exact h
end Go.Proofs.YteigfmchnblkgaaDoor.Hand
