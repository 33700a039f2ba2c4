/- What a check of a name answers: a list of texts that is empty just if nothing is wrong. -/
import Derived.Test.YteigfmchnblkgaaDoorNmErr
import Derived.Test.YteigfmchnblkgaaDoorNmSpec
namespace Go.Proofs.YteigfmchnblkgaaDoor.Hand
open Go.RowKit Go.Proofs.YteigfmchnblkgaaDoorW.PrintWords Go.Proofs.YteigfmchnblkgaaDoorW.PrintLast Go.Proofs.YteigfmchnblkgaaDoorW.PrintMore Go.Proofs.YteigfmchnblkgaaDoor.Base
set_option linter.unusedVariables false
set_option linter.unusedSimpArgs false
set_option maxRecDepth 100000

/-- The list, with nothing in it just if P. -/
def Errs (P : Bool) (w : World) (e : Ending) (w' : World) : Prop :=
  ∃ (v0 : Value) (xs : List ByteArray), e = .returned v0 ∧ Kd.R Kd.string 9 w' w.heap.size (fun _ => True) v0 xs ∧ (xs == []) = P ∧ xs.length ≤ 10 ∧ (∀ p ∈ xs, p.size ≤ 5000) ∧ Below w.heap.size w w'
theorem Errs.snoc {xs ys : List ByteArray} {m : ByteArray} (h : xs ++ [m] = ys) : (ys == []) = false := by
  subst h; cases xs <;> rfl
end Go.Proofs.YteigfmchnblkgaaDoor.Hand
