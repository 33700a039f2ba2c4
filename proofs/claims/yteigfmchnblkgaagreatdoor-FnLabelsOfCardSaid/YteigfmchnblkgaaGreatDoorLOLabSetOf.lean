/- spec.SetOf: texts in their order, each once. -/
import Derived.Test.YteigfmchnblkgaaGreatDoorLOLabNew
import Derived.Sort.Walk0
import Derived.RegionTactic
import Derived.Deep.RegionLaw
import Derived.Laws.CopyOwn
namespace Go.Proofs.YteigfmchnblkgaaGreatDoor.Hand
open Go.RowKit Go.Proofs.YteigfmchnblkgaaGreatDoorW.PrintWords Go.Proofs.YteigfmchnblkgaaGreatDoorW.PrintLast Go.Proofs.YteigfmchnblkgaaGreatDoorW.PrintMore Go.Proofs.YteigfmchnblkgaaGreatDoor.Base
set_option linter.unusedVariables false
set_option linter.unusedSimpArgs false
set_option maxRecDepth 100000
open Go.Sort (ltStr)
def posOf : List L → L → Nat
  | [], _ => 0
  | y :: r, s => if ltStr y s = true then posOf r s + 1 else 0
def insS (out : List L) (s : L) : List L := if out[posOf out s]? = some s then out else out.take (posOf out s) ++ s :: out.drop (posOf out s)
def setL (l : List L) : List L := l.foldl insS []
theorem posOf_le : ∀ (out : List L) (s : L), posOf out s ≤ out.length
  | [], _ => by simp [posOf]
  | y :: r, s => by unfold posOf; split; have := posOf_le r s; simp; omega; simp
theorem insS_len (out : List L) (s : L) : (insS out s).length ≤ out.length + 1 := by
  unfold insS; split
  · omega
  · have := posOf_le out s; simp; omega
theorem setL_len (l : List L) : (setL l).length ≤ l.length := by
  have h : ∀ (l out : List L), (l.foldl insS out).length ≤ out.length + l.length := by
    intro l
    induction l with
    | nil => intro out; simp
    | cons x l ih => intro out; have := ih (insS out x); have := insS_len out x; simp only [List.foldl_cons, List.length_cons] at *; omega
  have := h l []; simpa [setL] using this
theorem ltS (x y : L) : Op.bytesLess x y = ltStr x y := by simp [ltStr, bytesLess_eq]

theorem shift_pure {α : Type} (out : List α) (z s : α) (p : Nat) (hp : p ≤ out.length) : (((out ++ [z]).take (p + 1) ++ ((out ++ [z]).drop p).take (out.length - p)).set p s) = out.take p ++ s :: out.drop p := by
  have h1 : ((out ++ [z]).drop p).take (out.length - p) = out.drop p := by
    rw [List.drop_append_of_le_length hp, List.take_append_of_le_length (by simp)]
    exact List.take_of_length_le (by simp)
  rw [h1]
  have hl : p < (out ++ [z]).length := by simp; omega
  have h2 : (out ++ [z]).take (p + 1) = out.take p ++ [(out ++ [z])[p]] := by
    rw [List.take_succ_eq_append_getElem hl, List.take_append_of_le_length hp]
  rw [h2, List.append_assoc, List.set_append_right _ _ (by simp; omega)]
  simp [Nat.min_eq_left hp]
end Go.Proofs.YteigfmchnblkgaaGreatDoor.Hand
