/- sort.Strings over an owned row. -/
import Derived.Test.YteigfmchnblkgaaGreatDoorRTTxB
import Derived.Test.YteigfmchnblkgaaGreatDoorRTShelfT
import Derived.Test.YteigfmchnblkgaaGreatDoorRTGSetA
namespace Go.Proofs.YteigfmchnblkgaaGreatDoor.Hand
open Go.RowKit Go.Proofs.YteigfmchnblkgaaGreatDoorW.PrintWords Go.Proofs.YteigfmchnblkgaaGreatDoorW.PrintLast Go.Proofs.YteigfmchnblkgaaGreatDoorW.PrintMore Go.Proofs.YteigfmchnblkgaaGreatDoor.Base
open Go.Sort (Holds PermIn SortedIn putRow)
set_option linter.unusedVariables false
set_option linter.unusedSimpArgs false
set_option maxRecDepth 100000
theorem asc_merge (l : List L) : Asc (l.mergeSort fun x y => decide (x ≤ y)) := by
  have h := List.pairwise_mergeSort (le := fun (x y : L) => decide (x ≤ y)) (fun a b c h1 h2 => by
    simp only [decide_eq_true_eq] at *; exact List.le_trans h1 h2) (fun a b => by
    simp only [Bool.or_eq_true, decide_eq_true_eq]; exact List.le_total a b) l
  unfold Asc
  refine h.imp fun {x y} hxy => ?_
  simp only [decide_eq_true_eq] at hxy
  unfold Sort.ltStr
  simpa using hxy
theorem Strings_calls (l : List L) (W : World) (base : Nat) (v : Value) (hR : Kd.R Kd.string 9 W base (fun _ => True) v (l.map mk)) (hn : l.length ≤ 1000000) :
    Calls Tryz.prog 108 #[v] W fun e w' => e = .returned (.tuple #[]) ∧ ∃ l' : List L, l'.Perm l ∧ Asc l' ∧ Kd.R Kd.string 9 w' base (fun _ => True) v (l'.map mk) ∧ W.grownBy w' v.ownBlock := by
  by_cases h2 : 1 ≤ l.length
  · obtain ⟨g, cap, rfl, hbg, hlt, _⟩ := Kd.R_form hR (by rw [List.length_map]; omega)
    rw [List.length_map] at hR ⊢
    refine (Tryz.sort_Strings g 0 cap l W (own_holds hR) hlt (by omega)).mono ?_
    rintro e w' ⟨rfl, n, os, rfl⟩
    obtain ⟨r1, r2⟩ := row_put hR (l.mergeSort fun x y => decide (x ≤ y)).toArray (by simp) n os
    exact ⟨rfl, l.mergeSort fun x y => decide (x ≤ y), List.mergeSort_perm _ _, asc_merge l, r1, r2⟩
  · obtain ⟨A, c, rfl⟩ := Kd.R_slice hR
    have h0 : l = [] := List.eq_nil_of_length_eq_zero (by omega)
    subst h0
    refine (Tryz.sort_Strings_none A c W).mono ?_
    rintro e w' ⟨rfl, rfl⟩
    exact ⟨rfl, [], List.Perm.refl _, List.Pairwise.nil, hR, ⟨rfl, rfl, rfl, Nat.le_refl _, fun _ _ _ => rfl⟩⟩
end Go.Proofs.YteigfmchnblkgaaGreatDoor.Hand
