/- Small lemmas on cells of lists of texts. -/
import Derived.Test.YteigfmchnblkgaaDoorNmWild
namespace Go.Proofs.YteigfmchnblkgaaDoor.Hand
open Go.RowKit Go.Proofs.YteigfmchnblkgaaDoorW.PrintWords Go.Proofs.YteigfmchnblkgaaDoorW.PrintLast Go.Proofs.YteigfmchnblkgaaDoorW.PrintMore Go.Proofs.YteigfmchnblkgaaDoor.Base
set_option linter.unusedVariables false
set_option linter.unusedSimpArgs false
theorem add0 (ad : Addr) : ad.add 0 = ad := by cases ad; rfl
def two0 (a b : ByteArray) : List ByteArray := [a, b]
/-- The cells of a list of two texts. -/
theorem two_cells {w : World} {A : Option Addr} {n : Nat} {a b : ByteArray} (h : Kd.C Kd.string w A n [a, b]) : ∃ ad, A = some ad ∧ w.cell? ad = some (.string a) ∧ w.cell? ⟨ad.block, ad.off + 1, none⟩ = some (.string b) := by
  have hn := Kd.C_len h
  obtain ⟨ad, e, h0⟩ := Kd.at_string h 0 (by omega) (by simp at hn; omega)
  obtain ⟨ad2, e2, h1⟩ := Kd.at_string h 1 (by omega) (by simp at hn; omega)
  rw [e] at e2
  obtain rfl := Option.some.inj e2
  have e1 := add_field ad 0 1 (by decide)
  rw [add0, Nat.zero_add] at e1
  rw [show (1 : Int).toNat = 1 from rfl, e1] at h1
  refine ⟨ad, e, ?_, h1⟩
  rw [show (0 : Int).toNat = 0 from rfl, add0] at h0
  exact h0
theorem take_one {α : Type} (xs : List α) (j : Nat) (h : j < xs.length) : xs.take j ++ [xs[j]] = xs.take (j + 1) := by
  rw [List.take_add_one, List.getElem?_eq_getElem h]; rfl
theorem sub_nil : (most 253 ([] : L) && sub []) = false := by decide
end Go.Proofs.YteigfmchnblkgaaDoor.Hand
