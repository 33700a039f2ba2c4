/- MaxLenError of 253: it asks for the table of powers of ten. -/
import Derived.Test.YteigfmchnblkgaaDoorNmErrs
import Derived.Lib.AppendIntMem
namespace Go.Proofs.YteigfmchnblkgaaDoor.Hand
open Go.RowKit Go.Proofs.YteigfmchnblkgaaDoorW.PrintWords Go.Proofs.YteigfmchnblkgaaDoorW.PrintLast Go.Proofs.YteigfmchnblkgaaDoorW.PrintMore Go.Proofs.YteigfmchnblkgaaDoor.Base
set_option linter.unusedVariables false
set_option linter.unusedSimpArgs false
set_option maxRecDepth 100000

/-- The table of powers of ten. -/
abbrev Tab (w : World) : Prop := Lib.TabIs Tryd.prog w "internal/strconv.uint64pow10" .u64 Lib.pow10Tab
theorem Tab.below {w w' : World} (h : Tab w) (hb : Below w.heap.size w w') : Tab w' := Lib.tabBelow_of_tabIs h w' hb

/-- As Errs, of longer texts. -/
def Errs2 (P : Bool) (w : World) (e : Ending) (w' : World) : Prop :=
  ∃ (v0 : Value) (xs : List ByteArray), e = .returned v0 ∧ Kd.R Kd.string 9 w' w.heap.size (fun _ => True) v0 xs ∧ (xs == []) = P ∧ xs.length ≤ 20 ∧ (∀ p ∈ xs, p.size ≤ 2000000) ∧ Below w.heap.size w w'
theorem MaxLen_tab (w : World) (hT : Tab w) :
    Calls Tryd.prog 49 #[.int .i64 253] w fun e w' => ∃ m, e = .returned (.string m) ∧ m.size ≤ 4000 ∧ Below w.heap.size w w' := by
  have HB := Aside0.mk (Below.refl w.heap.size w)
  obtain ⟨d, hd, hdz⟩ : ∃ d : ByteArray, (⟨(Lib.itoa 253).toArray⟩ : ByteArray) = d ∧ d.size ≤ 100 := ⟨_, rfl, by decide +kernel⟩
  have h1 : ∀ w', Tab w' → Calls Tryd.prog 43 #[.int .i64 253] w' fun e w2 => e = .returned (.string d) ∧ Below w'.heap.size w' w2 := fun w' hT' => by
    have h := Tryd.strconv_Itoa 253 (by decide) (by decide) w' hT'
    rw [hd] at h
    exact h.mono fun e w2 ⟨h1, k, os, h2⟩ => ⟨h1, by rw [h2]; exact Lib.below_grow _ _ (Nat.le_refl _) k os⟩
  have H1 := Aside0.mk h1
  have HT := Aside0.mk hT
  clear h1 hd hT
  have c1 : (21 + d.size ≤ 9223372036854775807) = True := eq_true (by omega)
  have c2 : (9223372036854775807 < 21 + d.size) = False := eq_false (by omega)
  have c3 : (21 + d.size + 11 ≤ 9223372036854775807) = True := eq_true (by omega)
  have c4 : (9223372036854775807 < 21 + d.size + 11) = False := eq_false (by omega)
  go_enter Tryd.func49, Tryd.ntmps49
  go_wp2_with (first | ((with_reducible refine (H1.out _ (HT.out.below (by repeat (first | (with_reducible first | exact HB.out | apply below_alloc | apply pw_below_drewN | apply below_drew1) | exact HB.out)))).mono ?_); rintro e w' ⟨rfl, hb⟩; have nb_ := Aside0.mk (below_step (by repeat (first | (with_reducible first | exact HB.out | apply below_alloc | apply pw_below_drewN | apply below_drew1) | exact HB.out)) hb); clear HB; have HB := nb_; clear nb_; (try clear hb)))
  go_ret
  refine ⟨_, rfl, ?_, (by repeat (first | (with_reducible first | exact HB.out | apply below_alloc | apply pw_below_drewN | apply below_drew1) | exact HB.out))⟩
  have z1 : ∀ d : Array UInt8, (ByteArray.mk d).size = d.size := fun _ => rfl
  simp only [app_size, z1]
  simp
  omega
end Go.Proofs.YteigfmchnblkgaaDoor.Hand
