/- Arguments that are a requirement, labels: opened to what the walks ask for. -/
import Derived.Test.YteigfmchnblkgaaGreatDoorRTGLabA
import Derived.Lib.SmallJoins
import Derived.Deep.Slices
import Derived.Deep.Fields
import Derived.ChangeSame
import Derived.WalkKit
import Derived.ProofKit
import Derived.OpenShut
import Derived.SliceStrings
import Derived.Carry
set_option maxRecDepth 100000
namespace Go.Proofs.YteigfmchnblkgaaGreatDoor.Laid
open Go.Joins Go.ChangeShapes Go.WideShapes Go.RowKit Go.Deep Go.ChangeAt Go.Proofs.YteigfmchnblkgaaGreatDoorW.PrintWords Go.Proofs.YteigfmchnblkgaaGreatDoor.Hand
section
variable {H : Type} {enc : TypeId × Value → H} {P : Program} {w : World} {base : Nat} {spare : Nat → Bool} {held : Bool}
end
section
variable {H : Type} {enc : TypeId × Value → H} {W : World}
theorem c_of_strings {fuel : Nat} {cs : List Value} {x : DataW H × List MemPlace} (h : DataW.trod enc Tryz.prog W 0 (fun _ => true) true fuel 29 cs = some x) :
    ∃ (A : Option Addr) (c n : Nat) (vs : List ByteArray), cs = [.slice A n c] ∧ vs.length = n ∧ n ≤ c ∧ Kd.C Kd.string W A n vs := by
  rcases open_strings (e := 9) Tryz.underlying29 Tryz.underlying9 (by kernel_rfl) h with ⟨hcs, _⟩ | ⟨a, len, cap, ss, hcs, _, hl, hm, hz, _, hcell, _⟩
  · exact ⟨none, 0, 0, [], hcs, rfl, Nat.le_refl _, Kd.C_nil _ _⟩
  · simp only [if_true] at hz
    unfold maxLen at hm
    refine ⟨some a, cap, len, ss.take len, hcs, by simp; omega, hl, ?_⟩
    refine Kd.C_of_reads (d := ByteArray.empty) ⟨by simp; omega, by omega, fun _ => ⟨a, rfl, fun j hj => ?_⟩⟩
    rw [hcell j (by omega)]
    congr 2
    rw [List.getD_eq_getElem?_getD, List.getD_eq_getElem?_getD, List.getElem?_take_of_lt hj]
theorem open_req {r : Reach} {b0 : Nat} {v : Value} {d : DataW H} {p : List MemPlace} (hv : Value.okWide Tryz.prog W r b0 31 v) (h : DataW.Trod enc Tryz.prog W 0 (fun _ => true) true 31 v d p) :
    ∃ (key op : ByteArray) (A : Option Addr) (c n : Nat) (vs : List ByteArray), v = .agg #[.string key, .string op, .slice A n c] ∧ vs.length = n ∧ n ≤ c ∧ Kd.C Kd.string W A n vs := by
  obtain ⟨v0, v1, v2, y0, y1, y2, n, rfl, _, _, h0, h1, h2⟩ := open_agg3 Tryz.underlying31 (by kernel_rfl) (by kernel_rfl) hv h
  obtain ⟨key, e0, _, _⟩ := DataW.trod_string Tryz.underlying9 h0
  obtain ⟨op, e1, _, _⟩ := DataW.trod_string Tryz.underlying9 h1
  obtain ⟨A, c, m, vs, e2, hl, hc, hC⟩ := c_of_strings h2
  simp only [List.cons.injEq, and_true] at e0 e1 e2
  subst e0 e1 e2
  exact ⟨key, op, A, c, m, vs, rfl, hl, hc, hC⟩
end
end Go.Proofs.YteigfmchnblkgaaGreatDoor.Laid
