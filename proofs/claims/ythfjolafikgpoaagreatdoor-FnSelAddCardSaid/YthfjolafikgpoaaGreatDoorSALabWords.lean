/- spec.Words over one requirement. -/
import Derived.Test.YthfjolafikgpoaaGreatDoorSALabFair
import Derived.Test.YthfjolafikgpoaaGreatDoorSALabSetOf
import Derived.RegionTactic
import Derived.Deep.RegionLaw
import Derived.Deep.RegionWith
import Derived.Deep.RegionHeldLaw
namespace Go.Proofs.YthfjolafikgpoaaGreatDoor.Hand
open Go.RowKit Go.Maps Go.Proofs.YthfjolafikgpoaaGreatDoorW.PrintWords Go.Proofs.YthfjolafikgpoaaGreatDoorW.PrintLast Go.Proofs.YthfjolafikgpoaaGreatDoorW.PrintMore Go.Proofs.YthfjolafikgpoaaGreatDoor.Base
set_option linter.unusedVariables false
set_option linter.unusedSimpArgs false
set_option maxRecDepth 100000
def tot (vs : List ByteArray) : Nat := (vs.map (·.size)).sum
theorem tot_take {vs : List ByteArray} {j : Nat} {p : ByteArray} (h : vs[j]? = some p) : tot (vs.take (j + 1)) = tot (vs.take j) + p.size := by
 rw [List.take_add_one, h]; simp [tot]
theorem tot_le {vs : List ByteArray} {M : Nat} (h : ∀ p ∈ vs, p.size ≤ M) : tot vs ≤ M * vs.length := by
 induction vs with
 | nil => simp [tot]
 | cons a l ih =>
   have h1 := h a (by simp)
   have h2 := ih fun p hp => h p (List.mem_cons_of_mem _ hp)
   simp only [tot, List.map_cons, List.sum_cons, List.length_cons, Nat.mul_succ] at *
   omega
theorem mk_vL (vs : List ByteArray) : (vL vs).map mk = vs := by
 rw [vL, List.map_map]
 exact (List.map_congr_left (g := id) (fun p _ => rfl)).trans (List.map_id vs)
def okV (p : ByteArray) : Bool := !(p.toList == [105, 110]) && (!(p.toList == [110, 111, 116, 105, 110]) && !(p.toList == []))
theorem okV_take {vs : List ByteArray} {i : Nat} {p : ByteArray} (hp : vs[i]? = some p) (h : (vs.take i).all okV = true) (h2 : okV p = true) : (vs.take (i + 1)).all okV = true := by
 rw [List.take_add_one, hp]; simp only [List.all_append] at *; rw [h]; simp [h2]
theorem okV_bad {vs : List ByteArray} {i : Nat} {p : ByteArray} (hp : vs[i]? = some p) (h2 : okV p = false) : vs.all okV = false := by
 rw [List.all_eq_false]; exact ⟨p, List.mem_of_getElem? hp, by rw [h2]; simp⟩
end Go.Proofs.YthfjolafikgpoaaGreatDoor.Hand
