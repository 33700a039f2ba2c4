/- An argument that is a slice of strings, opened as a row that is read. -/
import Derived.Test.YtllmmnhgchidkaaBase
import Derived.WalkKit
import Derived.ProofKit
import Derived.OpenShut
import Derived.SliceStrings
import Derived.Carry
namespace Go.Proofs.Ytllmmnhgchidkaa.Base
open Go.ChangeShapes Go.WideShapes Go.ChangeAt Go.RowKit Go.Proofs.YtllmmnhgchidkaaW.PrintWords Go.Proofs.YtllmmnhgchidkaaW.PrintLast

theorem open_strs {H : Type} {enc : TypeId × Value → H} {P : Program} {W : World} {fuel : Nat} {t e : TypeId} {a0 : Option Addr} {len cap : Nat} {x : DataW H × List MemPlace}
    (ht : P.underlying t = some (.slice e)) (he : P.underlying e = some .string) (hc : P.cellsOf e = 1)
    (h : DataW.trod enc P W 0 (fun _ => true) true fuel t [.slice a0 len cap] = some x) :
    ∃ l : List L, len = l.length ∧ Kd.C Kd.string W a0 l.length (l.map mk) ∧ len ≤ cap ∧ len ≤ 9223372036854775807 := by
  rcases open_strings ht he hc h with ⟨hcs, _⟩ | ⟨a, len', cap', ss, hcs, _, hl, hm, hz, _, hcell, _⟩
  · simp only [List.cons.injEq, Value.slice.injEq, and_true] at hcs
    obtain ⟨rfl, rfl, rfl⟩ := hcs
    exact ⟨[], rfl, Kd.C_nil _ _, by omega, by omega⟩
  · simp only [List.cons.injEq, Value.slice.injEq, and_true] at hcs
    obtain ⟨rfl, rfl, rfl⟩ := hcs
    simp only [if_true] at hz
    unfold maxLen at hm
    refine ⟨(ss.take len).map (·.data.toList), by simp; omega, ?_, hl, by omega⟩
    have e1 : ((ss.take len).map (·.data.toList)).map mk = ss.take len := by
      rw [List.map_map]
      exact (List.map_congr_left (fun s _ => (mk_of s).symm)).trans (List.map_id _)
    rw [e1]
    have e2 : ((ss.take len).map (·.data.toList)).length = len := by simp; omega
    rw [e2]
    refine Kd.C_of_reads (d := ByteArray.empty) ⟨by simp; omega, by omega, fun _ => ⟨a, rfl, fun j hj => ?_⟩⟩
    rw [hcell j (by omega)]
    congr 2
    rw [List.getD_eq_getElem?_getD, List.getD_eq_getElem?_getD, List.getElem?_take_of_lt hj]
end Go.Proofs.Ytllmmnhgchidkaa.Base
