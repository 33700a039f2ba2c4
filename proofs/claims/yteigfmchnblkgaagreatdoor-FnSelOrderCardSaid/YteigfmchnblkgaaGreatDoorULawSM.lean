/- The law FnSelMatches. (Printed by lawsm.py.) -/
import Derived.Test.YteigfmchnblkgaaGreatDoorUGSelB
import Derived.Test.YteigfmchnblkgaaGreatDoorUGSpA
import Derived.Test.YteigfmchnblkgaaGreatDoorULabFits
import Derived.Test.YteigfmchnblkgaaGreatDoorUFits3
import Derived.Test.YteigfmchnblkgaaGreatDoorUSmP
import Derived.Test.YteigfmchnblkgaaGreatDoorUFreely
namespace Go.Proofs.YteigfmchnblkgaaGreatDoor.Hand
open Go.RowKit Go.Maps Go.Proofs.YteigfmchnblkgaaGreatDoorW.PrintWords Go.Proofs.YteigfmchnblkgaaGreatDoorW.PrintLast Go.Proofs.YteigfmchnblkgaaGreatDoorW.PrintMore Go.Proofs.YteigfmchnblkgaaGreatDoor.Base
set_option linter.unusedVariables false
set_option linter.unusedSimpArgs false
set_option maxRecDepth 100000
theorem Bts.at_ {w W : World} {A : Option Addr} {n : Nat} {cs : L} (h : Bts w A n cs) (hb : Below w.heap.size w W) : Bts W A n cs :=
  ⟨h.1, h.2.1, fun i c hc => by
    obtain ⟨ad, e, h1, h2⟩ := h.2.2 i c hc
    exact ⟨ad, e, (hb.cell (p := ad.add i) (by rw [add_block_]; exact h2)).trans h1, Nat.lt_of_lt_of_le h2 hb.size⟩⟩
theorem totR_mem {r : Rq} : ∀ {l : List Rq}, r ∈ l → r.1.length + totL r.2.2 ≤ totR l
  | y :: l, h => by
    show _ ≤ (y.1.length + totL y.2.2) + totR l
    rcases List.mem_cons.1 h with h | h
    · rw [h]; omega
    · have := totR_mem h; omega
end Go.Proofs.YteigfmchnblkgaaGreatDoor.Hand
