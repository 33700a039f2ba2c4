/- Requirements as text, with blanks by choices: the tokens of that text, and what the parser makes of them. No program in sight. -/
import Derived.Test.YthfjolafikgpoaaGreatDoorDLGParA
import Derived.Test.YthfjolafikgpoaaGreatDoorDLGParB
namespace Go.Proofs.YthfjolafikgpoaaGreatDoor.Hand
open Go.RowKit Go.Proofs.YthfjolafikgpoaaGreatDoor.Base
set_option linter.unusedVariables false
set_option linter.unusedSimpArgs false
set_option maxRecDepth 100000
end Go.Proofs.YthfjolafikgpoaaGreatDoor.Hand

/- spec.spaced and spec.Freely's own gap: a blank by choice. -/
namespace Go.Proofs.YthfjolafikgpoaaGreatDoor.Hand
open Go.RowKit Go.Maps Go.Proofs.YthfjolafikgpoaaGreatDoorW.PrintWords Go.Proofs.YthfjolafikgpoaaGreatDoorW.PrintLast Go.Proofs.YthfjolafikgpoaaGreatDoorW.PrintMore Go.Proofs.YthfjolafikgpoaaGreatDoor.Base
set_option linter.unusedVariables false
set_option linter.unusedSimpArgs false
set_option maxRecDepth 100000
theorem add_block_ (ad : Addr) (n : Nat) : (ad.add n).block = ad.block := by unfold Addr.add; split <;> rfl
/-- A slice of bytes in memory. -/
def Bts (W : World) (A : Option Addr) (n : Nat) (cs : L) : Prop := cs.length = n ∧ n ≤ 9223372036854775807 ∧ ∀ i : Nat, ∀ c : UInt8, cs[i]? = some c → ∃ ad, A = some ad ∧ W.cell? (ad.add i) = some (.int .u8 (c.toNat : Int)) ∧ ad.block < W.heap.size
theorem Bts.below {W W' : World} {A : Option Addr} {n : Nat} {cs : L} (h : Bts W A n cs) (hb : Below W.heap.size W W') : Bts W' A n cs :=
  ⟨h.1, h.2.1, fun i c hc => by
    obtain ⟨ad, e, h1, h2⟩ := h.2.2 i c hc
    exact ⟨ad, e, (hb.cell (p := ad.add i) (by rw [add_block_]; exact h2)).trans h1, Nat.lt_of_lt_of_le h2 hb.size⟩⟩
end Go.Proofs.YthfjolafikgpoaaGreatDoor.Hand
