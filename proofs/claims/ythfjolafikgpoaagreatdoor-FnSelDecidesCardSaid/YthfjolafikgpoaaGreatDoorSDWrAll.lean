/- spec.WrittenAll: requirements as the text of a selector. -/
import Derived.Test.YthfjolafikgpoaaGreatDoorSDM28
import Derived.Test.YthfjolafikgpoaaGreatDoorSDLabSetOf
namespace Go.Proofs.YthfjolafikgpoaaGreatDoor.Hand
open Go.RowKit Go.Maps Go.Proofs.YthfjolafikgpoaaGreatDoorW.PrintWords Go.Proofs.YthfjolafikgpoaaGreatDoorW.PrintLast Go.Proofs.YthfjolafikgpoaaGreatDoorW.PrintMore Go.Proofs.YthfjolafikgpoaaGreatDoor.Base
set_option linter.unusedVariables false
set_option linter.unusedSimpArgs false
set_option maxRecDepth 100000
theorem mk_app_ (a b : L) : mk (a ++ b) = mk a ++ mk b := by apply ByteArray.ext; simp [mk, ByteArray.data_append]
def txtW (r : Rq) : ByteArray := textM r.2.1 (mk r.1) (joinB ⟨#[44]⟩ ((setL r.2.2).map mk))
theorem join_pcw (vs : List L) (cs : L) : joinB ⟨#[44]⟩ (vs.map mk) = mk (outL (pcwV vs) cs) := by
 cases vs with
 | nil => rfl
 | cons v r =>
   have h : ∀ (r : List L) (a : L), (r.map mk).foldl (fun x s => x ++ ⟨#[44]⟩ ++ s) (mk a) = mk (a ++ outL (r.flatMap fun s => [.str [44], .str s]) cs) := by
    intro r
    induction r with
    | nil => intro a; simp [outL]
    | cons s r ih =>
      intro a
      have e : mk a ++ (⟨#[44]⟩ : ByteArray) ++ mk s = mk (a ++ [44] ++ s) := by rw [mk_app_, mk_app_]; rfl
      show (r.map mk).foldl _ (mk a ++ ⟨#[44]⟩ ++ mk s) = _
      rw [e, ih]
      congr 1
      rw [List.flatMap_cons]
      show _ = a ++ ([44] ++ (s ++ outL (r.flatMap fun s => [.str [44], .str s]) cs))
      simp only [List.append_assoc]
   show (r.map mk).foldl _ (ByteArray.empty ++ mk v) = mk (v ++ outL (r.flatMap fun s => [.str [44], .str s]) cs)
   rw [ByteArray.empty_append, h]
end Go.Proofs.YthfjolafikgpoaaGreatDoor.Hand
