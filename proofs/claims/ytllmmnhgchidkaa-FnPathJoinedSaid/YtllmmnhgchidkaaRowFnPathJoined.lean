/-
For at most 20 texts of at most 200 bytes of ASCII without a NUL, ZzJoin hands back what the reference JoinAll does, and RootedPath that behind a slash; for all other lists the law says nothing. No condition.
-/
import Derived.Test.YtllmmnhgchidkaaRows
import Derived.Test.YtllmmnhgchidkaaPathJoined
import Derived.WalkKit
import Derived.ProofKit
import Derived.OpenShut
import Derived.ShutString
import Derived.ChangeOld
import Derived.Below
import Derived.SizedLaws
import Derived.Test.YtllmmnhgchidkaaRowAid
namespace Go.Proofs.Ytllmmnhgchidkaa.fnPathJoined
open Go.ChangeShapes Go.WideShapes Go.ChangeAt Go.RowKit
open Go.ChangeMaps (open_string shut_string)
set_option linter.unusedVariables false
theorem cellsS : Try.prog.cellsOf 9 = 1 := by kernel_rfl
theorem laidOut : laidOutB Try.prog = true := by kernel_rfl
theorem own : ownKnob Try.prog.godebug = none := by kernel_rfl
set_option maxRecDepth 100000 in
theorem lifted (os : Os) (started : os.Started) (H : Type) (enc : TypeId × Value → H) :
    ReturnsInHanded {} Try.checked os 6 .any (Rows.fnPathJoinedSpec.pre6 enc Try.prog Try.f6 Rows.fnPathJoinedRow.domain false) (Rows.fnPathJoinedSpec.post enc Try.prog Try.f6 false true false false) := by
  refine returnsInHanded_of_change_sized (C := Try.checked) own started (by kernel_rfl) Try.func6
    (ChangeSpec.witness6 (enc := enc) (C := Try.checked) false ⟨#[], #[.slice none 0 0], []⟩ 8 (by kernel_rfl) (by kernel_rfl) (by kernel_rfl) (by kernel_rfl)) ?_
  intro W base args ds gs before hval0 hW hcnd hsz0 _
  have hsz : (DataW.weightsEach Try.prog (Try.f6.params.toList ++ Rows.fnPathJoinedSpec.plain.varTypes Try.prog) (ds ++ gs)).all (· ≤ reachBytes) = true := hsz0
  have hval : ∀ (j : Nat) t v, Try.f6.params[j]? = some t → args[j]? = some v → Value.okWide Try.prog W .any base t v := hval0
  have hW' := hW
  obtain ⟨p, q, hA0, hV, rfl, hfz, hnd⟩ := hW
  have hA : DataW.TrodAll enc Try.prog W 0 (fun _ => true) true Try.f6.params.toList args.toList ds p := hA0
  rw [Try.params6] at hA hval hsz
  obtain ⟨v0, vs0, d0, ds0, p0, q0, hargs, rfl, rfl, h0, r0⟩ := trodAll_cons hA
  obtain ⟨rfl, rfl, rfl⟩ := trodAll_nil r0
  obtain rfl : args = #[v0] := by cases args; simp_all
  obtain ⟨rfl, rfl⟩ := trodVars_none hV
  obtain ⟨b0, len0, cap0, rfl⟩ := okWide_slice Try.underlying22 (hval 0 22 v0 rfl rfl)
  have h0k := h0
  obtain ⟨fu0, hf0⟩ := h0
  obtain ⟨l0, rfl, hc0, hcap0, _⟩ := Base.open_strs Try.underlying22 Try.underlying9 cellsS (by simpa [Value.cells] using hf0)
  have hlt0 : ∀ x ∈ p0, x.block < W.heap.size := fun x hx => by simpa using hW'.lt x (by simp [hx])
  clear hA0 hval0 hsz0 hsz
  refine (Hand.FnPathJoined_calls b0 cap0 l0 W hc0 hcap0 ).mono fun e W' ⟨he, bel⟩ => ?_
  subst he
  exact ⟨_, rfl, _, _, _, [], _, [], hW', trodAll_mk1 (shut_bool Try.underlying4 _), (trodAll_cons_mk (Below.trod laidOut (by kernel_rfl) (of_decide_eq_true (by kernel_rfl)) h0k bel hlt0) trodAll_mk0), rfl, bel.frame _, fun h => by cases h⟩
theorem over : Rows.fnPathJoinedRow.holds Try.pinned (OpenSpec.ofChange Rows.fnPathJoinedSpec) :=
  OpenClaim.holds_of_wide 6 Try.f6 rfl rfl rfl rfl rfl rfl rfl ⟨rfl, rfl, rfl, rfl, rfl⟩ rfl rfl rfl rfl rfl (by kernel_rfl) Try.func6 (by kernel_rfl)
    (of_decide_eq_true (by kernel_rfl)) (by unfold Func.isWrapper; first | (rw [if_pos (by decide +kernel)]; kernel_rfl) | (rw [if_neg (by decide +kernel)]; exact ⟨rfl, rfl⟩))
    (fun os started H enc _ => lifted os started H enc)
end Go.Proofs.Ytllmmnhgchidkaa.fnPathJoined
namespace Go.Proofs.Ytllmmnhgchidkaa
theorem fnPathJoined_holds : Rows.FnPathJoinedSaid := fnPathJoined.over
#print axioms fnPathJoined_holds
end Go.Proofs.Ytllmmnhgchidkaa
