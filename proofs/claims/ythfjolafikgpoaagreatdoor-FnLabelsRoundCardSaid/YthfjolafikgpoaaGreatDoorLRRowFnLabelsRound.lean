/-
Labels that are written are read as they are; merged with themselves they are they; they neither conflict with themselves, nor are they unlike themselves
-/
import Derived.Test.YthfjolafikgpoaaGreatDoorLRM10
import Derived.Test.YthfjolafikgpoaaGreatDoorLRM38
import Derived.ShutString
import Derived.ChangeOld
import Derived.Below
import Derived.SizedLaws
namespace Go.Proofs.YthfjolafikgpoaaGreatDoor.fnLabelsRound
open Go.ChangeShapes Go.WideShapes Go.ChangeAt Go.RowKit Go.Proofs.YthfjolafikgpoaaGreatDoor.Laid
open Go.ChangeMaps (open_string shut_string)
set_option linter.unusedVariables false
theorem laidOut : laidOutB Tryz.prog = true := by kernel_rfl
set_option maxRecDepth 100000 in
theorem contract (H : Type) (enc : TypeId × Value → H) (W : World) (base : Nat) (args : Array Value) (ds gs : List (DataW H)) (before : List MemPlace)
    (hval : ∀ (j : Nat) t v, Tryz.f7.params[j]? = some t → args[j]? = some v → Value.okWide Tryz.prog W .any base t v)
    (hW : DataW.Whole enc Tryz.prog Tryz.f7.params.toList Rows.fnLabelsRoundSpec.vars false W args.toList ds gs before) (hL : laidMetH Tryz.prog Rows.fnLabelsRoundRow.laid W) :
    Calls Tryz.prog 7 args W fun e W' => ∃ v, e = .returned v ∧ Rows.fnLabelsRoundSpec.post enc Tryz.prog Tryz.f7 false true false false W args v W' := by
  have hW' := hW
  obtain ⟨p, q, hA0, hV, rfl, hfz, hnd⟩ := hW
  have hA : DataW.TrodAll enc Tryz.prog W 0 (fun _ => true) true Tryz.f7.params.toList args.toList ds p := hA0
  rw [Tryz.params7] at hA hval
  obtain ⟨v0, vs0, d0, ds0, p0, q0, hargs, rfl, rfl, h0, r0⟩ := trodAll_cons hA
  obtain ⟨rfl, rfl, rfl⟩ := trodAll_nil r0
  obtain rfl : args = #[v0] := by cases args; simp_all
  obtain ⟨rfl, rfl⟩ := trodVars_none hV
  have hlt0 : ∀ x ∈ p0, x.block < W.heap.size := fun x hx => by simpa using hW'.lt x (by simp [hx])
  obtain ⟨A0, c0, n0, l0, rfl, hn0, hc0, hC0⟩ := Laid.open_pairs h0 (okWide_slice Tryz.underlying37 (hval 0 37 v0 rfl rfl))
  clear hA0
  refine (Hand.LR_calls A0 c0 n0 l0 hn0 hc0 W hC0 (Laid.tvF hL)).mono fun e W' ⟨he, bel⟩ => ?_
  subst he
  exact ⟨_, rfl, _, _, _, [], _, [], hW', trodAll_mk1 (shut_bool Tryz.underlying4 _), (trodAll_cons_mk (Below.trod laidOut (by kernel_rfl) (of_decide_eq_true (by kernel_rfl)) h0 bel hlt0) trodAll_mk0), rfl, bel.frame _, fun h => by cases h⟩
set_option maxRecDepth 100000 in
theorem lifted (os : Os) (started : os.Started) (H : Type) (enc : TypeId × Value → H) (F : Stop.Interp) :
    ReturnsInHanded {} Tryz.checked os 7 .any ((OpenSpec.ofChange Rows.fnLabelsRoundSpec).preRow enc Tryz.prog Tryz.f7 Rows.fnLabelsRoundRow.domain false Rows.fnLabelsRoundRow.laid) (((OpenSpec.ofChange Rows.fnLabelsRoundSpec).at F).post enc Tryz.prog Tryz.f7 false true false false) := by
  obtain ⟨places, hx⟩ : ∃ places, DataW.whole enc Tryz.prog ((laidWorldF os).forCall (fun _ _ => 0) ⟨#[], #[.slice none 0 0], []⟩).memory Tryz.f7.params.toList Rows.fnLabelsRoundSpec.vars false (#[.slice none 0 0] : Array Value).toList 8 = some ([.nil], [], places) := ⟨[], by kernel_rfl⟩
  refine returnsInHanded_of_row (C := Tryz.checked) (s := OpenSpec.ofChange Rows.fnLabelsRoundSpec) own started (by kernel_rfl) Tryz.func7
    (witness_row_at (enc := enc) (C := Tryz.checked) false (laidWorldF os) #[.slice none 0 0] rfl (by kernel_rfl) (by kernel_rfl) (by kernel_rfl)
      (OpenSpec.preRow_of_cond 8 hx (by kernel_rfl) (fun k hk => by cases hk) (by kernel_rfl) (laidF_met os _))) ?_
  intro W base args ds gs before hval hW _ _ _ hL _ _
  exact contract H enc W base args ds gs before hval hW hL
theorem closed : joinedFacts Tryz.prog 7 Tryz.f7 (OpenSpec.ofChange Rows.fnLabelsRoundSpec).bare Rows.fnLabelsRoundRow = true := by
  unfold joinedFacts
  rw [Heads.mayEnter, Heads.liftsFinal, Heads.make]
  kernel_rfl
theorem said : Rows.FnLabelsRoundSaid :=
  OpenClaim.holds_of_cond 7 Tryz.f7 rfl rfl rfl rfl rfl rfl rfl ⟨rfl, rfl, rfl, rfl, rfl⟩ rfl rfl rfl rfl rfl (by kernel_rfl) Tryz.func7 closed
    (of_decide_eq_true (by kernel_rfl)) (by unfold Func.isWrapper; first | (rw [if_pos (by decide +kernel)]; kernel_rfl) | (rw [if_neg (by decide +kernel)]; exact ⟨rfl, rfl⟩))
    (fun os started H enc _ F => by rw [OpenClaim.pre_eq_preRow]; exact lifted os started H enc F)
theorem plain (f : FuncId) (fn : Func) (hf : Tryz.pinned.checked.prog.funcNamed "given.example/pub-epode/laws.FnLabelsRound" = some f) (hfn : Tryz.pinned.checked.prog.funcs[f]? = some fn) :
    true = Tryz.pinned.checked.prog.looks [] ∧ ∀ (j : Nat) t, fn.params[j]? = some t → Tryz.pinned.checked.prog.wantsStandIn t = false := by
  obtain rfl : f = 7 := Option.some.inj ((show Tryz.prog.funcNamed "given.example/pub-epode/laws.FnLabelsRound" = some 7 by kernel_rfl).symm.trans hf) |>.symm
  obtain rfl : fn = Tryz.f7 := (Option.some.inj (Tryz.func7.symm.trans hfn)).symm
  refine ⟨by kernel_rfl, fun j t ht => ?_⟩
  rw [Tryz.params7] at ht
  obtain rfl : t = 37 := by simpa using Array.mem_of_getElem? ht
  exact (show Tryz.prog.wantsStandIn 37 = false by kernel_rfl)
theorem card : Rows.FnLabelsRoundCardSaid :=
  Claim7.holds_tied_plain_at .later [] _ _ _ _ said (fun _ h => by cases h) (by kernel_rfl) (fun _ h => by cases h) fnLabelsRound_row_tie rfl ⟨rfl, rfl⟩ Heads.mainIs rfl plain (by kernel_rfl)
end Go.Proofs.YthfjolafikgpoaaGreatDoor.fnLabelsRound
namespace Go.Proofs.YthfjolafikgpoaaGreatDoor
theorem fnLabelsRound_holds : Rows.FnLabelsRoundCardSaid := fnLabelsRound.card
#print axioms fnLabelsRound_holds
end Go.Proofs.YthfjolafikgpoaaGreatDoor
