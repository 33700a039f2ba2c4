/-
Any text is a selector, with its requirements in any order, or is refused, as the reference says. For texts of at most 300 bytes of ASCII without a NUL.
-/
import Derived.Test.YthfjolafikgpoaaGreatDoorSDM10
import Derived.Test.YthfjolafikgpoaaGreatDoorSDM23
import Derived.Test.YthfjolafikgpoaaGreatDoorSDM43
import Derived.ShutString
import Derived.ChangeOld
import Derived.Below
import Derived.SizedLaws
namespace Go.Proofs.YthfjolafikgpoaaGreatDoor.fnSelDecides
open Go.ChangeShapes Go.WideShapes Go.ChangeAt Go.RowKit Go.Proofs.YthfjolafikgpoaaGreatDoor.Laid
open Go.ChangeMaps (open_string shut_string)
set_option linter.unusedVariables false
theorem laidOut : laidOutB Tryz.prog = true := by kernel_rfl
set_option maxRecDepth 100000 in
theorem contract (H : Type) (enc : TypeId × Value → H) (W : World) (base : Nat) (args : Array Value) (ds gs : List (DataW H)) (before : List MemPlace)
   (hval : ∀ (j : Nat) t v, Tryz.f8.params[j]? = some t → args[j]? = some v → Value.okWide Tryz.prog W .any base t v)
   (hW : DataW.Whole enc Tryz.prog Tryz.f8.params.toList Rows.fnSelDecidesSpec.vars false W args.toList ds gs before) (hL : laidMetH Tryz.prog Rows.fnSelDecidesRow.laid W) :
   Calls Tryz.prog 8 args W fun e W' => ∃ v, e = .returned v ∧ Rows.fnSelDecidesSpec.post enc Tryz.prog Tryz.f8 false true false false W args v W' := by
 have hW' := hW
 obtain ⟨p, q, hA0, hV, rfl, hfz, hnd⟩ := hW
 have hA : DataW.TrodAll enc Tryz.prog W 0 (fun _ => true) true Tryz.f8.params.toList args.toList ds p := hA0
 rw [Tryz.params8] at hA hval
 obtain ⟨v0, vs0, d0, ds0, p0, q0, hargs, rfl, rfl, h0, r0⟩ := trodAll_cons hA
 obtain ⟨rfl, rfl, rfl⟩ := trodAll_nil r0
 obtain rfl : args = #[v0] := by cases args; simp_all
 obtain ⟨rfl, rfl⟩ := trodVars_none hV
 have hlt0 : ∀ x ∈ p0, x.block < W.heap.size := fun x hx => by simpa using hW'.lt x (by simp [hx])
 obtain ⟨s0, rfl⟩ := Laid.open_text (hval 0 9 v0 rfl rfl) h0
 clear hA0
 refine (Hand.SD_calls s0 W  (Laid.tv hL)).mono fun e W' ⟨he, bel⟩ => ?_
 subst he
 exact ⟨_, rfl, _, _, _, [], _, [], hW', trodAll_mk1 (shut_bool Tryz.underlying4 _), (trodAll_cons_mk (Below.trod laidOut (by kernel_rfl) (of_decide_eq_true (by kernel_rfl)) h0 bel hlt0) trodAll_mk0), rfl, bel.frame _, fun h => by cases h⟩
set_option maxRecDepth 100000 in
theorem lifted (os : Os) (started : os.Started) (H : Type) (enc : TypeId × Value → H) (F : Stop.Interp) :
   ReturnsInHanded {} Tryz.checked os 8 .any ((OpenSpec.ofChange Rows.fnSelDecidesSpec).preRow enc Tryz.prog Tryz.f8 Rows.fnSelDecidesRow.domain false Rows.fnSelDecidesRow.laid) (((OpenSpec.ofChange Rows.fnSelDecidesSpec).at F).post enc Tryz.prog Tryz.f8 false true false false) := by
 obtain ⟨places, hx⟩ : ∃ places, DataW.whole enc Tryz.prog ((laidWorld os).forCall (fun _ _ => 0) ⟨#[], #[.string ByteArray.empty], []⟩).memory Tryz.f8.params.toList Rows.fnSelDecidesSpec.vars false (#[.string ByteArray.empty] : Array Value).toList 8 = some ([.lit (.string [])], [], places) := ⟨[], by kernel_rfl⟩
 refine returnsInHanded_of_row (C := Tryz.checked) (s := OpenSpec.ofChange Rows.fnSelDecidesSpec) own started (by kernel_rfl) Tryz.func8
   (witness_row_at (enc := enc) (C := Tryz.checked) false (laidWorld os) #[.string ByteArray.empty] rfl (by kernel_rfl) (by kernel_rfl) (by kernel_rfl)
     (OpenSpec.preRow_of_cond 8 hx (by kernel_rfl) (fun k hk => by cases hk) (by kernel_rfl) (laid_met os _))) ?_
 intro W base args ds gs before hval hW _ _ _ hL _ _
 exact contract H enc W base args ds gs before hval hW hL
theorem closed : joinedFacts Tryz.prog 8 Tryz.f8 (OpenSpec.ofChange Rows.fnSelDecidesSpec).bare Rows.fnSelDecidesRow = true := by
 unfold joinedFacts
 rw [Heads.mayEnter, Heads.liftsFinal, Heads.make]
 kernel_rfl
theorem said : Rows.FnSelDecidesSaid :=
 OpenClaim.holds_of_cond 8 Tryz.f8 rfl rfl rfl rfl rfl rfl rfl ⟨rfl, rfl, rfl, rfl, rfl⟩ rfl rfl rfl rfl rfl (by kernel_rfl) Tryz.func8 closed
   (of_decide_eq_true (by kernel_rfl)) (by unfold Func.isWrapper; first | (rw [if_pos (by decide +kernel)]; kernel_rfl) | (rw [if_neg (by decide +kernel)]; exact ⟨rfl, rfl⟩))
   (fun os started H enc _ F => by rw [OpenClaim.pre_eq_preRow]; exact lifted os started H enc F)
theorem plain (f : FuncId) (fn : Func) (hf : Tryz.pinned.checked.prog.funcNamed "given.example/pub-epode/laws.FnSelDecides" = some f) (hfn : Tryz.pinned.checked.prog.funcs[f]? = some fn) :
   true = Tryz.pinned.checked.prog.looks [] ∧ ∀ (j : Nat) t, fn.params[j]? = some t → Tryz.pinned.checked.prog.wantsStandIn t = false := by
 obtain rfl : f = 8 := Option.some.inj ((show Tryz.prog.funcNamed "given.example/pub-epode/laws.FnSelDecides" = some 8 by kernel_rfl).symm.trans hf) |>.symm
 obtain rfl : fn = Tryz.f8 := (Option.some.inj (Tryz.func8.symm.trans hfn)).symm
 refine ⟨by kernel_rfl, fun j t ht => ?_⟩
 rw [Tryz.params8] at ht
 obtain rfl : t = 9 := by simpa using Array.mem_of_getElem? ht
 exact (show Tryz.prog.wantsStandIn 9 = false by kernel_rfl)
theorem card : Rows.FnSelDecidesCardSaid :=
 Claim7.holds_tied_plain_at .later [] _ _ _ _ said (fun _ h => by cases h) (by kernel_rfl) (fun _ h => by cases h) fnSelDecides_row_tie rfl ⟨rfl, rfl⟩ Heads.mainIs rfl plain (by kernel_rfl)
end Go.Proofs.YthfjolafikgpoaaGreatDoor.fnSelDecides
namespace Go.Proofs.YthfjolafikgpoaaGreatDoor
theorem fnSelDecides_holds : Rows.FnSelDecidesCardSaid := fnSelDecides.card
#print axioms fnSelDecides_holds
end Go.Proofs.YthfjolafikgpoaaGreatDoor
