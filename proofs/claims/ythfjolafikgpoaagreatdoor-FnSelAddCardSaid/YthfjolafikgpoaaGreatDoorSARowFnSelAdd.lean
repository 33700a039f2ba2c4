/-
Requirements that are added to a selector stand among its own by their keys; it is empty if there is none. For at most 6 requirements in all as spec.Words says.
-/
import Derived.Test.YthfjolafikgpoaaGreatDoorSAM10
import Derived.Test.YthfjolafikgpoaaGreatDoorSAM25
import Derived.Test.YthfjolafikgpoaaGreatDoorSALawSA
import Derived.ShutString
import Derived.ChangeOld
import Derived.Below
import Derived.SizedLaws
namespace Go.Proofs.YthfjolafikgpoaaGreatDoor.fnSelAdd
open Go.ChangeShapes Go.WideShapes Go.ChangeAt Go.RowKit Go.Proofs.YthfjolafikgpoaaGreatDoor.Laid
open Go.ChangeMaps (open_string shut_string)
set_option linter.unusedVariables false
theorem laidOut : laidOutB Tryz.prog = true := by kernel_rfl
set_option maxRecDepth 100000 in
theorem contract (H : Type) (enc : TypeId × Value → H) (W : World) (base : Nat) (args : Array Value) (ds gs : List (DataW H)) (before : List MemPlace)
   (hval : ∀ (j : Nat) t v, Tryz.f4.params[j]? = some t → args[j]? = some v → Value.okWide Tryz.prog W .any base t v)
   (hW : DataW.Whole enc Tryz.prog Tryz.f4.params.toList Rows.fnSelAddSpec.vars false W args.toList ds gs before) (hL : laidMetH Tryz.prog Rows.fnSelAddRow.laid W) :
   Calls Tryz.prog 4 args W fun e W' => ∃ v, e = .returned v ∧ Rows.fnSelAddSpec.post enc Tryz.prog Tryz.f4 false true false false W args v W' := by
 have hW' := hW
 obtain ⟨p, q, hA0, hV, rfl, hfz, hnd⟩ := hW
 have hA : DataW.TrodAll enc Tryz.prog W 0 (fun _ => true) true Tryz.f4.params.toList args.toList ds p := hA0
 rw [Tryz.params4] at hA hval
 obtain ⟨v0, vs0, d0, ds0, p0, q0, hargs, rfl, rfl, h0, r0⟩ := trodAll_cons hA
 obtain ⟨v1, vs1, d1, ds1, p1, q1, rfl, rfl, rfl, h1, r1⟩ := trodAll_cons r0
 obtain ⟨rfl, rfl, rfl⟩ := trodAll_nil r1
 obtain rfl : args = #[v0, v1] := by cases args; simp_all
 obtain ⟨rfl, rfl⟩ := trodVars_none hV
 have hlt0 : ∀ x ∈ p0, x.block < W.heap.size := fun x hx => by simpa using hW'.lt x (by simp [hx])
 obtain ⟨A0, c0, n0, l0, rfl, hn0, hc0, hm0, hC0⟩ := Laid.open_reqs h0 (okWide_slice Tryz.underlying22 (hval 0 22 v0 rfl rfl))
 have hlt1 : ∀ x ∈ p1, x.block < W.heap.size := fun x hx => by simpa using hW'.lt x (by simp [hx])
 obtain ⟨s1_, rfl, _, _, hw1⟩ := open_int Tryz.underlying5 (hval 1 5 v1 rfl rfl) h1
 obtain ⟨s1, rfl⟩ := Laid.byte_of hw1
 clear hA0
 refine (Hand.SA_calls A0 c0 n0 l0 hn0 hc0 hm0 s1 W hC0 (Laid.tv hL)).mono fun e W' ⟨he, bel⟩ => ?_
 subst he
 exact ⟨_, rfl, _, _, _, [], _, [], hW', trodAll_mk1 (shut_bool Tryz.underlying4 _), (trodAll_cons_mk (Below.trod laidOut (by kernel_rfl) (of_decide_eq_true (by kernel_rfl)) h0 bel hlt0) (trodAll_cons_mk (Below.trod laidOut (by kernel_rfl) (of_decide_eq_true (by kernel_rfl)) h1 bel hlt1) trodAll_mk0)), rfl, bel.frame _, fun h => by cases h⟩
set_option maxRecDepth 100000 in
theorem lifted (os : Os) (started : os.Started) (H : Type) (enc : TypeId × Value → H) (F : Stop.Interp) :
   ReturnsInHanded {} Tryz.checked os 4 .any ((OpenSpec.ofChange Rows.fnSelAddSpec).preRow enc Tryz.prog Tryz.f4 Rows.fnSelAddRow.domain false Rows.fnSelAddRow.laid) (((OpenSpec.ofChange Rows.fnSelAddSpec).at F).post enc Tryz.prog Tryz.f4 false true false false) := by
 obtain ⟨places, hx⟩ : ∃ places, DataW.whole enc Tryz.prog ((laidWorld os).forCall (fun _ _ => 0) ⟨#[], #[.slice none 0 0, .int .u8 0], []⟩).memory Tryz.f4.params.toList Rows.fnSelAddSpec.vars false (#[.slice none 0 0, .int .u8 0] : Array Value).toList 8 = some ([.nil, .lit (.int .u8 0)], [], places) := ⟨[], by kernel_rfl⟩
 refine returnsInHanded_of_row (C := Tryz.checked) (s := OpenSpec.ofChange Rows.fnSelAddSpec) own started (by kernel_rfl) Tryz.func4
   (witness_row_at (enc := enc) (C := Tryz.checked) false (laidWorld os) #[.slice none 0 0, .int .u8 0] rfl (by kernel_rfl) (by kernel_rfl) (by kernel_rfl)
     (OpenSpec.preRow_of_cond 8 hx (by kernel_rfl) (fun k hk => by cases hk) (by kernel_rfl) (laid_met os _))) ?_
 intro W base args ds gs before hval hW _ _ _ hL _ _
 exact contract H enc W base args ds gs before hval hW hL
theorem closed : joinedFacts Tryz.prog 4 Tryz.f4 (OpenSpec.ofChange Rows.fnSelAddSpec).bare Rows.fnSelAddRow = true := by
 unfold joinedFacts
 rw [Heads.mayEnter, Heads.liftsFinal, Heads.make]
 kernel_rfl
theorem said : Rows.FnSelAddSaid :=
 OpenClaim.holds_of_cond 4 Tryz.f4 rfl rfl rfl rfl rfl rfl rfl ⟨rfl, rfl, rfl, rfl, rfl⟩ rfl rfl rfl rfl rfl (by kernel_rfl) Tryz.func4 closed
   (of_decide_eq_true (by kernel_rfl)) (by unfold Func.isWrapper; first | (rw [if_pos (by decide +kernel)]; kernel_rfl) | (rw [if_neg (by decide +kernel)]; exact ⟨rfl, rfl⟩))
   (fun os started H enc _ F => by rw [OpenClaim.pre_eq_preRow]; exact lifted os started H enc F)
theorem plain (f : FuncId) (fn : Func) (hf : Tryz.pinned.checked.prog.funcNamed "given.example/pub-epode/laws.FnSelAdd" = some f) (hfn : Tryz.pinned.checked.prog.funcs[f]? = some fn) :
   true = Tryz.pinned.checked.prog.looks [] ∧ ∀ (j : Nat) t, fn.params[j]? = some t → Tryz.pinned.checked.prog.wantsStandIn t = false := by
 obtain rfl : f = 4 := Option.some.inj ((show Tryz.prog.funcNamed "given.example/pub-epode/laws.FnSelAdd" = some 4 by kernel_rfl).symm.trans hf) |>.symm
 obtain rfl : fn = Tryz.f4 := (Option.some.inj (Tryz.func4.symm.trans hfn)).symm
 refine ⟨by kernel_rfl, fun j t ht => ?_⟩
 rw [Tryz.params4] at ht
 have hm := Array.mem_of_getElem? ht
 simp only [List.mem_toArray, List.mem_cons, List.not_mem_nil, or_false] at hm
 rcases hm with rfl | rfl
 · exact (show Tryz.prog.wantsStandIn 22 = false by kernel_rfl)
 · exact (show Tryz.prog.wantsStandIn 5 = false by kernel_rfl)
theorem card : Rows.FnSelAddCardSaid :=
 Claim7.holds_tied_plain_at .later [] _ _ _ _ said (fun _ h => by cases h) (by kernel_rfl) (fun _ h => by cases h) fnSelAdd_row_tie rfl ⟨rfl, rfl⟩ Heads.mainIs rfl plain (by kernel_rfl)
end Go.Proofs.YthfjolafikgpoaaGreatDoor.fnSelAdd
namespace Go.Proofs.YthfjolafikgpoaaGreatDoor
theorem fnSelAdd_holds : Rows.FnSelAddCardSaid := fnSelAdd.card
#print axioms fnSelAdd_holds
end Go.Proofs.YthfjolafikgpoaaGreatDoor
