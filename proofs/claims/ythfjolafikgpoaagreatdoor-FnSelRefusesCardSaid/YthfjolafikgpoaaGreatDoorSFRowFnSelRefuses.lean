/-
A selector one of whose requirements may not be is refused. For 1 to 6 requirements as spec.Words says, and one more, written so too, whose key, or one of whose values, is not empty and of letters, digits, dashes, low lines and points, but none that may be.
-/
import Derived.Test.YthfjolafikgpoaaGreatDoorSFM10
import Derived.Test.YthfjolafikgpoaaGreatDoorSFM25
import Derived.Test.YthfjolafikgpoaaGreatDoorSFLawSF
import Derived.ShutString
import Derived.ChangeOld
import Derived.Below
import Derived.SizedLaws
namespace Go.Proofs.YthfjolafikgpoaaGreatDoor.fnSelRefuses
open Go.ChangeShapes Go.WideShapes Go.ChangeAt Go.RowKit Go.Proofs.YthfjolafikgpoaaGreatDoor.Laid
open Go.ChangeMaps (open_string shut_string)
set_option linter.unusedVariables false
theorem laidOut : laidOutB Tryz.prog = true := by kernel_rfl
set_option maxRecDepth 100000 in
theorem contract (H : Type) (enc : TypeId × Value → H) (W : World) (base : Nat) (args : Array Value) (ds gs : List (DataW H)) (before : List MemPlace)
   (hval : ∀ (j : Nat) t v, Tryz.f10.params[j]? = some t → args[j]? = some v → Value.okWide Tryz.prog W .any base t v)
   (hW : DataW.Whole enc Tryz.prog Tryz.f10.params.toList Rows.fnSelRefusesSpec.vars false W args.toList ds gs before) (hL : laidMetH Tryz.prog Rows.fnSelRefusesRow.laid W) :
   Calls Tryz.prog 10 args W fun e W' => ∃ v, e = .returned v ∧ Rows.fnSelRefusesSpec.post enc Tryz.prog Tryz.f10 false true false false W args v W' := by
 have hW' := hW
 obtain ⟨p, q, hA0, hV, rfl, hfz, hnd⟩ := hW
 have hA : DataW.TrodAll enc Tryz.prog W 0 (fun _ => true) true Tryz.f10.params.toList args.toList ds p := hA0
 rw [Tryz.params10] at hA hval
 obtain ⟨v0, vs0, d0, ds0, p0, q0, hargs, rfl, rfl, h0, r0⟩ := trodAll_cons hA
 obtain ⟨v1, vs1, d1, ds1, p1, q1, rfl, rfl, rfl, h1, r1⟩ := trodAll_cons r0
 obtain ⟨v2, vs2, d2, ds2, p2, q2, rfl, rfl, rfl, h2, r2⟩ := trodAll_cons r1
 obtain ⟨v3, vs3, d3, ds3, p3, q3, rfl, rfl, rfl, h3, r3⟩ := trodAll_cons r2
 obtain ⟨rfl, rfl, rfl⟩ := trodAll_nil r3
 obtain rfl : args = #[v0, v1, v2, v3] := by cases args; simp_all
 obtain ⟨rfl, rfl⟩ := trodVars_none hV
 have hlt0 : ∀ x ∈ p0, x.block < W.heap.size := fun x hx => by simpa using hW'.lt x (by simp [hx])
 obtain ⟨A0, c0, n0, l0, rfl, hn0, hc0, hm0, hC0⟩ := Laid.open_reqs h0 (okWide_slice Tryz.underlying22 (hval 0 22 v0 rfl rfl))
 have hlt1 : ∀ x ∈ p1, x.block < W.heap.size := fun x hx => by simpa using hW'.lt x (by simp [hx])
 obtain ⟨A1, c1, n1, l1, rfl, hC1⟩ := Laid.open_bytes h1 (okWide_slice Tryz.underlying23 (hval 1 23 v1 rfl rfl))
 have hlt2 : ∀ x ∈ p2, x.block < W.heap.size := fun x hx => by simpa using hW'.lt x (by simp [hx])
 obtain ⟨s2, rfl⟩ := Laid.open_text (hval 2 9 v2 rfl rfl) h2
 have hlt3 : ∀ x ∈ p3, x.block < W.heap.size := fun x hx => by simpa using hW'.lt x (by simp [hx])
 obtain ⟨s3, rfl, _, _⟩ := open_bool Tryz.underlying4 (hval 3 4 v3 rfl rfl) h3
 clear hA0
 refine (Hand.SRf_calls A0 c0 n0 l0 hn0 hc0 hm0 A1 c1 n1 l1 s2 s3 W hC0 hC1 (Laid.tv hL)).mono fun e W' ⟨he, bel⟩ => ?_
 subst he
 exact ⟨_, rfl, _, _, _, [], _, [], hW', trodAll_mk1 (shut_bool Tryz.underlying4 _), (trodAll_cons_mk (Below.trod laidOut (by kernel_rfl) (of_decide_eq_true (by kernel_rfl)) h0 bel hlt0) (trodAll_cons_mk (Below.trod laidOut (by kernel_rfl) (of_decide_eq_true (by kernel_rfl)) h1 bel hlt1) (trodAll_cons_mk (Below.trod laidOut (by kernel_rfl) (of_decide_eq_true (by kernel_rfl)) h2 bel hlt2) (trodAll_cons_mk (Below.trod laidOut (by kernel_rfl) (of_decide_eq_true (by kernel_rfl)) h3 bel hlt3) trodAll_mk0)))), rfl, bel.frame _, fun h => by cases h⟩
set_option maxRecDepth 100000 in
theorem lifted (os : Os) (started : os.Started) (H : Type) (enc : TypeId × Value → H) (F : Stop.Interp) :
   ReturnsInHanded {} Tryz.checked os 10 .any ((OpenSpec.ofChange Rows.fnSelRefusesSpec).preRow enc Tryz.prog Tryz.f10 Rows.fnSelRefusesRow.domain false Rows.fnSelRefusesRow.laid) (((OpenSpec.ofChange Rows.fnSelRefusesSpec).at F).post enc Tryz.prog Tryz.f10 false true false false) := by
 obtain ⟨places, hx⟩ : ∃ places, DataW.whole enc Tryz.prog ((laidWorld os).forCall (fun _ _ => 0) ⟨#[], #[.slice none 0 0, .slice none 0 0, .string ByteArray.empty, .bool false], []⟩).memory Tryz.f10.params.toList Rows.fnSelRefusesSpec.vars false (#[.slice none 0 0, .slice none 0 0, .string ByteArray.empty, .bool false] : Array Value).toList 8 = some ([.nil, .nil, .lit (.string []), .lit (.bool false)], [], places) := ⟨[], by kernel_rfl⟩
 refine returnsInHanded_of_row (C := Tryz.checked) (s := OpenSpec.ofChange Rows.fnSelRefusesSpec) own started (by kernel_rfl) Tryz.func10
   (witness_row_at (enc := enc) (C := Tryz.checked) false (laidWorld os) #[.slice none 0 0, .slice none 0 0, .string ByteArray.empty, .bool false] rfl (by kernel_rfl) (by kernel_rfl) (by kernel_rfl)
     (OpenSpec.preRow_of_cond 8 hx (by kernel_rfl) (fun k hk => by cases hk) (by kernel_rfl) (laid_met os _))) ?_
 intro W base args ds gs before hval hW _ _ _ hL _ _
 exact contract H enc W base args ds gs before hval hW hL
theorem closed : joinedFacts Tryz.prog 10 Tryz.f10 (OpenSpec.ofChange Rows.fnSelRefusesSpec).bare Rows.fnSelRefusesRow = true := by
 unfold joinedFacts
 rw [Heads.mayEnter, Heads.liftsFinal, Heads.make]
 kernel_rfl
theorem said : Rows.FnSelRefusesSaid :=
 OpenClaim.holds_of_cond 10 Tryz.f10 rfl rfl rfl rfl rfl rfl rfl ⟨rfl, rfl, rfl, rfl, rfl⟩ rfl rfl rfl rfl rfl (by kernel_rfl) Tryz.func10 closed
   (of_decide_eq_true (by kernel_rfl)) (by unfold Func.isWrapper; first | (rw [if_pos (by decide +kernel)]; kernel_rfl) | (rw [if_neg (by decide +kernel)]; exact ⟨rfl, rfl⟩))
   (fun os started H enc _ F => by rw [OpenClaim.pre_eq_preRow]; exact lifted os started H enc F)
theorem plain (f : FuncId) (fn : Func) (hf : Tryz.pinned.checked.prog.funcNamed "given.example/pub-epode/laws.FnSelRefuses" = some f) (hfn : Tryz.pinned.checked.prog.funcs[f]? = some fn) :
   true = Tryz.pinned.checked.prog.looks [] ∧ ∀ (j : Nat) t, fn.params[j]? = some t → Tryz.pinned.checked.prog.wantsStandIn t = false := by
 obtain rfl : f = 10 := Option.some.inj ((show Tryz.prog.funcNamed "given.example/pub-epode/laws.FnSelRefuses" = some 10 by kernel_rfl).symm.trans hf) |>.symm
 obtain rfl : fn = Tryz.f10 := (Option.some.inj (Tryz.func10.symm.trans hfn)).symm
 refine ⟨by kernel_rfl, fun j t ht => ?_⟩
 rw [Tryz.params10] at ht
 have hm := Array.mem_of_getElem? ht
 simp only [List.mem_toArray, List.mem_cons, List.not_mem_nil, or_false] at hm
 rcases hm with rfl | rfl | rfl | rfl
 · exact (show Tryz.prog.wantsStandIn 22 = false by kernel_rfl)
 · exact (show Tryz.prog.wantsStandIn 23 = false by kernel_rfl)
 · exact (show Tryz.prog.wantsStandIn 9 = false by kernel_rfl)
 · exact (show Tryz.prog.wantsStandIn 4 = false by kernel_rfl)
theorem card : Rows.FnSelRefusesCardSaid :=
 Claim7.holds_tied_plain_at .later [] _ _ _ _ said (fun _ h => by cases h) (by kernel_rfl) (fun _ h => by cases h) fnSelRefuses_row_tie rfl ⟨rfl, rfl⟩ Heads.mainIs rfl plain (by kernel_rfl)
end Go.Proofs.YthfjolafikgpoaaGreatDoor.fnSelRefuses
namespace Go.Proofs.YthfjolafikgpoaaGreatDoor
theorem fnSelRefuses_holds : Rows.FnSelRefusesCardSaid := fnSelRefuses.card
#print axioms fnSelRefuses_holds
end Go.Proofs.YthfjolafikgpoaaGreatDoor
