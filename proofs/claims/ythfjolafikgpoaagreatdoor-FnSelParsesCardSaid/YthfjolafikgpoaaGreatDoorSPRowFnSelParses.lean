/-
A selector that is written in any way is read as its requirements, by rising keys: for every list of at most 6 requirements that spec.Words lets in, and all choices of blanks, the law answers true; for all other arguments it says nothing. The card's condition: the tables and the two errors that the row lists hold what the program's text lays.
-/
import Derived.Test.YthfjolafikgpoaaGreatDoorSPM10
import Derived.Test.YthfjolafikgpoaaGreatDoorSPM25
import Derived.Test.YthfjolafikgpoaaGreatDoorSPM37
import Derived.ShutString
import Derived.ChangeOld
import Derived.Below
import Derived.SizedLaws
namespace Go.Proofs.YthfjolafikgpoaaGreatDoor.fnSelParses
open Go.ChangeShapes Go.WideShapes Go.ChangeAt Go.RowKit Go.Proofs.YthfjolafikgpoaaGreatDoor.Laid
open Go.ChangeMaps (open_string shut_string)
set_option linter.unusedVariables false
theorem laidOut : laidOutB Tryz.prog = true := by kernel_rfl
set_option maxRecDepth 100000 in
theorem contract (H : Type) (enc : TypeId × Value → H) (W : World) (base : Nat) (args : Array Value) (ds gs : List (DataW H)) (before : List MemPlace)
   (hval : ∀ (j : Nat) t v, Tryz.f9.params[j]? = some t → args[j]? = some v → Value.okWide Tryz.prog W .any base t v)
   (hW : DataW.Whole enc Tryz.prog Tryz.f9.params.toList Rows.fnSelParsesSpec.vars false W args.toList ds gs before) (hL : laidMetH Tryz.prog Rows.fnSelParsesRow.laid W) :
   Calls Tryz.prog 9 args W fun e W' => ∃ v, e = .returned v ∧ Rows.fnSelParsesSpec.post enc Tryz.prog Tryz.f9 false true false false W args v W' := by
 have hW' := hW
 obtain ⟨p, q, hA0, hV, rfl, hfz, hnd⟩ := hW
 have hA : DataW.TrodAll enc Tryz.prog W 0 (fun _ => true) true Tryz.f9.params.toList args.toList ds p := hA0
 rw [Tryz.params9] at hA hval
 obtain ⟨v0, vs0, d0, ds0, p0, q0, hargs, rfl, rfl, h0, r0⟩ := trodAll_cons hA
 obtain ⟨v1, vs1, d1, ds1, p1, q1, rfl, rfl, rfl, h1, r1⟩ := trodAll_cons r0
 obtain ⟨rfl, rfl, rfl⟩ := trodAll_nil r1
 obtain rfl : args = #[v0, v1] := by cases args; simp_all
 obtain ⟨rfl, rfl⟩ := trodVars_none hV
 have hlt0 : ∀ x ∈ p0, x.block < W.heap.size := fun x hx => by simpa using hW'.lt x (by simp [hx])
 obtain ⟨A0, c0, n0, l0, rfl, hn0, hc0, hm0, hC0⟩ := Laid.open_reqs h0 (okWide_slice Tryz.underlying22 (hval 0 22 v0 rfl rfl))
 have hlt1 : ∀ x ∈ p1, x.block < W.heap.size := fun x hx => by simpa using hW'.lt x (by simp [hx])
 obtain ⟨A1, c1, n1, l1, rfl, hC1⟩ := Laid.open_bytes h1 (okWide_slice Tryz.underlying23 (hval 1 23 v1 rfl rfl))
 clear hA0
 refine (Hand.SPs_calls A0 c0 n0 l0 hn0 hc0 hm0 A1 c1 n1 l1 W hC0 hC1 (Laid.tv hL)).mono fun e W' ⟨he, bel⟩ => ?_
 subst he
 exact ⟨_, rfl, _, _, _, [], _, [], hW', trodAll_mk1 (shut_bool Tryz.underlying4 _), (trodAll_cons_mk (Below.trod laidOut (by kernel_rfl) (of_decide_eq_true (by kernel_rfl)) h0 bel hlt0) (trodAll_cons_mk (Below.trod laidOut (by kernel_rfl) (of_decide_eq_true (by kernel_rfl)) h1 bel hlt1) trodAll_mk0)), rfl, bel.frame _, fun h => by cases h⟩
set_option maxRecDepth 100000 in
theorem lifted (os : Os) (started : os.Started) (H : Type) (enc : TypeId × Value → H) (F : Stop.Interp) :
   ReturnsInHanded {} Tryz.checked os 9 .any ((OpenSpec.ofChange Rows.fnSelParsesSpec).preRow enc Tryz.prog Tryz.f9 Rows.fnSelParsesRow.domain false Rows.fnSelParsesRow.laid) (((OpenSpec.ofChange Rows.fnSelParsesSpec).at F).post enc Tryz.prog Tryz.f9 false true false false) := by
 obtain ⟨places, hx⟩ : ∃ places, DataW.whole enc Tryz.prog ((laidWorld os).forCall (fun _ _ => 0) ⟨#[], #[.slice none 0 0, .slice none 0 0], []⟩).memory Tryz.f9.params.toList Rows.fnSelParsesSpec.vars false (#[.slice none 0 0, .slice none 0 0] : Array Value).toList 8 = some ([.nil, .nil], [], places) := ⟨[], by kernel_rfl⟩
 refine returnsInHanded_of_row (C := Tryz.checked) (s := OpenSpec.ofChange Rows.fnSelParsesSpec) own started (by kernel_rfl) Tryz.func9
   (witness_row_at (enc := enc) (C := Tryz.checked) false (laidWorld os) #[.slice none 0 0, .slice none 0 0] rfl (by kernel_rfl) (by kernel_rfl) (by kernel_rfl)
     (OpenSpec.preRow_of_cond 8 hx (by kernel_rfl) (fun k hk => by cases hk) (by kernel_rfl) (laid_met os _))) ?_
 intro W base args ds gs before hval hW _ _ _ hL _ _
 exact contract H enc W base args ds gs before hval hW hL
theorem closed : joinedFacts Tryz.prog 9 Tryz.f9 (OpenSpec.ofChange Rows.fnSelParsesSpec).bare Rows.fnSelParsesRow = true := by
 unfold joinedFacts
 rw [Heads.mayEnter, Heads.liftsFinal, Heads.make]
 kernel_rfl
theorem said : Rows.FnSelParsesSaid :=
 OpenClaim.holds_of_cond 9 Tryz.f9 rfl rfl rfl rfl rfl rfl rfl ⟨rfl, rfl, rfl, rfl, rfl⟩ rfl rfl rfl rfl rfl (by kernel_rfl) Tryz.func9 closed
   (of_decide_eq_true (by kernel_rfl)) (by unfold Func.isWrapper; first | (rw [if_pos (by decide +kernel)]; kernel_rfl) | (rw [if_neg (by decide +kernel)]; exact ⟨rfl, rfl⟩))
   (fun os started H enc _ F => by rw [OpenClaim.pre_eq_preRow]; exact lifted os started H enc F)
theorem plain (f : FuncId) (fn : Func) (hf : Tryz.pinned.checked.prog.funcNamed "given.example/pub-epode/laws.FnSelParses" = some f) (hfn : Tryz.pinned.checked.prog.funcs[f]? = some fn) :
   true = Tryz.pinned.checked.prog.looks [] ∧ ∀ (j : Nat) t, fn.params[j]? = some t → Tryz.pinned.checked.prog.wantsStandIn t = false := by
 obtain rfl : f = 9 := Option.some.inj ((show Tryz.prog.funcNamed "given.example/pub-epode/laws.FnSelParses" = some 9 by kernel_rfl).symm.trans hf) |>.symm
 obtain rfl : fn = Tryz.f9 := (Option.some.inj (Tryz.func9.symm.trans hfn)).symm
 refine ⟨by kernel_rfl, fun j t ht => ?_⟩
 rw [Tryz.params9] at ht
 have hm := Array.mem_of_getElem? ht
 simp only [List.mem_toArray, List.mem_cons, List.not_mem_nil, or_false] at hm
 rcases hm with rfl | rfl
 · exact (show Tryz.prog.wantsStandIn 22 = false by kernel_rfl)
 · exact (show Tryz.prog.wantsStandIn 23 = false by kernel_rfl)
theorem card : Rows.FnSelParsesCardSaid :=
 Claim7.holds_tied_plain_at .later [] _ _ _ _ said (fun _ h => by cases h) (by kernel_rfl) (fun _ h => by cases h) fnSelParses_row_tie rfl ⟨rfl, rfl⟩ Heads.mainIs rfl plain (by kernel_rfl)
end Go.Proofs.YthfjolafikgpoaaGreatDoor.fnSelParses
namespace Go.Proofs.YthfjolafikgpoaaGreatDoor
theorem fnSelParses_holds : Rows.FnSelParsesCardSaid := fnSelParses.card
#print axioms fnSelParses_holds
end Go.Proofs.YthfjolafikgpoaaGreatDoor
