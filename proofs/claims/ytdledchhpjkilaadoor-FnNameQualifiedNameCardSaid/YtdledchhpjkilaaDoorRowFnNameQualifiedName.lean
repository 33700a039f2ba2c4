/-
FnNameQualifiedName, its card.
-/
import Derived.Test.YtdledchhpjkilaaDoorLaid
import Derived.Test.YtdledchhpjkilaaDoorNmLaw18
import Derived.ShutString
import Derived.ChangeOld
import Derived.Below
import Derived.SizedLaws
namespace Go.Proofs.YtdledchhpjkilaaDoor.fnNameQualifiedName
open Go.ChangeShapes Go.WideShapes Go.ChangeAt Go.RowKit Go.Proofs.YtdledchhpjkilaaDoor.Laid
open Go.ChangeMaps (open_string shut_string)
set_option linter.unusedVariables false
theorem contract (H : Type) (enc : TypeId × Value → H) (W : World) (base : Nat) (args : Array Value) (ds gs : List (DataW H)) (before : List MemPlace)
    (hval : ∀ (j : Nat) t v, Tryd.f18.params[j]? = some t → args[j]? = some v → Value.okWide Tryd.prog W .any base t v)
    (hW : DataW.Whole enc Tryd.prog Tryd.f18.params.toList Rows.fnNameQualifiedNameSpec.vars false W args.toList ds gs before) (hL : laidMetH Tryd.prog Rows.fnNameQualifiedNameRow.laid W) :
    Calls Tryd.prog 18 args W fun e W' => ∃ v, e = .returned v ∧ Rows.fnNameQualifiedNameSpec.post enc Tryd.prog Tryd.f18 false true false false W args v W' := by
  have hW' := hW
  obtain ⟨p, q, hA0, hV, rfl, hfz, hnd⟩ := hW
  have hA : DataW.TrodAll enc Tryd.prog W 0 (fun _ => true) true Tryd.f18.params.toList args.toList ds p := hA0
  rw [Tryd.params18] at hA hval
  obtain ⟨v0, vs0, d0, ds0, p0, q0, hargs, rfl, rfl, h0, r0⟩ := trodAll_cons hA
  obtain ⟨rfl, rfl, rfl⟩ := trodAll_nil r0
  obtain rfl : args = #[v0] := by cases args; simp_all
  obtain ⟨rfl, rfl⟩ := trodVars_none hV
  obtain ⟨a0, rfl, rfl, rfl, y0⟩ := open_string Tryd.underlying9 (hval 0 9 v0 rfl rfl) h0
  clear hA0
  have hT := table hL
  refine (Hand.law18 a0 W hT).mono fun e W' ⟨he, bel⟩ => ?_
  subst he
  exact ⟨_, rfl, _, _, _, [], _, [], hW', trodAll_mk1 (shut_bool Tryd.underlying4 _), (trodAll_cons_mk (shut_string Tryd.underlying9 y0) trodAll_mk0), rfl, bel.frame _, fun h => by cases h⟩
set_option maxRecDepth 100000 in
theorem lifted (os : Os) (started : os.Started) (H : Type) (enc : TypeId × Value → H) (F : Stop.Interp) :
    ReturnsInHanded {} Tryd.checked os 18 .any ((OpenSpec.ofChange Rows.fnNameQualifiedNameSpec).preRow enc Tryd.prog Tryd.f18 Rows.fnNameQualifiedNameRow.domain false Rows.fnNameQualifiedNameRow.laid) (((OpenSpec.ofChange Rows.fnNameQualifiedNameSpec).at F).post enc Tryd.prog Tryd.f18 false true false false) := by
  obtain ⟨places, hx⟩ : ∃ places, DataW.whole enc Tryd.prog ((laidWorld os).forCall (fun _ _ => 0) ⟨#[], #[.string ByteArray.empty], []⟩).memory Tryd.f18.params.toList Rows.fnNameQualifiedNameSpec.vars false #[Value.string ByteArray.empty].toList 8 = some ([.lit (.string [])], [], places) := ⟨[], by kernel_rfl⟩
  refine returnsInHanded_of_row (C := Tryd.checked) (s := OpenSpec.ofChange Rows.fnNameQualifiedNameSpec) own started (by kernel_rfl) Tryd.func18
    (witness_row_at (enc := enc) (C := Tryd.checked) false (laidWorld os) #[.string ByteArray.empty] rfl (by kernel_rfl) (by kernel_rfl) (by kernel_rfl)
      (OpenSpec.preRow_of_cond 8 hx (by kernel_rfl) (fun k hk => by cases hk) (by kernel_rfl) (laid_met os))) ?_
  intro W base args ds gs before hval hW _ _ _ hL _ _
  exact contract H enc W base args ds gs before hval hW hL
theorem closed : joinedFacts Tryd.prog 18 Tryd.f18 (OpenSpec.ofChange Rows.fnNameQualifiedNameSpec).bare Rows.fnNameQualifiedNameRow = true := by
  unfold joinedFacts
  rw [Heads.mayEnter, Heads.liftsFinal, Heads.make]
  kernel_rfl
theorem said : Rows.FnNameQualifiedNameSaid :=
  OpenClaim.holds_of_cond 18 Tryd.f18 rfl rfl rfl rfl rfl rfl rfl ⟨rfl, rfl, rfl, rfl, rfl⟩ rfl rfl rfl rfl rfl (by kernel_rfl) Tryd.func18 closed
    (of_decide_eq_true (by kernel_rfl)) (by unfold Func.isWrapper; first | (rw [if_pos (by decide +kernel)]; kernel_rfl) | (rw [if_neg (by decide +kernel)]; exact ⟨rfl, rfl⟩))
    (fun os started H enc _ F => by rw [OpenClaim.pre_eq_preRow]; exact lifted os started H enc F)
theorem plain (f : FuncId) (fn : Func) (hf : Tryd.pinned.checked.prog.funcNamed "given.example/pub-epode/laws.FnNameQualifiedName" = some f) (hfn : Tryd.pinned.checked.prog.funcs[f]? = some fn) :
    false = Tryd.pinned.checked.prog.looks [] ∧ ∀ (j : Nat) t, fn.params[j]? = some t → Tryd.pinned.checked.prog.wantsStandIn t = false := by
  obtain rfl : f = 18 := Option.some.inj ((show Tryd.prog.funcNamed "given.example/pub-epode/laws.FnNameQualifiedName" = some 18 by kernel_rfl).symm.trans hf) |>.symm
  obtain rfl : fn = Tryd.f18 := (Option.some.inj (Tryd.func18.symm.trans hfn)).symm
  refine ⟨by kernel_rfl, fun j t ht => ?_⟩
  rw [Tryd.params18] at ht
  obtain rfl : t = 9 := by simpa using Array.mem_of_getElem? ht
  exact (show Tryd.prog.wantsStandIn 9 = false by kernel_rfl)
theorem card : Rows.FnNameQualifiedNameCardSaid :=
  Claim7.holds_tied_plain_at .later [] _ _ _ _ said (fun _ h => by cases h) (by kernel_rfl) (fun _ h => by cases h) fnNameQualifiedName_row_tie rfl ⟨rfl, rfl⟩ Heads.mainIs rfl plain (by kernel_rfl)
end Go.Proofs.YtdledchhpjkilaaDoor.fnNameQualifiedName
namespace Go.Proofs.YtdledchhpjkilaaDoor
theorem fnNameQualifiedName_holds : Rows.FnNameQualifiedNameCardSaid := fnNameQualifiedName.card
#print axioms fnNameQualifiedName_holds
end Go.Proofs.YtdledchhpjkilaaDoor
