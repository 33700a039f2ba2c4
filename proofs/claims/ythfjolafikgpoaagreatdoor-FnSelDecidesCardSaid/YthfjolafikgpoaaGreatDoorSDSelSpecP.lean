/- The reference's tokens: plain lemmas, among, the table of signs. -/
import Derived.Test.YthfjolafikgpoaaGreatDoorSDGSelA
import Derived.Maps.OwnSet
import Derived.Maps.OwnOps
import Derived.StringKeys
namespace Go.Proofs.YthfjolafikgpoaaGreatDoor.Hand
open Go.RowKit Go.Maps Go.Proofs.YthfjolafikgpoaaGreatDoor.PFnSelDecidesLabels Go.Proofs.YthfjolafikgpoaaGreatDoorW.PrintWords Go.Proofs.YthfjolafikgpoaaGreatDoorW.PrintLast Go.Proofs.YthfjolafikgpoaaGreatDoorW.PrintMore Go.Proofs.YthfjolafikgpoaaGreatDoor.Base
set_option linter.unusedVariables false
set_option linter.unusedSimpArgs false
set_option maxRecDepth 100000
theorem lexL_ws {c : UInt8} {r : L} (h : isWs c = true) : lexL (c :: r) = ((lexL r).1, (lexL r).2.1, (lexL r).2.2 + 1) := by
 have h1 : wsLen (c :: r) = wsLen r + 1 := by rw [ws_cons, if_pos h]
 unfold lexL
 rw [h1, List.drop_succ_cons]
 simp only [Prod.mk.injEq, true_and]
 omega
theorem tokens_ws {c : UInt8} {r : L} (h : isWs c = true) : tokensL (c :: r) = tokensL r := by
 have h1 := lexL_ws (r := r) h
 by_cases e : (lexL r).1 = 1
 · rw [tokens_end e, tokens_end (by rw [h1]; exact e)]
 · rw [tokens_more e, tokens_more (by rw [h1]; exact e), h1, List.drop_succ_cons]
theorem tokens_nil : tokensL [] = [(1, [])] := tokens_end rfl
theorem tokens_at {c : UInt8} {r : L} (h : isWs c = false) : tokensL (c :: r) = ((lexAt (c :: r)).1, (c :: r).take (lexAt (c :: r)).2) :: tokensL ((c :: r).drop (lexAt (c :: r)).2) := by
 have h0 : wsLen (c :: r) = 0 := by rw [ws_cons, h]; rfl
 have h1 : lexL (c :: r) = ((lexAt (c :: r)).1, (c :: r).take (lexAt (c :: r)).2, (lexAt (c :: r)).2) := by
  unfold lexL; rw [h0]; simp
 rw [tokens_more (by rw [h1]; exact lexAt_one), h1]
theorem sp_not_ws {c : UInt8} (h : isSp c = true) : isWs c = false := by
 rcases sp_byte h with rfl | rfl | rfl | rfl | rfl | rfl | rfl <;> decide
theorem tokens_sym {c : UInt8} {r : L} (h : isSp c = true) : tokensL (c :: r) = ((tokOf ((c :: r).take (symLen (c :: r)))).getD 0, (c :: r).take (symLen (c :: r))) :: tokensL ((c :: r).drop (symLen (c :: r))) := by
 rw [tokens_at (sp_not_ws h)]
 unfold lexAt; simp only [h, if_true]
theorem tokens_word {c : UInt8} {r : L} (h : isSp c = false) (h2 : isWs c = false) : tokensL (c :: r) = ((tokOf ((c :: r).take (wdLen (c :: r)))).getD 8, (c :: r).take (wdLen (c :: r))) :: tokensL ((c :: r).drop (wdLen (c :: r))) := by
 rw [tokens_at h2]
 unfold lexAt; simp only [h, Bool.false_eq_true, if_false]
theorem amongT_l0 (c : UInt8) (x : L) (hx : x.length ≤ 1000) : ∀ (d j : Nat), j + d = x.length → Ev (fun k => spec_among.l0 k (c.toNat : Int) (mk x) (x.length : Int) j) ((x.drop j).contains c) := by
 intro d
 induction d with
 | zero =>
   intro j hj
   have e : x.drop j = [] := List.drop_eq_nil_of_le (by omega)
   rw [e]
   refine Ev.step (f := fun _ => some false) (fun k => ?_) (Ev.now _)
   simp only [spec_among.l0]
   rw [if_neg (by omega)]
 | succ d ih =>
   intro j hj
   have hl : j < x.length := by omega
   rw [drop_getD hl, List.contains_cons]
   by_cases e : x.getD j 0 = c
   · rw [show (c == x.getD j 0) = true by rw [e]; simp, Bool.true_or]
     refine Ev.step (f := fun _ => some true) (fun k => ?_) (Ev.now _)
     simp only [spec_among.l0]
     rw [if_pos (by omega), if_pos (by omega), if_pos (by rw [mk_size]; omega), bt_mk, Int.toNat_natCast, if_pos (by rw [e])]
   · rw [show (c == x.getD j 0) = false by rw [beq_eq_false_iff_ne]; exact fun h => e h.symm, Bool.false_or]
     refine Ev.step (fun k => ?_) (ih (j + 1) (by omega))
     simp only [spec_among.l0]
     rw [if_pos (by omega), if_pos (by omega), if_pos (by rw [mk_size]; omega), bt_mk, Int.toNat_natCast, if_neg (fun h => e (UInt8.toNat_inj.1 (by omega))), wrap_id (by omega) (by omega)]
     rfl
theorem amongT_calls (c : UInt8) (x : L) (hx : x.length ≤ 1000) (w : World) : Calls Tryz.prog 83 #[.int .u8 (c.toNat : Int), .string (mk x)] w fun e w' => e = .returned (.bool (x.contains c)) ∧ Drawn0 w w' := by
 obtain ⟨k, hk⟩ := (amongT_l0 c x hx x.length 0 (by omega)).rounds
 have : spec_among.f k (c.toNat : Int) (mk x) = some (x.contains c) := by unfold spec_among.f; rw [mk_size]; exact hk
 exact spec_among.calls k _ _ _ w this
theorem amongT_sp (c : UInt8) : ([33, 61, 60, 62, 40, 41, 44] : L).contains c = isSp c := by
 simp only [List.contains_cons, List.contains_nil, isSp, Bool.or_false]
 rw [Bool.eq_iff_iff]
 simp only [Bool.or_eq_true, beq_iff_eq]
 constructor
 · rintro (h | h | h | h | h | h | h) <;> simp [h]
 · rintro ((((((h | h) | h) | h) | h) | h) | h) <;> simp [h]
theorem amongT_wd (c : UInt8) : (!([33, 61, 60, 62, 40, 41, 44, 32, 9, 13, 10] : L).contains c) = isWd c := by
 unfold isWd
 congr 1
 simp only [List.contains_cons, List.contains_nil, isSp, isWs, Bool.or_false]
 rw [Bool.eq_iff_iff]
 simp only [Bool.or_eq_true, beq_iff_eq]
 constructor
 · rintro (h | h | h | h | h | h | h | h | h | h | h) <;> simp [h]
 · rintro (((((((h | h) | h) | h) | h) | h) | h) | (((h | h) | h) | h)) <;> simp [h]
theorem lawKs : Keyed Tryz.prog 9 := string_keyed Tryz.underlying9
theorem zeroI (w : World) : (zeroValue 3).run Tryz.prog w = .ok (.int .i64 0) w := by kernel_rfl
theorem keyS (l : L) (hl : l.length ≤ 140737488351232) : keyOf Tryz.prog 9 (.string (mk l)) = some (.string l) := WideMaps.keyOf_string_mk Tryz.underlying9 (by rw [mk_size]; unfold maxLen; omega)
theorem wpList_insert_own {H : Type} {P : Program} (w : World) {ops : Array Oper} {rest : List Oper} {o : Oper} {a : Act} {Q : Exit → Act → World → Prop}
   (hg : o.guard = none) (m x v : Operand) (t : TypeId) (hop : o.op = Op.insert t m x v)
   (k e : TypeId) (K : Keyed P k) (ht : P.underlying t = some (.map k e)) (R : Value → Option (DataW H × List MemPlace)) (b n : Nat) (D : DataW H)
   (hm : a.eval m = .map (some b)) (hown : w.ownsMap P k R b n D) (hn : n < maxLen) (key val : Value) (kl : Lit) (hx : a.eval x = key) (hv : a.eval v = val) (hkey : keyOf P k key = some kl)
   (d : DataW H) (ps : List MemPlace) (hval : R val = some (d, ps))
   (hK : ∀ w', w'.ownsMap P k R b (n + 1) (D.put kl d) → w.grownBy w' (some b) → wpList P ops Q rest (a.put o.dst undef) w') :
   wpList P ops Q (o :: rest) a w := by
 refine wpList_plain hg fun K' hK' => ?_
 obtain ⟨w', hrun, r1, r2⟩ := hown.update K ht hn hkey hval
 unfold Oper.wp
 simp [execOp, hop, hm, hx, hv, hrun, Result.andThen]
 exact hK' _ _ (hK w' r1 r2)
theorem gate_insert {P : Program} {ops : Array Oper} {rest : List Oper} {o : Oper} {a : Act} {Q : Exit → Act → World → Prop} {W : World} {t : TypeId} {p : Tmp} {x v : Operand} (_ho : o.op = .insert t (.tmp p) x v) (h : wpList P ops Q (o :: rest) a W) : wpList P ops Q (o :: rest) a W := h
abbrev SgI (k : Int) : DataW Unit := .lit (.int .i64 k)
abbrev SgsT : DataW Unit := (((((((((DataW.map []).put (.string [41]) (SgI 2)).put (.string [44]) (SgI 3)).put (.string [33]) (SgI 4)).put (.string [61, 61]) (SgI 5)).put (.string [61]) (SgI 6)).put (.string [62]) (SgI 7)).put (.string [60]) (SgI 10)).put (.string [33, 61]) (SgI 11)).put (.string [40]) (SgI 13)
theorem sgs_at {c : UInt8} {r : L} (h : isSp c = true) : SgsT.atKey (.string ((c :: r).take (symLen (c :: r)))) (SgI 0) = SgI (((tokOf ((c :: r).take (symLen (c :: r)))).getD 0 : Nat) : Int) := by
 have h2 := symLen_two (c :: r)
 have h1 := sym_pos (c :: r)
 by_cases e : symLen (c :: r) = 2
 · rcases sym_of_two e with e2 | e2
   · rw [e, e2]; show _ = _; rfl
   · rw [e, e2]; show _ = _; rfl
 · rw [show symLen (c :: r) = 1 by omega]
   simp only [List.take_succ_cons, List.take_zero]
   rcases sp_byte h with rfl | rfl | rfl | rfl | rfl | rfl | rfl <;> rfl
end Go.Proofs.YthfjolafikgpoaaGreatDoor.Hand
