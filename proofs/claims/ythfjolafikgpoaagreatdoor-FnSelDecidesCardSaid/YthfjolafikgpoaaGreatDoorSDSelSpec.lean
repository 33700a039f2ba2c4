/- spec.Tokens. -/
import Derived.Test.YthfjolafikgpoaaGreatDoorSDSelSpecP
import Derived.Test.YthfjolafikgpoaaGreatDoorSDM30
import Derived.Deep.RegionLaw
import Derived.Carry
namespace Go.Proofs.YthfjolafikgpoaaGreatDoor.Hand
open Go.RowKit Go.Maps Go.Proofs.YthfjolafikgpoaaGreatDoor.PFnSelDecidesLabels Go.Proofs.YthfjolafikgpoaaGreatDoorW.PrintWords Go.Proofs.YthfjolafikgpoaaGreatDoorW.PrintLast Go.Proofs.YthfjolafikgpoaaGreatDoorW.PrintMore Go.Proofs.YthfjolafikgpoaaGreatDoor.Base
set_option linter.unusedVariables false
set_option linter.unusedSimpArgs false
set_option maxRecDepth 100000
theorem beqnT (c : UInt8) (n : Nat) (h : n < 256) : (((c.toNat : Int)) == (n : Int)) = (c == UInt8.ofNat n) := by
 rw [Bool.eq_iff_iff, beq_iff_eq, beq_iff_eq]; exact byte_eq c n h
theorem Drawn0.trans_ {w w1 w2 : World} (h : Drawn0 w w1) (k : Drawn0 w1 w2) : Drawn0 w w2 := by
 obtain ⟨n, rfl⟩ := k
 exact h.step n
theorem word_kind {c : UInt8} {r : L} (h : isSp c = false) (h2 : isWs c = false) :
   ((tokOf ((c :: r).take (wdLen (c :: r)))).getD 8 = 9 ∧ (c :: r).take (wdLen (c :: r)) = [105, 110]) ∨ ((tokOf ((c :: r).take (wdLen (c :: r)))).getD 8 = 12 ∧ (c :: r).take (wdLen (c :: r)) = [110, 111, 116, 105, 110]) ∨ ((tokOf ((c :: r).take (wdLen (c :: r)))).getD 8 = 8 ∧ (c :: r).take (wdLen (c :: r)) ≠ [105, 110] ∧ (c :: r).take (wdLen (c :: r)) ≠ [110, 111, 116, 105, 110]) := by
 have e : wdLen (c :: r) = wdLen r + 1 := by rw [wd_cons, if_pos (by simp [isWd, h, h2])]
 rw [e, List.take_succ_cons]
 obtain ⟨t, ht⟩ : ∃ t, r.take (wdLen r) = t := ⟨_, rfl⟩
 rw [ht]
 by_cases h3 : c :: t = [105, 110]
 · rw [h3]; exact .inl ⟨rfl, rfl⟩
 by_cases h4 : c :: t = [110, 111, 116, 105, 110]
 · rw [h4]; exact .inr (.inl ⟨rfl, rfl⟩)
 refine .inr (.inr ⟨?_, h3, h4⟩)
 have hn : ∀ d : UInt8, isSp d = true → ∀ s : L, c :: t ≠ d :: s := fun d hd s he => by injection he with e1 _; subst e1; rw [h] at hd; cases hd
 unfold tokOf
 rw [if_neg (hn 41 (by decide) _), if_neg (hn 44 (by decide) _), if_neg (hn 33 (by decide) _), if_neg (hn 61 (by decide) _), if_neg (hn 61 (by decide) _), if_neg (hn 62 (by decide) _), if_neg h3, if_neg (hn 60 (by decide) _), if_neg (hn 33 (by decide) _), if_neg h4, if_neg (hn 40 (by decide) _)]
 rfl
set_option maxHeartbeats 8000000 in
theorem STokens_calls (x : L) (hx : x.length ≤ 2000) (w : World) :
   Calls Tryz.prog 60 #[.string (mk x)] w fun e w' => ∃ v, e = .returned v ∧ KT.R 136 w' w.heap.size (fun _ => True) v (toksV (tokensL x)) ∧ Below w.heap.size w w' := by
 obtain ⟨sx, hsx⟩ : ∃ sx, mk x = sx := ⟨_, rfl⟩
 rw [hsx]
 have HSX := Aside0.mk hsx
 clear hsx
 go_enter Tryz.func60, Tryz.ntmps60
 go_wp2
 go_loopg [0, 3] (x.length) (fun k v0 v3 w' => ∃ (y : L) (sb : ByteArray) (l : List (Nat × L)), v0 = .string sb ∧ Aside0 (sb = mk y) ∧ Aside0 (k = y.length ∧ y.length ≤ x.length) ∧ Aside0 (l ++ tokensL y = tokensL x) ∧ Aside0 (KT.R 136 w' w.heap.size (fun _ => True) v3 (toksV l)) ∧ Aside0 (Below w.heap.size w w'))
 case atStart => exact ⟨x, _, [], rfl, ⟨HSX.out.symm⟩, ⟨rfl, Nat.le_refl _⟩, ⟨rfl⟩, ⟨Kd.R_nil _ _ _ _ _⟩, ⟨Below.refl _ _⟩⟩
 case round =>
  clear HSX
  obtain ⟨y, sb, l, rfl, HSB, HY, HT, HR, HB⟩ := hrel
  have hzs : sb.size = y.length := by rw [HSB.out, mk_size]
  have hsl : sb.toList = y := by rw [HSB.out, mk_toList]
  have hll : l.length ≤ 2001 := by
   have h1 := tokens_len x.length x (Nat.le_refl _)
   have h2 := congrArg List.length HT.out
   rw [List.length_append] at h2
   omega
  cases y with
  | nil =>
    have tne : (sb.toList == ([] : List UInt8)) = true := by rw [hsl]; rfl
    have tne2 : (sb.toList != ([] : List UInt8)) = false := by rw [hsl]; rfl
    have HNEW : Aside0 (toksV l ++ [((1 : Int), (⟨#[]⟩ : ByteArray))] = toksV (tokensL x)) := ⟨by rw [← HT.out, tokens_nil, toksV, toksV, List.map_append]; rfl⟩
    clear hsl hzs
    go_wp2_with (first | ((with_reducible refine gate_builtin (b := .append) (xs := #[.tmp 94, .tmp 96]) rfl ?_); (try (refine gate_guard (by rfl) ?_; dsimp only)); at_builtin; refine Kd.R_append (KT) (w0 := w) (w.heap.size) rfl (.tmp 94) (.tmp 96) 102 136 (.agg #[.int .i64 0, .string ⟨#[]⟩]) 24 rfl Tryz.underlying102 infoIT rfl (by decide) (by decide) (u3) (toksV l) (((1 : Int), (⟨#[]⟩ : ByteArray))) [.int .i64 1, .string ⟨#[]⟩] (fun _ => True) (fun _ => False) rfl (by first | rfl | (simp [Act.eval]; done)) ?aP (fun _ hk => hk.elim) ?aF ?aO ?aB ?aS ?aL ?_; (case aP => exact ⟨[_], [_], rfl, rfl, rfl⟩); (case aF => exact (fun _ _ => trivial)); (case aO => exact HR.out); (case aB => exact HB.out); (case aS => exact below_size HB.out); (case aL => simp only [toksV, List.length_map]; omega); intro vN wN ho hb hg hat; rw [HNEW.out] at ho; have HR2 := Aside0.mk ho; have HB2 := Aside0.mk hb; clear ho hb hg hat))
    go_ret
    exact ⟨_, rfl, HR2.out, HB2.out⟩
  | cons c r =>
    have tne : (sb.toList == ([] : List UInt8)) = false := by rw [hsl]; rfl
    have tne2 : (sb.toList != ([] : List UInt8)) = true := by rw [hsl]; rfl
    have hbt : bt sb 0 = (c.toNat : Int) := by rw [HSB.out, bt_mk]; rfl
    have hb0 : ∀ h : 0 < sb.size, ((sb[0]'h).toNat : Int) = (c.toNat : Int) := fun h => (bt_at sb 0 h).trans hbt
    have hp0 : (0 < (sb.size : Int)) = True := eq_true (by rw [hzs, List.length_cons]; omega)
    have hp1 : (0 < sb.size) = True := eq_true (by rw [hzs, List.length_cons]; omega)
    have hz1_1 : ((1 : Int) ≤ (sb.size : Int)) = True := eq_true (by rw [hzs, List.length_cons]; omega)
    have hz1_2 : (1 ≤ sb.size) = True := eq_true (by rw [hzs, List.length_cons]; omega)
    have hz1_3 : ((sb.size : Int) < 1) = False := eq_false (by rw [hzs, List.length_cons]; omega)
    have hz1_4 : (sb.size < 1) = False := eq_false (by rw [hzs, List.length_cons]; omega)
    by_cases hw : isWs c = true
    · have HTN := Aside0.mk HT.out
      rw [tokens_ws hw] at HTN
      have hw2 : (c == 32 || c == 9 || c == 13 || c == 10) = true := hw
      obtain ⟨n, hn⟩ : ∃ n, (n = 32 ∨ n = 9 ∨ n = 13 ∨ n = 10) ∧ (c.toNat : Int) = n := ⟨_, by simp only [Bool.or_eq_true, beq_iff_eq] at hw2; rcases hw2 with ((h | h) | h) | h <;> subst h <;> simp, rfl⟩
      obtain ⟨hn, hcn⟩ := hn
      have HEX : Aside0 (sb.extract 1 sb.size = mk r) := ⟨by rw [hzs, HSB.out, extract_mk]; congr 1; simp⟩
      rw [hcn] at hb0
      clear hw hw2 hbt hsl hcn hzs
      rcases hn with rfl | rfl | rfl | rfl
      · go_wp2
        go_roundg r.length
        case measure => have := HY.out.1; simp at this; omega
        case rel => exact ⟨r, _, l, rfl, HEX, ⟨rfl, by have := HY.out.2; simp at this; omega⟩, HTN, HR, HB⟩
      · go_wp2
        go_roundg r.length
        case measure => have := HY.out.1; simp at this; omega
        case rel => exact ⟨r, _, l, rfl, HEX, ⟨rfl, by have := HY.out.2; simp at this; omega⟩, HTN, HR, HB⟩
      · go_wp2
        go_roundg r.length
        case measure => have := HY.out.1; simp at this; omega
        case rel => exact ⟨r, _, l, rfl, HEX, ⟨rfl, by have := HY.out.2; simp at this; omega⟩, HTN, HR, HB⟩
      · go_wp2
        go_roundg r.length
        case measure => have := HY.out.1; simp at this; omega
        case rel => exact ⟨r, _, l, rfl, HEX, ⟨rfl, by have := HY.out.2; simp at this; omega⟩, HTN, HR, HB⟩
    · have hw' : isWs c = false := by simpa using hw
      have hw3 : (((c.toNat : Int) == 32) = false ∧ ((c.toNat : Int) == 9) = false) ∧ ((c.toNat : Int) == 13) = false ∧ ((c.toNat : Int) == 10) = false := by
       have k1 := beqnT c 32 (by decide); have k2 := beqnT c 9 (by decide); have k3 := beqnT c 13 (by decide); have k4 := beqnT c 10 (by decide)
       unfold isWs at hw'
       simp only [Bool.or_eq_false_iff] at hw'
       exact ⟨⟨k1.trans hw'.1.1.1, k2.trans hw'.1.1.2⟩, k3.trans hw'.1.2, k4.trans hw'.2⟩
      obtain ⟨⟨k1, k2⟩, k3, k4⟩ := hw3
      have HAM : Aside0 (∀ w, Calls Tryz.prog 83 #[.int .u8 (c.toNat : Int), .string ⟨#[33, 61, 60, 62, 40, 41, 44]⟩] w fun e w' => e = .returned (.bool (isSp c)) ∧ Drawn0 w w') := ⟨fun w => by rw [← amongT_sp]; exact amongT_calls c [33, 61, 60, 62, 40, 41, 44] (by decide) w⟩
      by_cases hs : isSp c = true
      · rw [hs] at HAM
        have HTN := Aside0.mk HT.out
        rw [tokens_sym hs] at HTN
        have hsy := sgs_at (r := r) hs
        obtain ⟨tk, htk⟩ : ∃ tk, (tokOf ((c :: r).take (symLen (c :: r)))).getD 0 = tk := ⟨_, rfl⟩
        rw [htk] at HTN hsy
        have HSY := Aside0.mk hsy
        clear htk hsy
        obtain ⟨z, hS⟩ : ∃ z, symLen (c :: r) = z := ⟨_, rfl⟩
        have hpath : (((1 : Int) < (sb.size : Int)) = False ∧ (1 < sb.size) = False ∧ ((sb.size : Int) ≤ 1) = True ∧ (sb.size ≤ 1) = True ∧ z = 1) ∨ ((((2 : Int) ≤ (sb.size : Int)) = True ∧ (2 ≤ sb.size) = True ∧ ((sb.size : Int) < 2) = False ∧ (sb.size < 2) = False ∧ ((1 : Int) < (sb.size : Int)) = True ∧ (1 < sb.size) = True) ∧ ((((sb.extract 0 2).toList == ([61, 61] : List UInt8)) = true ∧ z = 2) ∨ (((sb.extract 0 2).toList == ([61, 61] : List UInt8)) = false ∧ ((sb.extract 0 2).toList == ([33, 61] : List UInt8)) = true ∧ z = 2) ∨ (((sb.extract 0 2).toList == ([61, 61] : List UInt8)) = false ∧ ((sb.extract 0 2).toList == ([33, 61] : List UInt8)) = false ∧ z = 1))) := by
         cases hr : r with
         | nil =>
           have hlen1 : sb.size = 1 := by rw [hzs, hr]; rfl
           exact .inl ⟨eq_false (by omega), eq_false (by omega), eq_true (by omega), eq_true (by omega), by rw [← hS, hr]; exact sym_one⟩
         | cons d r' =>
           have hlen2 : 2 ≤ sb.size := by rw [hzs, hr]; simp
           have hx2 : (sb.extract 0 2).toList = [c, d] := by rw [HSB.out, extract_mk, mk_toList, hr]; rfl
           refine .inr ⟨⟨eq_true (by omega), eq_true (by omega), eq_false (by omega), eq_false (by omega), eq_true (by omega), eq_true (by omega)⟩, ?_⟩
           by_cases h1 : c = 61 ∧ d = 61
           · exact .inl ⟨by rw [hx2, h1.1, h1.2]; rfl, by rw [← hS, hr, sym_two, if_pos ⟨.inl h1.1, h1.2⟩]⟩
           · have e1 : ((sb.extract 0 2).toList == ([61, 61] : List UInt8)) = false := by rw [hx2, beq_eq_false_iff_ne]; intro e; simp at e; exact h1 e
             by_cases h2 : c = 33 ∧ d = 61
             · exact .inr (.inl ⟨e1, by rw [hx2, h2.1, h2.2]; rfl, by rw [← hS, hr, sym_two, if_pos ⟨.inr h2.1, h2.2⟩]⟩)
             · exact .inr (.inr ⟨e1, by rw [hx2, beq_eq_false_iff_ne]; intro e; simp at e; exact h2 e, by rw [← hS, hr, sym_two, if_neg]; rintro ⟨h3 | h3, h4⟩; exact h1 ⟨h3, h4⟩; exact h2 ⟨h3, h4⟩⟩)
        have hE : sb.extract 0 z = mk ((c :: r).take (symLen (c :: r))) := by rw [HSB.out, extract_mk, hS]; rfl
        have HKEY : Aside0 (keyOf Tryz.prog 9 (.string (sb.extract 0 z)) = some (.string ((c :: r).take (symLen (c :: r))))) := ⟨by rw [hE]; exact keyS _ (by have h1 := HY.out.2; rw [List.length_take]; omega)⟩
        have HX := Aside0.mk hE
        have HEX : Aside0 (sb.extract z sb.size = mk ((c :: r).drop (symLen (c :: r)))) := ⟨by rw [hzs, HSB.out, extract_mk, hS]; congr 1; rw [List.take_of_length_le (by simp)]⟩
        have HDL : Aside0 (((c :: r).drop (symLen (c :: r))).length < (c :: r).length ∧ ((c :: r).drop (symLen (c :: r))).length ≤ x.length) := ⟨by have h1 := sym_pos (c :: r); have h2 := HY.out.2; rw [List.length_drop, List.length_cons] at *; constructor <;> omega⟩
        have HNEW : Aside0 (toksV l ++ [((tk : Int), sb.extract 0 z)] = toksV (l ++ [(tk, (c :: r).take (symLen (c :: r)))])) := ⟨by rw [hE, toksV, toksV, List.map_append]; rfl⟩
        clear hE hS hsl hbt hw hw' hs hzs
        have hmm := @run_makeMap Tryz.prog
        rcases hpath with ⟨hl2, hl4, hl5, hl6, rfl⟩ | ⟨⟨hz2_1, hz2_2, hz2_3, hz2_4, hl2, hl4⟩, ⟨e1, rfl⟩ | ⟨e1, e2, rfl⟩ | ⟨e1, e2, rfl⟩⟩
        all_goals
          go_upto_region 11 with (first | ((with_reducible refine (HAM.out _).mono ?_); rintro e wA ⟨rfl, hd⟩; have HDA := Aside0.mk hd; clear hd) | ((with_reducible refine gate_insert (t := 134) (p := 46) (x := .const (.string ⟨#[41]⟩)) (v := .const (.int .i64 2)) rfl ?_); refine wpList_insert_own _ ?g1 (.tmp 46) (.const (.string ⟨#[41]⟩)) (.const (.int .i64 2)) 134 ?g2 9 3 lawKs Tryz.underlying134 (plainElem Tryz.prog 3) wA.heap.size 0 ((DataW.map [] : DataW Unit)) ?g3 (World.ownsMap_made _ _ _ _) (by unfold maxLen; omega) _ _ (.string [41]) ?g4 ?g5 (keyS [41] (by decide)) (SgI 2) [] (plainElem_int Tryz.underlying3 (by decide)) ?_; (case g1 => rfl); (case g2 => rfl); (case g3 => rfl); (case g4 => rfl); (case g5 => rfl); intro w1 hm_ hg_; have HM1 := Aside0.mk hm_; have HN1 := Aside0.mk (pw_below_grown (below_alloc (Below.refl _ _) _) _ (below_size (below_alloc (Below.refl _ _) _)) hg_ (fun j hj => by cases hj; exact Nat.le_refl _)); clear hm_ hg_) | ((with_reducible refine gate_insert (t := 134) (p := 46) (x := .const (.string ⟨#[44]⟩)) (v := .const (.int .i64 3)) rfl ?_); refine wpList_insert_own _ ?g1 (.tmp 46) (.const (.string ⟨#[44]⟩)) (.const (.int .i64 3)) 134 ?g2 9 3 lawKs Tryz.underlying134 (plainElem Tryz.prog 3) wA.heap.size 1 (((DataW.map [] : DataW Unit).put (.string [41]) (SgI 2))) ?g3 HM1.out (by unfold maxLen; omega) _ _ (.string [44]) ?g4 ?g5 (keyS [44] (by decide)) (SgI 3) [] (plainElem_int Tryz.underlying3 (by decide)) ?_; (case g1 => rfl); (case g2 => rfl); (case g3 => rfl); (case g4 => rfl); (case g5 => rfl); intro w2 hm_ hg_; have HM2 := Aside0.mk hm_; have HN2 := Aside0.mk (pw_below_grown HN1.out _ (below_size HN1.out) hg_ (fun j hj => by cases hj; exact Nat.le_refl _)); clear hm_ hg_; clear HM1 HN1) | ((with_reducible refine gate_insert (t := 134) (p := 46) (x := .const (.string ⟨#[33]⟩)) (v := .const (.int .i64 4)) rfl ?_); refine wpList_insert_own _ ?g1 (.tmp 46) (.const (.string ⟨#[33]⟩)) (.const (.int .i64 4)) 134 ?g2 9 3 lawKs Tryz.underlying134 (plainElem Tryz.prog 3) wA.heap.size 2 ((((DataW.map [] : DataW Unit).put (.string [41]) (SgI 2)).put (.string [44]) (SgI 3))) ?g3 HM2.out (by unfold maxLen; omega) _ _ (.string [33]) ?g4 ?g5 (keyS [33] (by decide)) (SgI 4) [] (plainElem_int Tryz.underlying3 (by decide)) ?_; (case g1 => rfl); (case g2 => rfl); (case g3 => rfl); (case g4 => rfl); (case g5 => rfl); intro w3 hm_ hg_; have HM3 := Aside0.mk hm_; have HN3 := Aside0.mk (pw_below_grown HN2.out _ (below_size HN2.out) hg_ (fun j hj => by cases hj; exact Nat.le_refl _)); clear hm_ hg_; clear HM2 HN2) | ((with_reducible refine gate_insert (t := 134) (p := 46) (x := .const (.string ⟨#[61, 61]⟩)) (v := .const (.int .i64 5)) rfl ?_); refine wpList_insert_own _ ?g1 (.tmp 46) (.const (.string ⟨#[61, 61]⟩)) (.const (.int .i64 5)) 134 ?g2 9 3 lawKs Tryz.underlying134 (plainElem Tryz.prog 3) wA.heap.size 3 (((((DataW.map [] : DataW Unit).put (.string [41]) (SgI 2)).put (.string [44]) (SgI 3)).put (.string [33]) (SgI 4))) ?g3 HM3.out (by unfold maxLen; omega) _ _ (.string [61, 61]) ?g4 ?g5 (keyS [61, 61] (by decide)) (SgI 5) [] (plainElem_int Tryz.underlying3 (by decide)) ?_; (case g1 => rfl); (case g2 => rfl); (case g3 => rfl); (case g4 => rfl); (case g5 => rfl); intro w4 hm_ hg_; have HM4 := Aside0.mk hm_; have HN4 := Aside0.mk (pw_below_grown HN3.out _ (below_size HN3.out) hg_ (fun j hj => by cases hj; exact Nat.le_refl _)); clear hm_ hg_; clear HM3 HN3) | ((with_reducible refine gate_insert (t := 134) (p := 46) (x := .const (.string ⟨#[61]⟩)) (v := .const (.int .i64 6)) rfl ?_); refine wpList_insert_own _ ?g1 (.tmp 46) (.const (.string ⟨#[61]⟩)) (.const (.int .i64 6)) 134 ?g2 9 3 lawKs Tryz.underlying134 (plainElem Tryz.prog 3) wA.heap.size 4 ((((((DataW.map [] : DataW Unit).put (.string [41]) (SgI 2)).put (.string [44]) (SgI 3)).put (.string [33]) (SgI 4)).put (.string [61, 61]) (SgI 5))) ?g3 HM4.out (by unfold maxLen; omega) _ _ (.string [61]) ?g4 ?g5 (keyS [61] (by decide)) (SgI 6) [] (plainElem_int Tryz.underlying3 (by decide)) ?_; (case g1 => rfl); (case g2 => rfl); (case g3 => rfl); (case g4 => rfl); (case g5 => rfl); intro w5 hm_ hg_; have HM5 := Aside0.mk hm_; have HN5 := Aside0.mk (pw_below_grown HN4.out _ (below_size HN4.out) hg_ (fun j hj => by cases hj; exact Nat.le_refl _)); clear hm_ hg_; clear HM4 HN4) | ((with_reducible refine gate_insert (t := 134) (p := 46) (x := .const (.string ⟨#[62]⟩)) (v := .const (.int .i64 7)) rfl ?_); refine wpList_insert_own _ ?g1 (.tmp 46) (.const (.string ⟨#[62]⟩)) (.const (.int .i64 7)) 134 ?g2 9 3 lawKs Tryz.underlying134 (plainElem Tryz.prog 3) wA.heap.size 5 (((((((DataW.map [] : DataW Unit).put (.string [41]) (SgI 2)).put (.string [44]) (SgI 3)).put (.string [33]) (SgI 4)).put (.string [61, 61]) (SgI 5)).put (.string [61]) (SgI 6))) ?g3 HM5.out (by unfold maxLen; omega) _ _ (.string [62]) ?g4 ?g5 (keyS [62] (by decide)) (SgI 7) [] (plainElem_int Tryz.underlying3 (by decide)) ?_; (case g1 => rfl); (case g2 => rfl); (case g3 => rfl); (case g4 => rfl); (case g5 => rfl); intro w6 hm_ hg_; have HM6 := Aside0.mk hm_; have HN6 := Aside0.mk (pw_below_grown HN5.out _ (below_size HN5.out) hg_ (fun j hj => by cases hj; exact Nat.le_refl _)); clear hm_ hg_; clear HM5 HN5) | ((with_reducible refine gate_insert (t := 134) (p := 46) (x := .const (.string ⟨#[60]⟩)) (v := .const (.int .i64 10)) rfl ?_); refine wpList_insert_own _ ?g1 (.tmp 46) (.const (.string ⟨#[60]⟩)) (.const (.int .i64 10)) 134 ?g2 9 3 lawKs Tryz.underlying134 (plainElem Tryz.prog 3) wA.heap.size 6 ((((((((DataW.map [] : DataW Unit).put (.string [41]) (SgI 2)).put (.string [44]) (SgI 3)).put (.string [33]) (SgI 4)).put (.string [61, 61]) (SgI 5)).put (.string [61]) (SgI 6)).put (.string [62]) (SgI 7))) ?g3 HM6.out (by unfold maxLen; omega) _ _ (.string [60]) ?g4 ?g5 (keyS [60] (by decide)) (SgI 10) [] (plainElem_int Tryz.underlying3 (by decide)) ?_; (case g1 => rfl); (case g2 => rfl); (case g3 => rfl); (case g4 => rfl); (case g5 => rfl); intro w7 hm_ hg_; have HM7 := Aside0.mk hm_; have HN7 := Aside0.mk (pw_below_grown HN6.out _ (below_size HN6.out) hg_ (fun j hj => by cases hj; exact Nat.le_refl _)); clear hm_ hg_; clear HM6 HN6) | ((with_reducible refine gate_insert (t := 134) (p := 46) (x := .const (.string ⟨#[33, 61]⟩)) (v := .const (.int .i64 11)) rfl ?_); refine wpList_insert_own _ ?g1 (.tmp 46) (.const (.string ⟨#[33, 61]⟩)) (.const (.int .i64 11)) 134 ?g2 9 3 lawKs Tryz.underlying134 (plainElem Tryz.prog 3) wA.heap.size 7 (((((((((DataW.map [] : DataW Unit).put (.string [41]) (SgI 2)).put (.string [44]) (SgI 3)).put (.string [33]) (SgI 4)).put (.string [61, 61]) (SgI 5)).put (.string [61]) (SgI 6)).put (.string [62]) (SgI 7)).put (.string [60]) (SgI 10))) ?g3 HM7.out (by unfold maxLen; omega) _ _ (.string [33, 61]) ?g4 ?g5 (keyS [33, 61] (by decide)) (SgI 11) [] (plainElem_int Tryz.underlying3 (by decide)) ?_; (case g1 => rfl); (case g2 => rfl); (case g3 => rfl); (case g4 => rfl); (case g5 => rfl); intro w8 hm_ hg_; have HM8 := Aside0.mk hm_; have HN8 := Aside0.mk (pw_below_grown HN7.out _ (below_size HN7.out) hg_ (fun j hj => by cases hj; exact Nat.le_refl _)); clear hm_ hg_; clear HM7 HN7) | ((with_reducible refine gate_insert (t := 134) (p := 46) (x := .const (.string ⟨#[40]⟩)) (v := .const (.int .i64 13)) rfl ?_); refine wpList_insert_own _ ?g1 (.tmp 46) (.const (.string ⟨#[40]⟩)) (.const (.int .i64 13)) 134 ?g2 9 3 lawKs Tryz.underlying134 (plainElem Tryz.prog 3) wA.heap.size 8 ((((((((((DataW.map [] : DataW Unit).put (.string [41]) (SgI 2)).put (.string [44]) (SgI 3)).put (.string [33]) (SgI 4)).put (.string [61, 61]) (SgI 5)).put (.string [61]) (SgI 6)).put (.string [62]) (SgI 7)).put (.string [60]) (SgI 10)).put (.string [33, 61]) (SgI 11))) ?g3 HM8.out (by unfold maxLen; omega) _ _ (.string [40]) ?g4 ?g5 (keyS [40] (by decide)) (SgI 13) [] (plainElem_int Tryz.underlying3 (by decide)) ?_; (case g1 => rfl); (case g2 => rfl); (case g3 => rfl); (case g4 => rfl); (case g5 => rfl); intro w9 hm_ hg_; have HM9 := Aside0.mk hm_; have HN9 := Aside0.mk (pw_below_grown HN8.out _ (below_size HN8.out) hg_ (fun j hj => by cases hj; exact Nat.le_refl _)); clear hm_ hg_; clear HM8 HN8) | (at_lookup; refine wpList_lookup_own_int _ ?g1 (.tmp 47) (.tmp 50) 134 ?g2 9 3 .i64 lawKs Tryz.underlying134 Tryz.underlying3 (zeroI _) wA.heap.size 9 SgsT ?g3 HM9.out _ (.string ((c :: r).take (symLen (c :: r)))) ?g4 HKEY.out ?_; (case g1 => rfl); (case g2 => rfl); (case g3 => rfl); (case g4 => rfl); intro cc hat hwc; obtain rfl : cc = (tk : Int) := (by have h2 := hat.symm.trans HSY.out; injection h2 with h2; injection h2); clear hat hwc))
          have HR9 := Aside0.mk (Kd.R_below (Kd.R_below HR.out HDA.out.below) HN9.out)
          have HB9 := Aside0.mk (below_step (below_step HB.out HDA.out.below) HN9.out)
          clear HR HB HM9 HN9 HDA HKEY HSY hmm
          have HAD : Aside0 (∀ o, (w9.alloc o).drew = w9.drew.alloc o) := ⟨fun _ => rfl⟩
          first
            | go_region_law (rw [HAD.out]; refine Kd.R_append_step KT (w0 := w) w.heap.size (by rfl) (.tmp 52) (.tmp 58) 102 136 (.agg #[.int .i64 0, .string ⟨#[]⟩]) 24 rfl Tryz.underlying102 infoIT rfl (by decide) (by decide) u3 (toksV l) ((tk : Int), sb.extract 0 1) [.int .i64 (tk : Int), .string (sb.extract 0 1)] (fun _ => True) (fun _ => False) (by simp [Act.eval, Act.put]) (by simp [Act.eval, Act.put]) ?aP (fun _ hk => hk.elim) (fun _ _ => trivial) ?aO ?aB ?aS ?aL ?_; (case aP => exact ⟨[_], [_], rfl, rfl, rfl⟩); (case aO => exact (by (with_reducible repeat (first | apply Kd.R_alloc | apply Kd.R_drewN | apply Kd.R_drew)); exact HR9.out)); (case aB => exact (by repeat (first | (with_reducible first | exact HB9.out | apply below_alloc | apply pw_below_drewN | apply below_drew1) | exact HB9.out))); (case aS => exact (below_size (by repeat (first | (with_reducible first | exact HB9.out | apply below_alloc | apply pw_below_drewN | apply below_drew1) | exact HB9.out)))); (case aL => simp only [toksV, List.length_map]; omega); intro vN wN ho hb hg hat)
            | go_region_law (rw [HAD.out]; refine Kd.R_append_step KT (w0 := w) w.heap.size (by rfl) (.tmp 52) (.tmp 58) 102 136 (.agg #[.int .i64 0, .string ⟨#[]⟩]) 24 rfl Tryz.underlying102 infoIT rfl (by decide) (by decide) u3 (toksV l) ((tk : Int), sb.extract 0 2) [.int .i64 (tk : Int), .string (sb.extract 0 2)] (fun _ => True) (fun _ => False) (by simp [Act.eval, Act.put]) (by simp [Act.eval, Act.put]) ?aP (fun _ hk => hk.elim) (fun _ _ => trivial) ?aO ?aB ?aS ?aL ?_; (case aP => exact ⟨[_], [_], rfl, rfl, rfl⟩); (case aO => exact (by (with_reducible repeat (first | apply Kd.R_alloc | apply Kd.R_drewN | apply Kd.R_drew)); exact HR9.out)); (case aB => exact (by repeat (first | (with_reducible first | exact HB9.out | apply below_alloc | apply pw_below_drewN | apply below_drew1) | exact HB9.out))); (case aS => exact (below_size (by repeat (first | (with_reducible first | exact HB9.out | apply below_alloc | apply pw_below_drewN | apply below_drew1) | exact HB9.out)))); (case aL => simp only [toksV, List.length_map]; omega); intro vN wN ho hb hg hat)
          all_goals
            rw [HNEW.out] at ho
            have HR2 := Aside0.mk ho
            have HB2 := Aside0.mk hb
            clear ho hb hg hat HR9 HB9
            go_wp2
            go_roundg ((c :: r).drop (symLen (c :: r))).length
            case measure => have := HY.out.1; have := HDL.out.1; omega
            case rel => exact ⟨_, _, _, rfl, HEX, ⟨rfl, HDL.out.2⟩, ⟨by rw [List.append_assoc]; exact HTN.out⟩, HR2, HB2⟩
      · have hs' : isSp c = false := by simpa using hs
        rw [hs'] at HAM
        have HTN := Aside0.mk HT.out
        rw [tokens_word hs' hw'] at HTN
        have HBY := Aside0.mk (fun (m : Nat) (h : m < (c :: r).length) => show ∃ d : UInt8, (c :: r).getD m 0 = d ∧ bt sb m = (d.toNat : Int) from ⟨_, rfl, by rw [HSB.out, bt_mk]; rfl⟩)
        have HZ := Aside0.mk hzs
        have HWD : Aside0 (∀ (d : UInt8) (w : World), Calls Tryz.prog 83 #[.int .u8 (d.toNat : Int), .string ⟨#[33, 61, 60, 62, 40, 41, 44, 32, 9, 13, 10]⟩] w fun e w' => e = .returned (.bool (!isWd d)) ∧ Drawn0 w w') := ⟨fun d w => by rw [← amongT_wd, Bool.not_not]; exact amongT_calls d [33, 61, 60, 62, 40, 41, 44, 32, 9, 13, 10] (by decide) w⟩
        have HKD := Aside0.mk (word_kind (r := r) hs' hw')
        have HWP : Aside0 (1 ≤ wdLen (c :: r)) := ⟨by rw [wd_cons, if_pos (by simp [isWd, hs', hw'])]; omega⟩
        clear hzs hsl hw hw' hs hs' hbt
        go_upto_region 12 with (first | ((with_reducible refine (HAM.out _).mono ?_); rintro e wA ⟨rfl, hd⟩; have HDA := Aside0.mk hd; clear hd))
        have HRA := Aside0.mk (Kd.R_below HR.out HDA.out.below)
        have HBA := Aside0.mk (below_step HB.out HDA.out.below)
        clear HR HB HDA HAM
        go_wp2
        generalize gk = go at *
        go_loopg [7] ((c :: r).length) (fun k v7 w' => ∃ m : Nat, v7 = .int .i64 m ∧ Aside0 (k + m = (c :: r).length ∧ m ≤ wdLen (c :: r)) ∧ Aside0 (Drawn0 wA w'))
        case atStart => exact ⟨0, rfl, ⟨by omega, Nat.zero_le _⟩, ⟨Drawn0.refl _⟩⟩
        case round =>
         obtain ⟨m, rfl, HM, HD⟩ := hrel
         have hHMe := HM.out
         obtain ⟨hm1, hm2⟩ := hHMe
         have hmb : m ≤ 2000 := by have := HY.out.2; omega
         have hmz : m ≤ sb.size := by rw [HZ.out]; omega
         have hq0 : ((0 : Int) ≤ (m : Int)) = True := eq_true (by omega)
         have hqa : ((m : Int) < 0) = False := eq_false (by omega)
         have hq1 : ((m : Int) ≤ (sb.size : Int)) = True := eq_true (by omega)
         have hq2 : (m ≤ sb.size) = True := eq_true (by omega)
         have hq3 : ((sb.size : Int) < (m : Int)) = False := eq_false (by omega)
         have hq4 : (sb.size < m) = False := eq_false (by omega)
         by_cases hml : m < (c :: r).length
         · obtain ⟨d, hd, hbd⟩ := HBY.out m hml
           have hq5 : ((m : Int) < (sb.size : Int)) = True := eq_true (by rw [HZ.out]; omega)
           have hq6 : (m < sb.size) = True := eq_true (by rw [HZ.out]; omega)
           have hq7 : ((sb.size : Int) ≤ (m : Int)) = False := eq_false (by rw [HZ.out]; omega)
           have hq8 : (sb.size ≤ m) = False := eq_false (by rw [HZ.out]; omega)
           have hbm : ∀ h : m < sb.size, ((sb[m]'h).toNat : Int) = (d.toNat : Int) := fun h => by have := bt_at sb (m : Int) (by simpa using h); rw [hbd] at this; exact this
           have HWM := Aside0.mk (HWD.out d)
           have htw := take_wd hml hm2
           rw [hd] at htw
           by_cases hwd : isWd d = true
           · rw [hwd] at HWM
             have hm3 := htw.1 hwd
             clear htw hd hbd hwd
             go_wp2_with (first | ((with_reducible refine (HWM.out _).mono ?_); rintro e wB ⟨rfl, hdd⟩; have HD2 := Aside0.mk (Drawn0.trans_ HD.out hdd); clear hdd))
             go_roundg (gk - 1)
             case measure => omega
             case rel => exact ⟨m + 1, by go_num, ⟨by omega, hm3⟩, HD2⟩
           · have hwd2 : isWd d = false := by simpa using hwd
             rw [hwd2] at HWM
             have hme : m = wdLen (c :: r) := by have : ¬ (m + 1 ≤ wdLen (c :: r)) := fun h => hwd (htw.2 h); omega
             clear htw hd hbd hwd hwd2 hml hm1
             have hE : sb.extract 0 m = mk ((c :: r).take (wdLen (c :: r))) := by rw [HSB.out, extract_mk, hme]; rfl
             have hkd := HKD.out
             have HEX : Aside0 (sb.extract m sb.size = mk ((c :: r).drop (wdLen (c :: r)))) := ⟨by rw [HZ.out, HSB.out, extract_mk, hme]; congr 1; rw [List.take_of_length_le (by simp)]⟩
             have HDL : Aside0 (((c :: r).drop (wdLen (c :: r))).length < (c :: r).length ∧ ((c :: r).drop (wdLen (c :: r))).length ≤ x.length) := ⟨by have h1 := HWP.out; have h2 := HY.out.2; rw [List.length_drop, List.length_cons] at *; constructor <;> omega⟩
             have hel : (sb.extract 0 m).toList = (c :: r).take (wdLen (c :: r)) := by rw [hE, mk_toList]
             have HE := Aside0.mk hE
             clear hme hE
             rcases hkd with ⟨hk, h1⟩ | ⟨hk, h1⟩ | ⟨hk, h1, h2⟩
             · have HTN2 : Aside0 (l ++ [(9, (c :: r).take (wdLen (c :: r)))] ++ tokensL ((c :: r).drop (wdLen (c :: r))) = tokensL x) := ⟨by rw [List.append_assoc, ← hk]; exact HTN.out⟩
               have HNEW : Aside0 (toksV l ++ [((9 : Int), sb.extract 0 m)] = toksV (l ++ [(9, (c :: r).take (wdLen (c :: r)))])) := ⟨by rw [HE.out, toksV, toksV, List.map_append]; rfl⟩
               have e1 : ((sb.extract 0 m).toList == ([105, 110] : List UInt8)) = true := by rw [hel, h1]; rfl
               clear hk h1 hel
               go_upto_region 21 with (first | ((with_reducible refine (HWM.out _).mono ?_); rintro e wB ⟨rfl, hdd⟩; have HD2 := Aside0.mk (Drawn0.trans_ HD.out hdd); clear hdd))
               have HR9 := Aside0.mk (Kd.R_below HRA.out (HD2.out).below)
               have HB9 := Aside0.mk (below_step HBA.out (HD2.out).below)
               have HAD : Aside0 (∀ o, (wB.alloc o).drew = wB.drew.alloc o) := ⟨fun _ => rfl⟩
               go_region_law (rw [HAD.out]; refine Kd.R_append_step KT (w0 := w) w.heap.size (by rfl) (.tmp 83) (.tmp 89) 102 136 (.agg #[.int .i64 0, .string ⟨#[]⟩]) 24 rfl Tryz.underlying102 infoIT rfl (by decide) (by decide) u3 (toksV l) ((9 : Int), sb.extract 0 m) [.int .i64 (9 : Int), .string (sb.extract 0 m)] (fun _ => True) (fun _ => False) (by simp [Act.eval, Act.put]) (by simp [Act.eval, Act.put]) ?aP (fun _ hk => hk.elim) (fun _ _ => trivial) ?aO ?aB ?aS ?aL ?_; (case aP => exact ⟨[_], [_], rfl, rfl, rfl⟩); (case aO => exact (by (with_reducible repeat (first | apply Kd.R_alloc | apply Kd.R_drewN | apply Kd.R_drew)); exact HR9.out)); (case aB => exact (by repeat (first | (with_reducible first | exact HB9.out | apply below_alloc | apply pw_below_drewN | apply below_drew1) | exact HB9.out))); (case aS => exact (below_size (by repeat (first | (with_reducible first | exact HB9.out | apply below_alloc | apply pw_below_drewN | apply below_drew1) | exact HB9.out)))); (case aL => simp only [toksV, List.length_map]; omega); intro vN wN ho hb hg hat)
               all_goals
                 rw [HNEW.out] at ho
                 have HR2 := Aside0.mk ho
                 have HB2 := Aside0.mk hb
                 clear ho hb hg hat HR9 HB9
                 go_wp2
                 go_roundg ((c :: r).drop (wdLen (c :: r))).length
                 case measure => have := HY.out.1; have := HDL.out.1; omega
                 case rel => exact ⟨_, _, _, rfl, HEX, ⟨rfl, HDL.out.2⟩, HTN2, HR2, HB2⟩
             · have HTN2 : Aside0 (l ++ [(12, (c :: r).take (wdLen (c :: r)))] ++ tokensL ((c :: r).drop (wdLen (c :: r))) = tokensL x) := ⟨by rw [List.append_assoc, ← hk]; exact HTN.out⟩
               have HNEW : Aside0 (toksV l ++ [((12 : Int), sb.extract 0 m)] = toksV (l ++ [(12, (c :: r).take (wdLen (c :: r)))])) := ⟨by rw [HE.out, toksV, toksV, List.map_append]; rfl⟩
               have e1 : ((sb.extract 0 m).toList == ([105, 110] : List UInt8)) = false := by rw [hel, h1]; rfl
               have e2 : ((sb.extract 0 m).toList == ([110, 111, 116, 105, 110] : List UInt8)) = true := by rw [hel, h1]; rfl
               clear hk h1 hel
               go_upto_region 21 with (first | ((with_reducible refine (HWM.out _).mono ?_); rintro e wB ⟨rfl, hdd⟩; have HD2 := Aside0.mk (Drawn0.trans_ HD.out hdd); clear hdd))
               have HR9 := Aside0.mk (Kd.R_below HRA.out (HD2.out).below)
               have HB9 := Aside0.mk (below_step HBA.out (HD2.out).below)
               have HAD : Aside0 (∀ o, (wB.alloc o).drew = wB.drew.alloc o) := ⟨fun _ => rfl⟩
               go_region_law (rw [HAD.out]; refine Kd.R_append_step KT (w0 := w) w.heap.size (by rfl) (.tmp 83) (.tmp 89) 102 136 (.agg #[.int .i64 0, .string ⟨#[]⟩]) 24 rfl Tryz.underlying102 infoIT rfl (by decide) (by decide) u3 (toksV l) ((12 : Int), sb.extract 0 m) [.int .i64 (12 : Int), .string (sb.extract 0 m)] (fun _ => True) (fun _ => False) (by simp [Act.eval, Act.put]) (by simp [Act.eval, Act.put]) ?aP (fun _ hk => hk.elim) (fun _ _ => trivial) ?aO ?aB ?aS ?aL ?_; (case aP => exact ⟨[_], [_], rfl, rfl, rfl⟩); (case aO => exact (by (with_reducible repeat (first | apply Kd.R_alloc | apply Kd.R_drewN | apply Kd.R_drew)); exact HR9.out)); (case aB => exact (by repeat (first | (with_reducible first | exact HB9.out | apply below_alloc | apply pw_below_drewN | apply below_drew1) | exact HB9.out))); (case aS => exact (below_size (by repeat (first | (with_reducible first | exact HB9.out | apply below_alloc | apply pw_below_drewN | apply below_drew1) | exact HB9.out)))); (case aL => simp only [toksV, List.length_map]; omega); intro vN wN ho hb hg hat)
               all_goals
                 rw [HNEW.out] at ho
                 have HR2 := Aside0.mk ho
                 have HB2 := Aside0.mk hb
                 clear ho hb hg hat HR9 HB9
                 go_wp2
                 go_roundg ((c :: r).drop (wdLen (c :: r))).length
                 case measure => have := HY.out.1; have := HDL.out.1; omega
                 case rel => exact ⟨_, _, _, rfl, HEX, ⟨rfl, HDL.out.2⟩, HTN2, HR2, HB2⟩
             · have HTN2 : Aside0 (l ++ [(8, (c :: r).take (wdLen (c :: r)))] ++ tokensL ((c :: r).drop (wdLen (c :: r))) = tokensL x) := ⟨by rw [List.append_assoc, ← hk]; exact HTN.out⟩
               have HNEW : Aside0 (toksV l ++ [((8 : Int), sb.extract 0 m)] = toksV (l ++ [(8, (c :: r).take (wdLen (c :: r)))])) := ⟨by rw [HE.out, toksV, toksV, List.map_append]; rfl⟩
               have e1 : ((sb.extract 0 m).toList == ([105, 110] : List UInt8)) = false := by rw [hel, beq_eq_false_iff_ne]; exact h1
               have e2 : ((sb.extract 0 m).toList == ([110, 111, 116, 105, 110] : List UInt8)) = false := by rw [hel, beq_eq_false_iff_ne]; exact h2
               clear hk h1 hel h2
               go_upto_region 21 with (first | ((with_reducible refine (HWM.out _).mono ?_); rintro e wB ⟨rfl, hdd⟩; have HD2 := Aside0.mk (Drawn0.trans_ HD.out hdd); clear hdd))
               have HR9 := Aside0.mk (Kd.R_below HRA.out (HD2.out).below)
               have HB9 := Aside0.mk (below_step HBA.out (HD2.out).below)
               have HAD : Aside0 (∀ o, (wB.alloc o).drew = wB.drew.alloc o) := ⟨fun _ => rfl⟩
               go_region_law (rw [HAD.out]; refine Kd.R_append_step KT (w0 := w) w.heap.size (by rfl) (.tmp 83) (.tmp 89) 102 136 (.agg #[.int .i64 0, .string ⟨#[]⟩]) 24 rfl Tryz.underlying102 infoIT rfl (by decide) (by decide) u3 (toksV l) ((8 : Int), sb.extract 0 m) [.int .i64 (8 : Int), .string (sb.extract 0 m)] (fun _ => True) (fun _ => False) (by simp [Act.eval, Act.put]) (by simp [Act.eval, Act.put]) ?aP (fun _ hk => hk.elim) (fun _ _ => trivial) ?aO ?aB ?aS ?aL ?_; (case aP => exact ⟨[_], [_], rfl, rfl, rfl⟩); (case aO => exact (by (with_reducible repeat (first | apply Kd.R_alloc | apply Kd.R_drewN | apply Kd.R_drew)); exact HR9.out)); (case aB => exact (by repeat (first | (with_reducible first | exact HB9.out | apply below_alloc | apply pw_below_drewN | apply below_drew1) | exact HB9.out))); (case aS => exact (below_size (by repeat (first | (with_reducible first | exact HB9.out | apply below_alloc | apply pw_below_drewN | apply below_drew1) | exact HB9.out)))); (case aL => simp only [toksV, List.length_map]; omega); intro vN wN ho hb hg hat)
               all_goals
                 rw [HNEW.out] at ho
                 have HR2 := Aside0.mk ho
                 have HB2 := Aside0.mk hb
                 clear ho hb hg hat HR9 HB9
                 go_wp2
                 go_roundg ((c :: r).drop (wdLen (c :: r))).length
                 case measure => have := HY.out.1; have := HDL.out.1; omega
                 case rel => exact ⟨_, _, _, rfl, HEX, ⟨rfl, HDL.out.2⟩, HTN2, HR2, HB2⟩
         · have hme : m = wdLen (c :: r) := by have := wdLen_le (c :: r); omega
           have hq5 : ((m : Int) < (sb.size : Int)) = False := eq_false (by rw [HZ.out]; omega)
           have hq6 : (m < sb.size) = False := eq_false (by rw [HZ.out]; omega)
           have hq7 : ((sb.size : Int) ≤ (m : Int)) = True := eq_true (by rw [HZ.out]; omega)
           have hq8 : (sb.size ≤ m) = True := eq_true (by rw [HZ.out]; omega)
           clear hml hm1
           have hE : sb.extract 0 m = mk ((c :: r).take (wdLen (c :: r))) := by rw [HSB.out, extract_mk, hme]; rfl
           have hkd := HKD.out
           have HEX : Aside0 (sb.extract m sb.size = mk ((c :: r).drop (wdLen (c :: r)))) := ⟨by rw [HZ.out, HSB.out, extract_mk, hme]; congr 1; rw [List.take_of_length_le (by simp)]⟩
           have HDL : Aside0 (((c :: r).drop (wdLen (c :: r))).length < (c :: r).length ∧ ((c :: r).drop (wdLen (c :: r))).length ≤ x.length) := ⟨by have h1 := HWP.out; have h2 := HY.out.2; rw [List.length_drop, List.length_cons] at *; constructor <;> omega⟩
           have hel : (sb.extract 0 m).toList = (c :: r).take (wdLen (c :: r)) := by rw [hE, mk_toList]
           have HE := Aside0.mk hE
           clear hme hE
           rcases hkd with ⟨hk, h1⟩ | ⟨hk, h1⟩ | ⟨hk, h1, h2⟩
           · have HTN2 : Aside0 (l ++ [(9, (c :: r).take (wdLen (c :: r)))] ++ tokensL ((c :: r).drop (wdLen (c :: r))) = tokensL x) := ⟨by rw [List.append_assoc, ← hk]; exact HTN.out⟩
             have HNEW : Aside0 (toksV l ++ [((9 : Int), sb.extract 0 m)] = toksV (l ++ [(9, (c :: r).take (wdLen (c :: r)))])) := ⟨by rw [HE.out, toksV, toksV, List.map_append]; rfl⟩
             have e1 : ((sb.extract 0 m).toList == ([105, 110] : List UInt8)) = true := by rw [hel, h1]; rfl
             clear hk h1 hel
             go_upto_region 21 with (first | (fail))
             have HR9 := Aside0.mk (Kd.R_below HRA.out (HD.out).below)
             have HB9 := Aside0.mk (below_step HBA.out (HD.out).below)
             have HAD : Aside0 (∀ o, (wr.alloc o).drew = wr.drew.alloc o) := ⟨fun _ => rfl⟩
             go_region_law (rw [HAD.out]; refine Kd.R_append_step KT (w0 := w) w.heap.size (by rfl) (.tmp 83) (.tmp 89) 102 136 (.agg #[.int .i64 0, .string ⟨#[]⟩]) 24 rfl Tryz.underlying102 infoIT rfl (by decide) (by decide) u3 (toksV l) ((9 : Int), sb.extract 0 m) [.int .i64 (9 : Int), .string (sb.extract 0 m)] (fun _ => True) (fun _ => False) (by simp [Act.eval, Act.put]) (by simp [Act.eval, Act.put]) ?aP (fun _ hk => hk.elim) (fun _ _ => trivial) ?aO ?aB ?aS ?aL ?_; (case aP => exact ⟨[_], [_], rfl, rfl, rfl⟩); (case aO => exact (by (with_reducible repeat (first | apply Kd.R_alloc | apply Kd.R_drewN | apply Kd.R_drew)); exact HR9.out)); (case aB => exact (by repeat (first | (with_reducible first | exact HB9.out | apply below_alloc | apply pw_below_drewN | apply below_drew1) | exact HB9.out))); (case aS => exact (below_size (by repeat (first | (with_reducible first | exact HB9.out | apply below_alloc | apply pw_below_drewN | apply below_drew1) | exact HB9.out)))); (case aL => simp only [toksV, List.length_map]; omega); intro vN wN ho hb hg hat)
             all_goals
               rw [HNEW.out] at ho
               have HR2 := Aside0.mk ho
               have HB2 := Aside0.mk hb
               clear ho hb hg hat HR9 HB9
               go_wp2
               go_roundg ((c :: r).drop (wdLen (c :: r))).length
               case measure => have := HY.out.1; have := HDL.out.1; omega
               case rel => exact ⟨_, _, _, rfl, HEX, ⟨rfl, HDL.out.2⟩, HTN2, HR2, HB2⟩
           · have HTN2 : Aside0 (l ++ [(12, (c :: r).take (wdLen (c :: r)))] ++ tokensL ((c :: r).drop (wdLen (c :: r))) = tokensL x) := ⟨by rw [List.append_assoc, ← hk]; exact HTN.out⟩
             have HNEW : Aside0 (toksV l ++ [((12 : Int), sb.extract 0 m)] = toksV (l ++ [(12, (c :: r).take (wdLen (c :: r)))])) := ⟨by rw [HE.out, toksV, toksV, List.map_append]; rfl⟩
             have e1 : ((sb.extract 0 m).toList == ([105, 110] : List UInt8)) = false := by rw [hel, h1]; rfl
             have e2 : ((sb.extract 0 m).toList == ([110, 111, 116, 105, 110] : List UInt8)) = true := by rw [hel, h1]; rfl
             clear hk h1 hel
             go_upto_region 21 with (first | (fail))
             have HR9 := Aside0.mk (Kd.R_below HRA.out (HD.out).below)
             have HB9 := Aside0.mk (below_step HBA.out (HD.out).below)
             have HAD : Aside0 (∀ o, (wr.alloc o).drew = wr.drew.alloc o) := ⟨fun _ => rfl⟩
             go_region_law (rw [HAD.out]; refine Kd.R_append_step KT (w0 := w) w.heap.size (by rfl) (.tmp 83) (.tmp 89) 102 136 (.agg #[.int .i64 0, .string ⟨#[]⟩]) 24 rfl Tryz.underlying102 infoIT rfl (by decide) (by decide) u3 (toksV l) ((12 : Int), sb.extract 0 m) [.int .i64 (12 : Int), .string (sb.extract 0 m)] (fun _ => True) (fun _ => False) (by simp [Act.eval, Act.put]) (by simp [Act.eval, Act.put]) ?aP (fun _ hk => hk.elim) (fun _ _ => trivial) ?aO ?aB ?aS ?aL ?_; (case aP => exact ⟨[_], [_], rfl, rfl, rfl⟩); (case aO => exact (by (with_reducible repeat (first | apply Kd.R_alloc | apply Kd.R_drewN | apply Kd.R_drew)); exact HR9.out)); (case aB => exact (by repeat (first | (with_reducible first | exact HB9.out | apply below_alloc | apply pw_below_drewN | apply below_drew1) | exact HB9.out))); (case aS => exact (below_size (by repeat (first | (with_reducible first | exact HB9.out | apply below_alloc | apply pw_below_drewN | apply below_drew1) | exact HB9.out)))); (case aL => simp only [toksV, List.length_map]; omega); intro vN wN ho hb hg hat)
             all_goals
               rw [HNEW.out] at ho
               have HR2 := Aside0.mk ho
               have HB2 := Aside0.mk hb
               clear ho hb hg hat HR9 HB9
               go_wp2
               go_roundg ((c :: r).drop (wdLen (c :: r))).length
               case measure => have := HY.out.1; have := HDL.out.1; omega
               case rel => exact ⟨_, _, _, rfl, HEX, ⟨rfl, HDL.out.2⟩, HTN2, HR2, HB2⟩
           · have HTN2 : Aside0 (l ++ [(8, (c :: r).take (wdLen (c :: r)))] ++ tokensL ((c :: r).drop (wdLen (c :: r))) = tokensL x) := ⟨by rw [List.append_assoc, ← hk]; exact HTN.out⟩
             have HNEW : Aside0 (toksV l ++ [((8 : Int), sb.extract 0 m)] = toksV (l ++ [(8, (c :: r).take (wdLen (c :: r)))])) := ⟨by rw [HE.out, toksV, toksV, List.map_append]; rfl⟩
             have e1 : ((sb.extract 0 m).toList == ([105, 110] : List UInt8)) = false := by rw [hel, beq_eq_false_iff_ne]; exact h1
             have e2 : ((sb.extract 0 m).toList == ([110, 111, 116, 105, 110] : List UInt8)) = false := by rw [hel, beq_eq_false_iff_ne]; exact h2
             clear hk h1 hel h2
             go_upto_region 21 with (first | (fail))
             have HR9 := Aside0.mk (Kd.R_below HRA.out (HD.out).below)
             have HB9 := Aside0.mk (below_step HBA.out (HD.out).below)
             have HAD : Aside0 (∀ o, (wr.alloc o).drew = wr.drew.alloc o) := ⟨fun _ => rfl⟩
             go_region_law (rw [HAD.out]; refine Kd.R_append_step KT (w0 := w) w.heap.size (by rfl) (.tmp 83) (.tmp 89) 102 136 (.agg #[.int .i64 0, .string ⟨#[]⟩]) 24 rfl Tryz.underlying102 infoIT rfl (by decide) (by decide) u3 (toksV l) ((8 : Int), sb.extract 0 m) [.int .i64 (8 : Int), .string (sb.extract 0 m)] (fun _ => True) (fun _ => False) (by simp [Act.eval, Act.put]) (by simp [Act.eval, Act.put]) ?aP (fun _ hk => hk.elim) (fun _ _ => trivial) ?aO ?aB ?aS ?aL ?_; (case aP => exact ⟨[_], [_], rfl, rfl, rfl⟩); (case aO => exact (by (with_reducible repeat (first | apply Kd.R_alloc | apply Kd.R_drewN | apply Kd.R_drew)); exact HR9.out)); (case aB => exact (by repeat (first | (with_reducible first | exact HB9.out | apply below_alloc | apply pw_below_drewN | apply below_drew1) | exact HB9.out))); (case aS => exact (below_size (by repeat (first | (with_reducible first | exact HB9.out | apply below_alloc | apply pw_below_drewN | apply below_drew1) | exact HB9.out)))); (case aL => simp only [toksV, List.length_map]; omega); intro vN wN ho hb hg hat)
             all_goals
               rw [HNEW.out] at ho
               have HR2 := Aside0.mk ho
               have HB2 := Aside0.mk hb
               clear ho hb hg hat HR9 HB9
               go_wp2
               go_roundg ((c :: r).drop (wdLen (c :: r))).length
               case measure => have := HY.out.1; have := HDL.out.1; omega
               case rel => exact ⟨_, _, _, rfl, HEX, ⟨rfl, HDL.out.2⟩, HTN2, HR2, HB2⟩
end Go.Proofs.YthfjolafikgpoaaGreatDoor.Hand
