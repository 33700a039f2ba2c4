/- spec.Ordered: requirements by their keys. -/
import Derived.Test.YthfjolafikgpoaaGreatDoorSAM34
import Derived.BigQuiet
import Derived.Test.YthfjolafikgpoaaGreatDoorSAM23
import Derived.Test.YthfjolafikgpoaaGreatDoorSASpWords
import Derived.Test.YthfjolafikgpoaaGreatDoorSAM18
import Derived.Test.YthfjolafikgpoaaGreatDoorSAM30
import Derived.Deep.RegionHeldLaw
import Derived.Test.YthfjolafikgpoaaGreatDoorSAM33
namespace Go.Proofs.YthfjolafikgpoaaGreatDoor.Hand
open Go.RowKit Go.Maps Go.Proofs.YthfjolafikgpoaaGreatDoorW.PrintWords Go.Proofs.YthfjolafikgpoaaGreatDoorW.PrintLast Go.Proofs.YthfjolafikgpoaaGreatDoorW.PrintMore Go.Proofs.YthfjolafikgpoaaGreatDoor.Base
open Go.Sort (ltStr)
set_option linter.unusedVariables false
set_option linter.unusedSimpArgs false
set_option maxRecDepth 100000
theorem klt_tr (a b c : Rq) (h1 : klt b a = false) (h2 : klt c b = false) : klt c a = false := by
 cases e : klt c a
 · rfl
 · exfalso
   by_cases h3 : klt a b = true
   · have := lt_tr (x := c.1) (y := a.1) (z := b.1) e h3
     exact absurd (h2.symm.trans this) (by decide)
   · have e1 : a.1 = b.1 := lt_tot (by simpa using h3) h1
     have e2 : ltStr c.1 a.1 = true := e
     rw [e1] at e2
     exact absurd (h2.symm.trans e2) (by decide)
theorem klt_as (a b : Rq) (h : klt b a = true) : klt a b = false := by
 cases e : klt a b
 · rfl
 · have h1 := lt_tr (x := a.1) (y := b.1) (z := a.1) e h
   rw [lt_irr] at h1; cases h1
theorem gt_bytes (a b : L) : (!Op.bytesLess a b && !(a == b)) = Op.bytesLess b a := by
 rw [ltS, ltS]
 by_cases e : a = b
 · subst e; rw [lt_irr]; simp
 · rw [beq_eq_false_iff_ne.2 e]
   cases h : ltStr a b <;> cases h2 : ltStr b a
   · exact absurd (lt_tot h h2) e
   · rfl
   · rfl
   · exact absurd (lt_tr h h2) (by rw [lt_irr]; decide)
set_option maxHeartbeats 8000000 in
theorem Ord_calls (A : Option Addr) (c n : Nat) (l : List Rq) (hn : l.length = n) (hn2 : n ≤ 900) (w : World) (hC : KQ.C w A n (rqV l)) :
   Calls Tryz.prog 19 #[.slice A n c] w fun e w' => Below w.heap.size w w' ∧ ∃ A1 c1 l1, e = .returned (.slice A1 n c1) ∧ l1.Perm l ∧ KAsc l1 ∧ KQ.C w' A1 n (rqV l1) := by
 obtain ⟨ps0, hps, hfr, hel⟩ := kq_elem2 hC hn
 have HEL := Aside0.mk hel
 have HFR0 := Aside0.mk hfr
 have HPS := Aside0.mk hps
 have HLN := Aside0.mk (show ps0.length = n by rw [← hn, ← hps, List.length_map])
 have HB := Aside0.mk (Below.refl w.heap.size w)
 clear hC hel hfr hps hn
 go_enter Tryz.func19, Tryz.ntmps19
 go_wp2
 go_loopg [3, 5, 6, 9] (n) (fun g v3 v5 v6 v9 w' => ∃ (j : Nat) (ps : List (FE × Rq)), v9 = .int .i64 j ∧ Aside0 (g + j = n) ∧ Aside0 (KF.R 53 w' w.heap.size (fun _ => True) v3 (ps.map (·.1))) ∧ Aside0 (Below w.heap.size w w') ∧ Aside0 (ps.Perm (ps0.take j)) ∧ Aside0 (ps.Pairwise fun a b => klt b.2 a.2 = false))
 case atStart => exact ⟨0, [], rfl, ⟨by omega⟩, ⟨Kd.R_nil _ _ _ _ _⟩, HB, ⟨List.Perm.refl _⟩, ⟨List.Pairwise.nil⟩⟩
 case round =>
  clear HB
  obtain ⟨j, ps, rfl, HJ, HR, HB, HPM, HAS⟩ := hrel
  by_cases hjl : j < n
  · obtain ⟨p, hp⟩ : ∃ p, ps0[j]? = some p := ⟨_, List.getElem?_eq_getElem (by rw [HLN.out]; exact hjl)⟩
    obtain ⟨ad, rfl, c0, c1, c2⟩ := HEL.out j p hp
    replace c0 := (HB.out.cell (World.block_lt_of_cell? _ _ c0)).trans c0
    replace c1 := (HB.out.cell (World.block_lt_of_cell? _ _ c1)).trans c1
    replace c2 := (HB.out.cell (World.block_lt_of_cell? _ _ c2)).trans c2
    have HPJ := Aside0.mk hp
    have HPL : Aside0 (ps.length = j) := ⟨by rw [HPM.out.length_eq, List.length_take, HLN.out]; omega⟩
    obtain ⟨A3, c3, e3⟩ := Kd.R_slice HR.out
    rw [List.length_map, HPL.out] at e3
    subst e3
    have HPI := Aside0.mk hp
    have hlt3 := Kd.R_lt HR.out
    have HNE : Aside0 (∀ k, (Value.slice A3 j c3).ownBlock = some k → k ≠ wr.heap.size) := ⟨fun k hk e => by have := hlt3 k hk; omega⟩
    obtain ⟨sk, hsk⟩ : ∃ sk, p.1.1 = sk := ⟨_, rfl⟩
    obtain ⟨so, hso⟩ : ∃ so, p.1.2.1 = so := ⟨_, rfl⟩
    obtain ⟨BV, hBV⟩ : ∃ BV, p.1.2.2.1 = BV := ⟨_, rfl⟩
    obtain ⟨nv, hnv⟩ : ∃ nv, p.1.2.2.2.1 = nv := ⟨_, rfl⟩
    obtain ⟨cv, hcv⟩ : ∃ cv, p.1.2.2.2.2 = cv := ⟨_, rfl⟩
    rw [hsk] at c0
    rw [hso] at c1
    rw [hBV, hnv, hcv] at c2
    have HFE : Aside0 ((sk, so, (BV, nv, cv)) = p.1) := ⟨by rw [← hsk, ← hso, ← hBV, ← hnv, ← hcv]⟩
    have HSK : Aside0 (sk.toList = p.2.1) := ⟨by rw [← hsk, (HFR0.out p (List.mem_of_getElem? hp)).1, mk_toList]⟩
    have HFP := Aside0.mk (HFR0.out p (List.mem_of_getElem? hp))
    have hb1 := below_alloc HB.out (.cells #[.string sk, .string so, .slice BV nv cv] 53)
    have hr1 := Kd.R_alloc HR.out (.cells #[.string sk, .string so, .slice BV nv cv] 53)
    have hpb := heap_alloc_new wr (.cells #[.string sk, .string so, .slice BV nv cv] 53)
    obtain ⟨w1, hw1⟩ : ∃ w1, wr.alloc (.cells #[.string sk, .string so, .slice BV nv cv] 53) = w1 := ⟨_, rfl⟩
    rw [hw1] at hb1 hr1 hpb
    have HB1 := Aside0.mk hb1
    have HPB := Aside0.mk hpb
    have HR1 : Aside0 (KF.R 53 w1 w.heap.size (fun k => k ≠ wr.heap.size) (.slice A3 j c3) (ps.map (·.1))) := ⟨⟨HNE.out, encF _, kf_own hr1, reps_encF _⟩⟩
    have HF1 : Aside0 (∀ k, w1.heap.size ≤ k → k ≠ wr.heap.size) := ⟨fun k hk e => by have := blk_lt hpb; omega⟩
    have HGB : Aside0 (∀ W' : World, w1.grownBy W' (Value.slice A3 j c3).ownBlock → W'.heap[wr.heap.size]? = some (.cells #[.string sk, .string so, .slice BV nv cv] 53)) := ⟨fun W' hg => (hg.block _ (blk_lt HPB.out) (fun e => HNE.out _ e.symm rfl)).trans HPB.out⟩
    have hpc := blk3 hpb
    have HJ9 : Aside0 (j ≤ 900) := ⟨by omega⟩
    clear hsk hso hBV hnv hcv hb1 hr1 hpb hlt3 HR HB
    generalize gk = go at *
    go_upto_block 2 with (first | ((with_reducible refine gate_builtin (b := .append) (xs := #[.tmp 15, .tmp 17]) rfl ?_); (try (refine gate_guard (by rfl) ?_; dsimp only)); at_builtin; refine Kd.R_append KF (w0 := w) w.heap.size rfl (.tmp 15) (.tmp 17) 22 53 (.agg #[.string ⟨#[]⟩, .string ⟨#[]⟩, .slice none 0 0]) 56 rfl Tryz.underlying22 infoIQ rfl (by decide) (by decide) (.slice A3 j c3) (ps.map (·.1)) (sk, so, (BV, nv, cv)) [.string sk, .string so, .slice BV nv cv] (fun k => k ≠ wr.heap.size) (fun _ => False) rfl rfl ?aP (fun _ hk => hk.elim) ?aF ?aO ?aB ?aS ?aL ?_; (case aP => exact ⟨[_], [_, _], rfl, rfl, [_], [_], rfl, rfl, rfl⟩); (case aB => exact HB1.out); (case aF => exact HF1.out); (case aO => exact HR1.out); (case aS => exact below_size HB1.out); (case aL => have := HJ9.out; rw [List.length_map, HPL.out]; omega); intro vN wN2 ho hb hg hat; have HR3 := Aside0.mk ho; have HB3 := Aside0.mk hb; have HP3 := Aside0.mk (HGB.out wN2 hg); clear ho hb hg hat))
    obtain ⟨g, cap, hv, hbg, hgl, hgc⟩ := Kd.R_form HR3.out (by simp)
    rw [List.length_append, List.length_map, List.length_singleton, HPL.out] at hv
    subst hv
    obtain ⟨gp, hgp⟩ : ∃ gp, wr.heap.size = gp := ⟨_, rfl⟩
    rw [hgp] at HR3 HP3
    have HGN : Aside0 (gp ≠ g) := ⟨fun e => (HR3.out.1 g rfl) e.symm⟩
    have HBG := Aside0.mk hbg
    have HFL : Aside0 ((ps.map (·.1)).length = j) := ⟨by rw [List.length_map, HPL.out]⟩
    have HR4 : Aside0 (KF.R 53 wN2 w.heap.size (fun _ => True) (.slice (some ⟨g, 0, none⟩) (j + 1) cap) ((ps.map (·.1)).take j ++ (sk, so, (BV, nv, cv)) :: (ps.map (·.1)).drop j)) := ⟨by
     have h := HR3.out
     rw [← HFL.out, List.take_length, List.drop_length, HFL.out]
     exact ⟨fun _ _ => trivial, encF _, kf_own h, reps_encF _⟩⟩
    obtain ⟨ag, hag⟩ : ∃ ag, (⟨g, 0, none⟩ : Addr) = ag := ⟨_, rfl⟩
    have HAG := Aside0.mk hag.symm
    simp only [hag, hgp]
    clear hag hbg hgl hgc HR3 HPJ HB1 HPB HR1 HF1 HGB HNE hpc c0 c1 c2 hgp hw1 hp
    go_cut [6] (fun v6 wc => ∃ (i : Nat) (f0 : FE), v6 = .int .i64 i ∧ Aside0 (i ≤ j ∧ (∀ (k : Nat) x, i ≤ k → ps[k]? = some x → klt p.2 x.2 = true) ∧ (∀ (m : Nat) x, i = m + 1 → ps[m]? = some x → klt p.2 x.2 = false)) ∧ Aside0 (KF.R 53 wc w.heap.size (fun _ => True) (.slice (some ⟨g, 0, none⟩) (j + 1) cap) ((ps.map (·.1)).take i ++ f0 :: (ps.map (·.1)).drop i)) ∧ Aside0 (Below w.heap.size w wc) ∧ Aside0 (wc.heap[gp]? = some (.cells #[.string sk, .string so, .slice BV nv cv] 53)))
    case first =>
     go_wp2
     go_loopg [6] (j) (fun gg v6 w' => ∃ (i : Nat) (f0 : FE), v6 = .int .i64 i ∧ Aside0 (gg = i) ∧ Aside0 (i ≤ j ∧ (∀ (k : Nat) x, i ≤ k → ps[k]? = some x → klt p.2 x.2 = true)) ∧ Aside0 (KF.R 53 w' w.heap.size (fun _ => True) (.slice (some ⟨g, 0, none⟩) (j + 1) cap) ((ps.map (·.1)).take i ++ f0 :: (ps.map (·.1)).drop i)) ∧ Aside0 (Below w.heap.size w w') ∧ Aside0 (w'.heap[gp]? = some (.cells #[.string sk, .string so, .slice BV nv cv] 53)))
     case atStart => exact ⟨j, _, rfl, ⟨rfl⟩, ⟨Nat.le_refl _, fun k x h1 h2 => by have := (List.getElem?_eq_some_iff.1 h2).1; rw [HPL.out] at this; omega⟩, HR4, HB3, HP3⟩
     case round =>
      clear HR4 HB3 HP3
      obtain ⟨i, f0, rfl, HI, HK, HR4, HB3, HP3⟩ := hrel
      have hp0 : wr.cell? ⟨gp, 0, none⟩ = some (.string sk) := blk_cell HP3.out 0
      have hij : i ≤ j := HK.out.1
      rcases Nat.eq_zero_or_pos i with h0 | h0
      · subst h0
        clear hij hp0
        go_wp2
        go_quiet (fail)
        go_wp2
        go_meet
        case rel => exact ⟨0, f0, rfl, ⟨Nat.zero_le _, HK.out.2, fun m x e => by omega⟩, ⟨Kd.R_drewN HR4.out _⟩, ⟨pw_below_drewN HB3.out _⟩, HP3⟩
      · obtain ⟨m, hm⟩ : ∃ m, i = m + 1 := ⟨i - 1, by omega⟩
        have HM := Aside0.mk hm
        have hmj : m < j := by omega
        obtain ⟨x, hx⟩ : ∃ x, ps[m]? = some x := ⟨_, List.getElem?_eq_getElem (by rw [HPL.out]; exact hmj)⟩
        have hxf : (ps.map (·.1))[m]? = some x.1 := by rw [List.getElem?_map, hx]; rfl
        have hxi : ((ps.map (·.1)).take i ++ f0 :: (ps.map (·.1)).drop i)[m]? = some x.1 := by rw [ins_get _ _ (by rw [HFL.out]; exact hij) (by omega)]; exact hxf
        obtain ⟨ad2, e2, d0, d1, d2⟩ := kf_at (Kd.R_reads' HR4.out).2.2 m x.1 hxi
        injection e2 with e2
        rw [← e2] at d0 d1 d2
        rw [← HAG.out] at d0 d1 d2
        have HX := Aside0.mk hx
        have HXF := Aside0.mk hxf
        obtain ⟨q, hq⟩ : ∃ q, x.1.1 = q := ⟨_, rfl⟩
        rw [hq] at d0
        have hm1 : (i : Int) - 1 = (m : Int) := by omega
        have hmw : IntKind.i64.wrap (m : Int) = (m : Int) := by rw [IntKind.wrap_i64]; omega
        have hmj2 : (m : Int) < (j : Int) + 1 := by omega
        have hmj3 : m < j + 1 := by omega
        have b0 : decide ((0 : Int) < (i : Int)) = true := decide_eq_true (by omega)
        have b1 : decide (0 < i) = true := decide_eq_true (by omega)
        have HD1 := Aside0.mk d1
        have HD2 := Aside0.mk d2
        have hqk : Op.bytesLess sk.toList q.toList = klt p.2 x.2 := by
         have e1 : q.toList = x.2.1 := by rw [← hq, (HFR0.out x (List.mem_of_mem_take (HPM.out.mem_iff.1 (List.mem_of_getElem? hx)))).1, mk_toList]
         rw [HSK.out, e1, ltS]
        have hgt : ∀ W, (binOp .gtr 9 (.string q) (.string sk)).run Tryz.prog W = .ok (.bool (klt p.2 x.2)) W := fun W => by rw [← hqk]; simp [binOp, Op.stringOp, go_sem, gt_bytes]
        clear hq hx hxf hxi e2 hm d1 d2
        cases hkk : klt p.2 x.2
        · rw [hkk] at hqk hgt
          go_wp2
          go_quiet (fail)
          go_wp2
          go_meet
          case rel => exact ⟨i, f0, rfl, ⟨HK.out.1, HK.out.2, fun m' x' e hx' => by have e2 : m' = m := by have := HM.out; omega
                                                                                    subst e2; rw [HX.out] at hx'; injection hx' with hx'; rw [← hx']; exact hkk⟩, ⟨Kd.R_drewN HR4.out _⟩, ⟨pw_below_drewN HB3.out _⟩, HP3⟩
        · rw [hkk] at hqk hgt
          go_wp2
          go_quiet (fail)
          have e := HAG.out
          subst e
          clear d0 hp0 hqk hgt
          have HB4 := Aside0.mk (pw_below_drewN HB3.out nq)
          have hr4 := Kd.R_drewN HR4.out nq
          have HP4 : Aside0 ((wr.drewN nq).heap[gp]? = some (.cells #[.string sk, .string so, .slice BV nv cv] 53)) := ⟨HP3.out⟩
          obtain ⟨w2, hw2⟩ : ∃ w2, wr.drewN nq = w2 := ⟨_, rfl⟩
          rw [hw2] at HB4 hr4 HP4
          rw [hw2]
          obtain ⟨ys, hys⟩ : ∃ ys, (ps.map (·.1)).take i ++ f0 :: (ps.map (·.1)).drop i = ys := ⟨_, rfl⟩
          rw [hys] at hr4
          have hyl : ys.length = j + 1 := by rw [← hys, ins_len _ _ (by rw [HFL.out]; exact hij), HFL.out]
          rw [← hyl] at hr4
          have hxi : ys[m]? = some x.1 := by rw [← hys, ins_get _ _ (by rw [HFL.out]; exact hij) (by have := HM.out; omega)]; exact HXF.out
          obtain ⟨ad2, e2, d0, d1, d2⟩ := kf_at (Kd.R_reads' hr4).2.2 m x.1 hxi
          injection e2 with e2
          subst e2
          have hadd : (⟨g, 0, none⟩ : Addr).add (m * 3) = ⟨g, m * 3, none⟩ := by rw [add_spot rfl]; simp
          rw [hadd] at d0 d1 d2
          clear hadd
          obtain ⟨o0, o1, o2, h0, h1, h2, f00, f01, f02, h11, f11, h22, f22, _, hput⟩ := put_kf hr4 i (by rw [hyl]; omega) x.1
          have hfin : ys.set i x.1 = (ps.map (·.1)).take m ++ x.1 :: (ps.map (·.1)).drop m := by
           have e := HM.out
           subst e
           have hml : m < (ps.map (·.1)).length := by rw [HFL.out]; exact hmj
           have e2 : (ps.map (·.1))[m] = x.1 := by have h := HXF.out; rw [List.getElem?_eq_getElem hml] at h; exact Option.some.inj h
           have h := ins_next (ps.map (·.1)) f0 hml
           rw [e2, hys] at h
           exact h
          rw [hfin, hyl] at hput
          have HR5 := Aside0.mk hput
          obtain ⟨xk, hxk⟩ : ∃ y, x.1.1 = y := ⟨_, rfl⟩
          obtain ⟨xo, hxo⟩ : ∃ y, x.1.2.1 = y := ⟨_, rfl⟩
          obtain ⟨xb, hxb⟩ : ∃ y, x.1.2.2.1 = y := ⟨_, rfl⟩
          obtain ⟨xn, hxn⟩ : ∃ y, x.1.2.2.2.1 = y := ⟨_, rfl⟩
          obtain ⟨xc, hxc⟩ : ∃ y, x.1.2.2.2.2 = y := ⟨_, rfl⟩
          rw [hxk] at d0 h11 f11 h22 f22 HR5
          rw [hxo] at d1 h22 f22 HR5
          rw [hxb, hxn, hxc] at d2 HR5
          have HB5 : Aside0 (Below w.heap.size w (((w2.setCell ⟨g, i * 3, none⟩ (.string xk)).setCell ⟨g, i * 3 + 1, none⟩ (.string xo)).setCell ⟨g, i * 3 + 2, none⟩ (.slice xb xn xc))) := ⟨((HB4.out.setCell HBG.out _).setCell HBG.out _).setCell HBG.out _⟩
          have HP5 : Aside0 ((((w2.setCell ⟨g, i * 3, none⟩ (.string xk)).setCell ⟨g, i * 3 + 1, none⟩ (.string xo)).setCell ⟨g, i * 3 + 2, none⟩ (.slice xb xn xc)).heap[gp]? = some (.cells #[.string sk, .string so, .slice BV nv cv] 53)) := ⟨blk_far (blk_far (blk_far HP4.out (p := ⟨g, i * 3, none⟩) HGN.out _) (p := ⟨g, i * 3 + 1, none⟩) HGN.out _) (p := ⟨g, i * 3 + 2, none⟩) HGN.out _⟩
          clear hr4 hput hfin hys hyl hxi hxk hxo hxb hxn hxc HP4 HB4 HR4 HB3 HP3
          go_wp2
          go_roundg (gk - 1)
          case measure => have := HI.out; omega
          case rel => exact ⟨m, x.1, by go_num, ⟨by have := HI.out; have := HM.out; omega⟩, ⟨by omega, fun k y h1 h2 => by
           by_cases hk : k = m
           · subst hk; rw [HX.out] at h2; injection h2 with h2; rw [← h2]; exact hkk
           · exact HK.out.2 k y (by have := HM.out; omega) h2⟩, HR5, HB5, HP5⟩
    case rest =>
     clear HR4 HB3 HP3
     obtain ⟨i, f0, rfl, HK, HR4, HB3, HP3⟩ := hcut
     have hij : i ≤ j := HK.out.1
     have e := HAG.out
     subst e
     obtain ⟨hp0, hp1, hp2⟩ := blk3 HP3.out
     obtain ⟨ys, hys⟩ : ∃ ys, (ps.map (·.1)).take i ++ f0 :: (ps.map (·.1)).drop i = ys := ⟨_, rfl⟩
     have hr4 := HR4.out
     rw [hys] at hr4
     have hyl : ys.length = j + 1 := by rw [← hys, ins_len _ _ (by rw [HFL.out]; exact hij), HFL.out]
     rw [← hyl] at hr4
     obtain ⟨o0, o1, o2, h0, h1, h2, f00, f01, f02, h11, f11, h22, f22, _, hput⟩ := put_kf hr4 i (by rw [hyl]; omega) (sk, so, (BV, nv, cv))
     have hfin : ys.set i (sk, so, (BV, nv, cv)) = (ps.take i ++ p :: ps.drop i).map (·.1) := by
      rw [← hys, ins_set _ _ _ (by rw [HFL.out]; exact hij), List.map_append, List.map_cons, List.map_take, List.map_drop, HFE.out]
     rw [hfin, hyl] at hput
     have HR5 := Aside0.mk hput
     have HB5 : Aside0 (Below w.heap.size w (((wc.setCell ⟨g, i * 3, none⟩ (.string sk)).setCell ⟨g, i * 3 + 1, none⟩ (.string so)).setCell ⟨g, i * 3 + 2, none⟩ (.slice BV nv cv))) := ⟨((HB3.out.setCell HBG.out _).setCell HBG.out _).setCell HBG.out _⟩
     have HPJ2 : Aside0 ((ps.take i ++ p :: ps.drop i).Perm (ps0.take (j + 1))) := ⟨by
      rw [List.take_add_one, HPI.out]; exact ins_perm i HPM.out⟩
     have HAS2 : Aside0 ((ps.take i ++ p :: ps.drop i).Pairwise fun a b => klt b.2 a.2 = false) := ⟨by
      have h1 : (ps.map (·.2)).Pairwise fun a b => klt b a = false := List.pairwise_map.2 HAS.out
      have h2 := ins_asc (gt := fun a b => klt b a) (l := ps.map (·.2)) (r := p.2) (i := i) klt_tr klt_as (by rw [List.length_map, HPL.out]; exact hij) h1 (fun k x hk hx => by
       rw [List.getElem?_map] at hx
       cases hy : ps[k]? with
       | none => rw [hy] at hx; cases hx
       | some y => rw [hy] at hx; injection hx with hx; rw [← hx]; exact HK.out.2.1 k y hk hy) (fun m x hk hx => by
       rw [List.getElem?_map] at hx
       cases hy : ps[m]? with
       | none => rw [hy] at hx; cases hx
       | some y => rw [hy] at hx; injection hx with hx; rw [← hx]; exact HK.out.2.2 m y hk hy)
      rw [← List.map_take, ← List.map_drop, ← List.map_cons, ← List.map_append, List.pairwise_map] at h2
      exact h2⟩
     have hij2 : (i : Int) < (j : Int) + 1 := by omega
     have hij3 : i < j + 1 := by omega
     clear hr4 hput hfin hys hyl HR4 HB3 HP3
     go_wp2
     go_roundg (go - 1)
     case measure => have := HJ.out; omega
     case rel => exact ⟨j + 1, _, by go_num, ⟨by have := HJ.out; omega⟩, HR5, HB5, HPJ2, HAS2⟩
  · have hje : j = n := by have := HJ.out; omega
    obtain ⟨A1, c1, e1⟩ := Kd.R_slice HR.out
    have HPL : Aside0 (ps.length = n) := ⟨by rw [HPM.out.length_eq, List.length_take, HLN.out]; omega⟩
    rw [List.length_map, HPL.out] at e1
    subst e1
    have HPM2 : Aside0 (ps.Perm ps0) := ⟨by have h := HPM.out; rwa [List.take_of_length_le (by rw [HLN.out]; omega)] at h⟩
    have HC1 : Aside0 (KQ.C wr A1 n (rqV (ps.map (·.2)))) := ⟨by
     have h := (Kd.R_reads' HR.out).2.2
     rw [List.length_map, HPL.out] at h
     exact kf_kq h (fun p hp => by
      obtain ⟨f1, f2, f3, f4, f5⟩ := HFR0.out p (HPM2.out.mem_iff.1 hp)
      exact ⟨f1, f2, f3, f4, Kd.C_below f5 HB.out⟩)⟩
    clear HR hje
    go_wp2
    go_ret
    exact ⟨HB.out, A1, c1, ps.map (·.2), rfl, by rw [← HPS.out]; exact HPM2.out.map _, by unfold KAsc; rw [List.pairwise_map]; exact HAS.out, HC1.out⟩
def fitR (r : Rq) : Bool := fits4 (mk r.1) (mk r.2.1) (r.2.2.map mk)
def fits3 (l : List Rq) : Bool := decide (l.length ≤ 2147483647) && l.all fitR
theorem fits3_t {l : List Rq} (h : fits3 l = true) : l.length ≤ 2147483647 ∧ ∀ r ∈ l, r.1.length ≤ 2147483647 ∧ r.2.2.length ≤ 2147483647 ∧ ∀ v ∈ r.2.2, v.length ≤ 2147483647 := by
 unfold fits3 at h
 simp only [Bool.and_eq_true, decide_eq_true_eq] at h
 refine ⟨h.1, fun r hr => ?_⟩
 obtain ⟨h1, _, h3, h4⟩ := fits4_t (List.all_eq_true.1 h.2 r hr)
 exact ⟨h1, by simpa using h3, fun v hv => h4 (mk v) (List.mem_map.2 ⟨v, hv, rfl⟩)⟩
set_option maxHeartbeats 8000000 in
theorem Fits3_calls (A : Option Addr) (c n : Nat) (ls : List Rq) (hn : ls.length = n) (w : World) (hC : KQ.C w A n (rqV ls)) :
   Calls Tryz.prog 11 #[.slice A n c] w fun e w' => e = .returned (.bool (fits3 ls)) ∧ Below w.heap.size w w' := by
 have HC := Aside0.mk hC
 have HLN := Aside0.mk hn
 have HW : Aside0 (fits3 ls = (decide (n ≤ 2147483647) && ls.all (fitR))) := ⟨by unfold fits3; rw [hn]⟩
 obtain ⟨q, hq⟩ : ∃ q, fits3 ls = q := ⟨_, rfl⟩
 rw [hq] at HW ⊢
 have HB0 := Aside0.mk (Below.refl w.heap.size w)
 clear hC hn hq
 by_cases hb : n ≤ 2147483647
 rotate_left
 · have HX : Aside0 (q = false) := ⟨by rw [HW.out, show decide (n ≤ 2147483647) = false from decide_eq_false hb]; rfl⟩
   have b0 : decide ((2147483647 : Int) < (n : Int)) = true := decide_eq_true (by omega)
   have b1 : decide (2147483647 < n) = true := decide_eq_true (by omega)
   go_enter Tryz.func11, Tryz.ntmps11
   go_wp2
   go_ret
   exact ⟨by rw [HX.out]; try rfl, HB0.out⟩
 have HW2 : Aside0 (q = ls.all (fitR)) := ⟨by rw [HW.out, show decide (n ≤ 2147483647) = true from decide_eq_true hb]; rfl⟩
 have b0 : decide ((2147483647 : Int) < (n : Int)) = false := decide_eq_false (by omega)
 have b1 : decide (2147483647 < n) = false := decide_eq_false (by omega)
 go_enter Tryz.func11, Tryz.ntmps11
 go_wp2
 go_loopg [10] (n) (fun k v10 w' => ∃ i : Nat, v10 = .int .i64 i ∧ Aside0 (k + i = n) ∧ Aside0 ((ls.take i).all (fitR) = true) ∧ Aside0 (Below w.heap.size w w'))
 case atStart => exact ⟨0, rfl, ⟨by omega⟩, ⟨rfl⟩, HB0⟩
 case round =>
  obtain ⟨i, rfl, HI, HA, HB⟩ := hrel
  by_cases hil : i < n
  · obtain ⟨r, hr⟩ : ∃ r, ls[i]? = some r := ⟨_, List.getElem?_eq_getElem (by rw [HLN.out]; exact hil)⟩
    obtain ⟨ad, AV, cv, rfl, hk0, hk1, hk2, hcc, hCV⟩ := kq_at2 (Kd.C_below HC.out HB.out) i hil r hr
    obtain ⟨nv, hnv⟩ : ∃ nv, r.2.2.length = nv := ⟨_, rfl⟩
    rw [hnv] at hk2 hCV
    have hbk := heap_alloc_new wr (.cells #[.string (mk r.1), .string (mk r.2.1), .slice AV nv cv] 53)
    have HB1 := Aside0.mk (below_alloc HB.out (.cells #[.string (mk r.1), .string (mk r.2.1), .slice AV nv cv] 53))
    have d0 := (blk_cell hbk 0).trans (show _ = some (Value.string (mk r.1)) from rfl)
    have d1 := (blk_cell hbk 1).trans (show _ = some (Value.string (mk r.2.1)) from rfl)
    have d2 := (blk_cell hbk 2).trans (show _ = some (Value.slice AV nv cv) from rfl)
    have H2 := Aside0.mk (fun (W : World) (hb : Below wr.heap.size wr W) => Fits4_calls (mk r.1) (mk r.2.1) AV cv nv (r.2.2.map mk) (by rw [List.length_map, hnv]) W (Kd.C_below hCV hb))
    have HBA := Aside0.mk (below_alloc (Below.refl wr.heap.size wr) (.cells #[.string (mk r.1), .string (mk r.2.1), .slice AV nv cv] 53))
    obtain ⟨f, hf⟩ : ∃ f, fitR r = f := ⟨_, rfl⟩
    rw [show fits4 (mk r.1) (mk r.2.1) (r.2.2.map mk) = f from hf] at H2
    cases f
    · have HX : Aside0 (q = false) := ⟨by rw [HW2.out]; exact all_not hr hf⟩
      clear hr hf hbk hCV hcc hnv
      go_wp2_with (first | ((with_reducible refine (H2.out _ HBA.out).mono ?_); rintro e w2 ⟨rfl, hb⟩; have HB2 := Aside0.mk (below_step HB1.out hb); clear hb))
      go_ret
      exact ⟨by rw [HX.out]; try rfl, HB2.out⟩
    · have HA2 := Aside0.mk (all_snoc hr HA.out hf)
      clear hr hf hbk hCV hcc hnv
      go_wp2_with (first | ((with_reducible refine (H2.out _ HBA.out).mono ?_); rintro e w2 ⟨rfl, hb⟩; have HB2 := Aside0.mk (below_step HB1.out hb); clear hb))
      go_roundg (n - (i + 1))
      case measure => have := HI.out; omega
      case rel => exact ⟨i + 1, by go_num, ⟨by omega⟩, HA2, HB2⟩
  · have HX : Aside0 (q = true) := ⟨by have h1 := HI.out; have := HA.out; rw [List.take_of_length_le (by rw [HLN.out]; omega)] at this; rw [HW2.out]; exact this⟩
    go_wp2
    go_ret
    exact ⟨by rw [HX.out]; try rfl, HB.out⟩
section
variable {w W W' : World} {A : Option Addr} {n c : Nat} {cs : L} {bo : Nat} {key op : ByteArray} {AV : Option Addr} {nv cv : Nat} {rs : L}
end
theorem totL_memR {x : L} : ∀ {l : List L}, x ∈ l → x.length ≤ totL l
 | y :: l, h => by
   show _ ≤ y.length + totL l
   rcases List.mem_cons.1 h with h | h
   · rw [h]; omega
   · have := totL_memR h; omega
theorem totR_memR {r : Rq} : ∀ {l : List Rq}, r ∈ l → r.1.length + totL r.2.2 ≤ totR l
 | y :: l, h => by
   show _ ≤ (y.1.length + totL y.2.2) + totR l
   rcases List.mem_cons.1 h with h | h
   · rw [h]; omega
   · have := totR_memR h; omega
end Go.Proofs.YthfjolafikgpoaaGreatDoor.Hand
