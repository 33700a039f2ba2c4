/- spec.Keyed: labels by their keys, of keys that stand twice the last one. -/
import Derived.Test.YteigfmchnblkgaaGreatDoorLOM24
import Derived.BigQuiet
import Derived.Test.YteigfmchnblkgaaGreatDoorLOM10
import Derived.Test.YteigfmchnblkgaaGreatDoorLOGSetA
namespace Go.Proofs.YteigfmchnblkgaaGreatDoor.Hand
open Go.RowKit Go.Maps Go.Proofs.YteigfmchnblkgaaGreatDoorW.PrintWords Go.Proofs.YteigfmchnblkgaaGreatDoorW.PrintLast Go.Proofs.YteigfmchnblkgaaGreatDoorW.PrintMore Go.Proofs.YteigfmchnblkgaaGreatDoor.Base
open Go.Sort (ltStr)
set_option linter.unusedVariables false
set_option linter.unusedSimpArgs false
set_option maxRecDepth 100000
theorem infoPr : (Tryz.prog.info? 45).map (fun i => (i.zero, i.size, i.bytes)) = some (some (.agg #[.string ⟨#[]⟩, .string ⟨#[]⟩]), 2, 32) := by kernel_rfl
theorem szPr : (Tryz.prog.info? 45).map (fun i => i.size) = some 2 := by kernel_rfl
theorem insK_same {out : List LP} {s : LP} {p : Nat} (hp : posK out s.1 = p) {h : p < out.length} (e : out[p].1 = s.1) : insK out s = out.set p s := by
  unfold insK; rw [hp, List.getElem?_eq_getElem h, if_pos (by rw [Option.map_some, e])]
theorem insK_new {out : List LP} {s : LP} {p : Nat} (hp : posK out s.1 = p) (h : ∀ h : p < out.length, out[p].1 ≠ s.1) : insK out s = out.take p ++ s :: out.drop p := by
  unfold insK; rw [hp, if_neg]
  intro e
  by_cases hl : p < out.length
  · rw [List.getElem?_eq_getElem hl, Option.map_some] at e
    exact h hl (Option.some.inj e)
  · rw [List.getElem?_eq_none (by omega)] at e; cases e
theorem pk_key {w : World} {A : Option Addr} {n : Nat} {out : List LP} (h : PK.C w A n (out.map mkP)) (i : Nat) (h1 : i < n) (h2 : i < out.length) :
    ∃ ad, A = some ad ∧ w.cell? (ad.add (i * 2)) = some (.string (mk out[i].1)) := by
  obtain ⟨ad, e, h0, _⟩ := pk_at h i h1
  refine ⟨ad, e, ?_⟩
  rw [h0, List.getD_eq_getElem?_getD, List.getElem?_map, List.getElem?_eq_getElem h2]; rfl
set_option maxHeartbeats 8000000 in
theorem Keyed_calls (A : Option Addr) (c : Nat) (l : List LP) (hl : l.length ≤ 1000) (w : World) (hr : PK.C w A l.length (l.map mkP)) (hc : l.length ≤ c) :
    Calls Tryz.prog 33 #[.slice A l.length c] w fun e w' => ∃ v : Value, e = .returned v ∧ PK.R 45 w' w.heap.size (fun _ => True) v ((keyL l).map mkP) ∧ Below w.heap.size w w' := by
  have HA := Aside0.mk hr
  have HB := Aside0.mk (Below.refl w.heap.size w)
  clear hr
  go_enter Tryz.func33, Tryz.ntmps33
  go_wp2
  go_loopg [3, 5, 6, 9] (l.length) (fun g v3 v5 v6 v9 w' => ∃ j : Nat, v9 = .int .i64 j ∧ Aside0 (g + j = l.length) ∧ Aside0 (PK.R 45 w' w.heap.size (fun _ => True) v3 ((keyL (l.take j)).map mkP)) ∧ Aside0 (Below w.heap.size w w'))
  case atStart => exact ⟨0, rfl, ⟨by omega⟩, ⟨Kd.R_nil _ _ _ _ _⟩, HB⟩
  case round =>
    clear HB
    obtain ⟨j, rfl, HJ, HR, HB⟩ := hrel
    have hj : j ≤ l.length := by have := HJ.out; omega
    by_cases hjl : j < l.length
    · obtain ⟨pr, hpr⟩ : ∃ pr, l[j]? = some pr := ⟨_, List.getElem?_eq_getElem hjl⟩
      have hsn := keyL_snoc hpr
      obtain ⟨out, hout⟩ : ∃ out, keyL (l.take j) = out := ⟨_, rfl⟩
      have hol : out.length ≤ j := by rw [← hout]; have := keyL_len (l.take j); simp at this; omega
      obtain ⟨ad, eA, hk0, hk1⟩ := pk_at (Kd.C_below HA.out HB.out) j hjl
      subst eA
      have hg : (l.map mkP).getD j (⟨#[]⟩, ⟨#[]⟩) = mkP pr := by rw [List.getD_eq_getElem?_getD, List.getElem?_map, hpr]; rfl
      rw [hg] at hk0 hk1
      rw [hout] at hsn
      obtain ⟨k, t⟩ := pr
      obtain ⟨sk, hsk⟩ : ∃ sk, mk k = sk := ⟨_, rfl⟩
      obtain ⟨st, hst⟩ : ∃ st, mk t = st := ⟨_, rfl⟩
      replace hk0 : wr.cell? (ad.add (j * 2)) = some (.string sk) := by rw [← hsk]; exact hk0
      replace hk1 : wr.cell? ⟨(ad.add (j * 2)).block, (ad.add (j * 2)).off + 1, none⟩ = some (.string st) := by rw [← hst]; exact hk1
      have HRO := HR.out
      rw [hout] at HRO
      have hlt3 := Kd.R_lt HRO
      obtain ⟨A3, c3, e3⟩ := Kd.R_slice HRO
      rw [List.length_map] at e3
      subst e3
      have HNE : Aside0 (∀ k, (Value.slice A3 out.length c3).ownBlock = some k → k ≠ wr.heap.size) := ⟨fun k hk e => by have := hlt3 k hk; omega⟩
      have HSN := Aside0.mk hsn
      have HSP : Aside0 (sk.toList = k ∧ mk k = sk ∧ mk t = st) := ⟨by rw [← hsk, mk_toList], hsk, hst⟩
      obtain ⟨p, hp⟩ : ∃ p, posK out k = p := ⟨_, rfl⟩
      have HPE := Aside0.mk hp
      have HP : Aside0 (p ≤ out.length ∧ (∀ i (h : i < out.length), i < p → ltStr out[i].1 k = true) ∧ ∀ h : p < out.length, ltStr out[p].1 k = false) := ⟨by subst hp; exact ⟨posK_le out k, posK_lt out k, posK_at out k⟩⟩
      have hb1 := below_alloc HB.out (.cells #[.string sk, .string st] 45)
      have hr1 := Kd.R_alloc HRO (.cells #[.string sk, .string st] 45)
      have hpb : (wr.alloc (.cells #[.string sk, .string st] 45)).heap[wr.heap.size]? = some (.cells #[.string sk, .string st] 45) := Array.getElem?_push_size
      obtain ⟨w1, hw1⟩ : ∃ w1, wr.alloc (.cells #[.string sk, .string st] 45) = w1 := ⟨_, rfl⟩
      rw [hw1] at hb1 hr1 hpb
      have HB1 := Aside0.mk hb1
      have HR1 := Aside0.mk hr1
      have HPB := Aside0.mk hpb
      have HGS : Aside0 (wr.heap.size < w1.heap.size) := ⟨by rw [← hw1]; show _ < (wr.heap.push _).size; rw [Array.size_push]; omega⟩
      clear hsn hout hsk hst HRO hp hg hpr hb1 hr1 hpb hlt3 HR HB
      generalize gk = go at *
      go_upto_block 2 with (fail)
      generalize wr.heap.size = gp at *
      clear hk0 hk1 hw1
      go_cut [6] (fun v6 wc => v6 = .int .i64 p ∧ Aside0 (wc.heap[gp]? = some (.cells #[.string sk, .string st] 45)) ∧ Aside0 (Below w.heap.size w wc) ∧ Aside0 (PK.R 45 wc w.heap.size (fun _ => True) (.slice A3 out.length c3) (out.map mkP)) ∧ Aside0 (gp < wc.heap.size))
      case first =>
        go_wp2
        go_loopg [6] (p) (fun g v6 w' => ∃ i : Nat, v6 = .int .i64 i ∧ Aside0 (g + i = p) ∧ Aside0 (w'.heap[gp]? = some (.cells #[.string sk, .string st] 45)) ∧ Aside0 (Below w.heap.size w w') ∧ Aside0 (PK.R 45 w' w.heap.size (fun _ => True) (.slice A3 out.length c3) (out.map mkP)) ∧ Aside0 (gp < w'.heap.size))
        case atStart => exact ⟨0, rfl, ⟨by omega⟩, HPB, HB1, HR1, HGS⟩
        case round =>
          clear HPB HB1 HR1 HGS
          obtain ⟨i, rfl, HI, HPB, HB1, HR1, HGS⟩ := hrel
          have hp0 : wr.cell? ⟨gp, 0, none⟩ = some (.string sk) := blk_cell HPB.out 0
          have hip : i ≤ p := by have := HI.out; omega
          have hpl : p ≤ out.length := HP.out.1
          by_cases hlt : i < out.length
          · obtain ⟨ad2, eA2, hcell2⟩ := pk_key (Kd.R_reads' HR1.out).2.2 i (by rw [List.length_map]; exact hlt) hlt
            subst eA2
            obtain ⟨q, hq⟩ : ∃ q, mk out[i].1 = q := ⟨_, rfl⟩
            rw [hq] at hcell2
            have hqt : Op.bytesLess q.toList sk.toList = ltStr out[i].1 k := by rw [← hq, mk_toList, HSP.out.1, ltS]
            by_cases hlp : i < p
            · have hb : Op.bytesLess q.toList sk.toList = true := hqt.trans (HP.out.2.1 i hlt hlp)
              clear hqt hq
              go_wp2
              go_quiet (fail)
              go_wp2
              go_roundg (gk - 1)
              case measure => have := HI.out; omega
              case rel => exact ⟨i + 1, by go_num, ⟨by have := HI.out; omega⟩, HPB, ⟨pw_below_drewN HB1.out _⟩, ⟨Kd.R_drewN HR1.out _⟩, HGS⟩
            · obtain rfl : i = p := by omega
              have hb : Op.bytesLess q.toList sk.toList = false := hqt.trans (HP.out.2.2 hlt)
              clear hqt hq
              go_wp2
              go_quiet (fail)
              go_wp2
              go_meet
              case rel => exact ⟨rfl, HPB, ⟨pw_below_drewN HB1.out _⟩, ⟨Kd.R_drewN HR1.out _⟩, HGS⟩
          · obtain rfl : i = p := by omega
            go_wp2
            go_quiet (fail)
            go_wp2
            go_meet
            case rel => exact ⟨rfl, HPB, ⟨pw_below_drewN HB1.out _⟩, ⟨Kd.R_drewN HR1.out _⟩, HGS⟩
      case rest =>
        clear HPB HB1 HR1 HGS
        obtain ⟨rfl, HPB, HB1, HR1, HGS⟩ := hcut
        have hpl : p ≤ out.length := HP.out.1
        have hp0 : wc.cell? ⟨gp, 0, none⟩ = some (.string sk) := blk_cell HPB.out 0
        have hp1 : wc.cell? ⟨gp, 1, none⟩ = some (.string st) := blk_cell HPB.out 1
        have HLEN : Aside0 (out.length ≤ 1000) := ⟨by omega⟩
        by_cases heq : ∃ h : p < out.length, out[p].1 = k
        · obtain ⟨hlt, hps⟩ := heq
          have HSET := Aside0.mk (HSN.out.trans (insK_same (s := (k, t)) HPE.out (h := hlt) hps))
          obtain ⟨ad2, eA2, hcell2⟩ := pk_key (Kd.R_reads' HR1.out).2.2 p (by rw [List.length_map]; exact hlt) hlt
          rw [hps, HSP.out.2.1] at hcell2
          subst eA2
          clear hps
          go_wp2
          go_quiet (fail)
          obtain ⟨g, cap, hv, hbg, hgl, hgc⟩ := Kd.R_form HR1.out (by rw [List.length_map]; omega)
          rw [List.length_map] at hv
          simp only [Value.slice.injEq, Option.some.injEq] at hv
          obtain ⟨rfl, _, rfl⟩ := hv
          have HBG := Aside0.mk hbg
          clear hcell2 hgl hgc hp0 hp1 hbg
          have HB2 := Aside0.mk (pw_below_drewN HB1.out nq)
          have hr2 := Kd.R_drewN HR1.out nq
          have hP2 : (wc.drewN nq).heap[gp]? = some (.cells #[.string sk, .string st] 45) := HPB.out
          obtain ⟨w2, hw2⟩ : ∃ w2, wc.drewN nq = w2 := ⟨_, rfl⟩
          rw [hw2] at HB2 hr2 hP2
          rw [hw2]
          have hyl : (out.map mkP).length = out.length := List.length_map _
          rw [← hyl] at hr2
          obtain ⟨h0, h1, f0, f1, h2, f2, _, hput⟩ := put_pk hr2 p (by omega) sk st
          have hfin : (out.map mkP).set p (sk, st) = (keyL (l.take (j + 1))).map mkP := by
            rw [HSET.out, List.map_set, ← HSP.out.2.1, ← HSP.out.2.2]
          rw [hfin, hyl] at hput
          have HR5 := Aside0.mk hput
          have HB5 : Aside0 (Below w.heap.size w ((w2.setCell ⟨g, p * 2, none⟩ (.string sk)).setCell ⟨g, p * 2 + 1, none⟩ (.string st))) := ⟨(HB2.out.setCell HBG.out _).setCell HBG.out _⟩
          have hp0 : w2.cell? ⟨gp, 0, none⟩ = some (.string sk) := blk_cell hP2 0
          have hp1 : w2.cell? ⟨gp, 1, none⟩ = some (.string st) := blk_cell hP2 1
          clear hr2 hP2 hput hfin HB2 HPB HR1 HB1 HGS
          generalize ((out.map mkP)[p]).1 = z0 at h0
          generalize ((out.map mkP)[p]).2 = z1 at h1 h2
          go_wp2
          go_roundg (go - 1)
          case measure => have := HJ.out; omega
          case rel => exact ⟨j + 1, by go_num, ⟨by have := HJ.out; omega⟩, HR5, HB5⟩
        · have HNEWS := Aside0.mk (HSN.out.trans (insK_new (s := (k, t)) HPE.out (fun h e => heq ⟨h, e⟩)))
          rcases (show (¬ p < out.length) ∨ ∃ h : p < out.length, out[p].1 ≠ k from by
            by_cases h : p < out.length
            · exact .inr ⟨h, fun h2 => heq ⟨h, h2⟩⟩
            · exact .inl h) with hpn | ⟨hlt, hne⟩
          · clear heq
            go_wp2
            go_quiet (fail)
            have HB2 := Aside0.mk (pw_below_drewN HB1.out nq)
            have hr2 := Kd.R_drewN HR1.out nq
            have HR2 : Aside0 (PK.R 45 (wc.drewN nq) w.heap.size (fun k => k ≠ gp) (.slice A3 out.length c3) (out.map mkP)) := ⟨HNE.out, encP _, pk_own hr2, reps_enc _⟩
            have HGS2 : Aside0 (gp < (wc.drewN nq).heap.size) := ⟨HGS.out⟩
            have HPB2 : Aside0 ((wc.drewN nq).heap[gp]? = some (.cells #[.string sk, .string st] 45)) := ⟨HPB.out⟩
            obtain ⟨w2, hw2⟩ : ∃ w2, wc.drewN nq = w2 := ⟨_, rfl⟩
            rw [hw2] at HB2 HR2 HGS2 HPB2
            have HF2 : Aside0 (∀ k, w2.heap.size ≤ k → k ≠ gp) := ⟨fun k hk e => by have := HGS2.out; omega⟩
            have HGB : Aside0 (∀ W' : World, w2.grownBy W' (Value.slice A3 out.length c3).ownBlock → W'.heap[gp]? = some (.cells #[.string sk, .string st] 45)) := ⟨fun W' hg => (hg.block gp HGS2.out (fun e => HNE.out gp e.symm rfl)).trans HPB2.out⟩
            clear hp0 hp1 hr2 HR1 HB1 HPB HGS
            try rw [hw2]
            go_wp2_with (first | ((with_reducible refine gate_builtin (b := .append) (xs := #[.tmp 47, .tmp 49]) rfl ?_); (try (refine gate_guard (by rfl) ?_; dsimp only)); at_builtin; refine Kd.R_append PK (w0 := w) w.heap.size rfl (.tmp 47) (.tmp 49) 22 45 (.agg #[.string ⟨#[]⟩, .string ⟨#[]⟩]) 32 rfl Tryz.underlying22 infoPr rfl (by decide) (by decide) (.slice A3 out.length c3) (out.map mkP) (⟨#[]⟩, ⟨#[]⟩) [.string ⟨#[]⟩, .string ⟨#[]⟩] (fun k => k ≠ gp) (fun _ => False) rfl rfl ?aP (fun _ hk => hk.elim) ?aF ?aO ?aB ?aS ?aL ?_; (case aP => exact ⟨[_], [_], rfl, rfl, rfl⟩); (case aB => exact HB2.out); (case aF => exact HF2.out); (case aO => exact HR2.out); (case aS => exact below_size HB2.out); (case aL => have := HLEN.out; rw [List.length_map]; omega); intro vN wN2 ho hb hg hat; have HR3 := Aside0.mk ho; have HB3 := Aside0.mk hb; have HP3 := Aside0.mk (HGB.out wN2 hg); clear ho hb hg hat))
            obtain ⟨g, cap, hv, hbg, hgl, hgc⟩ := Kd.R_form HR3.out (by simp)
            rw [List.length_append, List.length_map, List.length_singleton] at hv
            subst hv
            have hgne : gp ≠ g := fun e => (HR3.out.1 g rfl) e.symm
            have hR3 : PK.R 45 wN2.drew w.heap.size (fun _ => True) (.slice (some ⟨g, 0, none⟩) (out.length + 1) cap) (out.map mkP ++ [(⟨#[]⟩, ⟨#[]⟩)]) := Kd.R_drew (⟨fun _ _ => trivial, encP _, pk_own HR3.out, reps_enc _⟩ : PK.R 45 wN2 w.heap.size (fun _ => True) (.slice (some ⟨g, 0, none⟩) (out.length + 1) cap) (out.map mkP ++ [(⟨#[]⟩, ⟨#[]⟩)]))
            obtain ⟨cur, cs, hcl, hcap, hcul, hbg2, hcur, hrd, h1c, hback⟩ := shift_pk hR3 hpl
            have HGB := Aside0.mk hback
            have HBG := Aside0.mk hbg
            have HGN := Aside0.mk hgne
            have hgsz : gp < wN2.drew.heap.size := (Array.getElem?_eq_some_iff.1 HP3.out).1
            have HGS3 := Aside0.mk hgsz
            have s0 : Hid (wN2.drew.heap[g]? = some (.cells cur.toArray 45 (0, 0))) := hcur
            have s1 : Hid (∀ v ∈ cs, v.oneCell' = true) := h1c
            have s2 : Hid (∀ j v, cs[j]? = some v → wN2.drew.cell? ((⟨g, p * 2, none⟩ : Addr).add j) = some v) := hrd
            have s3 : Hid (cs.length = (out.length - p) * 2) := hcl
            have s4 : Hid (cur.length = cap * 2) := hcul
            have hwr : IntKind.i64.wrap ((p : Int) + 1) = (p : Int) + 1 := by rw [IntKind.wrap_i64]; omega
            have hpz0 : (0 : Int) ≤ (p : Int) + 1 := by omega
            have hpz1 : (p : Int) + 1 ≤ ((out.length + 1 : Nat) : Int) := by omega
            have hpz2 : ((p : Int) + 1).toNat = p + 1 := by omega
            have hpz3 : (p : Int) ≤ (out.length : Int) + 1 := by omega
            obtain ⟨A1, hA1⟩ : ∃ A1, (if cap = p + 1 then some (⟨g, 0, none⟩ : Addr) else some ⟨g, (p + 1) * 2, none⟩) = A1 := ⟨_, rfl⟩
            have hcp : ¬ cap = p := by omega
            have hnc : out.length + 1 ≤ cap := hcap
            have HPos : Hid (0 < out.length - p → A1 = some ⟨g, (p + 1) * 2, none⟩) := fun h => by rw [← hA1, if_neg (by omega)]
            clear hcur h1c hrd hcl hcul hbg hbg2 hgl hgc hback hcap hgne hgsz hR3
            have hbd := Aside0.mk (show Below w.heap.size w wN2.drew from below_drew1 HB3.out)
            go_region_law (refine step_copy_splice_k rfl (.tmp 54) (.tmp 57) 22 22 rfl 45 Tryz.underlying22 2 szPr A1 (some ⟨g, p * 2, none⟩) (out.length - p) (cap - (p + 1)) (out.length + 1 - p) (cap - p) (by simp [Act.eval, Act.put]) (by simp [Act.eval, Act.put]) g ((p + 1) * 2) cur 45 s0.out cs (by rw [s3.out]; exact congrArg (· * 2) (Nat.min_eq_right (by omega)).symm) (fun h => ⟨HPos.out (by have h2 : Nat.min (out.length + 1 - p) (out.length - p) = out.length - p := Nat.min_eq_right (by omega); rw [h2] at h; exact h), ⟨g, p * 2, none⟩, rfl, s2.out⟩) (by rw [s3.out, s4.out]; omega) s1.out w.heap.size w hbd.out HBG.out ?_; intro w4 hg4 hb4 hgr4)
            have hR4 := HGB.out w4 hg4.out
            have hP4 : w4.heap[gp]? = some (.cells #[.string sk, .string st] 45) := (hgr4.block gp HGS3.out (fun e => HGN.out (Option.some.inj e))).trans HP3.out
            obtain ⟨ys, hys⟩ : ∃ ys, (out.map mkP ++ [((⟨#[]⟩, ⟨#[]⟩) : ByteArray × ByteArray)]).take (p + 1) ++ ((out.map mkP ++ [((⟨#[]⟩, ⟨#[]⟩) : ByteArray × ByteArray)]).drop p).take (out.length - p) = ys := ⟨_, rfl⟩
            rw [hys] at hR4
            have hyl : ys.length = out.length + 1 := by rw [← hys]; simp; omega
            rw [← hyl] at hR4
            have hpy : p < ys.length := by rw [hyl]; omega
            obtain ⟨h0, h1, f0, f1, h2, f2, _, hput⟩ := put_pk hR4 p hpy sk st
            generalize (ys[p]).1 = z0 at h0
            generalize (ys[p]).2 = z1 at h1 h2
            have hfin : ys.set p (sk, st) = (keyL (l.take (j + 1))).map mkP := by
              have h5 := shift_pure (out.map mkP) ((⟨#[]⟩, ⟨#[]⟩) : ByteArray × ByteArray) (sk, st) p (by rw [List.length_map]; exact hpl)
              rw [List.length_map, hys] at h5
              rw [HNEWS.out, h5, List.map_append, List.map_cons, List.map_take, List.map_drop, ← HSP.out.2.1, ← HSP.out.2.2]
            rw [hfin, hyl] at hput
            have HR5 := Aside0.mk hput
            have HB5 : Aside0 (Below w.heap.size w ((w4.setCell ⟨g, p * 2, none⟩ (.string sk)).setCell ⟨g, p * 2 + 1, none⟩ (.string st))) := ⟨(hb4.setCell HBG.out _).setCell HBG.out _⟩
            have hp0 : w4.cell? ⟨gp, 0, none⟩ = some (.string sk) := blk_cell hP4 0
            have hp1 : w4.cell? ⟨gp, 1, none⟩ = some (.string st) := blk_cell hP4 1
            clear hb4 hg4 hgr4 hR4 hP4 hput hfin hys s0 s1 s2 s3 s4 hbd HPos hA1 hwr hpz0 hpz1 hpz2
            go_wp2
            go_roundg (go - 1)
            case measure => have := HJ.out; omega
            case rel => exact ⟨j + 1, by go_num, ⟨by have := HJ.out; omega⟩, HR5, HB5⟩
          · obtain ⟨ad2, eA2, hcell2⟩ := pk_key (Kd.R_reads' HR1.out).2.2 p (by rw [List.length_map]; exact hlt) hlt
            subst eA2
            obtain ⟨q, hq⟩ : ∃ q, mk out[p].1 = q := ⟨_, rfl⟩
            rw [hq] at hcell2
            have hqb : (q.toList == sk.toList) = false := by
              rw [beq_eq_false_iff_ne]
              intro h
              rw [← hq, mk_toList, HSP.out.1] at h; exact hne h
            clear heq hq hne
            go_wp2
            go_quiet (fail)
            have HB2 := Aside0.mk (pw_below_drewN HB1.out nq)
            have hr2 := Kd.R_drewN HR1.out nq
            have HR2 : Aside0 (PK.R 45 (wc.drewN nq) w.heap.size (fun k => k ≠ gp) (.slice (some ad2) out.length c3) (out.map mkP)) := ⟨HNE.out, encP _, pk_own hr2, reps_enc _⟩
            have HGS2 : Aside0 (gp < (wc.drewN nq).heap.size) := ⟨HGS.out⟩
            have HPB2 : Aside0 ((wc.drewN nq).heap[gp]? = some (.cells #[.string sk, .string st] 45)) := ⟨HPB.out⟩
            obtain ⟨w2, hw2⟩ : ∃ w2, wc.drewN nq = w2 := ⟨_, rfl⟩
            rw [hw2] at HB2 HR2 HGS2 HPB2
            have HF2 : Aside0 (∀ k, w2.heap.size ≤ k → k ≠ gp) := ⟨fun k hk e => by have := HGS2.out; omega⟩
            have HGB : Aside0 (∀ W' : World, w2.grownBy W' (Value.slice (some ad2) out.length c3).ownBlock → W'.heap[gp]? = some (.cells #[.string sk, .string st] 45)) := ⟨fun W' hg => (hg.block gp HGS2.out (fun e => HNE.out gp e.symm rfl)).trans HPB2.out⟩
            clear hp0 hp1 hr2 HR1 HB1 HPB HGS
            try rw [hw2]
            go_wp2_with (first | ((with_reducible refine gate_builtin (b := .append) (xs := #[.tmp 47, .tmp 49]) rfl ?_); (try (refine gate_guard (by rfl) ?_; dsimp only)); at_builtin; refine Kd.R_append PK (w0 := w) w.heap.size rfl (.tmp 47) (.tmp 49) 22 45 (.agg #[.string ⟨#[]⟩, .string ⟨#[]⟩]) 32 rfl Tryz.underlying22 infoPr rfl (by decide) (by decide) (.slice (some ad2) out.length c3) (out.map mkP) (⟨#[]⟩, ⟨#[]⟩) [.string ⟨#[]⟩, .string ⟨#[]⟩] (fun k => k ≠ gp) (fun _ => False) rfl rfl ?aP (fun _ hk => hk.elim) ?aF ?aO ?aB ?aS ?aL ?_; (case aP => exact ⟨[_], [_], rfl, rfl, rfl⟩); (case aB => exact HB2.out); (case aF => exact HF2.out); (case aO => exact HR2.out); (case aS => exact below_size HB2.out); (case aL => have := HLEN.out; rw [List.length_map]; omega); intro vN wN2 ho hb hg hat; have HR3 := Aside0.mk ho; have HB3 := Aside0.mk hb; have HP3 := Aside0.mk (HGB.out wN2 hg); clear ho hb hg hat))
            obtain ⟨g, cap, hv, hbg, hgl, hgc⟩ := Kd.R_form HR3.out (by simp)
            rw [List.length_append, List.length_map, List.length_singleton] at hv
            subst hv
            have hgne : gp ≠ g := fun e => (HR3.out.1 g rfl) e.symm
            have hR3 : PK.R 45 wN2.drew w.heap.size (fun _ => True) (.slice (some ⟨g, 0, none⟩) (out.length + 1) cap) (out.map mkP ++ [(⟨#[]⟩, ⟨#[]⟩)]) := Kd.R_drew (⟨fun _ _ => trivial, encP _, pk_own HR3.out, reps_enc _⟩ : PK.R 45 wN2 w.heap.size (fun _ => True) (.slice (some ⟨g, 0, none⟩) (out.length + 1) cap) (out.map mkP ++ [(⟨#[]⟩, ⟨#[]⟩)]))
            obtain ⟨cur, cs, hcl, hcap, hcul, hbg2, hcur, hrd, h1c, hback⟩ := shift_pk hR3 hpl
            have HGB := Aside0.mk hback
            have HBG := Aside0.mk hbg
            have HGN := Aside0.mk hgne
            have hgsz : gp < wN2.drew.heap.size := (Array.getElem?_eq_some_iff.1 HP3.out).1
            have HGS3 := Aside0.mk hgsz
            have s0 : Hid (wN2.drew.heap[g]? = some (.cells cur.toArray 45 (0, 0))) := hcur
            have s1 : Hid (∀ v ∈ cs, v.oneCell' = true) := h1c
            have s2 : Hid (∀ j v, cs[j]? = some v → wN2.drew.cell? ((⟨g, p * 2, none⟩ : Addr).add j) = some v) := hrd
            have s3 : Hid (cs.length = (out.length - p) * 2) := hcl
            have s4 : Hid (cur.length = cap * 2) := hcul
            have hwr : IntKind.i64.wrap ((p : Int) + 1) = (p : Int) + 1 := by rw [IntKind.wrap_i64]; omega
            have hpz0 : (0 : Int) ≤ (p : Int) + 1 := by omega
            have hpz1 : (p : Int) + 1 ≤ ((out.length + 1 : Nat) : Int) := by omega
            have hpz2 : ((p : Int) + 1).toNat = p + 1 := by omega
            have hpz3 : (p : Int) ≤ (out.length : Int) + 1 := by omega
            obtain ⟨A1, hA1⟩ : ∃ A1, (if cap = p + 1 then some (⟨g, 0, none⟩ : Addr) else some ⟨g, (p + 1) * 2, none⟩) = A1 := ⟨_, rfl⟩
            have hcp : ¬ cap = p := by omega
            have hnc : out.length + 1 ≤ cap := hcap
            have HPos : Hid (0 < out.length - p → A1 = some ⟨g, (p + 1) * 2, none⟩) := fun h => by rw [← hA1, if_neg (by omega)]
            clear hcur h1c hrd hcl hcul hbg hbg2 hgl hgc hback hcap hgne hgsz hR3
            have hbd := Aside0.mk (show Below w.heap.size w wN2.drew from below_drew1 HB3.out)
            go_region_law (refine step_copy_splice_k rfl (.tmp 54) (.tmp 57) 22 22 rfl 45 Tryz.underlying22 2 szPr A1 (some ⟨g, p * 2, none⟩) (out.length - p) (cap - (p + 1)) (out.length + 1 - p) (cap - p) (by simp [Act.eval, Act.put]) (by simp [Act.eval, Act.put]) g ((p + 1) * 2) cur 45 s0.out cs (by rw [s3.out]; exact congrArg (· * 2) (Nat.min_eq_right (by omega)).symm) (fun h => ⟨HPos.out (by have h2 : Nat.min (out.length + 1 - p) (out.length - p) = out.length - p := Nat.min_eq_right (by omega); rw [h2] at h; exact h), ⟨g, p * 2, none⟩, rfl, s2.out⟩) (by rw [s3.out, s4.out]; omega) s1.out w.heap.size w hbd.out HBG.out ?_; intro w4 hg4 hb4 hgr4)
            have hR4 := HGB.out w4 hg4.out
            have hP4 : w4.heap[gp]? = some (.cells #[.string sk, .string st] 45) := (hgr4.block gp HGS3.out (fun e => HGN.out (Option.some.inj e))).trans HP3.out
            obtain ⟨ys, hys⟩ : ∃ ys, (out.map mkP ++ [((⟨#[]⟩, ⟨#[]⟩) : ByteArray × ByteArray)]).take (p + 1) ++ ((out.map mkP ++ [((⟨#[]⟩, ⟨#[]⟩) : ByteArray × ByteArray)]).drop p).take (out.length - p) = ys := ⟨_, rfl⟩
            rw [hys] at hR4
            have hyl : ys.length = out.length + 1 := by rw [← hys]; simp; omega
            rw [← hyl] at hR4
            have hpy : p < ys.length := by rw [hyl]; omega
            obtain ⟨h0, h1, f0, f1, h2, f2, _, hput⟩ := put_pk hR4 p hpy sk st
            generalize (ys[p]).1 = z0 at h0
            generalize (ys[p]).2 = z1 at h1 h2
            have hfin : ys.set p (sk, st) = (keyL (l.take (j + 1))).map mkP := by
              have h5 := shift_pure (out.map mkP) ((⟨#[]⟩, ⟨#[]⟩) : ByteArray × ByteArray) (sk, st) p (by rw [List.length_map]; exact hpl)
              rw [List.length_map, hys] at h5
              rw [HNEWS.out, h5, List.map_append, List.map_cons, List.map_take, List.map_drop, ← HSP.out.2.1, ← HSP.out.2.2]
            rw [hfin, hyl] at hput
            have HR5 := Aside0.mk hput
            have HB5 : Aside0 (Below w.heap.size w ((w4.setCell ⟨g, p * 2, none⟩ (.string sk)).setCell ⟨g, p * 2 + 1, none⟩ (.string st))) := ⟨(hb4.setCell HBG.out _).setCell HBG.out _⟩
            have hp0 : w4.cell? ⟨gp, 0, none⟩ = some (.string sk) := blk_cell hP4 0
            have hp1 : w4.cell? ⟨gp, 1, none⟩ = some (.string st) := blk_cell hP4 1
            clear hb4 hg4 hgr4 hR4 hP4 hput hfin hys s0 s1 s2 s3 s4 hbd HPos hA1 hwr hpz0 hpz1 hpz2
            go_wp2
            go_roundg (go - 1)
            case measure => have := HJ.out; omega
            case rel => exact ⟨j + 1, by go_num, ⟨by have := HJ.out; omega⟩, HR5, HB5⟩
    · have hli : j = l.length := by omega
      have hR := HR.out
      rw [hli, List.take_length] at hR
      have HR2 := Aside0.mk hR
      clear hR hli HR
      go_wp2
      go_ret
      exact ⟨_, rfl, HR2.out, HB.out⟩
end Go.Proofs.YteigfmchnblkgaaGreatDoor.Hand

/- Labels, with how many there are; a range over labels. -/
namespace Go.Proofs.YteigfmchnblkgaaGreatDoor.Hand
open Go.RowKit Go.Maps Go.Proofs.YteigfmchnblkgaaGreatDoorW.PrintWords Go.Proofs.YteigfmchnblkgaaGreatDoorW.PrintLast Go.Proofs.YteigfmchnblkgaaGreatDoorW.PrintMore Go.Proofs.YteigfmchnblkgaaGreatDoor.Base
set_option linter.unusedVariables false
set_option linter.unusedSimpArgs false
set_option maxRecDepth 100000
/-- The keys, each once. -/
def dk : List (L × L) → List L
  | [] => []
  | p :: m => if (mget m p.1).isSome then dk m else p.1 :: dk m
theorem dk_contains : ∀ (m : List (L × L)) (x : L), (dk m).contains x = (mget m x).isSome
  | [], x => rfl
  | (k, v) :: m, x => by
    rw [mget_cons]
    unfold dk
    by_cases h : (mget m k).isSome = true
    · rw [if_pos h, dk_contains m x]
      by_cases e : k = x
      · subst e; rw [if_pos rfl, h]; rfl
      · rw [if_neg e]
    · rw [if_neg h, List.contains_cons, dk_contains m x]
      by_cases e : k = x
      · subst e; rw [if_pos rfl]; simp
      · rw [if_neg e, show (x == k) = false from by simpa using fun h => e h.symm, Bool.false_or]
theorem dk_nodup : ∀ m : List (L × L), (dk m).Nodup
  | [] => List.nodup_nil
  | (k, v) :: m => by
    unfold dk
    by_cases h : (mget m k).isSome = true
    · rw [if_pos h]; exact dk_nodup m
    · rw [if_neg h]
      refine List.nodup_cons.2 ⟨fun hm => h ?_, dk_nodup m⟩
      rw [← dk_contains]; exact List.contains_iff_mem.2 hm
theorem dk_mem {m : List (L × L)} {x : L} : x ∈ dk m ↔ ∃ v, mget m x = some v := by
  rw [← List.contains_iff_mem, dk_contains, Option.isSome_iff_exists]
/-- Block b is a map of these texts, of as many keys. -/
def IsLz (w : World) (b N : Nat) (m : List (L × L)) : Prop :=
  ∃ D : DataW Unit, w.ownsMap Tryz.prog 9 (plainElem Tryz.prog 9) b N D ∧ Maps.IsMap D ∧ (∀ x : L, Maps.has D (.string x) = (mget m x).isSome) ∧ (∀ x : L, D.atKey (.string x) (.lit (.string [])) = .lit (.string ((mget m x).getD []))) ∧ Maps.size D = (dk m).length
theorem IsLz.kept {w w' : World} {b N : Nat} {m : List (L × L)} {row : Option Nat} (h : IsLz w b N m) (hg : w.grownBy w' row) (hne : some b ≠ row) : IsLz w' b N m := by
  obtain ⟨D, h1, h2⟩ := h; exact ⟨D, h1.kept hg hne, h2⟩
theorem IsLz.below {w w' : World} {b N : Nat} {m : List (L × L)} (h : IsLz w b N m) (hb : Below w.heap.size w w') : IsLz w' b N m := h.kept (grown_of_below hb none) (by simp)
theorem IsLz.made (w : World) : IsLz (w.alloc (.map #[] 0)) w.heap.size 0 [] := ⟨_, World.ownsMap_made _ _ _ _, ⟨[], rfl⟩, fun x => rfl, fun x => rfl, rfl⟩
theorem IsLz.lt {w : World} {b N : Nat} {m : List (L × L)} (h : IsLz w b N m) : b < w.heap.size := by obtain ⟨D, h1, _⟩ := h; exact h1.lt
theorem lab_putZ {D : DataW Unit} {m : List (L × L)} (k v : L) (h0 : Maps.IsMap D) (ht : Maps.Tidy D) (hh : ∀ x : L, Maps.has D (.string x) = (mget m x).isSome) (ha : ∀ x : L, D.atKey (.string x) (.lit (.string [])) = .lit (.string ((mget m x).getD []))) (hs : Maps.size D = (dk m).length) :
    Maps.IsMap (D.put (.string k) (.lit (.string v))) ∧ (∀ x : L, Maps.has (D.put (.string k) (.lit (.string v))) (.string x) = (mget ((k, v) :: m) x).isSome) ∧ (∀ x : L, (D.put (.string k) (.lit (.string v))).atKey (.string x) (.lit (.string [])) = .lit (.string ((mget ((k, v) :: m) x).getD []))) ∧ Maps.size (D.put (.string k) (.lit (.string v))) = (dk ((k, v) :: m)).length := by
  obtain ⟨a, b, c⟩ := lab_put k v h0 hh ha
  refine ⟨a, b, c, ?_⟩
  rw [size_put ht, hh, hs]
  conv => rhs; unfold dk
  split <;> rename_i e
  · rfl
  · rfl
/-- Block r is a loop over the labels of block b: the keys of left are still to come. -/
def LzR (w : World) (b r N cnt : Nat) (m : List (L × L)) (left : List L) : Prop :=
  ∃ (D : DataW Unit) (lf : Lit → Bool), w.ranges Tryz.prog 9 (plainElem Tryz.prog 9) b r N D lf cnt ∧ Maps.IsMap D ∧ (∀ x : L, Maps.has D (.string x) = (mget m x).isSome) ∧ (∀ x : L, D.atKey (.string x) (.lit (.string [])) = .lit (.string ((mget m x).getD []))) ∧ Maps.size D = (dk m).length ∧ (∀ x : L, lf (.string x) = left.contains x) ∧ (∀ x ∈ left, (mget m x).isSome = true)
theorem LzR.set {w : World} {b r N cnt : Nat} {m : List (L × L)} {left : List L} (h : LzR w b r N cnt m left) : IsLz w b N m := by
  obtain ⟨D, lf, h1, h2, h3, h4, h5, _⟩ := h; exact ⟨D, h1.owns, h2, h3, h4, h5⟩
theorem LzR.iter {w : World} {b r N cnt : Nat} {m : List (L × L)} {left : List L} (h : LzR w b r N cnt m left) : ∃ x y z t, w.heap[r]? = some (.mapIter x y z t) := by
  obtain ⟨D, lf, ⟨es, clock, since, seen, c0, _, _, _, _, hr, _⟩, _⟩ := h; exact ⟨_, _, _, _, hr⟩
theorem LzR.map {w : World} {b r N cnt : Nat} {m : List (L × L)} {left : List L} (h : LzR w b r N cnt m left) : ∃ es c, w.heap[b]? = some (.map es c) := by
  obtain ⟨D, lf, h1, _⟩ := h
  obtain ⟨es, c, hb, _⟩ := h1.owns
  exact ⟨es, c, hb⟩
theorem LzR.kept {w w' : World} {b r N cnt : Nat} {m : List (L × L)} {left : List L} {row : Option Nat} (h : LzR w b r N cnt m left) (hg : w.grownBy w' row) (h1 : some b ≠ row) (h2 : some r ≠ row) : LzR w' b r N cnt m left := by
  obtain ⟨D, lf, h3, h4⟩ := h; exact ⟨D, lf, h3.kept hg h1 h2, h4⟩
theorem LzR.below {w w' : World} {b r N cnt : Nat} {m : List (L × L)} {left : List L} (h : LzR w b r N cnt m left) (hb : Below w.heap.size w w') : LzR w' b r N cnt m left := h.kept (grown_of_below hb none) (by simp) (by simp)
theorem LzR.alloc {w : World} {b r N cnt : Nat} {m : List (L × L)} {left : List L} (h : LzR w b r N cnt m left) (o : Obj) : LzR (w.alloc o) b r N cnt m left := h.below (below_alloc (Below.refl _ _) o)
section
variable (w : World) {ops : Array Oper} {rest : List Oper} {o : Oper} {a : Act} {Q : Exit → Act → World → Prop}
theorem range_lab (T : TypeId) (hT : Tryz.prog.underlying T = some (.map 9 9)) (hg : o.guard = none) (m : Operand) (hop : o.op = Op.range T m) (b N : Nat) (ks : List (L × L)) (hm : a.eval m = .map (some b)) (h : IsLz w b N ks)
    (hK : ∀ w', LzR w' b w.heap.size N (dk ks).length ks (dk ks) → w.grownBy w' none → w'.heap.size = w.heap.size + 1 → wpList Tryz.prog ops Q rest (a.put o.dst (.pointer (some ⟨w.heap.size, 0, none⟩))) w') :
    wpList Tryz.prog ops Q (o :: rest) a w := by
  obtain ⟨D, hown, hmp, hh, ha, hs⟩ := h
  refine wpList_range_own w hg m T hop 9 9 lawLs hT _ b N D hm hown ?_
  intro w' h1 h2 h3
  rw [hs] at h1
  exact hK w' ⟨D, _, h1, hmp, hh, ha, hs, fun x => by rw [hh, dk_contains], fun x hx => by rw [← dk_contains]; exact List.contains_iff_mem.2 hx⟩ h2 h3
theorem next_lab (hg : o.guard = none) (it : Operand) (hop : o.op = Op.next it false) (b r N cnt : Nat) (ks : List (L × L)) (left : List L) (hit : a.eval it = .pointer (some ⟨r, 0, none⟩)) (h : LzR w b r N cnt ks left)
    (hDone : cnt = 0 → left = [] → wpList Tryz.prog ops Q rest (a.put o.dst (.tuple #[.bool false])) w)
    (hMore : ∀ (s v : ByteArray) (w' : World) (cnt' : Nat), s.data.toList ∈ left → mget ks s.data.toList = some v.data.toList → LzR w' b r N cnt' ks (delK left s.data.toList) → cnt' < cnt → w.grownBy w' (some r) → w'.heap.size = w.heap.size →
      (Instr.entry (.pointer (some ⟨r, 0, none⟩))).run Tryz.prog w' = .ok (.tuple #[.string s, .string v]) w' → wpList Tryz.prog ops Q rest (a.put o.dst (.tuple #[.bool true, .string s, .string v])) w') :
    wpList Tryz.prog ops Q (o :: rest) a w := by
  obtain ⟨D, lf, hrg, hmp, hh, ha, hs, hl, hlm⟩ := h
  refine wpList_next_ranges (β := ByteArray) w hg it hop 9 lawLs (plainElem Tryz.prog 9) Value.string Value.string (fun key kl hkey => by obtain ⟨s, rfl, _⟩ := WideMaps.string_of_keyOf Tryz.underlying9 hkey; exact ⟨s, rfl⟩) (fun v y hv => by obtain ⟨s, rfl, _⟩ := plainElem_string_inv Tryz.underlying9 hv; exact ⟨s, rfl⟩)
    b r N D lf cnt hit hrg (fun h0 hall => hDone h0 (contains_nil fun x => by rw [← hl]; exact hall _)) ?_
  intro s c kl y w' cnt' hkey hlk hv hat hrg' hlt hgr hsz hen
  obtain ⟨s', e, rfl, hss⟩ := WideMaps.string_of_keyOf Tryz.underlying9 hkey
  cases e
  obtain ⟨c', e, hc, _⟩ := plainElem_string_inv Tryz.underlying9 hv
  cases e
  have hin : s.data.toList ∈ left := by have h := hl s.data.toList; rw [hlk] at h; simpa using h.symm
  have hval : mget ks s.data.toList = some c.data.toList := by
    have h1 := ha s.data.toList
    rw [hat] at h1
    obtain ⟨v, hvv⟩ := Option.isSome_iff_exists.1 (hlm _ hin)
    rw [hvv] at h1 ⊢
    have h2 : y.1 = .lit (.string c.data.toList) := by rw [hc]
    rw [h2] at h1
    simp only [Option.getD_some, DataW.lit.injEq, Lit.string.injEq] at h1
    rw [h1]
  refine hMore s c w' cnt' hin hval ⟨D, _, hrg', hmp, hh, ha, hs, fun x => ?_, fun x hx => hlm x (List.mem_filter.1 hx).1⟩ hlt hgr hsz hen
  rw [delK_contains, hl]
  congr 1
end
end Go.Proofs.YteigfmchnblkgaaGreatDoor.Hand

/- Two sets of labels: Conflicts, Equals, AreLabelsInWhiteList. (Printed by labops.py.) -/
namespace Go.Proofs.YteigfmchnblkgaaGreatDoor.Hand
open Go.RowKit Go.Maps Go.Proofs.YteigfmchnblkgaaGreatDoorW.PrintWords Go.Proofs.YteigfmchnblkgaaGreatDoorW.PrintLast Go.Proofs.YteigfmchnblkgaaGreatDoorW.PrintMore Go.Proofs.YteigfmchnblkgaaGreatDoor.Base
set_option linter.unusedVariables false
set_option linter.unusedSimpArgs false
set_option maxRecDepth 100000
section
variable (w : World) {ops : Array Oper} {rest : List Oper} {o : Oper} {a : Act} {Q : Exit → Act → World → Prop}
end
end Go.Proofs.YteigfmchnblkgaaGreatDoor.Hand
