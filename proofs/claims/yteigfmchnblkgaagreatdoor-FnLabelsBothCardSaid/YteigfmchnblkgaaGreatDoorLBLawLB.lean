/- The law FnLabelsBoth. -/
import Derived.Test.YteigfmchnblkgaaGreatDoorLBM19
import Derived.Test.YteigfmchnblkgaaGreatDoorLBM20
import Derived.Test.YteigfmchnblkgaaGreatDoorLBM23
namespace Go.Proofs.YteigfmchnblkgaaGreatDoor.Hand
open Go.RowKit Go.Maps Go.Proofs.YteigfmchnblkgaaGreatDoorW.PrintWords Go.Proofs.YteigfmchnblkgaaGreatDoorW.PrintLast Go.Proofs.YteigfmchnblkgaaGreatDoorW.PrintMore Go.Proofs.YteigfmchnblkgaaGreatDoor.Base
set_option linter.unusedVariables false
set_option linter.unusedSimpArgs false
set_option maxRecDepth 100000
/-- One label of the first list against the second. -/
def FB (mb : List LP) (p : ByteArray × ByteArray) : Bool := cfV p.2.data.toList (mget mb p.1.data.toList)
def GB (mb : List LP) (p : ByteArray × ByteArray) : Bool := mget mb p.1.data.toList == some p.2.data.toList
theorem unP_mkP (p : LP) : unP (mkP p) = p := by obtain ⟨x, y⟩ := p; simp [mk]
theorem any_un (xs : List LP) (f : LP → Bool) : (xs.map mkP).any (fun p => f (unP p)) = xs.any f := by
  rw [List.any_map]; congr 1
theorem all_un (xs : List LP) (f : LP → Bool) : (xs.map mkP).all (fun p => f (unP p)) = xs.all f := by
  rw [List.all_map]; congr 1
theorem map_un (ls : List (ByteArray × ByteArray)) : (ls.map unP).map mkP = ls := by
  rw [List.map_map, show mkP ∘ unP = id from rfl, List.map_id]
theorem map_mkP_inj {a b : List LP} : a.map mkP = b.map mkP ↔ a = b := by
  constructor
  · intro h
    have := congrArg (List.map unP) h
    rwa [List.map_map, List.map_map, show unP ∘ mkP = id from by funext p; exact unP_mkP p, List.map_id, List.map_id] at this
  · rintro rfl; rfl
theorem both_eq (ls l2 : List (ByteArray × ByteArray)) : bothV ls l2 = .tuple #[.bool (((keyL (ls.map unP)).map mkP).any (FB (labRev l2))), .bool (decide ((keyL (ls.map unP)).map mkP = (keyL (l2.map unP)).map mkP)), .bool (decide (((keyL (l2.map unP)).map mkP).length = 0) || ((keyL (ls.map unP)).map mkP).all (GB (labRev l2)))] := by
  unfold bothV
  have h1 := conf_key (ls.map unP) (labRev l2)
  have h2 := all_key (ls.map unP) (labRev l2)
  have h3 := eq_key (ls.map unP) (l2.map unP)
  have h4 := none_key (l2.map unP)
  rw [labRev_un ls, h1, labRev_un l2, h3, h4, ← labRev_un l2, h2]
  rw [show ((keyL (ls.map unP)).map mkP).any (FB (labRev l2)) = (keyL (ls.map unP)).any (fun p => cfV p.2 (mget (labRev l2) p.1)) from any_un _ (fun q : LP => cfV q.2 (mget (labRev l2) q.1))]
  rw [show ((keyL (ls.map unP)).map mkP).all (GB (labRev l2)) = (keyL (ls.map unP)).all (fun p => mget (labRev l2) p.1 == some p.2) from all_un _ (fun q : LP => mget (labRev l2) q.1 == some q.2)]
  rw [List.length_map, show decide ((keyL (ls.map unP)).map mkP = (keyL (l2.map unP)).map mkP) = decide (keyL (ls.map unP) = keyL (l2.map unP)) from by rw [decide_eq_decide]; exact map_mkP_inj]
set_option maxHeartbeats 16000000 in
theorem LB_calls (A : Option Addr) (c n : Nat) (ls : List (ByteArray × ByteArray)) (hn : ls.length = n) (hnc : n ≤ c) (A2 : Option Addr) (c2 n2 : Nat) (l2 : List (ByteArray × ByteArray)) (hn2 : l2.length = n2) (hnc2 : n2 ≤ c2) (w : World) (hP : PK.C w A n ls) (hP2 : PK.C w A2 n2 l2) (hT : TV w) :
    Calls Tryz.prog 9 #[.slice A n c, .slice A2 n2 c2] w fun e w' => e = .returned (.bool true) ∧ Below w.heap.size w w' := by
  have HP := Aside0.mk hP
  have HQ := Aside0.mk hP2
  have HT := Aside0.mk hT
  have HL := Aside0.mk (And.intro hn hn2)
  have HBA := Aside0.mk (Below.refl w.heap.size w)
  have HF1 := Aside0.mk (fun (W : World) (hb : Below w.heap.size w W) => Fits1_calls A c n ls hn W (Kd.C_below hP hb))
  have HF2 := Aside0.mk (fun (W : World) (hb : Below w.heap.size w W) => Fits1_calls A2 c2 n2 l2 hn2 W (Kd.C_below hP2 hb))
  have HSE := Aside0.mk (fun (W : World) (hb : Below w.heap.size w W) => epSel_calls W (hT.below hb))
  clear hP hP2 hT hn hn2
  cases hf1 : fits1 ls
  · rw [hf1] at HF1
    clear hf1
    go_enter Tryz.func9, Tryz.ntmps9
    go_wp2_with (first | ((with_reducible refine (HF1.out _ HBA.out).mono ?_); rintro e w1 ⟨rfl, hb⟩; have HB1 := Aside0.mk (below_step HBA.out hb); clear hb HF1))
    go_ret
    exact ⟨rfl, HB1.out⟩
  rw [hf1] at HF1
  obtain ⟨hm1, hz1⟩ := fits1_t hf1
  rw [HL.out.1] at hm1
  clear hf1
  cases hf2 : fits1 l2
  · rw [hf2] at HF2
    clear hf2 hz1
    go_enter Tryz.func9, Tryz.ntmps9
    go_wp2_with (first | ((with_reducible refine (HF1.out _ HBA.out).mono ?_); rintro e w1 ⟨rfl, hb⟩; have HB1 := Aside0.mk (below_step HBA.out hb); clear hb HF1) | ((with_reducible refine (HF2.out _ HB1.out).mono ?_); rintro e w2 ⟨rfl, hb⟩; have HB2 := Aside0.mk (below_step HB1.out hb); clear hb HF2))
    go_ret
    exact ⟨rfl, HB2.out⟩
  rw [hf2] at HF2
  obtain ⟨hm2, hz2⟩ := fits1_t hf2
  rw [HL.out.2] at hm2
  clear hf2
  have HEP := Aside0.mk (fun (b : Nat) (W : World) (hb : Below w.heap.size w W) (hk : W.cell? ⟨b, 0, none⟩ = some (.slice A n c)) (hk2 : W.cell? ⟨b, 1, none⟩ = some (.slice A2 n2 c2)) => epPairs_calls b 2 2 (fun i => if i = 0 then A else A2) (fun i => if i = 0 then n else n2) (fun i => if i = 0 then c else c2) (fun i => if i = 0 then ls else l2) W (by omega)
    (fun i hi => by by_cases h : i = 0 <;> simp only [h, if_true, if_false]; exact HL.out.1; exact HL.out.2)
    (fun i hi => by by_cases h : i = 0 <;> simp only [h, if_true, if_false]; exact hm1; exact hm2)
    (fun i hi => by by_cases h : i = 0; (subst h; exact hk); (obtain rfl : i = 1 := by omega); exact hk2)
    (fun i hi => by by_cases h : i = 0 <;> simp only [h, if_true, if_false]; exact Kd.C_below HP.out hb; exact Kd.C_below HQ.out hb))
  rw [show ((List.range 2).all fun i => pairsOk (if i = 0 then ls else l2)) = (pairsOk ls && pairsOk l2) from by simp [List.range_succ]] at HEP
  cases hep : (pairsOk ls && pairsOk l2)
  · rw [hep] at HEP
    clear hep hz1 hz2 hm1 hm2
    go_enter Tryz.func9, Tryz.ntmps9
    go_wp2_with (first | ((with_reducible refine (HF1.out _ HBA.out).mono ?_); rintro e w1 ⟨rfl, hb⟩; have HB1 := Aside0.mk (below_step HBA.out hb); clear hb HF1) | ((with_reducible refine (HF2.out _ HB1.out).mono ?_); rintro e w2 ⟨rfl, hb⟩; have HB2 := Aside0.mk (below_step HB1.out hb); have hbk6 := heap_alloc_new w2 (.cells #[.slice A n c, .slice A2 n2 c2] 22); have HS6 := Aside0.mk ((blk_cell hbk6 0).trans (show _ = some (Value.slice A n c) from rfl)); have HS7 := Aside0.mk ((blk_cell hbk6 1).trans (show _ = some (Value.slice A2 n2 c2) from rfl)); have HB6 := Aside0.mk (below_alloc HB2.out (.cells #[.slice A n c, .slice A2 n2 c2] 22)); clear hb HF2 hbk6) | ((with_reducible refine (HEP.out _ _ HB6.out HS6.out HS7.out).mono ?_); rintro e w7 ⟨rfl, hb⟩; have HB7 := Aside0.mk (below_step HB6.out hb); clear hb HEP))
    go_ret
    exact ⟨rfl, HB7.out⟩
  rw [hep] at HEP
  obtain ⟨hq1, hq2⟩ := Bool.and_eq_true_iff.1 hep
  obtain ⟨hl1, hs1⟩ := pairsOk_t hq1
  obtain ⟨hl2, hs2⟩ := pairsOk_t hq2
  rw [HL.out.1] at hl1
  rw [HL.out.2] at hl2
  clear hep hq1 hq2
  have HK1 := Aside0.mk (fun (W : World) (hb : Below w.heap.size w W) => show Calls Tryz.prog 33 #[.slice A n c] W fun e w' => ∃ v : Value, e = .returned v ∧ PK.R 45 w' W.heap.size (fun _ => True) v ((keyL (ls.map unP)).map mkP) ∧ Below W.heap.size W w' from by
    have h := Keyed_calls A c (ls.map unP) (by rw [List.length_map, HL.out.1]; omega) W (by rw [map_un, List.length_map, HL.out.1]; exact Kd.C_below HP.out hb) (by rw [List.length_map, HL.out.1]; exact hnc)
    rw [List.length_map, HL.out.1] at h
    exact h)
  have HK2 := Aside0.mk (fun (W : World) (hb : Below w.heap.size w W) => show Calls Tryz.prog 33 #[.slice A2 n2 c2] W fun e w' => ∃ v : Value, e = .returned v ∧ PK.R 45 w' W.heap.size (fun _ => True) v ((keyL (l2.map unP)).map mkP) ∧ Below W.heap.size W w' from by
    have h := Keyed_calls A2 c2 (l2.map unP) (by rw [List.length_map, HL.out.2]; omega) W (by rw [map_un, List.length_map, HL.out.2]; exact Kd.C_below HQ.out hb) (by rw [List.length_map, HL.out.2]; exact hnc2)
    rw [List.length_map, HL.out.2] at h
    exact h)
  have HBO := Aside0.mk (fun (W : World) (hb : Below w.heap.size w W) => show Calls Tryz.prog 35 #[.slice A n c, .slice A2 n2 c2] W fun e w' => e = .returned (bothV ls l2) ∧ Below W.heap.size W w' from by
    have h := Both_calls A A2 c c2 ls l2 (by rw [HL.out.1]; omega) (by rw [HL.out.2]; omega) (fun p hp => by have := hs1 p hp; omega) (fun p hp => by have := hs2 p hp; omega) W (by rw [HL.out.1]; exact Kd.C_below HP.out hb) (by rw [HL.out.2]; exact Kd.C_below HQ.out hb)
    rw [HL.out.1, HL.out.2] at h
    exact h)
  rw [both_eq] at HBO
  have hxl : ((keyL (ls.map unP)).map mkP).length ≤ 20 := by
    have := keyL_len (ls.map unP)
    have h0 := HL.out.1
    rw [List.length_map] at this ⊢
    omega
  have hyl : ((keyL (l2.map unP)).map mkP).length ≤ 20 := by
    have := keyL_len (l2.map unP)
    have h0 := HL.out.2
    rw [List.length_map] at this ⊢
    omega
  have hlk : ∀ k : L, mget (labRev ((keyL (l2.map unP)).map mkP)) k = mget (labRev l2) k := labRev_key l2
  generalize (keyL (ls.map unP)).map mkP = xs at *
  generalize (keyL (l2.map unP)).map mkP = ys at *
  generalize labRev l2 = mb at *
  have HLK := Aside0.mk hlk
  have HXL := Aside0.mk (And.intro hxl hyl)
  clear hlk hxl hyl hz1 hz2 hm1 hm2 hl1 hl2 hs1 hs2 HP HQ hnc hnc2
  go_enter Tryz.func9, Tryz.ntmps9
  go_wp2_with (first | ((with_reducible refine (HF1.out _ HBA.out).mono ?_); rintro e w1 ⟨rfl, hb⟩; have HB1 := Aside0.mk (below_step HBA.out hb); clear hb HF1) | ((with_reducible refine (HF2.out _ HB1.out).mono ?_); rintro e w2 ⟨rfl, hb⟩; have HB2 := Aside0.mk (below_step HB1.out hb); have hbk6 := heap_alloc_new w2 (.cells #[.slice A n c, .slice A2 n2 c2] 22); have HS6 := Aside0.mk ((blk_cell hbk6 0).trans (show _ = some (Value.slice A n c) from rfl)); have HS7 := Aside0.mk ((blk_cell hbk6 1).trans (show _ = some (Value.slice A2 n2 c2) from rfl)); have HB6 := Aside0.mk (below_alloc HB2.out (.cells #[.slice A n c, .slice A2 n2 c2] 22)); clear hb HF2 hbk6) | ((with_reducible refine (HEP.out _ _ HB6.out HS6.out HS7.out).mono ?_); rintro e w7 ⟨rfl, hb⟩; have HB7 := Aside0.mk (below_step HB6.out hb); clear hb HEP) | ((with_reducible refine (HK1.out _ HB7.out).mono ?_); rintro e w8 ⟨v8, rfl, hr, hb⟩; have HB8 := Aside0.mk (below_step HB7.out hb); (obtain ⟨AX, cX, eX⟩ := Kd.R_slice hr); subst eX; have HX8 := Aside0.mk (Kd.R_reads' hr).2.2; clear hr hb HK1) | ((with_reducible refine (HK2.out _ HB8.out).mono ?_); rintro e w9 ⟨v9, rfl, hr, hb⟩; have HB9 := Aside0.mk (below_step HB8.out hb); have HX9 := Aside0.mk (Kd.C_below HX8.out hb); (obtain ⟨AY, cY, eY⟩ := Kd.R_slice hr); subst eY; have HY9 := Aside0.mk (Kd.R_reads' hr).2.2; clear hr hb HK2))
  go_loopg [7, 8, 10, 11, 12, 35] (xs.length) (fun g v7 v8 v10 v11 v12 v35 w' => ∃ (j : Nat) (cf ld : Bool), v35 = .int .i64 j ∧ v7 = .bool cf ∧ v8 = .bool ld ∧ Aside0 (g + j = xs.length) ∧ Aside0 ((xs.take j).any (FB mb) = cf ∧ (xs.take j).all (GB mb) = ld) ∧ Aside0 (Below w9.heap.size w9 w'))
  case atStart => exact ⟨0, false, true, rfl, rfl, rfl, ⟨by omega⟩, ⟨rfl, rfl⟩, ⟨Below.refl _ _⟩⟩
  case round =>
    obtain ⟨j, cf, ld, rfl, rfl, rfl, HJ, HV, HB⟩ := hrel
    have hj : j ≤ xs.length := by have := HJ.out; omega
    have hxl := HXL.out.1
    by_cases hjl : j < xs.length
    · obtain ⟨ad, eA, hk0, hk1⟩ := pk_both (Kd.C_below HX9.out HB.out) j hjl hjl
      subst eA
      obtain ⟨p, hp⟩ : ∃ p, xs[j] = p := ⟨_, rfl⟩
      rw [hp] at hk0 hk1
      have HV2 : Aside0 ((xs.take (j + 1)).any (FB mb) = (cf || FB mb p) ∧ (xs.take (j + 1)).all (GB mb) = (ld && GB mb p)) := ⟨by
        rw [List.take_succ_eq_append_getElem hjl, List.any_append, List.all_append, HV.out.1, HV.out.2, hp]; simp⟩
      obtain ⟨pk, pt⟩ := p
      replace hk0 : wr.cell? (ad.add (j * 2)) = some (.string pk) := hk0
      replace hk1 : wr.cell? ⟨(ad.add (j * 2)).block, (ad.add (j * 2)).off + 1, none⟩ = some (.string pt) := hk1
      have hb1 := below_alloc HB.out (.cells #[.string pk, .string pt] 45)
      have hbk := heap_alloc_new wr (.cells #[.string pk, .string pt] 45)
      have HU := Aside0.mk (Under_calls AY cY ys.length ys rfl (by have := HXL.out.2; omega) pk _ (Kd.C_below HY9.out hb1))
      have HBK := Aside0.mk hbk
      have HBN := Aside0.mk hb1
      have HFG : Aside0 (FB mb (pk, pt) = cfV pt.data.toList (mget mb pk.data.toList) ∧ GB mb (pk, pt) = (mget mb pk.data.toList == some pt.data.toList)) := ⟨rfl, rfl⟩
      rw [HLK.out] at HU
      clear hp hb1 hbk HV
      have c0 : (wr.alloc (.cells #[.string pk, .string pt] 45)).cell? ⟨wr.heap.size, 0, none⟩ = some (.string pk) := (blk_cell HBK.out 0).trans rfl
      generalize mget mb pk.data.toList = gv at *
      cases gv with
      | none =>
        simp only [UnderV] at HU
        have HV3 : Aside0 ((xs.take (j + 1)).any (FB mb) = (cf || false) ∧ (xs.take (j + 1)).all (GB mb) = (ld && false)) := ⟨by rw [HV2.out.1, HV2.out.2, HFG.out.1, HFG.out.2]; exact ⟨rfl, rfl⟩⟩
        clear HV2 HFG
        cases cf <;> cases ld <;>
        (go_wp2_with (first | ((with_reducible refine (HU.out).mono ?_); rintro e w2 ⟨rfl, hb⟩; have HB2 := Aside0.mk (below_step HBN.out hb); have HK2 := Aside0.mk ((hb.block _ (blk_lt HBK.out)).trans HBK.out); have c1 : w2.cell? ⟨wr.heap.size, 1, none⟩ = some (.string pt) := (blk_cell HK2.out 1).trans rfl; clear hb HU))
         go_roundg (xs.length - (j + 1))
         case measure => have := HJ.out; omega
         case rel => exact ⟨j + 1, _, _, by go_num, rfl, rfl, ⟨by omega⟩, HV3, HB2⟩)
      | some v =>
        simp only [UnderV] at HU
        obtain ⟨sv, hsv⟩ : ∃ sv, mk v = sv := ⟨_, rfl⟩
        rw [hsv] at HU
        obtain ⟨q, hq⟩ : ∃ q, (sv.toList == pt.toList) = q := ⟨_, rfl⟩
        have HV3 : Aside0 ((xs.take (j + 1)).any (FB mb) = (cf || !q) ∧ (xs.take (j + 1)).all (GB mb) = (ld && q)) := ⟨by
          rw [HV2.out.1, HV2.out.2, HFG.out.1, HFG.out.2, ← hq, ← hsv, mk_toList, ByteArray.toList_eq pt]
          refine ⟨?_, ?_⟩
          · show (cf || !(pt.data.toList == v)) = _
            rw [show (pt.data.toList == v) = (v == pt.data.toList) from by rw [Bool.eq_iff_iff, beq_iff_eq, beq_iff_eq]; exact eq_comm]
          · rfl⟩
        clear HV2 HFG hsv
        cases cf <;> cases ld <;> cases q <;>
        (go_wp2_with (first | ((with_reducible refine (HU.out).mono ?_); rintro e w2 ⟨rfl, hb⟩; have HB2 := Aside0.mk (below_step HBN.out hb); have HK2 := Aside0.mk ((hb.block _ (blk_lt HBK.out)).trans HBK.out); have c1 : w2.cell? ⟨wr.heap.size, 1, none⟩ = some (.string pt) := (blk_cell HK2.out 1).trans rfl; clear hb HU))
         go_roundg (xs.length - (j + 1))
         case measure => have := HJ.out; omega
         case rel => exact ⟨j + 1, _, _, by go_num, rfl, rfl, ⟨by omega⟩, HV3, HB2⟩)
    · have hli : j = xs.length := by omega
      have hv := HV.out
      rw [hli, List.take_length] at hv
      obtain ⟨ev, hev⟩ : ∃ ev, decide (xs = ys) = ev := ⟨_, rfl⟩
      obtain ⟨ny, hny⟩ : ∃ ny, decide (ys.length = 0) = ny := ⟨_, rfl⟩
      have hny2 : (((ys.length : Nat) : Int) == 0) = ny := by
        rw [← hny]
        rw [Bool.eq_iff_iff, beq_iff_eq, decide_eq_true_eq]
        omega
      rw [hv.1, hv.2, hev, hny] at HBO
      have HSP := Aside0.mk (fun (W : World) (hb : Below w9.heap.size w9 W) => SamePairs_calls AX AY xs.length cX ys.length cY xs ys rfl rfl (by have := HXL.out.1; omega) (by have := HXL.out.2; omega) W (Kd.C_below HX9.out hb) (Kd.C_below HY9.out hb))
      rw [hev] at HSP
      have HBW := Aside0.mk (below_step HB9.out HB.out)
      clear hv hev hny HV
      cases cf <;> cases ev <;> cases ld <;> cases ny <;>
      (go_wp2_with (first
         | ((with_reducible refine (HBO.out _ HBW.out).mono ?_); rintro e wa ⟨rfl, hb⟩; have HBa := Aside0.mk (below_step HBW.out hb); have HBk := Aside0.mk (below_step HB.out hb); clear hb HBO)
         | ((with_reducible refine (HSP.out _ HBk.out).mono ?_); rintro e wb ⟨rfl, hb⟩; have HBb := Aside0.mk (below_step HBa.out hb); clear hb HSP)
         | ((with_reducible refine (HSE.out _ HBb.out).mono ?_); rintro e wz ⟨rfl, hb⟩; have HBz := Aside0.mk (below_step HBb.out hb); clear hb HSE))
       go_ret
       exact ⟨rfl, HBz.out⟩)
end Go.Proofs.YteigfmchnblkgaaGreatDoor.Hand
