/- spec.Under, spec.Holds, spec.Meets; laws.epReq. -/
import Derived.Test.YteigfmchnblkgaaGreatDoorLOGLabB
import Derived.Test.YteigfmchnblkgaaGreatDoorLOM18
import Derived.Test.YteigfmchnblkgaaGreatDoorLOGLabC
import Derived.Test.YteigfmchnblkgaaGreatDoorLOGSelB
import Derived.Test.YteigfmchnblkgaaGreatDoorLOM22
import Derived.Test.YteigfmchnblkgaaGreatDoorLOM27
import Derived.Test.YteigfmchnblkgaaGreatDoorLOM28
import Derived.Test.YteigfmchnblkgaaGreatDoorLOFreely
namespace Go.Proofs.YteigfmchnblkgaaGreatDoor.Hand
open Go.RowKit Go.Maps Go.Proofs.YteigfmchnblkgaaGreatDoorW.PrintWords Go.Proofs.YteigfmchnblkgaaGreatDoorW.PrintLast Go.Proofs.YteigfmchnblkgaaGreatDoorW.PrintMore Go.Proofs.YteigfmchnblkgaaGreatDoor.Base
set_option linter.unusedVariables false
set_option linter.unusedSimpArgs false
set_option maxRecDepth 100000
end Go.Proofs.YteigfmchnblkgaaGreatDoor.Hand

/- spec.Meets. -/
namespace Go.Proofs.YteigfmchnblkgaaGreatDoor.Hand
open Go.RowKit Go.Maps Go.Proofs.YteigfmchnblkgaaGreatDoorW.PrintWords Go.Proofs.YteigfmchnblkgaaGreatDoorW.PrintLast Go.Proofs.YteigfmchnblkgaaGreatDoorW.PrintMore Go.Proofs.YteigfmchnblkgaaGreatDoor.Base
set_option linter.unusedVariables false
set_option linter.unusedSimpArgs false
set_option maxRecDepth 100000
end Go.Proofs.YteigfmchnblkgaaGreatDoor.Hand

/- The law FnLabelsBoth. -/
namespace Go.Proofs.YteigfmchnblkgaaGreatDoor.Hand
open Go.RowKit Go.Maps Go.Proofs.YteigfmchnblkgaaGreatDoorW.PrintWords Go.Proofs.YteigfmchnblkgaaGreatDoorW.PrintLast Go.Proofs.YteigfmchnblkgaaGreatDoorW.PrintMore Go.Proofs.YteigfmchnblkgaaGreatDoor.Base
set_option linter.unusedVariables false
set_option linter.unusedSimpArgs false
set_option maxRecDepth 100000
theorem map_un (ls : List (ByteArray × ByteArray)) : (ls.map unP).map mkP = ls := by
  rw [List.map_map, show mkP ∘ unP = id from rfl, List.map_id]
end Go.Proofs.YteigfmchnblkgaaGreatDoor.Hand

/- The law FnLabelsOf. -/
namespace Go.Proofs.YteigfmchnblkgaaGreatDoor.Hand
open Go.RowKit Go.Maps Go.Proofs.YteigfmchnblkgaaGreatDoorW.PrintWords Go.Proofs.YteigfmchnblkgaaGreatDoorW.PrintLast Go.Proofs.YteigfmchnblkgaaGreatDoorW.PrintMore Go.Proofs.YteigfmchnblkgaaGreatDoor.Base
set_option linter.unusedVariables false
set_option linter.unusedSimpArgs false
set_option maxRecDepth 100000
theorem Bts.atL_ {w W : World} {A : Option Addr} {n : Nat} {cs : L} (h : Bts w A n cs) (hb : Below w.heap.size w W) : Bts W A n cs :=
  ⟨h.1, h.2.1, fun i c hc => by
    obtain ⟨ad, e, h1, h2⟩ := h.2.2 i c hc
    exact ⟨ad, e, (hb.cell (p := ad.add i) (by rw [add_block_]; exact h2)).trans h1, Nat.lt_of_lt_of_le h2 hb.size⟩⟩
theorem lbB_snoc (l : List LP) (p : LP) : lbB (l ++ [p]) = lbB l + (p.1.length + p.2.length + 2) := by
  unfold lbB
  rw [List.map_append, List.sum_append_nat]; rfl
set_option maxHeartbeats 4000000 in
theorem LBytes_calls (A : Option Addr) (c n : Nat) (ls : List (ByteArray × ByteArray)) (hn : ls.length = n) (hn2 : n ≤ 200) (hz : ∀ p ∈ ls, p.1.size ≤ 1000 ∧ p.2.size ≤ 1000) (w : World) (hC : PK.C w A n ls) :
    Calls Tryz.prog 40 #[.slice A n c] w fun e w' => e = .returned (.int .i64 (lbB (ls.map unP) : Nat)) ∧ Below w.heap.size w w' := by
  have HC := Aside0.mk hC
  have HN := Aside0.mk hn
  have HZ := Aside0.mk hz
  clear hC hz hn
  go_enter Tryz.func40, Tryz.ntmps40
  go_wp2
  go_loopg [3, 5, 8] (n) (fun g v3 v5 v8 w' => ∃ j q : Nat, v8 = .int .i64 j ∧ v3 = .int .i64 q ∧ Aside0 (g + j = n) ∧ Aside0 (lbB ((ls.take j).map unP) = q ∧ q ≤ j * 2002) ∧ Aside0 (Below w.heap.size w w'))
  case atStart => exact ⟨0, 0, rfl, rfl, ⟨by omega⟩, ⟨rfl, by omega⟩, ⟨Below.refl _ _⟩⟩
  case round =>
    obtain ⟨j, q, rfl, rfl, HJ, HQ, HB⟩ := hrel
    have hj : j ≤ n := by have := HJ.out; omega
    by_cases hjl : j < n
    · have hjl2 : j < ls.length := by rw [HN.out]; exact hjl
      obtain ⟨ad, eA, hk0, hk1⟩ := pk_both (Kd.C_below HC.out HB.out) j hjl hjl2
      subst eA
      obtain ⟨p, hp⟩ : ∃ p, ls[j] = p := ⟨_, rfl⟩
      rw [hp] at hk0 hk1
      obtain ⟨hz1, hz2⟩ := HZ.out p (by rw [← hp]; exact List.getElem_mem _)
      have HTK : Aside0 (lbB ((ls.take (j + 1)).map unP) = q + (p.1.size + p.2.size + 2)) := ⟨by
        rw [List.take_succ_eq_append_getElem hjl2, hp, List.map_append]
        show lbB (_ ++ [unP p]) = _
        rw [lbB_snoc, HQ.out.1]; rfl⟩
      have hq := HQ.out.2
      have hq2 : q ≤ 400400 := by have : j * 2002 ≤ 200 * 2002 := Nat.mul_le_mul_right _ (by omega); omega
      obtain ⟨sk, st⟩ := p
      replace hk0 : wr.cell? (ad.add (j * 2)) = some (.string sk) := hk0
      replace hk1 : wr.cell? ⟨(ad.add (j * 2)).block, (ad.add (j * 2)).off + 1, none⟩ = some (.string st) := hk1
      replace hz1 : sk.size ≤ 1000 := hz1
      replace hz2 : st.size ≤ 1000 := hz2
      have hbk := heap_alloc_new wr (.cells #[.string sk, .string st] 45)
      have hb3 := below_alloc HB.out (.cells #[.string sk, .string st] 45)
      obtain ⟨w1, hw1⟩ : ∃ w1, wr.alloc (.cells #[.string sk, .string st] 45) = w1 := ⟨_, rfl⟩
      rw [hw1] at hbk hb3
      have c0 : w1.cell? ⟨wr.heap.size, 0, none⟩ = some (.string sk) := (blk_cell hbk 0).trans rfl
      have c1 : w1.cell? ⟨wr.heap.size, 1, none⟩ = some (.string st) := (blk_cell hbk 1).trans rfl
      have HB3 := Aside0.mk hb3
      clear hp hbk hb3
      go_wp2
      go_roundg (n - (j + 1))
      case measure => have := HJ.out; omega
      case rel => exact ⟨j + 1, q + (sk.size + st.size + 2), by go_num, by congr 1 <;> omega, ⟨by omega⟩, ⟨HTK.out, by omega⟩, HB3⟩
    · have hje : j = n := by omega
      have hq := HQ.out.1
      rw [hje, List.take_of_length_le (by rw [HN.out]; exact Nat.le_refl _)] at hq
      have HF := Aside0.mk hq
      clear hq
      go_wp2
      go_ret
      exact ⟨by rw [HF.out]; try rfl, HB.out⟩
set_option maxHeartbeats 16000000 in
theorem LO_calls (A : Option Addr) (c n : Nat) (ls : List (ByteArray × ByteArray)) (hn : ls.length = n) (hnc : n ≤ c) (AC : Option Addr) (cc nc : Nat) (cs : L) (w : World) (hP : PK.C w A n ls) (hBt : Bts w AC nc cs) (hT : TV w) :
    Calls Tryz.prog 12 #[.slice A n c, .slice AC nc cc] w fun e w' => e = .returned (.bool true) ∧ Below w.heap.size w w' := by
  have HP := Aside0.mk hP
  have HBT := Aside0.mk hBt
  have HTT := Aside0.mk hT
  have HL := Aside0.mk hn
  have HBA := Aside0.mk (Below.refl w.heap.size w)
  have HF1 := Aside0.mk (fun (W : World) (hb : Below w.heap.size w W) => Fits1_calls A c n ls hn W (Kd.C_below hP hb))
  have HSE := Aside0.mk (fun (W : World) (hb : Below w.heap.size w W) => epSel_calls W (hT.below hb))
  clear hP hBt hT hn
  cases hf1 : fits1 ls
  · rw [hf1] at HF1
    clear hf1
    go_enter Tryz.func12, Tryz.ntmps12
    go_wp2_with (first | ((with_reducible refine (HF1.out _ HBA.out).mono ?_); rintro e w1 ⟨rfl, hb⟩; have HB1 := Aside0.mk (below_step HBA.out hb); clear hb HF1))
    go_ret
    exact ⟨rfl, HB1.out⟩
  rw [hf1] at HF1
  obtain ⟨hm1, hz1⟩ := fits1_t hf1
  rw [HL.out] at hm1
  clear hf1
  by_cases hncs : nc ≤ 2147483647
  rotate_left
  · have b0 : decide ((2147483647 : Int) < (nc : Int)) = true := decide_eq_true (by omega)
    have b1 : decide (2147483647 < nc) = true := decide_eq_true (by omega)
    clear hz1 hm1
    go_enter Tryz.func12, Tryz.ntmps12
    go_wp2_with (first | ((with_reducible refine (HF1.out _ HBA.out).mono ?_); rintro e w1 ⟨rfl, hb⟩; have HB1 := Aside0.mk (below_step HBA.out hb); clear hb HF1))
    go_ret
    exact ⟨rfl, HB1.out⟩
  have b0 : decide ((2147483647 : Int) < (nc : Int)) = false := decide_eq_false (by omega)
  have b1 : decide (2147483647 < nc) = false := decide_eq_false (by omega)
  have HEP := Aside0.mk (fun (b : Nat) (W : World) (hb : Below w.heap.size w W) (hk : W.cell? ⟨b, 0, none⟩ = some (.slice A n c)) => epPairs_calls b 1 1 (fun _ => A) (fun _ => n) (fun _ => c) (fun _ => ls) W (by omega) (fun _ _ => HL.out) (fun _ _ => hm1) (fun i hi => by have h0 : i = 0 := (by omega); subst h0; exact hk) (fun _ _ => Kd.C_below HP.out hb))
  rw [show ((List.range 1).all fun _ => pairsOk ls) = pairsOk ls from by simp [List.range_succ]] at HEP
  cases hep : pairsOk ls
  · rw [hep] at HEP
    clear hep hz1 hm1 hncs
    go_enter Tryz.func12, Tryz.ntmps12
    go_wp2_with (first | ((with_reducible refine (HF1.out _ HBA.out).mono ?_); rintro e w1 ⟨rfl, hb⟩; have HB1 := Aside0.mk (below_step HBA.out hb); have hbk6 := heap_alloc_new w1 (.cells #[.slice A n c] 22); have HS6 := Aside0.mk ((blk_cell hbk6 0).trans (show _ = some (Value.slice A n c) from rfl)); have HB6 := Aside0.mk (below_alloc HB1.out (.cells #[.slice A n c] 22)); clear hb HF1 hbk6) | ((with_reducible refine (HEP.out _ _ HB6.out HS6.out).mono ?_); rintro e w7 ⟨rfl, hb⟩; have HB7 := Aside0.mk (below_step HB6.out hb); clear hb HEP))
    go_ret
    exact ⟨rfl, HB7.out⟩
  rw [hep] at HEP
  obtain ⟨hl1, hs1⟩ := pairsOk_t hep
  rw [HL.out] at hl1
  have HSZ := Aside0.mk (And.intro hl1 hs1)
  clear hep hz1 hm1 hs1
  by_cases hn0 : n = 0
  · have n0 : (((n : Nat) : Int) == 0) = true := by rw [hn0]; rfl
    have n1 : (n == 0) = true := by rw [hn0]; rfl
    clear hncs hl1 hn0
    go_enter Tryz.func12, Tryz.ntmps12
    go_wp2_with (first | ((with_reducible refine (HF1.out _ HBA.out).mono ?_); rintro e w1 ⟨rfl, hb⟩; have HB1 := Aside0.mk (below_step HBA.out hb); have hbk6 := heap_alloc_new w1 (.cells #[.slice A n c] 22); have HS6 := Aside0.mk ((blk_cell hbk6 0).trans (show _ = some (Value.slice A n c) from rfl)); have HB6 := Aside0.mk (below_alloc HB1.out (.cells #[.slice A n c] 22)); clear hb HF1 hbk6) | ((with_reducible refine (HEP.out _ _ HB6.out HS6.out).mono ?_); rintro e w7 ⟨rfl, hb⟩; have HB7 := Aside0.mk (below_step HB6.out hb); clear hb HEP))
    go_ret
    exact ⟨rfl, HB7.out⟩
  have n0 : (((n : Nat) : Int) == 0) = false := by rw [beq_eq_false_iff_ne]; omega
  have n1 : (n == 0) = false := by rw [beq_eq_false_iff_ne]; exact hn0
  have HLB := Aside0.mk (fun (W : World) (hb : Below w.heap.size w W) => LBytes_calls A c n ls HL.out (by omega) (fun p hp => by have := HSZ.out.2 p hp; omega) W (Kd.C_below HP.out hb))
  obtain ⟨lb, hlb⟩ : ∃ lb, lbB (ls.map unP) = lb := ⟨_, rfl⟩
  rw [hlb] at HLB
  by_cases hbig : 1200 < lb
  · have d0 : decide ((1200 : Int) < ((lb : Nat) : Int)) = true := decide_eq_true (by omega)
    have d1 : decide (1200 < lb) = true := decide_eq_true hbig
    clear hlb hncs hl1 hn0 hbig
    go_enter Tryz.func12, Tryz.ntmps12
    go_wp2_with (first | ((with_reducible refine (HF1.out _ HBA.out).mono ?_); rintro e w1 ⟨rfl, hb⟩; have HB1 := Aside0.mk (below_step HBA.out hb); have hbk6 := heap_alloc_new w1 (.cells #[.slice A n c] 22); have HS6 := Aside0.mk ((blk_cell hbk6 0).trans (show _ = some (Value.slice A n c) from rfl)); have HB6 := Aside0.mk (below_alloc HB1.out (.cells #[.slice A n c] 22)); clear hb HF1 hbk6) | ((with_reducible refine (HEP.out _ _ HB6.out HS6.out).mono ?_); rintro e w7 ⟨rfl, hb⟩; have HB7 := Aside0.mk (below_step HB6.out hb); clear hb HEP) | ((with_reducible refine (HLB.out _ HB7.out).mono ?_); rintro e w8 ⟨rfl, hb⟩; have HB8 := Aside0.mk (below_step HB7.out hb); clear hb HLB))
    go_ret
    exact ⟨rfl, HB8.out⟩
  have d0 : decide ((1200 : Int) < ((lb : Nat) : Int)) = false := decide_eq_false (by omega)
  have d1 : decide (1200 < lb) = false := decide_eq_false (by omega)
  have HLBB : Aside0 (lbB (ls.map unP) ≤ 1200) := ⟨by omega⟩
  clear hlb hbig hncs
  go_enter Tryz.func12, Tryz.ntmps12
  go_wp2_with (first | ((with_reducible refine (HF1.out _ HBA.out).mono ?_); rintro e w1 ⟨rfl, hb⟩; have HB1 := Aside0.mk (below_step HBA.out hb); have hbk6 := heap_alloc_new w1 (.cells #[.slice A n c] 22); have HS6 := Aside0.mk ((blk_cell hbk6 0).trans (show _ = some (Value.slice A n c) from rfl)); have HB6 := Aside0.mk (below_alloc HB1.out (.cells #[.slice A n c] 22)); clear hb HF1 hbk6) | ((with_reducible refine (HEP.out _ _ HB6.out HS6.out).mono ?_); rintro e w7 ⟨rfl, hb⟩; have HB7 := Aside0.mk (below_step HB6.out hb); clear hb HEP) | ((with_reducible refine (HLB.out _ HB7.out).mono ?_); rintro e w8 ⟨rfl, hb⟩; have HB8 := Aside0.mk (below_step HB7.out hb); clear hb HLB))
  go_loopg [5, 7, 34] (n) (fun g v5 v7 v34 w' => ∃ (j : Nat) (ps : List (FE × Rq)), v34 = .int .i64 j ∧ Aside0 (g + j = n) ∧ Aside0 (ps.map (·.2) = ((ls.take j).map unP).map rqE ∧ ∀ q ∈ (ls.take j).map unP, FairP q) ∧ Aside0 (KF.R 31 w' w.heap.size (fun _ => True) v5 (ps.map (·.1))) ∧ Aside0 ((∀ p ∈ ps, GoodE w' p) ∧ ∀ p ∈ ps, EBlk p ≠ v5.ownBlock) ∧ Aside0 (Below w.heap.size w w'))
  case atStart => exact ⟨0, [], rfl, ⟨by omega⟩, ⟨rfl, fun q hq => by simp at hq⟩, ⟨Kd.R_nil _ _ _ _ _⟩, ⟨fun p hp => by simp at hp, fun p hp => by simp at hp⟩, HB8⟩
  case round =>
    clear HB8
    obtain ⟨j, ps, rfl, HJ, HPS, HR, HG, HB⟩ := hrel
    have hj : j ≤ n := by have := HJ.out; omega
    by_cases hjl : j < n
    · have hjl2 : j < ls.length := by rw [HL.out]; exact hjl
      obtain ⟨ad, eA, hk0, hk1⟩ := pk_both (Kd.C_below HP.out HB.out) j hjl hjl2
      subst eA
      obtain ⟨q, hq⟩ : ∃ q, ls[j] = q := ⟨_, rfl⟩
      rw [hq] at hk0 hk1
      have hqs := HSZ.out.2 q (by rw [← hq]; exact List.getElem_mem _)
      have HTK : Aside0 ((ls.take (j + 1)).map unP = (ls.take j).map unP ++ [unP q]) := ⟨by rw [List.take_succ_eq_append_getElem hjl2, hq, List.map_append]; rfl⟩
      obtain ⟨sk, st⟩ := q
      replace hk0 : wr.cell? (ad.add (j * 2)) = some (.string sk) := hk0
      replace hk1 : wr.cell? ⟨(ad.add (j * 2)).block, (ad.add (j * 2)).off + 1, none⟩ = some (.string st) := hk1
      have hbk := heap_alloc_new wr (.cells #[.string sk, .string st] 45)
      have hb3 := below_alloc HB.out (.cells #[.string sk, .string st] 45)
      have hr3 := Kd.R_alloc HR.out (.cells #[.string sk, .string st] 45)
      have hg3 : ∀ p ∈ ps, GoodE (wr.alloc (.cells #[.string sk, .string st] 45)) p := fun p hp => (HG.out.1 p hp).below (below_alloc (Below.refl _ _) _)
      have hbx3 := below_alloc (Below.refl wr.heap.size wr) (.cells #[.string sk, .string st] 45)
      obtain ⟨w1, hw1⟩ : ∃ w1, wr.alloc (.cells #[.string sk, .string st] 45) = w1 := ⟨_, rfl⟩
      rw [hw1] at hbk hb3 hr3 hg3 hbx3
      have c0 : w1.cell? ⟨wr.heap.size, 0, none⟩ = some (.string sk) := (blk_cell hbk 0).trans rfl
      have c1 : w1.cell? ⟨wr.heap.size, 1, none⟩ = some (.string st) := (blk_cell hbk 1).trans rfl
      have HBK := Aside0.mk hbk
      have HB1 := Aside0.mk hb3
      have HR1 := Aside0.mk hr3
      have HG1 := Aside0.mk hg3
      have HQ1 := Aside0.mk (Qualified_calls sk (by have h9 : sk.size ≤ 100 ∧ st.size ≤ 100 := hqs; omega) w1)
      have HV1 := Aside0.mk (fun W => LabelText_calls st (by have h9 : sk.size ≤ 100 ∧ st.size ≤ 100 := hqs; omega) W)
      clear hq hbk hb3 hr3 hg3 hbx3 HR hqs
      cases hpq : pQ sk.data.toList
      · rw [hpq] at HQ1
        clear hpq HTK HPS HG HV1
        go_wp2_with (first | ((with_reducible refine (HQ1.out).mono ?_); rintro e w2 ⟨rfl, hb⟩; have HB2 := Aside0.mk (below_step HB1.out hb); have HK2 := Aside0.mk ((hb.block _ (blk_lt HBK.out)).trans HBK.out); have c0 : w2.cell? ⟨wr.heap.size, 0, none⟩ = some (.string sk) := (blk_cell HK2.out 0).trans rfl; have c1 : w2.cell? ⟨wr.heap.size, 1, none⟩ = some (.string st) := (blk_cell HK2.out 1).trans rfl; clear hb HQ1))
        go_ret
        exact ⟨rfl, HB2.out⟩
      rw [hpq] at HQ1
      cases hpv : pValue st.data.toList
      · rw [hpv] at HV1
        clear hpq hpv HTK HPS HG
        go_wp2_with (first | ((with_reducible refine (HQ1.out).mono ?_); rintro e w2 ⟨rfl, hb⟩; have HB2 := Aside0.mk (below_step HB1.out hb); have HK2 := Aside0.mk ((hb.block _ (blk_lt HBK.out)).trans HBK.out); have c0 : w2.cell? ⟨wr.heap.size, 0, none⟩ = some (.string sk) := (blk_cell HK2.out 0).trans rfl; have c1 : w2.cell? ⟨wr.heap.size, 1, none⟩ = some (.string st) := (blk_cell HK2.out 1).trans rfl; clear hb HQ1) | ((with_reducible refine (HV1.out _).mono ?_); rintro e w4 ⟨rfl, rfl⟩; clear HV1))
        go_ret
        exact ⟨rfl, HB2.out⟩
      rw [hpv] at HV1
      by_cases hst : st.toList = []
      · have e0 : (st.toList == ([] : List UInt8)) = true := by rw [hst]; rfl
        clear hpq hpv HTK HPS HG hst
        go_wp2_with (first | ((with_reducible refine (HQ1.out).mono ?_); rintro e w2 ⟨rfl, hb⟩; have HB2 := Aside0.mk (below_step HB1.out hb); have HK2 := Aside0.mk ((hb.block _ (blk_lt HBK.out)).trans HBK.out); have c0 : w2.cell? ⟨wr.heap.size, 0, none⟩ = some (.string sk) := (blk_cell HK2.out 0).trans rfl; have c1 : w2.cell? ⟨wr.heap.size, 1, none⟩ = some (.string st) := (blk_cell HK2.out 1).trans rfl; clear hb HQ1) | ((with_reducible refine (HV1.out _).mono ?_); rintro e w4 ⟨rfl, rfl⟩; clear HV1))
        go_ret
        exact ⟨rfl, HB2.out⟩
      have e0 : (st.toList == ([] : List UInt8)) = false := by rw [beq_eq_false_iff_ne]; exact hst
      have HFQ : Aside0 (FairP (unP (sk, st))) := ⟨hpq, hpv, by rw [ByteArray.toList_eq] at hst; exact hst⟩
      have HNL : Aside0 (ps.length = j ∧ j ≤ 20) := ⟨by have h1 := congrArg List.length HPS.out.1; rw [List.length_map, List.length_map, List.length_map, List.length_take] at h1; have := HSZ.out.1; omega⟩
      have HLT := Aside0.mk (Kd.R_lt HR1.out)
      clear hpq hpv hst
      go_wp2_with (first
        | ((with_reducible refine (HQ1.out).mono ?_); rintro e w2 ⟨rfl, hb⟩; have HB2 := Aside0.mk (below_step HB1.out hb); have HK2 := Aside0.mk ((hb.block _ (blk_lt HBK.out)).trans HBK.out); have c0 : w2.cell? ⟨wr.heap.size, 0, none⟩ = some (.string sk) := (blk_cell HK2.out 0).trans rfl; have c1 : w2.cell? ⟨wr.heap.size, 1, none⟩ = some (.string st) := (blk_cell HK2.out 1).trans rfl; have hr2 := Kd.R_alloc (Kd.R_below HR1.out hb) (.cells #[.string st] 9); have hg2 : ∀ p ∈ ps, GoodE (w2.alloc (.cells #[.string st] 9)) p := (fun p hp => ((HG1.out p hp).below hb).below (below_alloc (Below.refl _ _) _)); have hbk2 := heap_alloc_new w2 (.cells #[.string st] 9); have hb2 := below_alloc HB2.out (.cells #[.string st] 9); have HSW : Aside0 (w1.heap.size ≤ w2.heap.size) := ⟨hb.size⟩; (obtain ⟨w3, hw3⟩ : ∃ w3, w2.alloc (.cells #[.string st] 9) = w3 := ⟨_, rfl⟩); rw [hw3] at hr2 hg2 hbk2 hb2; have HR3 := Aside0.mk hr2; have HG3 := Aside0.mk hg2; have HBK3 := Aside0.mk hbk2; have HB3 := Aside0.mk hb2; clear hb hr2 hg2 hbk2 hb2 HQ1)
        | ((with_reducible refine (HV1.out _).mono ?_); rintro e w4 ⟨rfl, rfl⟩; clear HV1)
        | ((with_reducible refine gate_builtin (b := .append) (xs := #[.tmp 53, .tmp 60]) rfl ?_); (try (refine gate_guard (by rfl) ?_; dsimp only)); at_builtin; refine Kd.R_append KF (w0 := w) w.heap.size rfl (.tmp 53) (.tmp 60) 26 31 (.agg #[.string ⟨#[]⟩, .string ⟨#[]⟩, .slice none 0 0]) 56 rfl Tryz.underlying26 infoIQ rfl (by decide) (by decide) u5 (ps.map (·.1)) (sk, (⟨#[61]⟩ : ByteArray), (some ⟨w2.heap.size, 0, none⟩, 1, 1)) [.string sk, .string (⟨#[61]⟩ : ByteArray), .slice (some ⟨w2.heap.size, 0, none⟩) 1 1] (fun _ => True) (fun _ => False) rfl rfl ?aP (fun _ hk => hk.elim) ?aF ?aO ?aB ?aS ?aL ?_; (case aP => exact ⟨[_], [_, _], rfl, rfl, [_], [_], rfl, rfl, rfl⟩); (case aB => exact HB3.out); (case aF => exact (fun _ _ => trivial)); (case aO => exact HR3.out); (case aS => exact below_size HB3.out); (case aL => have := HNL.out; rw [List.length_map]; omega); intro vN wN ho hb hg hat; have HR4 := Aside0.mk ho; have HB4 := Aside0.mk hb; have HGG := Aside0.mk hg; have HAT := Aside0.mk hat; clear ho hb hg hat))
      go_roundg (n - (j + 1))
      case measure => have := HJ.out; omega
      case rel =>
        have hbn : w2.heap.size < w3.heap.size := blk_lt HBK3.out
        have hown : ∀ k, (u5 : Value).ownBlock = some k → k < w1.heap.size := fun k hk => HLT.out k hk
        have hgn : GoodE wN ((sk, (⟨#[61]⟩ : ByteArray), (some ⟨w2.heap.size, 0, none⟩, 1, 1)), rqE (unP (sk, st))) := by
          have h0 : GoodE w3 ((sk, (⟨#[61]⟩ : ByteArray), (some ⟨w2.heap.size, 0, none⟩, 1, 1)), rqE (unP (sk, st))) := ⟨w2.heap.size, st.data.toList, rfl, rfl, rfl, rfl, HBK3.out⟩
          refine h0.grown HGG.out (fun e => ?_)
          have := hown w2.heap.size e.symm
          have := HSW.out
          omega
        refine ⟨j + 1, ps ++ [((sk, (⟨#[61]⟩ : ByteArray), (some ⟨w2.heap.size, 0, none⟩, 1, 1)), rqE (unP (sk, st)))], by go_num, ⟨by omega⟩, ⟨?_, ?_⟩, ⟨by rw [List.map_append]; exact HR4.out⟩, ⟨?_, ?_⟩, HB4⟩
        · rw [HTK.out, List.map_append, List.map_append, HPS.out.1]; rfl
        · rw [HTK.out]
          intro q hq
          rcases List.mem_append.1 hq with h | h
          · exact HPS.out.2 q h
          · rw [List.mem_singleton.1 h]; exact HFQ.out
        · intro p hp
          rcases List.mem_append.1 hp with h | h
          · exact (HG3.out p h).grown HGG.out (HG.out.2 p h)
          · rw [List.mem_singleton.1 h]; exact hgn
        · intro p hp
          rcases HAT.out with e | ⟨b, e, hb⟩
          · rw [e]
            rcases List.mem_append.1 hp with h | h
            · exact HG.out.2 p h
            · rw [List.mem_singleton.1 h]
              intro e2
              have := hown w2.heap.size e2.symm
              have := HSW.out
              omega
          · rw [e]
            have hlt : ∃ b', EBlk p = some b' ∧ b' < w3.heap.size := by
              rcases List.mem_append.1 hp with h | h
              · exact (HG3.out p h).lt
              · rw [List.mem_singleton.1 h]; exact ⟨_, rfl, hbn⟩
            obtain ⟨b', e1, h1⟩ := hlt
            rw [e1]
            intro e2
            have := Option.some.inj e2
            omega
    · have hje : j = n := by omega
      subst hje
      have hps := HPS.out
      rw [List.take_of_length_le (by rw [HL.out]; exact Nat.le_refl _)] at hps
      have HFA := Aside0.mk hps.2
      have hpl : ps.length = j := by have h1 := congrArg List.length hps.1; rw [List.length_map, List.length_map, List.length_map, HL.out] at h1; exact h1
      obtain ⟨AQ, cQ, eQ⟩ := Kd.R_slice HR.out
      rw [List.length_map, hpl] at eQ
      subst eQ
      have hkc : KF.C wr AQ j (ps.map (·.1)) := by
        have h9 := (Kd.R_reads' HR.out).2.2
        first | exact h9 | (rw [List.length_map, hpl] at h9; exact h9)
      have hkq := kf_kq hkc (fun p hp => (HG.out.1 p hp).fr)
      rw [hps.1] at hkq
      obtain ⟨lp, hlp⟩ : ∃ lp, ls.map unP = lp := ⟨_, rfl⟩
      have HLP := Aside0.mk hlp
      have hll : lp.length = j := by rw [← hlp, List.length_map, HL.out]
      rw [hlp] at hkq HFA HLBB
      have hfair : ∀ r ∈ lp.map rqE, ∃ q ∈ lp, r = rqE q := fun r hr => by
        obtain ⟨q, hq, e⟩ := List.mem_map.1 hr
        exact ⟨q, hq, e.symm⟩
      have HFR := Aside0.mk (Freely_calls (lp.map rqE) j (by rw [List.length_map, hll]) (by omega) (fun r hr => by obtain ⟨q, hq, rfl⟩ := hfair r hr; exact (fair_word (HFA.out q hq)).1) (fun r hr => by obtain ⟨q, hq, rfl⟩ := hfair r hr; simp) (fun r hr => by obtain ⟨q, hq, rfl⟩ := hfair r hr; exact (fair_word (HFA.out q hq)).2) AQ cQ cs AC nc cc wr (HBT.out.atL_ HB.out) hkq)
      have hex : ∃ es : List Eqn, pieces 44 (outL (.gap :: pcsAll (lp.map rqE)) cs) = es.map Eqn.text ∧ es.map Eqn.pr = lp ∧ (∀ e ∈ es, e.Ok) ∧ (outL (.gap :: pcsAll (lp.map rqE)) cs).length ≤ 2000 ∧ outL (.gap :: pcsAll (lp.map rqE)) cs ≠ [] := by
        cases lp with
        | nil => rw [← hll] at hn0; exact absurd rfl hn0
        | cons p l =>
          obtain ⟨es, h1, h2, h3, h4⟩ := free_eqns l p (gapL cs) cs.tail (gap_bl _) (gapL_len _) (HFA.out p (by simp)) (fun q hq => HFA.out q (by simp [hq]))
          have e : outL (.gap :: pcsAll ((p :: l).map rqE)) cs = gapL cs ++ outL (pcsR p.1 [61] [p.2] ++ .gap :: (l.map rqE).flatMap pcF) cs.tail := rfl
          rw [e]
          refine ⟨es, h1, h2, h3, ?_, fun hx => ?_⟩
          · rw [sum10] at h4
            have := HLBB.out
            have := HSZ.out.1
            omega
          · rw [hx] at h1
            cases es with
            | nil => cases h2
            | cons a es =>
              cases es with
              | nil =>
                have h5 : [([] : L)] = [a.text] := h1
                injection h5 with h5 h6
                unfold Eqn.text at h5
                have := congrArg List.length h5
                simp at this
              | cons b es => have := congrArg List.length h1; simp [pieces] at this
      obtain ⟨es, hx1, hx2, hx3, hx4, hx5⟩ := hex
      have hel : es.length ≤ 1000 := by have h1 := congrArg List.length hx2; rw [List.length_map, hll] at h1; omega
      have HLO := Aside0.mk (fun (W : World) (hb : Below w.heap.size w W) => LabelsOf_calls es hx3 hel _ hx1 hx5 hx4 W (HTT.out.below hb))
      rw [hx2] at HLO
      have HKE := Aside0.mk (fun (W : World) (hb : Below w.heap.size w W) => show Calls Tryz.prog 33 #[.slice A j c] W fun e w' => ∃ v : Value, e = .returned v ∧ PK.R 45 w' W.heap.size (fun _ => True) v ((keyL lp).map mkP) ∧ Below W.heap.size W w' from by
        have h := Keyed_calls A c (ls.map unP) (by rw [List.length_map, HL.out]; omega) W (by rw [map_un, List.length_map, HL.out]; exact Kd.C_below HP.out hb) (by rw [List.length_map, HL.out]; exact hnc)
        rw [List.length_map, HL.out, hlp] at h
        exact h)
      have hzl : ((keyL lp).map mkP).length ≤ 20 := by
        have := keyL_len lp
        rw [List.length_map]; omega
      generalize (keyL lp).map mkP = zs at *
      generalize outL (.gap :: pcsAll (lp.map rqE)) cs = x at *
      have HSP := Aside0.mk (fun AX cX AY cY (W : World) (h1 : PK.C W AX zs.length zs) (h2 : PK.C W AY zs.length zs) => SamePairs_calls AX AY zs.length cX zs.length cY zs zs rfl rfl (by omega) (by omega) W h1 h2)
      rw [show decide (zs = zs) = true from by simp] at HSP
      obtain ⟨sx, hsx⟩ : ∃ sx, mk x = sx := ⟨_, rfl⟩
      rw [hsx] at HFR HLO
      clear hkc hkq hps hpl hfair hx1 hx2 hx3 hx4 hx5 hel hzl hsx hlp hll HR HG HPS HLP
      go_wp2_with (first
        | ((with_reducible refine (HFR.out).mono ?_); rintro e w2 ⟨rfl, hb⟩; have HB2 := Aside0.mk (below_step HB.out hb); clear hb HFR)
        | ((with_reducible refine (HLO.out _ HB2.out).mono ?_); rintro e w3 ⟨v3, rfl, hr, hb⟩; have HB3 := Aside0.mk (below_step HB2.out hb); (obtain ⟨AX, cX, eX⟩ := Kd.R_slice hr); subst eX; have HX3 := Aside0.mk (Kd.R_reads' hr).2.2; clear hr hb HLO)
        | ((with_reducible refine (HKE.out _ HB3.out).mono ?_); rintro e w4 ⟨v4, rfl, hr, hb⟩; have HB4 := Aside0.mk (below_step HB3.out hb); (obtain ⟨AY, cY, eY⟩ := Kd.R_slice hr); subst eY; have HY4 := Aside0.mk (Kd.R_reads' hr).2.2; have HX4 := Aside0.mk (Kd.C_below HX3.out hb); clear hr hb HKE)
        | ((with_reducible refine (HSP.out _ _ _ _ _ HX4.out HY4.out).mono ?_); rintro e w5 ⟨rfl, hb⟩; have HB5 := Aside0.mk (below_step HB4.out hb); clear hb HSP)
        | ((with_reducible refine (HSE.out _ HB5.out).mono ?_); rintro e w6 ⟨rfl, hb⟩; have HB6 := Aside0.mk (below_step HB5.out hb); clear hb HSE))
      go_ret
      exact ⟨rfl, HB6.out⟩
end Go.Proofs.YteigfmchnblkgaaGreatDoor.Hand
