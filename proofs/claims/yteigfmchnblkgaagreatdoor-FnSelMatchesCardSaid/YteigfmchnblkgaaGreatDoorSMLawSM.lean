/- The law FnSelMatches. (Printed by lawsm.py.) -/
import Derived.Test.YteigfmchnblkgaaGreatDoorSMGSelB
import Derived.Test.YteigfmchnblkgaaGreatDoorSMGSpA
import Derived.Test.YteigfmchnblkgaaGreatDoorSMLabFits
import Derived.Test.YteigfmchnblkgaaGreatDoorSMFits3
import Derived.Test.YteigfmchnblkgaaGreatDoorSMSmP
import Derived.Test.YteigfmchnblkgaaGreatDoorSMFreely
namespace Go.Proofs.YteigfmchnblkgaaGreatDoor.Hand
open Go.RowKit Go.Maps Go.Proofs.YteigfmchnblkgaaGreatDoorW.PrintWords Go.Proofs.YteigfmchnblkgaaGreatDoorW.PrintLast Go.Proofs.YteigfmchnblkgaaGreatDoorW.PrintMore Go.Proofs.YteigfmchnblkgaaGreatDoor.Base
set_option linter.unusedVariables false
set_option linter.unusedSimpArgs false
set_option maxRecDepth 100000
theorem Bts.at_ {w W : World} {A : Option Addr} {n : Nat} {cs : L} (h : Bts w A n cs) (hb : Below w.heap.size w W) : Bts W A n cs :=
  ⟨h.1, h.2.1, fun i c hc => by
    obtain ⟨ad, e, h1, h2⟩ := h.2.2 i c hc
    exact ⟨ad, e, (hb.cell (p := ad.add i) (by rw [add_block_]; exact h2)).trans h1, Nat.lt_of_lt_of_le h2 hb.size⟩⟩
theorem all_take_succ {α : Type} {f : α → Bool} {l : List α} {i : Nat} {p : α} (hp : l[i]? = some p) : (l.take (i + 1)).all f = ((l.take i).all f && f p) := by
  rw [List.take_add_one, hp]; simp
theorem totL_mem {x : L} : ∀ {l : List L}, x ∈ l → x.length ≤ totL l
  | y :: l, h => by
    show _ ≤ y.length + totL l
    rcases List.mem_cons.1 h with h | h
    · rw [h]; omega
    · have := totL_mem h; omega
theorem totR_mem {r : Rq} : ∀ {l : List Rq}, r ∈ l → r.1.length + totL r.2.2 ≤ totR l
  | y :: l, h => by
    show _ ≤ (y.1.length + totL y.2.2) + totR l
    rcases List.mem_cons.1 h with h | h
    · rw [h]; omega
    · have := totR_mem h; omega
set_option maxHeartbeats 32000000 in
theorem SelMt_calls (AQ : Option Addr) (cq N : Nat) (l : List Rq) (hN : l.length = N) (hcq : N ≤ cq) (hcm : cq ≤ 9223372036854775807) (A : Option Addr) (c n : Nat) (cs : L) (AL : Option Addr) (cl nl : Nat) (ls : List (ByteArray × ByteArray)) (hnl : ls.length = nl) (hncl : nl ≤ cl) (w : World) (hQ : KQ.C w AQ N (rqV l)) (hBt : Bts w A n cs) (hP : PK.C w AL nl ls) (hT : TV w) :
    Calls Tryz.prog 4 #[.slice AQ N cq, .slice A n c, .slice AL nl cl] w fun e w' => e = .returned (.bool true) ∧ Below w.heap.size w w' := by
  have HQQ := Aside0.mk hQ
  have HBT := Aside0.mk hBt
  have HPP := Aside0.mk hP
  have HTT := Aside0.mk hT
  have HLN := Aside0.mk hN
  have HLL := Aside0.mk hnl
  have HB0 := Aside0.mk (Below.refl w.heap.size w)
  have HF3 := Aside0.mk (fun (W : World) (hb : Below w.heap.size w W) => Fits3_calls AQ cq N l hN W (Kd.C_below hQ hb))
  have HF1 := Aside0.mk (fun (W : World) (hb : Below w.heap.size w W) => Fits1_calls AL cl nl ls hnl W (Kd.C_below hP hb))
  have HSE := Aside0.mk (fun (W : World) (hb : Below w.heap.size w W) => epSel_calls W (hT.below hb))
  clear hQ hBt hP hT hN hnl
  cases hf3 : fits3 l
  · rw [hf3] at HF3
    clear hf3
    go_enter Tryz.func4, Tryz.ntmps4
    go_wp2_with (first | ((with_reducible refine (HF3.out _ HB0.out).mono ?_); rintro e w1 ⟨rfl, hb⟩; have HB1 := Aside0.mk (below_step HB0.out hb); clear hb HF3))
    go_ret
    exact ⟨rfl, HB1.out⟩
  rw [hf3] at HF3
  obtain ⟨hN2, hls⟩ := fits3_t hf3
  rw [HLN.out] at hN2
  clear hf3
  by_cases hnc : n ≤ 2147483647
  rotate_left
  · have b0 : decide ((2147483647 : Int) < (n : Int)) = true := decide_eq_true (by omega)
    have b1 : decide (2147483647 < n) = true := decide_eq_true (by omega)
    clear hls hN2
    go_enter Tryz.func4, Tryz.ntmps4
    go_wp2_with (first | ((with_reducible refine (HF3.out _ HB0.out).mono ?_); rintro e w1 ⟨rfl, hb⟩; have HB1 := Aside0.mk (below_step HB0.out hb); clear hb HF3))
    go_ret
    exact ⟨rfl, HB1.out⟩
  have b0 : decide ((2147483647 : Int) < (n : Int)) = false := decide_eq_false (by omega)
  have b1 : decide (2147483647 < n) = false := decide_eq_false (by omega)
  cases hf1 : fits1 ls
  · rw [hf1] at HF1
    clear hf1 hls hN2 hnc
    go_enter Tryz.func4, Tryz.ntmps4
    go_wp2_with (first | ((with_reducible refine (HF3.out _ HB0.out).mono ?_); rintro e w1 ⟨rfl, hb⟩; have HB1 := Aside0.mk (below_step HB0.out hb); clear hb HF3) | ((with_reducible refine (HF1.out _ HB1.out).mono ?_); rintro e w2 ⟨rfl, hb⟩; have HB2 := Aside0.mk (below_step HB1.out hb); clear hb HF1))
    go_ret
    exact ⟨rfl, HB2.out⟩
  rw [hf1] at HF1
  obtain ⟨hnl2, hlz⟩ := fits1_t hf1
  rw [HLL.out] at hnl2
  clear hf1
  have HWO := Aside0.mk (fun (W : World) (hb : Below w.heap.size w W) => WordsN_calls l N HLN.out hN2 6 (by omega) AQ cq hcq hcm hls W (Kd.C_below HQQ.out hb) (HTT.out.below hb))
  rw [show ((6 : Nat) : Int) = 6 from rfl] at HWO
  have HEP := Aside0.mk (fun (b : Nat) (W : World) (hb : Below w.heap.size w W) (hk : W.cell? ⟨b, 0, none⟩ = some (.slice AL nl cl)) => epPairs_calls b 1 1 (fun _ => AL) (fun _ => nl) (fun _ => cl) (fun _ => ls) W (by omega) (fun _ _ => HLL.out) (fun _ _ => hnl2) (fun i hi => by have h0 : i = 0 := (by omega); subst h0; exact hk) (fun _ _ => Kd.C_below HPP.out hb))
  rw [show ((List.range 1).all fun _ => pairsOk ls) = pairsOk ls from by simp [List.range_succ]] at HEP
  cases hwo : wordsN l 6
  · rw [hwo] at HWO
    clear hwo hls hN2 hnc hlz hnl2
    go_enter Tryz.func4, Tryz.ntmps4
    go_wp2_with (first | ((with_reducible refine (HF3.out _ HB0.out).mono ?_); rintro e w1 ⟨rfl, hb⟩; have HB1 := Aside0.mk (below_step HB0.out hb); clear hb HF3) | ((with_reducible refine (HF1.out _ HB1.out).mono ?_); rintro e w2 ⟨rfl, hb⟩; have HB2 := Aside0.mk (below_step HB1.out hb); clear hb HF1) | ((with_reducible refine (HWO.out _ HB2.out).mono ?_); rintro e w3 ⟨rfl, hb⟩; have HB3 := Aside0.mk (below_step HB2.out hb); have hbk_ := heap_alloc_new w3 (.cells #[.slice AL nl cl] 22); have HS4 := Aside0.mk ((blk_cell hbk_ 0).trans (show _ = some (Value.slice AL nl cl) from rfl)); have HB4 := Aside0.mk (below_alloc HB3.out (.cells #[.slice AL nl cl] 22)); clear hbk_; clear hb HWO))
    go_ret
    exact ⟨rfl, HB3.out⟩
  rw [hwo] at HWO
  obtain ⟨hl6, htb, hrw⟩ := words_t hwo
  clear hwo
  cases hep : pairsOk ls
  · rw [hep] at HEP
    clear hep hls hN2 hnc hlz hnl2 hl6 htb hrw
    go_enter Tryz.func4, Tryz.ntmps4
    go_wp2_with (first | ((with_reducible refine (HF3.out _ HB0.out).mono ?_); rintro e w1 ⟨rfl, hb⟩; have HB1 := Aside0.mk (below_step HB0.out hb); clear hb HF3) | ((with_reducible refine (HF1.out _ HB1.out).mono ?_); rintro e w2 ⟨rfl, hb⟩; have HB2 := Aside0.mk (below_step HB1.out hb); clear hb HF1) | ((with_reducible refine (HWO.out _ HB2.out).mono ?_); rintro e w3 ⟨rfl, hb⟩; have HB3 := Aside0.mk (below_step HB2.out hb); have hbk_ := heap_alloc_new w3 (.cells #[.slice AL nl cl] 22); have HS4 := Aside0.mk ((blk_cell hbk_ 0).trans (show _ = some (Value.slice AL nl cl) from rfl)); have HB4 := Aside0.mk (below_alloc HB3.out (.cells #[.slice AL nl cl] 22)); clear hbk_; clear hb HWO) | ((with_reducible refine (HEP.out _ _ HB4.out HS4.out).mono ?_); rintro e w5 ⟨rfl, hb⟩; have HB5 := Aside0.mk (below_step HB4.out hb); clear hb HEP))
    go_ret
    exact ⟨rfl, HB5.out⟩
  rw [hep] at HEP
  obtain ⟨hl20, hl100⟩ := pairsOk_t hep
  rw [HLL.out] at hl20
  rw [HLN.out] at hl6
  rw [totB_totR] at htb
  clear hep
  have hfw : ∀ r ∈ l, FairW r := fun r hr => (reqW_fair (hrw r hr)).1
  have hnz : ∀ r ∈ l, nz r.1 = true ∧ nz r.2.1 = true ∧ ∀ v ∈ r.2.2, nz v = true := fun r hr => (reqW_fair (hrw r hr)).2
  have h55 : ∀ r ∈ l, r.2.2.length ≤ 5 := fun r hr => (reqW_t (hrw r hr)).2.1
  have htm : ∀ r ∈ l, r.1.length + totL r.2.2 ≤ 600 := fun r hr => Nat.le_trans (totR_mem hr) htb
  obtain ⟨t1, t2, t3, t4, t5⟩ := free_text hfw hnz h55 cs
  have HFR := Aside0.mk (fun (W : World) (hb : Below w.heap.size w W) => Freely_calls l N HLN.out (by omega) (fun r hr => (hfw r hr).1) h55 (fun r hr => by have := htm r hr; omega) AQ cq cs A n c W (HBT.out.at_ hb) (Kd.C_below HQQ.out hb))
  have HSM := Aside0.mk (fun (W : World) (hb : Below w.heap.size w W) => SMS_calls (outL (.gap :: pcsAll l) cs) (by rw [HLN.out] at t2; omega) t1 (toksAll l ++ [(1, [])]) t3 (by rw [HLN.out] at t4; omega) (fun l2 h2 => by rw [t5] at h2; injection h2 with h2; subst h2; exact sortOK_12 _ (by rw [List.length_map, HLN.out]; omega)) AL cl nl ls HLL.out (by omega) (fun p hp => ⟨by have := (hl100 p hp).1; omega, by have := (hl100 p hp).2; omega⟩) W (Kd.C_below HPP.out hb) (HTT.out.below hb))
  rw [t5, selR_set hfw] at HSM
  obtain ⟨tx, htx⟩ : ∃ tx, mk (outL (.gap :: pcsAll l) cs) = tx := ⟨_, rfl⟩
  rw [htx] at HFR HSM
  have HME := Aside0.mk (fun (r : Rq) (hr : r ∈ l) (AV : Option Addr) (cv nv : Nat) (hnv : r.2.2.length = nv) (W : World) (hb : Below w.heap.size w W) (hC : Kd.C Kd.string W AV nv (r.2.2.map mk)) => Meets_calls (mk r.1) (mk r.2.1) AV cv nv (r.2.2.map mk) (by rw [List.length_map, hnv]) (by have := h55 r hr; omega) (fun p hp => by
    obtain ⟨x, hx, rfl⟩ := List.mem_map.1 hp
    have h1 := totL_mem hx
    have h2 := htm r hr
    rw [mk_size]; omega) AL cl nl ls HLL.out (by omega) (fun v hv => by have := mget_size (M := 100) (fun p hp => hl100 p hp) _ v hv; omega) W hC (Kd.C_below HPP.out hb) (HTT.out.below hb) (by rw [vL_mk]; exact (hfw r hr).2))
  obtain ⟨mt, hmt⟩ : ∃ mt, mtR (labRev ls) = mt := ⟨_, rfl⟩
  have HMT : Aside0 (∀ r : Rq, meetsR (mk r.2.1).data.toList (vL (r.2.2.map mk)) (mget (labRev ls) (mk r.1).data.toList) = mt r) := ⟨fun r => by rw [vL_mk, ← hmt]; rfl⟩
  rw [hmt] at HSM
  obtain ⟨want, hwant⟩ : ∃ want, l.all mt = want := ⟨_, rfl⟩
  rw [hwant] at HSM
  have HWT := Aside0.mk hwant
  clear hls hN2 hnc hlz hnl2 hl6 htb hrw hl20 hl100 hfw hnz h55 htm t1 t2 t3 t4 t5 htx hmt hwant
  go_enter Tryz.func4, Tryz.ntmps4
  go_wp2_with (first | ((with_reducible refine (HF3.out _ HB0.out).mono ?_); rintro e w1 ⟨rfl, hb⟩; have HB1 := Aside0.mk (below_step HB0.out hb); clear hb HF3) | ((with_reducible refine (HF1.out _ HB1.out).mono ?_); rintro e w2 ⟨rfl, hb⟩; have HB2 := Aside0.mk (below_step HB1.out hb); clear hb HF1) | ((with_reducible refine (HWO.out _ HB2.out).mono ?_); rintro e w3 ⟨rfl, hb⟩; have HB3 := Aside0.mk (below_step HB2.out hb); have hbk_ := heap_alloc_new w3 (.cells #[.slice AL nl cl] 22); have HS4 := Aside0.mk ((blk_cell hbk_ 0).trans (show _ = some (Value.slice AL nl cl) from rfl)); have HB4 := Aside0.mk (below_alloc HB3.out (.cells #[.slice AL nl cl] 22)); clear hbk_; clear hb HWO) | ((with_reducible refine (HEP.out _ _ HB4.out HS4.out).mono ?_); rintro e w5 ⟨rfl, hb⟩; have HB5 := Aside0.mk (below_step HB4.out hb); clear hb HEP))
  go_loopg [7, 36] (N) (fun k v7 v36 w' => ∃ i : Nat, v36 = .int .i64 i ∧ v7 = .bool ((l.take i).all mt) ∧ Aside0 (k + i = N) ∧ Aside0 (Below w.heap.size w w'))
  case atStart => exact ⟨0, rfl, rfl, ⟨by omega⟩, HB5⟩
  case round =>
    obtain ⟨i, rfl, rfl, HI, HB⟩ := hrel
    by_cases hin : i < N
    · obtain ⟨r, hr⟩ : ∃ r, l[i]? = some r := ⟨_, List.getElem?_eq_getElem (by rw [HLN.out]; exact hin)⟩
      obtain ⟨aq, AV, cv, rfl, r0, r1, r2, hnc, hCV⟩ := kq_at2 (Kd.C_below HQQ.out HB.out) i hin r hr
      obtain ⟨nv, hnv⟩ : ∃ nv, r.2.2.length = nv := ⟨_, rfl⟩
      rw [hnv] at r2 hCV
      have hbk := heap_alloc_new wr (.cells #[.string (mk r.1), .string (mk r.2.1), .slice AV nv cv] 31)
      have HB2 := Aside0.mk (below_alloc HB.out (.cells #[.string (mk r.1), .string (mk r.2.1), .slice AV nv cv] 31))
      have hBA := below_alloc (Below.refl wr.heap.size wr) (.cells #[.string (mk r.1), .string (mk r.2.1), .slice AV nv cv] 31)
      have d0 := (blk_cell hbk 0).trans (show _ = some (Value.string (mk r.1)) from rfl)
      have d1 := (blk_cell hbk 1).trans (show _ = some (Value.string (mk r.2.1)) from rfl)
      have d2 := (blk_cell hbk 2).trans (show _ = some (Value.slice AV nv cv) from rfl)
      have HM := Aside0.mk (HME.out r (List.mem_of_getElem? hr) AV cv nv hnv _ HB2.out (Kd.C_below hCV hBA))
      rw [HMT.out r] at HM
      have hsn := all_take_succ (f := mt) hr
      obtain ⟨bq, hbq⟩ : ∃ bq, (l.take i).all mt = bq := ⟨_, rfl⟩
      rw [hbq] at hsn ⊢
      have HSN := Aside0.mk hsn
      obtain ⟨mr, hmr⟩ : ∃ mr, mt r = mr := ⟨_, rfl⟩
      rw [hmr] at HM HSN
      clear hr hbk hBA hCV hnc hnv hsn hbq hmr
      cases bq
      · go_wp2
        go_roundg (N - (i + 1))
        case measure => have := HI.out; omega
        case rel => exact ⟨i + 1, by go_num, congrArg Value.bool (by rw [HSN.out]; rfl), ⟨by omega⟩, HB2⟩
      · go_wp2_with (first | ((with_reducible refine (HM.out).mono ?_); rintro e w2 ⟨rfl, hb⟩; have HB3 := Aside0.mk (below_step HB2.out hb); clear hb HM))
        go_roundg (N - (i + 1))
        case measure => have := HI.out; omega
        case rel => exact ⟨i + 1, by go_num, congrArg Value.bool (by rw [HSN.out]; first | rfl | simp), ⟨by omega⟩, HB3⟩
    · have hie : i = N := by have := HI.out; omega
      have HX : Aside0 ((l.take i).all mt = want) := ⟨by rw [List.take_of_length_le (by rw [HLN.out, hie]; exact Nat.le_refl _)]; exact HWT.out⟩
      rw [HX.out]
      have HB6 := HB
      clear hie HB HX HWT
      cases want
      · go_wp2_with (first | ((with_reducible refine (HFR.out _ HB6.out).mono ?_); rintro e w7 ⟨rfl, hb⟩; have HB7 := Aside0.mk (below_step HB6.out hb); clear hb HFR) | ((with_reducible refine (HSM.out _ HB7.out).mono ?_); rintro e w8 ⟨rfl, hb⟩; have HB8 := Aside0.mk (below_step HB7.out hb); clear hb HSM) | ((with_reducible refine (HSE.out _ HB8.out).mono ?_); rintro e w9 ⟨rfl, hb⟩; have HB9 := Aside0.mk (below_step HB8.out hb); clear hb HSE))
        go_ret
        exact ⟨rfl, HB9.out⟩
      · go_wp2_with (first | ((with_reducible refine (HFR.out _ HB6.out).mono ?_); rintro e w7 ⟨rfl, hb⟩; have HB7 := Aside0.mk (below_step HB6.out hb); clear hb HFR) | ((with_reducible refine (HSM.out _ HB7.out).mono ?_); rintro e w8 ⟨rfl, hb⟩; have HB8 := Aside0.mk (below_step HB7.out hb); clear hb HSM) | ((with_reducible refine (HSE.out _ HB8.out).mono ?_); rintro e w9 ⟨rfl, hb⟩; have HB9 := Aside0.mk (below_step HB8.out hb); clear hb HSE))
        go_ret
        exact ⟨rfl, HB9.out⟩
end Go.Proofs.YteigfmchnblkgaaGreatDoor.Hand
