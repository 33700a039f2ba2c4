/- The law FnSelOpposite. -/
import Derived.Test.YteigfmchnblkgaaDoorLabRM
import Derived.Test.YteigfmchnblkgaaDoorLabWords
import Derived.Test.YteigfmchnblkgaaDoorLabFits
namespace Go.Proofs.YteigfmchnblkgaaDoor.Hand
open Go.RowKit Go.Maps Go.Proofs.YteigfmchnblkgaaDoorW.PrintWords Go.Proofs.YteigfmchnblkgaaDoorW.PrintLast Go.Proofs.YteigfmchnblkgaaDoorW.PrintMore Go.Proofs.YteigfmchnblkgaaDoor.Base
set_option linter.unusedVariables false
set_option linter.unusedSimpArgs false
set_option maxRecDepth 100000
/-- The operator that says the opposite. -/
def oppR (x : L) : L := if x = [61] ∨ x = [61, 61] then [33, 61] else if x = [33, 61] then [61] else if x = [105, 110] then [110, 111, 116, 105, 110] else if x = [110, 111, 116, 105, 110] then [105, 110] else if x = [101, 120, 105, 115, 116, 115] then [33] else [101, 120, 105, 115, 116, 115]
theorem opp_fair0 {key : L} {vs : List L} (h : fairR key [61] vs = true) : fairR key [33, 61] vs = true := by
  unfold fairR at *
  have e : opOk [61] vs = opOk [33, 61] vs := rfl
  rw [← e]; exact h
theorem opp_meets0 (vs : List L) (got : Option L) : meetsR [33, 61] vs got = !meetsR [61] vs got := by
  cases got <;> simp [meetsR]
theorem opp_fair1 {key : L} {vs : List L} (h : fairR key [61, 61] vs = true) : fairR key [33, 61] vs = true := by
  unfold fairR at *
  have e : opOk [61, 61] vs = opOk [33, 61] vs := rfl
  rw [← e]; exact h
theorem opp_meets1 (vs : List L) (got : Option L) : meetsR [33, 61] vs got = !meetsR [61, 61] vs got := by
  cases got <;> simp [meetsR]
theorem opp_fair2 {key : L} {vs : List L} (h : fairR key [33, 61] vs = true) : fairR key [61] vs = true := by
  unfold fairR at *
  have e : opOk [33, 61] vs = opOk [61] vs := rfl
  rw [← e]; exact h
theorem opp_meets2 (vs : List L) (got : Option L) : meetsR [61] vs got = !meetsR [33, 61] vs got := by
  cases got <;> simp [meetsR]
theorem opp_fair3 {key : L} {vs : List L} (h : fairR key [105, 110] vs = true) : fairR key [110, 111, 116, 105, 110] vs = true := by
  unfold fairR at *
  have e : opOk [105, 110] vs = opOk [110, 111, 116, 105, 110] vs := rfl
  rw [← e]; exact h
theorem opp_meets3 (vs : List L) (got : Option L) : meetsR [110, 111, 116, 105, 110] vs got = !meetsR [105, 110] vs got := by
  cases got <;> simp [meetsR]
theorem opp_fair4 {key : L} {vs : List L} (h : fairR key [110, 111, 116, 105, 110] vs = true) : fairR key [105, 110] vs = true := by
  unfold fairR at *
  have e : opOk [110, 111, 116, 105, 110] vs = opOk [105, 110] vs := rfl
  rw [← e]; exact h
theorem opp_meets4 (vs : List L) (got : Option L) : meetsR [105, 110] vs got = !meetsR [110, 111, 116, 105, 110] vs got := by
  cases got <;> simp [meetsR]
theorem opp_fair5 {key : L} {vs : List L} (h : fairR key [101, 120, 105, 115, 116, 115] vs = true) : fairR key [33] vs = true := by
  unfold fairR at *
  have e : opOk [101, 120, 105, 115, 116, 115] vs = opOk [33] vs := rfl
  rw [← e]; exact h
theorem opp_meets5 (vs : List L) (got : Option L) : meetsR [33] vs got = !meetsR [101, 120, 105, 115, 116, 115] vs got := by
  cases got <;> simp [meetsR]
theorem opp_fair6 {key : L} {vs : List L} (h : fairR key [33] vs = true) : fairR key [101, 120, 105, 115, 116, 115] vs = true := by
  unfold fairR at *
  have e : opOk [33] vs = opOk [101, 120, 105, 115, 116, 115] vs := rfl
  rw [← e]; exact h
theorem opp_meets6 (vs : List L) (got : Option L) : meetsR [101, 120, 105, 115, 116, 115] vs got = !meetsR [33] vs got := by
  cases got <;> simp [meetsR]
set_option maxHeartbeats 16000000 in
theorem Opp_calls (key op : ByteArray) (A : Option Addr) (c n : Nat) (vs : List ByteArray) (hn : vs.length = n) (hnc : n ≤ c) (AL : Option Addr) (cl nl : Nat) (ls : List (ByteArray × ByteArray)) (hnl : ls.length = nl) (w : World) (hC : Kd.C Kd.string w A n vs) (hP : PK.C w AL nl ls) (hT : TV w) :
    Calls Tryd.prog 3 #[.agg #[.string key, .string op, .slice A n c], .slice AL nl cl] w fun e w' => e = .returned (.bool true) ∧ Below w.heap.size w w' := by
  have hbk := heap_alloc_new w (.cells #[.string key, .string op, .slice A n c] 24)
  have HBA := Aside0.mk (below_alloc (Below.refl w.heap.size w) (.cells #[.string key, .string op, .slice A n c] 24))
  obtain ⟨W1, hW1⟩ : ∃ W1, w.alloc (.cells #[.string key, .string op, .slice A n c] 24) = W1 := ⟨_, rfl⟩
  rw [hW1] at hbk HBA
  have a0 : W1.cell? ⟨w.heap.size, 0, none⟩ = some (.string key) := (blk_cell hbk 0).trans rfl
  have a1 : W1.cell? ⟨w.heap.size, 1, none⟩ = some (.string op) := (blk_cell hbk 1).trans rfl
  have a2 : W1.cell? ⟨w.heap.size, 2, none⟩ = some (.slice A n c) := (blk_cell hbk 2).trans rfl
  have HBK := Aside0.mk hbk
  have HLA := Aside0.mk (blk_lt hbk)
  have HCC := Aside0.mk hC
  have HTT := Aside0.mk hT
  have HPP := Aside0.mk hP
  have HLN := Aside0.mk hn
  have HLL := Aside0.mk hnl
  have HNC := Aside0.mk hnc
  have HF4 := Aside0.mk (Fits4_calls key op A c n vs hn W1 (Kd.C_below hC HBA.out))
  have HF1 := Aside0.mk (fun (W : World) (hb : Below w.heap.size w W) => Fits1_calls AL cl nl ls hnl W (Kd.C_below hP hb))
  clear hbk hC hT hP hn hnl hnc
  cases hf4 : fits4 key op vs
  · rw [hf4] at HF4
    clear hf4
    go_enter Tryd.func3, Tryd.ntmps3
    go_wp2_with (first | ((with_reducible refine (HF4.out).mono ?_); rintro e w2 ⟨rfl, hb⟩; have HB2 := Aside0.mk (below_step HBA.out hb); have HK2 := Aside0.mk ((hb.block _ HLA.out).trans HBK.out); clear hb HF4))
    go_ret
    exact ⟨rfl, HB2.out⟩
  rw [hf4] at HF4
  obtain ⟨hk, ho, hnv, hz⟩ := fits4_t hf4
  rw [HLN.out] at hnv
  clear hf4
  cases hf1 : fits1 ls
  · rw [hf1] at HF1
    clear hf1 hz hk ho hnv
    go_enter Tryd.func3, Tryd.ntmps3
    go_wp2_with (first | ((with_reducible refine (HF4.out).mono ?_); rintro e w2 ⟨rfl, hb⟩; have HB2 := Aside0.mk (below_step HBA.out hb); have HK2 := Aside0.mk ((hb.block _ HLA.out).trans HBK.out); clear hb HF4) | ((with_reducible refine (HF1.out _ HB2.out).mono ?_); rintro e w3 ⟨rfl, hb⟩; have HB3 := Aside0.mk (below_step HB2.out hb); have HK3 := Aside0.mk ((hb.block _ (blk_lt HK2.out)).trans HK2.out); have b0 : w3.cell? ⟨w.heap.size, 0, none⟩ = some (.string key) := (blk_cell HK3.out 0).trans rfl; have b1 : w3.cell? ⟨w.heap.size, 1, none⟩ = some (.string op) := (blk_cell HK3.out 1).trans rfl; have b2 : w3.cell? ⟨w.heap.size, 2, none⟩ = some (.slice A n c) := (blk_cell HK3.out 2).trans rfl; have hbk4 := heap_alloc_new w3 (.cells #[.string key, .string op, .slice A n c] 24); have HB4 := Aside0.mk (below_alloc HB3.out (.cells #[.string key, .string op, .slice A n c] 24)); have HK4 := Aside0.mk (blk_alloc HK3.out (.cells #[.string key, .string op, .slice A n c] 24)); have HL4 := Aside0.mk (blk_lt HK4.out); have HS4 := Aside0.mk hbk4; clear hb HF1 hbk4))
    go_ret
    exact ⟨rfl, HB3.out⟩
  rw [hf1] at HF1
  obtain ⟨hnl, hlz⟩ := fits1_t hf1
  rw [HLL.out] at hnl
  clear hf1
  have HWO := Aside0.mk (fun (b : Nat) (W : World) (hb : Below w.heap.size w W) hbk => Words_calls key op hk A c n b 1 vs HLN.out hnv HNC.out hz W hbk (Kd.C_below HCC.out hb) (HTT.out.below hb))
  have HEP := Aside0.mk (fun (b : Nat) (W : World) (hb : Below w.heap.size w W) (hk : W.cell? ⟨b, 0, none⟩ = some (.slice AL nl cl)) => epPairs_calls b 1 1 (fun _ => AL) (fun _ => nl) (fun _ => cl) (fun _ => ls) W (by omega) (fun _ _ => HLL.out) (fun _ _ => hnl) (fun i hi => by have h0 : i = 0 := (by omega); subst h0; exact hk) (fun _ _ => Kd.C_below HPP.out hb))
  rw [show ((List.range 1).all fun _ => pairsOk ls) = pairsOk ls from by simp [List.range_succ]] at HEP
  cases hwo : wordsR key op vs
  · rw [hwo] at HWO
    clear hwo hz hk ho hlz
    go_enter Tryd.func3, Tryd.ntmps3
    go_wp2_with (first | ((with_reducible refine (HF4.out).mono ?_); rintro e w2 ⟨rfl, hb⟩; have HB2 := Aside0.mk (below_step HBA.out hb); have HK2 := Aside0.mk ((hb.block _ HLA.out).trans HBK.out); clear hb HF4) | ((with_reducible refine (HF1.out _ HB2.out).mono ?_); rintro e w3 ⟨rfl, hb⟩; have HB3 := Aside0.mk (below_step HB2.out hb); have HK3 := Aside0.mk ((hb.block _ (blk_lt HK2.out)).trans HK2.out); have b0 : w3.cell? ⟨w.heap.size, 0, none⟩ = some (.string key) := (blk_cell HK3.out 0).trans rfl; have b1 : w3.cell? ⟨w.heap.size, 1, none⟩ = some (.string op) := (blk_cell HK3.out 1).trans rfl; have b2 : w3.cell? ⟨w.heap.size, 2, none⟩ = some (.slice A n c) := (blk_cell HK3.out 2).trans rfl; have hbk4 := heap_alloc_new w3 (.cells #[.string key, .string op, .slice A n c] 24); have HB4 := Aside0.mk (below_alloc HB3.out (.cells #[.string key, .string op, .slice A n c] 24)); have HK4 := Aside0.mk (blk_alloc HK3.out (.cells #[.string key, .string op, .slice A n c] 24)); have HL4 := Aside0.mk (blk_lt HK4.out); have HS4 := Aside0.mk hbk4; clear hb HF1 hbk4) | ((with_reducible refine (HWO.out _ _ HB4.out HS4.out).mono ?_); rintro e w5 ⟨rfl, hb⟩; have HB5 := Aside0.mk (below_step HB4.out hb); have HK5 := Aside0.mk ((hb.block _ HL4.out).trans HK4.out); have hbk6 := heap_alloc_new w5 (.cells #[.slice AL nl cl] 25); have HS6 := Aside0.mk ((blk_cell hbk6 0).trans (show _ = some (Value.slice AL nl cl) from rfl)); have HB6 := Aside0.mk (below_alloc HB5.out (.cells #[.slice AL nl cl] 25)); have HK6 := Aside0.mk (blk_alloc HK5.out (.cells #[.slice AL nl cl] 25)); clear hb HWO hbk6))
    go_ret
    exact ⟨rfl, HB5.out⟩
  rw [hwo] at HWO
  obtain ⟨hfr, hn5, hto⟩ := wordsR_t hwo
  rw [HLN.out] at hn5
  clear hwo
  cases hep : pairsOk ls
  · rw [hep] at HEP
    clear hep hz hk ho hlz hfr hn5 hto
    go_enter Tryd.func3, Tryd.ntmps3
    go_wp2_with (first | ((with_reducible refine (HF4.out).mono ?_); rintro e w2 ⟨rfl, hb⟩; have HB2 := Aside0.mk (below_step HBA.out hb); have HK2 := Aside0.mk ((hb.block _ HLA.out).trans HBK.out); clear hb HF4) | ((with_reducible refine (HF1.out _ HB2.out).mono ?_); rintro e w3 ⟨rfl, hb⟩; have HB3 := Aside0.mk (below_step HB2.out hb); have HK3 := Aside0.mk ((hb.block _ (blk_lt HK2.out)).trans HK2.out); have b0 : w3.cell? ⟨w.heap.size, 0, none⟩ = some (.string key) := (blk_cell HK3.out 0).trans rfl; have b1 : w3.cell? ⟨w.heap.size, 1, none⟩ = some (.string op) := (blk_cell HK3.out 1).trans rfl; have b2 : w3.cell? ⟨w.heap.size, 2, none⟩ = some (.slice A n c) := (blk_cell HK3.out 2).trans rfl; have hbk4 := heap_alloc_new w3 (.cells #[.string key, .string op, .slice A n c] 24); have HB4 := Aside0.mk (below_alloc HB3.out (.cells #[.string key, .string op, .slice A n c] 24)); have HK4 := Aside0.mk (blk_alloc HK3.out (.cells #[.string key, .string op, .slice A n c] 24)); have HL4 := Aside0.mk (blk_lt HK4.out); have HS4 := Aside0.mk hbk4; clear hb HF1 hbk4) | ((with_reducible refine (HWO.out _ _ HB4.out HS4.out).mono ?_); rintro e w5 ⟨rfl, hb⟩; have HB5 := Aside0.mk (below_step HB4.out hb); have HK5 := Aside0.mk ((hb.block _ HL4.out).trans HK4.out); have hbk6 := heap_alloc_new w5 (.cells #[.slice AL nl cl] 25); have HS6 := Aside0.mk ((blk_cell hbk6 0).trans (show _ = some (Value.slice AL nl cl) from rfl)); have HB6 := Aside0.mk (below_alloc HB5.out (.cells #[.slice AL nl cl] 25)); have HK6 := Aside0.mk (blk_alloc HK5.out (.cells #[.slice AL nl cl] 25)); clear hb HWO hbk6) | ((with_reducible refine (HEP.out _ _ HB6.out HS6.out).mono ?_); rintro e w7 ⟨rfl, hb⟩; have HB7 := Aside0.mk (below_step HB6.out hb); have HK7 := Aside0.mk ((hb.block _ (blk_lt HK6.out)).trans HK6.out); clear hb HEP))
    go_ret
    exact ⟨rfl, HB7.out⟩
  rw [hep] at HEP
  obtain ⟨hl20, hl100⟩ := pairsOk_t hep
  rw [HLL.out] at hl20
  clear hep
  have HRM := Aside0.mk (fun (op2 : ByteArray) (W : World) (hb : Below w.heap.size w W) => RM_calls key op2 (by omega) A c n vs HLN.out (by omega) (fun p hp => by have := tot_mem hp; omega) AL cl nl ls HLL.out (by omega) (fun p hp => ⟨by have := (hl100 p hp).1; omega, by have := (hl100 p hp).2; omega⟩) W (Kd.C_below HCC.out hb) (Kd.C_below HPP.out hb) (HTT.out.below hb))
  have HFR := Aside0.mk hfr
  clear hz hk ho hlz hfr hn5 hto hnv hnl hl20 hl100
  obtain ⟨x, hx⟩ : ∃ x, op.toList = x := ⟨_, rfl⟩
  have hx2 : op.data.toList = x := by rw [← hx, toList_eq]
  have HRA := Aside0.mk (HRM.out op)
  rw [hx2] at HRA HFR
  clear hx2
  obtain ⟨got, hgot⟩ : ∃ got, mget (labRev ls) key.data.toList = got := ⟨_, rfl⟩
  rw [hgot] at HRM HRA
  clear hgot
  by_cases h0 : x = [61]
  · have e0_ : (op.toList == ([61] : List UInt8)) = true := by rw [hx, h0]; rfl
    rw [h0] at HRA HFR
    have HRB := Aside0.mk (HRM.out ⟨#[33, 61]⟩)
    rw [show (⟨#[33, 61]⟩ : ByteArray).data.toList = [33, 61] from rfl, opp_meets0, opp_fair0 HFR.out] at HRB
    rw [HFR.out] at HRA
    obtain ⟨q, hq⟩ : ∃ q, meetsR [61] (vL vs) got = q := ⟨_, rfl⟩
    rw [hq] at HRA HRB
    clear hx h0 hq HRM HFR
    go_enter Tryd.func3, Tryd.ntmps3
    go_upto_region 5 with (first | ((with_reducible refine (HF4.out).mono ?_); rintro e w2 ⟨rfl, hb⟩; have HB2 := Aside0.mk (below_step HBA.out hb); have HK2 := Aside0.mk ((hb.block _ HLA.out).trans HBK.out); clear hb HF4) | ((with_reducible refine (HF1.out _ HB2.out).mono ?_); rintro e w3 ⟨rfl, hb⟩; have HB3 := Aside0.mk (below_step HB2.out hb); have HK3 := Aside0.mk ((hb.block _ (blk_lt HK2.out)).trans HK2.out); have b0 : w3.cell? ⟨w.heap.size, 0, none⟩ = some (.string key) := (blk_cell HK3.out 0).trans rfl; have b1 : w3.cell? ⟨w.heap.size, 1, none⟩ = some (.string op) := (blk_cell HK3.out 1).trans rfl; have b2 : w3.cell? ⟨w.heap.size, 2, none⟩ = some (.slice A n c) := (blk_cell HK3.out 2).trans rfl; have hbk4 := heap_alloc_new w3 (.cells #[.string key, .string op, .slice A n c] 24); have HB4 := Aside0.mk (below_alloc HB3.out (.cells #[.string key, .string op, .slice A n c] 24)); have HK4 := Aside0.mk (blk_alloc HK3.out (.cells #[.string key, .string op, .slice A n c] 24)); have HL4 := Aside0.mk (blk_lt HK4.out); have HS4 := Aside0.mk hbk4; clear hb HF1 hbk4) | ((with_reducible refine (HWO.out _ _ HB4.out HS4.out).mono ?_); rintro e w5 ⟨rfl, hb⟩; have HB5 := Aside0.mk (below_step HB4.out hb); have HK5 := Aside0.mk ((hb.block _ HL4.out).trans HK4.out); have hbk6 := heap_alloc_new w5 (.cells #[.slice AL nl cl] 25); have HS6 := Aside0.mk ((blk_cell hbk6 0).trans (show _ = some (Value.slice AL nl cl) from rfl)); have HB6 := Aside0.mk (below_alloc HB5.out (.cells #[.slice AL nl cl] 25)); have HK6 := Aside0.mk (blk_alloc HK5.out (.cells #[.slice AL nl cl] 25)); clear hb HWO hbk6) | ((with_reducible refine (HEP.out _ _ HB6.out HS6.out).mono ?_); rintro e w7 ⟨rfl, hb⟩; have HB7 := Aside0.mk (below_step HB6.out hb); have HK7 := Aside0.mk ((hb.block _ (blk_lt HK6.out)).trans HK6.out); clear hb HEP))
    have d0 : w7.cell? ⟨w.heap.size, 0, none⟩ = some (.string key) := (blk_cell HK7.out 0).trans rfl
    have d1 : w7.cell? ⟨w.heap.size, 1, none⟩ = some (.string op) := (blk_cell HK7.out 1).trans rfl
    have d2 : w7.cell? ⟨w.heap.size, 2, none⟩ = some (.slice A n c) := (blk_cell HK7.out 2).trans rfl
    have HK8 := Aside0.mk (blk_alloc HK7.out (.cells #[.string key, .string op, .slice A n c] 24))
    have HB8 := Aside0.mk (below_alloc HB7.out (.cells #[.string key, .string op, .slice A n c] 24))
    have hbk8 := heap_alloc_new w7 (.cells #[.string key, .string op, .slice A n c] 24)
    have hlt8 := blk_lt HK7.out
    have hle8 := HB7.out.size
    obtain ⟨bo, hbo⟩ : ∃ bo, w7.heap.size = bo := ⟨_, rfl⟩
    obtain ⟨W8, hW8⟩ : ∃ W8, w7.alloc (.cells #[.string key, .string op, .slice A n c] 24) = W8 := ⟨_, rfl⟩
    rw [hW8] at HK8 HB8 hbk8
    rw [hbo] at hbk8 hlt8 hle8
    have e1 : W8.cell? ⟨w.heap.size, 1, none⟩ = some (.string op) := (blk_cell HK8.out 1).trans rfl
    have g1 : W8.cell? ⟨bo, 1, none⟩ = some (.string op) := (blk_cell hbk8 1).trans rfl
    have g2 : W8.frozen? ⟨bo, 1, none⟩ = false := blk_frozen hbk8 1
    have HS8 := Aside0.mk hbk8
    clear hbk8 b0 b1 b2 a0 a1 a2
    go_upto_region 21 with (fail)
    have HK9 := Aside0.mk (blk_far HK8.out (p := ⟨bo, 1, none⟩) (show w.heap.size ≠ bo by omega) (.string ⟨#[33, 61]⟩))
    have HS9 := Aside0.mk (blk_put HS8.out 1 (.string ⟨#[33, 61]⟩) (cs' := #[.string key, .string ⟨#[33, 61]⟩, .slice A n c]) rfl)
    have HB9 := Aside0.mk (below_set HB8.out (show w.heap.size ≤ bo by omega) (j := 1) (v := .string ⟨#[33, 61]⟩))
    obtain ⟨W9, hW9⟩ : ∃ W9, W8.setCell ⟨bo, 1, none⟩ (.string ⟨#[33, 61]⟩) = W9 := ⟨_, rfl⟩
    rw [hW9] at HK9 HS9 HB9
    have k0 : W9.cell? ⟨w.heap.size, 0, none⟩ = some (.string key) := (blk_cell HK9.out 0).trans rfl
    have k1 : W9.cell? ⟨w.heap.size, 1, none⟩ = some (.string op) := (blk_cell HK9.out 1).trans rfl
    have k2 : W9.cell? ⟨w.heap.size, 2, none⟩ = some (.slice A n c) := (blk_cell HK9.out 2).trans rfl
    have HL9 := Aside0.mk (blk_lt HS9.out)
    clear d0 d1 d2 e1 g1 g2
    cases q
    · go_wp2_with (first | ((with_reducible refine (HRA.out _ HB9.out).mono ?_); rintro e w10 ⟨rfl, hb⟩; have HBX := Aside0.mk (below_step HB9.out hb); have hsx := (hb.block _ HL9.out).trans HS9.out; have p0 : w10.cell? ⟨bo, 0, none⟩ = some (.string key) := (blk_cell hsx 0).trans rfl; have p1 : w10.cell? ⟨bo, 1, none⟩ = some (.string ⟨#[33, 61]⟩) := (blk_cell hsx 1).trans rfl; have p2 : w10.cell? ⟨bo, 2, none⟩ = some (.slice A n c) := (blk_cell hsx 2).trans rfl; clear hb hsx HRA) | ((with_reducible refine (HRB.out _ HBX.out).mono ?_); rintro e w11 ⟨rfl, hb⟩; have HBY := Aside0.mk (below_step HBX.out hb); clear hb HRB))
      go_ret
      exact ⟨rfl, HBY.out⟩
    · go_wp2_with (first | ((with_reducible refine (HRA.out _ HB9.out).mono ?_); rintro e w10 ⟨rfl, hb⟩; have HBX := Aside0.mk (below_step HB9.out hb); have hsx := (hb.block _ HL9.out).trans HS9.out; have p0 : w10.cell? ⟨bo, 0, none⟩ = some (.string key) := (blk_cell hsx 0).trans rfl; have p1 : w10.cell? ⟨bo, 1, none⟩ = some (.string ⟨#[33, 61]⟩) := (blk_cell hsx 1).trans rfl; have p2 : w10.cell? ⟨bo, 2, none⟩ = some (.slice A n c) := (blk_cell hsx 2).trans rfl; clear hb hsx HRA) | ((with_reducible refine (HRB.out _ HBX.out).mono ?_); rintro e w11 ⟨rfl, hb⟩; have HBY := Aside0.mk (below_step HBX.out hb); clear hb HRB))
      go_ret
      exact ⟨rfl, HBY.out⟩
  have e0_ : (op.toList == ([61] : List UInt8)) = false := by rw [hx]; simpa using h0
  by_cases h1 : x = [61, 61]
  · have e1_ : (op.toList == ([61, 61] : List UInt8)) = true := by rw [hx, h1]; rfl
    rw [h1] at HRA HFR
    have HRB := Aside0.mk (HRM.out ⟨#[33, 61]⟩)
    rw [show (⟨#[33, 61]⟩ : ByteArray).data.toList = [33, 61] from rfl, opp_meets1, opp_fair1 HFR.out] at HRB
    rw [HFR.out] at HRA
    obtain ⟨q, hq⟩ : ∃ q, meetsR [61, 61] (vL vs) got = q := ⟨_, rfl⟩
    rw [hq] at HRA HRB
    clear hx h1 hq HRM HFR
    go_enter Tryd.func3, Tryd.ntmps3
    go_upto_region 5 with (first | ((with_reducible refine (HF4.out).mono ?_); rintro e w2 ⟨rfl, hb⟩; have HB2 := Aside0.mk (below_step HBA.out hb); have HK2 := Aside0.mk ((hb.block _ HLA.out).trans HBK.out); clear hb HF4) | ((with_reducible refine (HF1.out _ HB2.out).mono ?_); rintro e w3 ⟨rfl, hb⟩; have HB3 := Aside0.mk (below_step HB2.out hb); have HK3 := Aside0.mk ((hb.block _ (blk_lt HK2.out)).trans HK2.out); have b0 : w3.cell? ⟨w.heap.size, 0, none⟩ = some (.string key) := (blk_cell HK3.out 0).trans rfl; have b1 : w3.cell? ⟨w.heap.size, 1, none⟩ = some (.string op) := (blk_cell HK3.out 1).trans rfl; have b2 : w3.cell? ⟨w.heap.size, 2, none⟩ = some (.slice A n c) := (blk_cell HK3.out 2).trans rfl; have hbk4 := heap_alloc_new w3 (.cells #[.string key, .string op, .slice A n c] 24); have HB4 := Aside0.mk (below_alloc HB3.out (.cells #[.string key, .string op, .slice A n c] 24)); have HK4 := Aside0.mk (blk_alloc HK3.out (.cells #[.string key, .string op, .slice A n c] 24)); have HL4 := Aside0.mk (blk_lt HK4.out); have HS4 := Aside0.mk hbk4; clear hb HF1 hbk4) | ((with_reducible refine (HWO.out _ _ HB4.out HS4.out).mono ?_); rintro e w5 ⟨rfl, hb⟩; have HB5 := Aside0.mk (below_step HB4.out hb); have HK5 := Aside0.mk ((hb.block _ HL4.out).trans HK4.out); have hbk6 := heap_alloc_new w5 (.cells #[.slice AL nl cl] 25); have HS6 := Aside0.mk ((blk_cell hbk6 0).trans (show _ = some (Value.slice AL nl cl) from rfl)); have HB6 := Aside0.mk (below_alloc HB5.out (.cells #[.slice AL nl cl] 25)); have HK6 := Aside0.mk (blk_alloc HK5.out (.cells #[.slice AL nl cl] 25)); clear hb HWO hbk6) | ((with_reducible refine (HEP.out _ _ HB6.out HS6.out).mono ?_); rintro e w7 ⟨rfl, hb⟩; have HB7 := Aside0.mk (below_step HB6.out hb); have HK7 := Aside0.mk ((hb.block _ (blk_lt HK6.out)).trans HK6.out); clear hb HEP))
    have d0 : w7.cell? ⟨w.heap.size, 0, none⟩ = some (.string key) := (blk_cell HK7.out 0).trans rfl
    have d1 : w7.cell? ⟨w.heap.size, 1, none⟩ = some (.string op) := (blk_cell HK7.out 1).trans rfl
    have d2 : w7.cell? ⟨w.heap.size, 2, none⟩ = some (.slice A n c) := (blk_cell HK7.out 2).trans rfl
    have HK8 := Aside0.mk (blk_alloc HK7.out (.cells #[.string key, .string op, .slice A n c] 24))
    have HB8 := Aside0.mk (below_alloc HB7.out (.cells #[.string key, .string op, .slice A n c] 24))
    have hbk8 := heap_alloc_new w7 (.cells #[.string key, .string op, .slice A n c] 24)
    have hlt8 := blk_lt HK7.out
    have hle8 := HB7.out.size
    obtain ⟨bo, hbo⟩ : ∃ bo, w7.heap.size = bo := ⟨_, rfl⟩
    obtain ⟨W8, hW8⟩ : ∃ W8, w7.alloc (.cells #[.string key, .string op, .slice A n c] 24) = W8 := ⟨_, rfl⟩
    rw [hW8] at HK8 HB8 hbk8
    rw [hbo] at hbk8 hlt8 hle8
    have e1 : W8.cell? ⟨w.heap.size, 1, none⟩ = some (.string op) := (blk_cell HK8.out 1).trans rfl
    have g1 : W8.cell? ⟨bo, 1, none⟩ = some (.string op) := (blk_cell hbk8 1).trans rfl
    have g2 : W8.frozen? ⟨bo, 1, none⟩ = false := blk_frozen hbk8 1
    have HS8 := Aside0.mk hbk8
    clear hbk8 b0 b1 b2 a0 a1 a2
    go_upto_region 21 with (fail)
    have HK9 := Aside0.mk (blk_far HK8.out (p := ⟨bo, 1, none⟩) (show w.heap.size ≠ bo by omega) (.string ⟨#[33, 61]⟩))
    have HS9 := Aside0.mk (blk_put HS8.out 1 (.string ⟨#[33, 61]⟩) (cs' := #[.string key, .string ⟨#[33, 61]⟩, .slice A n c]) rfl)
    have HB9 := Aside0.mk (below_set HB8.out (show w.heap.size ≤ bo by omega) (j := 1) (v := .string ⟨#[33, 61]⟩))
    obtain ⟨W9, hW9⟩ : ∃ W9, W8.setCell ⟨bo, 1, none⟩ (.string ⟨#[33, 61]⟩) = W9 := ⟨_, rfl⟩
    rw [hW9] at HK9 HS9 HB9
    have k0 : W9.cell? ⟨w.heap.size, 0, none⟩ = some (.string key) := (blk_cell HK9.out 0).trans rfl
    have k1 : W9.cell? ⟨w.heap.size, 1, none⟩ = some (.string op) := (blk_cell HK9.out 1).trans rfl
    have k2 : W9.cell? ⟨w.heap.size, 2, none⟩ = some (.slice A n c) := (blk_cell HK9.out 2).trans rfl
    have HL9 := Aside0.mk (blk_lt HS9.out)
    clear d0 d1 d2 e1 g1 g2
    cases q
    · go_wp2_with (first | ((with_reducible refine (HRA.out _ HB9.out).mono ?_); rintro e w10 ⟨rfl, hb⟩; have HBX := Aside0.mk (below_step HB9.out hb); have hsx := (hb.block _ HL9.out).trans HS9.out; have p0 : w10.cell? ⟨bo, 0, none⟩ = some (.string key) := (blk_cell hsx 0).trans rfl; have p1 : w10.cell? ⟨bo, 1, none⟩ = some (.string ⟨#[33, 61]⟩) := (blk_cell hsx 1).trans rfl; have p2 : w10.cell? ⟨bo, 2, none⟩ = some (.slice A n c) := (blk_cell hsx 2).trans rfl; clear hb hsx HRA) | ((with_reducible refine (HRB.out _ HBX.out).mono ?_); rintro e w11 ⟨rfl, hb⟩; have HBY := Aside0.mk (below_step HBX.out hb); clear hb HRB))
      go_ret
      exact ⟨rfl, HBY.out⟩
    · go_wp2_with (first | ((with_reducible refine (HRA.out _ HB9.out).mono ?_); rintro e w10 ⟨rfl, hb⟩; have HBX := Aside0.mk (below_step HB9.out hb); have hsx := (hb.block _ HL9.out).trans HS9.out; have p0 : w10.cell? ⟨bo, 0, none⟩ = some (.string key) := (blk_cell hsx 0).trans rfl; have p1 : w10.cell? ⟨bo, 1, none⟩ = some (.string ⟨#[33, 61]⟩) := (blk_cell hsx 1).trans rfl; have p2 : w10.cell? ⟨bo, 2, none⟩ = some (.slice A n c) := (blk_cell hsx 2).trans rfl; clear hb hsx HRA) | ((with_reducible refine (HRB.out _ HBX.out).mono ?_); rintro e w11 ⟨rfl, hb⟩; have HBY := Aside0.mk (below_step HBX.out hb); clear hb HRB))
      go_ret
      exact ⟨rfl, HBY.out⟩
  have e1_ : (op.toList == ([61, 61] : List UInt8)) = false := by rw [hx]; simpa using h1
  by_cases h2 : x = [33, 61]
  · have e2_ : (op.toList == ([33, 61] : List UInt8)) = true := by rw [hx, h2]; rfl
    rw [h2] at HRA HFR
    have HRB := Aside0.mk (HRM.out ⟨#[61]⟩)
    rw [show (⟨#[61]⟩ : ByteArray).data.toList = [61] from rfl, opp_meets2, opp_fair2 HFR.out] at HRB
    rw [HFR.out] at HRA
    obtain ⟨q, hq⟩ : ∃ q, meetsR [33, 61] (vL vs) got = q := ⟨_, rfl⟩
    rw [hq] at HRA HRB
    clear hx h2 hq HRM HFR
    go_enter Tryd.func3, Tryd.ntmps3
    go_upto_region 5 with (first | ((with_reducible refine (HF4.out).mono ?_); rintro e w2 ⟨rfl, hb⟩; have HB2 := Aside0.mk (below_step HBA.out hb); have HK2 := Aside0.mk ((hb.block _ HLA.out).trans HBK.out); clear hb HF4) | ((with_reducible refine (HF1.out _ HB2.out).mono ?_); rintro e w3 ⟨rfl, hb⟩; have HB3 := Aside0.mk (below_step HB2.out hb); have HK3 := Aside0.mk ((hb.block _ (blk_lt HK2.out)).trans HK2.out); have b0 : w3.cell? ⟨w.heap.size, 0, none⟩ = some (.string key) := (blk_cell HK3.out 0).trans rfl; have b1 : w3.cell? ⟨w.heap.size, 1, none⟩ = some (.string op) := (blk_cell HK3.out 1).trans rfl; have b2 : w3.cell? ⟨w.heap.size, 2, none⟩ = some (.slice A n c) := (blk_cell HK3.out 2).trans rfl; have hbk4 := heap_alloc_new w3 (.cells #[.string key, .string op, .slice A n c] 24); have HB4 := Aside0.mk (below_alloc HB3.out (.cells #[.string key, .string op, .slice A n c] 24)); have HK4 := Aside0.mk (blk_alloc HK3.out (.cells #[.string key, .string op, .slice A n c] 24)); have HL4 := Aside0.mk (blk_lt HK4.out); have HS4 := Aside0.mk hbk4; clear hb HF1 hbk4) | ((with_reducible refine (HWO.out _ _ HB4.out HS4.out).mono ?_); rintro e w5 ⟨rfl, hb⟩; have HB5 := Aside0.mk (below_step HB4.out hb); have HK5 := Aside0.mk ((hb.block _ HL4.out).trans HK4.out); have hbk6 := heap_alloc_new w5 (.cells #[.slice AL nl cl] 25); have HS6 := Aside0.mk ((blk_cell hbk6 0).trans (show _ = some (Value.slice AL nl cl) from rfl)); have HB6 := Aside0.mk (below_alloc HB5.out (.cells #[.slice AL nl cl] 25)); have HK6 := Aside0.mk (blk_alloc HK5.out (.cells #[.slice AL nl cl] 25)); clear hb HWO hbk6) | ((with_reducible refine (HEP.out _ _ HB6.out HS6.out).mono ?_); rintro e w7 ⟨rfl, hb⟩; have HB7 := Aside0.mk (below_step HB6.out hb); have HK7 := Aside0.mk ((hb.block _ (blk_lt HK6.out)).trans HK6.out); clear hb HEP))
    have d0 : w7.cell? ⟨w.heap.size, 0, none⟩ = some (.string key) := (blk_cell HK7.out 0).trans rfl
    have d1 : w7.cell? ⟨w.heap.size, 1, none⟩ = some (.string op) := (blk_cell HK7.out 1).trans rfl
    have d2 : w7.cell? ⟨w.heap.size, 2, none⟩ = some (.slice A n c) := (blk_cell HK7.out 2).trans rfl
    have HK8 := Aside0.mk (blk_alloc HK7.out (.cells #[.string key, .string op, .slice A n c] 24))
    have HB8 := Aside0.mk (below_alloc HB7.out (.cells #[.string key, .string op, .slice A n c] 24))
    have hbk8 := heap_alloc_new w7 (.cells #[.string key, .string op, .slice A n c] 24)
    have hlt8 := blk_lt HK7.out
    have hle8 := HB7.out.size
    obtain ⟨bo, hbo⟩ : ∃ bo, w7.heap.size = bo := ⟨_, rfl⟩
    obtain ⟨W8, hW8⟩ : ∃ W8, w7.alloc (.cells #[.string key, .string op, .slice A n c] 24) = W8 := ⟨_, rfl⟩
    rw [hW8] at HK8 HB8 hbk8
    rw [hbo] at hbk8 hlt8 hle8
    have e1 : W8.cell? ⟨w.heap.size, 1, none⟩ = some (.string op) := (blk_cell HK8.out 1).trans rfl
    have g1 : W8.cell? ⟨bo, 1, none⟩ = some (.string op) := (blk_cell hbk8 1).trans rfl
    have g2 : W8.frozen? ⟨bo, 1, none⟩ = false := blk_frozen hbk8 1
    have HS8 := Aside0.mk hbk8
    clear hbk8 b0 b1 b2 a0 a1 a2
    go_upto_region 21 with (fail)
    have HK9 := Aside0.mk (blk_far HK8.out (p := ⟨bo, 1, none⟩) (show w.heap.size ≠ bo by omega) (.string ⟨#[61]⟩))
    have HS9 := Aside0.mk (blk_put HS8.out 1 (.string ⟨#[61]⟩) (cs' := #[.string key, .string ⟨#[61]⟩, .slice A n c]) rfl)
    have HB9 := Aside0.mk (below_set HB8.out (show w.heap.size ≤ bo by omega) (j := 1) (v := .string ⟨#[61]⟩))
    obtain ⟨W9, hW9⟩ : ∃ W9, W8.setCell ⟨bo, 1, none⟩ (.string ⟨#[61]⟩) = W9 := ⟨_, rfl⟩
    rw [hW9] at HK9 HS9 HB9
    have k0 : W9.cell? ⟨w.heap.size, 0, none⟩ = some (.string key) := (blk_cell HK9.out 0).trans rfl
    have k1 : W9.cell? ⟨w.heap.size, 1, none⟩ = some (.string op) := (blk_cell HK9.out 1).trans rfl
    have k2 : W9.cell? ⟨w.heap.size, 2, none⟩ = some (.slice A n c) := (blk_cell HK9.out 2).trans rfl
    have HL9 := Aside0.mk (blk_lt HS9.out)
    clear d0 d1 d2 e1 g1 g2
    cases q
    · go_wp2_with (first | ((with_reducible refine (HRA.out _ HB9.out).mono ?_); rintro e w10 ⟨rfl, hb⟩; have HBX := Aside0.mk (below_step HB9.out hb); have hsx := (hb.block _ HL9.out).trans HS9.out; have p0 : w10.cell? ⟨bo, 0, none⟩ = some (.string key) := (blk_cell hsx 0).trans rfl; have p1 : w10.cell? ⟨bo, 1, none⟩ = some (.string ⟨#[61]⟩) := (blk_cell hsx 1).trans rfl; have p2 : w10.cell? ⟨bo, 2, none⟩ = some (.slice A n c) := (blk_cell hsx 2).trans rfl; clear hb hsx HRA) | ((with_reducible refine (HRB.out _ HBX.out).mono ?_); rintro e w11 ⟨rfl, hb⟩; have HBY := Aside0.mk (below_step HBX.out hb); clear hb HRB))
      go_ret
      exact ⟨rfl, HBY.out⟩
    · go_wp2_with (first | ((with_reducible refine (HRA.out _ HB9.out).mono ?_); rintro e w10 ⟨rfl, hb⟩; have HBX := Aside0.mk (below_step HB9.out hb); have hsx := (hb.block _ HL9.out).trans HS9.out; have p0 : w10.cell? ⟨bo, 0, none⟩ = some (.string key) := (blk_cell hsx 0).trans rfl; have p1 : w10.cell? ⟨bo, 1, none⟩ = some (.string ⟨#[61]⟩) := (blk_cell hsx 1).trans rfl; have p2 : w10.cell? ⟨bo, 2, none⟩ = some (.slice A n c) := (blk_cell hsx 2).trans rfl; clear hb hsx HRA) | ((with_reducible refine (HRB.out _ HBX.out).mono ?_); rintro e w11 ⟨rfl, hb⟩; have HBY := Aside0.mk (below_step HBX.out hb); clear hb HRB))
      go_ret
      exact ⟨rfl, HBY.out⟩
  have e2_ : (op.toList == ([33, 61] : List UInt8)) = false := by rw [hx]; simpa using h2
  by_cases h3 : x = [105, 110]
  · have e3_ : (op.toList == ([105, 110] : List UInt8)) = true := by rw [hx, h3]; rfl
    rw [h3] at HRA HFR
    have HRB := Aside0.mk (HRM.out ⟨#[110, 111, 116, 105, 110]⟩)
    rw [show (⟨#[110, 111, 116, 105, 110]⟩ : ByteArray).data.toList = [110, 111, 116, 105, 110] from rfl, opp_meets3, opp_fair3 HFR.out] at HRB
    rw [HFR.out] at HRA
    obtain ⟨q, hq⟩ : ∃ q, meetsR [105, 110] (vL vs) got = q := ⟨_, rfl⟩
    rw [hq] at HRA HRB
    clear hx h3 hq HRM HFR
    go_enter Tryd.func3, Tryd.ntmps3
    go_upto_region 5 with (first | ((with_reducible refine (HF4.out).mono ?_); rintro e w2 ⟨rfl, hb⟩; have HB2 := Aside0.mk (below_step HBA.out hb); have HK2 := Aside0.mk ((hb.block _ HLA.out).trans HBK.out); clear hb HF4) | ((with_reducible refine (HF1.out _ HB2.out).mono ?_); rintro e w3 ⟨rfl, hb⟩; have HB3 := Aside0.mk (below_step HB2.out hb); have HK3 := Aside0.mk ((hb.block _ (blk_lt HK2.out)).trans HK2.out); have b0 : w3.cell? ⟨w.heap.size, 0, none⟩ = some (.string key) := (blk_cell HK3.out 0).trans rfl; have b1 : w3.cell? ⟨w.heap.size, 1, none⟩ = some (.string op) := (blk_cell HK3.out 1).trans rfl; have b2 : w3.cell? ⟨w.heap.size, 2, none⟩ = some (.slice A n c) := (blk_cell HK3.out 2).trans rfl; have hbk4 := heap_alloc_new w3 (.cells #[.string key, .string op, .slice A n c] 24); have HB4 := Aside0.mk (below_alloc HB3.out (.cells #[.string key, .string op, .slice A n c] 24)); have HK4 := Aside0.mk (blk_alloc HK3.out (.cells #[.string key, .string op, .slice A n c] 24)); have HL4 := Aside0.mk (blk_lt HK4.out); have HS4 := Aside0.mk hbk4; clear hb HF1 hbk4) | ((with_reducible refine (HWO.out _ _ HB4.out HS4.out).mono ?_); rintro e w5 ⟨rfl, hb⟩; have HB5 := Aside0.mk (below_step HB4.out hb); have HK5 := Aside0.mk ((hb.block _ HL4.out).trans HK4.out); have hbk6 := heap_alloc_new w5 (.cells #[.slice AL nl cl] 25); have HS6 := Aside0.mk ((blk_cell hbk6 0).trans (show _ = some (Value.slice AL nl cl) from rfl)); have HB6 := Aside0.mk (below_alloc HB5.out (.cells #[.slice AL nl cl] 25)); have HK6 := Aside0.mk (blk_alloc HK5.out (.cells #[.slice AL nl cl] 25)); clear hb HWO hbk6) | ((with_reducible refine (HEP.out _ _ HB6.out HS6.out).mono ?_); rintro e w7 ⟨rfl, hb⟩; have HB7 := Aside0.mk (below_step HB6.out hb); have HK7 := Aside0.mk ((hb.block _ (blk_lt HK6.out)).trans HK6.out); clear hb HEP))
    have d0 : w7.cell? ⟨w.heap.size, 0, none⟩ = some (.string key) := (blk_cell HK7.out 0).trans rfl
    have d1 : w7.cell? ⟨w.heap.size, 1, none⟩ = some (.string op) := (blk_cell HK7.out 1).trans rfl
    have d2 : w7.cell? ⟨w.heap.size, 2, none⟩ = some (.slice A n c) := (blk_cell HK7.out 2).trans rfl
    have HK8 := Aside0.mk (blk_alloc HK7.out (.cells #[.string key, .string op, .slice A n c] 24))
    have HB8 := Aside0.mk (below_alloc HB7.out (.cells #[.string key, .string op, .slice A n c] 24))
    have hbk8 := heap_alloc_new w7 (.cells #[.string key, .string op, .slice A n c] 24)
    have hlt8 := blk_lt HK7.out
    have hle8 := HB7.out.size
    obtain ⟨bo, hbo⟩ : ∃ bo, w7.heap.size = bo := ⟨_, rfl⟩
    obtain ⟨W8, hW8⟩ : ∃ W8, w7.alloc (.cells #[.string key, .string op, .slice A n c] 24) = W8 := ⟨_, rfl⟩
    rw [hW8] at HK8 HB8 hbk8
    rw [hbo] at hbk8 hlt8 hle8
    have e1 : W8.cell? ⟨w.heap.size, 1, none⟩ = some (.string op) := (blk_cell HK8.out 1).trans rfl
    have g1 : W8.cell? ⟨bo, 1, none⟩ = some (.string op) := (blk_cell hbk8 1).trans rfl
    have g2 : W8.frozen? ⟨bo, 1, none⟩ = false := blk_frozen hbk8 1
    have HS8 := Aside0.mk hbk8
    clear hbk8 b0 b1 b2 a0 a1 a2
    go_upto_region 21 with (fail)
    have HK9 := Aside0.mk (blk_far HK8.out (p := ⟨bo, 1, none⟩) (show w.heap.size ≠ bo by omega) (.string ⟨#[110, 111, 116, 105, 110]⟩))
    have HS9 := Aside0.mk (blk_put HS8.out 1 (.string ⟨#[110, 111, 116, 105, 110]⟩) (cs' := #[.string key, .string ⟨#[110, 111, 116, 105, 110]⟩, .slice A n c]) rfl)
    have HB9 := Aside0.mk (below_set HB8.out (show w.heap.size ≤ bo by omega) (j := 1) (v := .string ⟨#[110, 111, 116, 105, 110]⟩))
    obtain ⟨W9, hW9⟩ : ∃ W9, W8.setCell ⟨bo, 1, none⟩ (.string ⟨#[110, 111, 116, 105, 110]⟩) = W9 := ⟨_, rfl⟩
    rw [hW9] at HK9 HS9 HB9
    have k0 : W9.cell? ⟨w.heap.size, 0, none⟩ = some (.string key) := (blk_cell HK9.out 0).trans rfl
    have k1 : W9.cell? ⟨w.heap.size, 1, none⟩ = some (.string op) := (blk_cell HK9.out 1).trans rfl
    have k2 : W9.cell? ⟨w.heap.size, 2, none⟩ = some (.slice A n c) := (blk_cell HK9.out 2).trans rfl
    have HL9 := Aside0.mk (blk_lt HS9.out)
    clear d0 d1 d2 e1 g1 g2
    cases q
    · go_wp2_with (first | ((with_reducible refine (HRA.out _ HB9.out).mono ?_); rintro e w10 ⟨rfl, hb⟩; have HBX := Aside0.mk (below_step HB9.out hb); have hsx := (hb.block _ HL9.out).trans HS9.out; have p0 : w10.cell? ⟨bo, 0, none⟩ = some (.string key) := (blk_cell hsx 0).trans rfl; have p1 : w10.cell? ⟨bo, 1, none⟩ = some (.string ⟨#[110, 111, 116, 105, 110]⟩) := (blk_cell hsx 1).trans rfl; have p2 : w10.cell? ⟨bo, 2, none⟩ = some (.slice A n c) := (blk_cell hsx 2).trans rfl; clear hb hsx HRA) | ((with_reducible refine (HRB.out _ HBX.out).mono ?_); rintro e w11 ⟨rfl, hb⟩; have HBY := Aside0.mk (below_step HBX.out hb); clear hb HRB))
      go_ret
      exact ⟨rfl, HBY.out⟩
    · go_wp2_with (first | ((with_reducible refine (HRA.out _ HB9.out).mono ?_); rintro e w10 ⟨rfl, hb⟩; have HBX := Aside0.mk (below_step HB9.out hb); have hsx := (hb.block _ HL9.out).trans HS9.out; have p0 : w10.cell? ⟨bo, 0, none⟩ = some (.string key) := (blk_cell hsx 0).trans rfl; have p1 : w10.cell? ⟨bo, 1, none⟩ = some (.string ⟨#[110, 111, 116, 105, 110]⟩) := (blk_cell hsx 1).trans rfl; have p2 : w10.cell? ⟨bo, 2, none⟩ = some (.slice A n c) := (blk_cell hsx 2).trans rfl; clear hb hsx HRA) | ((with_reducible refine (HRB.out _ HBX.out).mono ?_); rintro e w11 ⟨rfl, hb⟩; have HBY := Aside0.mk (below_step HBX.out hb); clear hb HRB))
      go_ret
      exact ⟨rfl, HBY.out⟩
  have e3_ : (op.toList == ([105, 110] : List UInt8)) = false := by rw [hx]; simpa using h3
  by_cases h4 : x = [110, 111, 116, 105, 110]
  · have e4_ : (op.toList == ([110, 111, 116, 105, 110] : List UInt8)) = true := by rw [hx, h4]; rfl
    rw [h4] at HRA HFR
    have HRB := Aside0.mk (HRM.out ⟨#[105, 110]⟩)
    rw [show (⟨#[105, 110]⟩ : ByteArray).data.toList = [105, 110] from rfl, opp_meets4, opp_fair4 HFR.out] at HRB
    rw [HFR.out] at HRA
    obtain ⟨q, hq⟩ : ∃ q, meetsR [110, 111, 116, 105, 110] (vL vs) got = q := ⟨_, rfl⟩
    rw [hq] at HRA HRB
    clear hx h4 hq HRM HFR
    go_enter Tryd.func3, Tryd.ntmps3
    go_upto_region 5 with (first | ((with_reducible refine (HF4.out).mono ?_); rintro e w2 ⟨rfl, hb⟩; have HB2 := Aside0.mk (below_step HBA.out hb); have HK2 := Aside0.mk ((hb.block _ HLA.out).trans HBK.out); clear hb HF4) | ((with_reducible refine (HF1.out _ HB2.out).mono ?_); rintro e w3 ⟨rfl, hb⟩; have HB3 := Aside0.mk (below_step HB2.out hb); have HK3 := Aside0.mk ((hb.block _ (blk_lt HK2.out)).trans HK2.out); have b0 : w3.cell? ⟨w.heap.size, 0, none⟩ = some (.string key) := (blk_cell HK3.out 0).trans rfl; have b1 : w3.cell? ⟨w.heap.size, 1, none⟩ = some (.string op) := (blk_cell HK3.out 1).trans rfl; have b2 : w3.cell? ⟨w.heap.size, 2, none⟩ = some (.slice A n c) := (blk_cell HK3.out 2).trans rfl; have hbk4 := heap_alloc_new w3 (.cells #[.string key, .string op, .slice A n c] 24); have HB4 := Aside0.mk (below_alloc HB3.out (.cells #[.string key, .string op, .slice A n c] 24)); have HK4 := Aside0.mk (blk_alloc HK3.out (.cells #[.string key, .string op, .slice A n c] 24)); have HL4 := Aside0.mk (blk_lt HK4.out); have HS4 := Aside0.mk hbk4; clear hb HF1 hbk4) | ((with_reducible refine (HWO.out _ _ HB4.out HS4.out).mono ?_); rintro e w5 ⟨rfl, hb⟩; have HB5 := Aside0.mk (below_step HB4.out hb); have HK5 := Aside0.mk ((hb.block _ HL4.out).trans HK4.out); have hbk6 := heap_alloc_new w5 (.cells #[.slice AL nl cl] 25); have HS6 := Aside0.mk ((blk_cell hbk6 0).trans (show _ = some (Value.slice AL nl cl) from rfl)); have HB6 := Aside0.mk (below_alloc HB5.out (.cells #[.slice AL nl cl] 25)); have HK6 := Aside0.mk (blk_alloc HK5.out (.cells #[.slice AL nl cl] 25)); clear hb HWO hbk6) | ((with_reducible refine (HEP.out _ _ HB6.out HS6.out).mono ?_); rintro e w7 ⟨rfl, hb⟩; have HB7 := Aside0.mk (below_step HB6.out hb); have HK7 := Aside0.mk ((hb.block _ (blk_lt HK6.out)).trans HK6.out); clear hb HEP))
    have d0 : w7.cell? ⟨w.heap.size, 0, none⟩ = some (.string key) := (blk_cell HK7.out 0).trans rfl
    have d1 : w7.cell? ⟨w.heap.size, 1, none⟩ = some (.string op) := (blk_cell HK7.out 1).trans rfl
    have d2 : w7.cell? ⟨w.heap.size, 2, none⟩ = some (.slice A n c) := (blk_cell HK7.out 2).trans rfl
    have HK8 := Aside0.mk (blk_alloc HK7.out (.cells #[.string key, .string op, .slice A n c] 24))
    have HB8 := Aside0.mk (below_alloc HB7.out (.cells #[.string key, .string op, .slice A n c] 24))
    have hbk8 := heap_alloc_new w7 (.cells #[.string key, .string op, .slice A n c] 24)
    have hlt8 := blk_lt HK7.out
    have hle8 := HB7.out.size
    obtain ⟨bo, hbo⟩ : ∃ bo, w7.heap.size = bo := ⟨_, rfl⟩
    obtain ⟨W8, hW8⟩ : ∃ W8, w7.alloc (.cells #[.string key, .string op, .slice A n c] 24) = W8 := ⟨_, rfl⟩
    rw [hW8] at HK8 HB8 hbk8
    rw [hbo] at hbk8 hlt8 hle8
    have e1 : W8.cell? ⟨w.heap.size, 1, none⟩ = some (.string op) := (blk_cell HK8.out 1).trans rfl
    have g1 : W8.cell? ⟨bo, 1, none⟩ = some (.string op) := (blk_cell hbk8 1).trans rfl
    have g2 : W8.frozen? ⟨bo, 1, none⟩ = false := blk_frozen hbk8 1
    have HS8 := Aside0.mk hbk8
    clear hbk8 b0 b1 b2 a0 a1 a2
    go_upto_region 21 with (fail)
    have HK9 := Aside0.mk (blk_far HK8.out (p := ⟨bo, 1, none⟩) (show w.heap.size ≠ bo by omega) (.string ⟨#[105, 110]⟩))
    have HS9 := Aside0.mk (blk_put HS8.out 1 (.string ⟨#[105, 110]⟩) (cs' := #[.string key, .string ⟨#[105, 110]⟩, .slice A n c]) rfl)
    have HB9 := Aside0.mk (below_set HB8.out (show w.heap.size ≤ bo by omega) (j := 1) (v := .string ⟨#[105, 110]⟩))
    obtain ⟨W9, hW9⟩ : ∃ W9, W8.setCell ⟨bo, 1, none⟩ (.string ⟨#[105, 110]⟩) = W9 := ⟨_, rfl⟩
    rw [hW9] at HK9 HS9 HB9
    have k0 : W9.cell? ⟨w.heap.size, 0, none⟩ = some (.string key) := (blk_cell HK9.out 0).trans rfl
    have k1 : W9.cell? ⟨w.heap.size, 1, none⟩ = some (.string op) := (blk_cell HK9.out 1).trans rfl
    have k2 : W9.cell? ⟨w.heap.size, 2, none⟩ = some (.slice A n c) := (blk_cell HK9.out 2).trans rfl
    have HL9 := Aside0.mk (blk_lt HS9.out)
    clear d0 d1 d2 e1 g1 g2
    cases q
    · go_wp2_with (first | ((with_reducible refine (HRA.out _ HB9.out).mono ?_); rintro e w10 ⟨rfl, hb⟩; have HBX := Aside0.mk (below_step HB9.out hb); have hsx := (hb.block _ HL9.out).trans HS9.out; have p0 : w10.cell? ⟨bo, 0, none⟩ = some (.string key) := (blk_cell hsx 0).trans rfl; have p1 : w10.cell? ⟨bo, 1, none⟩ = some (.string ⟨#[105, 110]⟩) := (blk_cell hsx 1).trans rfl; have p2 : w10.cell? ⟨bo, 2, none⟩ = some (.slice A n c) := (blk_cell hsx 2).trans rfl; clear hb hsx HRA) | ((with_reducible refine (HRB.out _ HBX.out).mono ?_); rintro e w11 ⟨rfl, hb⟩; have HBY := Aside0.mk (below_step HBX.out hb); clear hb HRB))
      go_ret
      exact ⟨rfl, HBY.out⟩
    · go_wp2_with (first | ((with_reducible refine (HRA.out _ HB9.out).mono ?_); rintro e w10 ⟨rfl, hb⟩; have HBX := Aside0.mk (below_step HB9.out hb); have hsx := (hb.block _ HL9.out).trans HS9.out; have p0 : w10.cell? ⟨bo, 0, none⟩ = some (.string key) := (blk_cell hsx 0).trans rfl; have p1 : w10.cell? ⟨bo, 1, none⟩ = some (.string ⟨#[105, 110]⟩) := (blk_cell hsx 1).trans rfl; have p2 : w10.cell? ⟨bo, 2, none⟩ = some (.slice A n c) := (blk_cell hsx 2).trans rfl; clear hb hsx HRA) | ((with_reducible refine (HRB.out _ HBX.out).mono ?_); rintro e w11 ⟨rfl, hb⟩; have HBY := Aside0.mk (below_step HBX.out hb); clear hb HRB))
      go_ret
      exact ⟨rfl, HBY.out⟩
  have e4_ : (op.toList == ([110, 111, 116, 105, 110] : List UInt8)) = false := by rw [hx]; simpa using h4
  by_cases h5 : x = [101, 120, 105, 115, 116, 115]
  · have e5_ : (op.toList == ([101, 120, 105, 115, 116, 115] : List UInt8)) = true := by rw [hx, h5]; rfl
    rw [h5] at HRA HFR
    have HRB := Aside0.mk (HRM.out ⟨#[33]⟩)
    rw [show (⟨#[33]⟩ : ByteArray).data.toList = [33] from rfl, opp_meets5, opp_fair5 HFR.out] at HRB
    rw [HFR.out] at HRA
    obtain ⟨q, hq⟩ : ∃ q, meetsR [101, 120, 105, 115, 116, 115] (vL vs) got = q := ⟨_, rfl⟩
    rw [hq] at HRA HRB
    clear hx h5 hq HRM HFR
    go_enter Tryd.func3, Tryd.ntmps3
    go_upto_region 5 with (first | ((with_reducible refine (HF4.out).mono ?_); rintro e w2 ⟨rfl, hb⟩; have HB2 := Aside0.mk (below_step HBA.out hb); have HK2 := Aside0.mk ((hb.block _ HLA.out).trans HBK.out); clear hb HF4) | ((with_reducible refine (HF1.out _ HB2.out).mono ?_); rintro e w3 ⟨rfl, hb⟩; have HB3 := Aside0.mk (below_step HB2.out hb); have HK3 := Aside0.mk ((hb.block _ (blk_lt HK2.out)).trans HK2.out); have b0 : w3.cell? ⟨w.heap.size, 0, none⟩ = some (.string key) := (blk_cell HK3.out 0).trans rfl; have b1 : w3.cell? ⟨w.heap.size, 1, none⟩ = some (.string op) := (blk_cell HK3.out 1).trans rfl; have b2 : w3.cell? ⟨w.heap.size, 2, none⟩ = some (.slice A n c) := (blk_cell HK3.out 2).trans rfl; have hbk4 := heap_alloc_new w3 (.cells #[.string key, .string op, .slice A n c] 24); have HB4 := Aside0.mk (below_alloc HB3.out (.cells #[.string key, .string op, .slice A n c] 24)); have HK4 := Aside0.mk (blk_alloc HK3.out (.cells #[.string key, .string op, .slice A n c] 24)); have HL4 := Aside0.mk (blk_lt HK4.out); have HS4 := Aside0.mk hbk4; clear hb HF1 hbk4) | ((with_reducible refine (HWO.out _ _ HB4.out HS4.out).mono ?_); rintro e w5 ⟨rfl, hb⟩; have HB5 := Aside0.mk (below_step HB4.out hb); have HK5 := Aside0.mk ((hb.block _ HL4.out).trans HK4.out); have hbk6 := heap_alloc_new w5 (.cells #[.slice AL nl cl] 25); have HS6 := Aside0.mk ((blk_cell hbk6 0).trans (show _ = some (Value.slice AL nl cl) from rfl)); have HB6 := Aside0.mk (below_alloc HB5.out (.cells #[.slice AL nl cl] 25)); have HK6 := Aside0.mk (blk_alloc HK5.out (.cells #[.slice AL nl cl] 25)); clear hb HWO hbk6) | ((with_reducible refine (HEP.out _ _ HB6.out HS6.out).mono ?_); rintro e w7 ⟨rfl, hb⟩; have HB7 := Aside0.mk (below_step HB6.out hb); have HK7 := Aside0.mk ((hb.block _ (blk_lt HK6.out)).trans HK6.out); clear hb HEP))
    have d0 : w7.cell? ⟨w.heap.size, 0, none⟩ = some (.string key) := (blk_cell HK7.out 0).trans rfl
    have d1 : w7.cell? ⟨w.heap.size, 1, none⟩ = some (.string op) := (blk_cell HK7.out 1).trans rfl
    have d2 : w7.cell? ⟨w.heap.size, 2, none⟩ = some (.slice A n c) := (blk_cell HK7.out 2).trans rfl
    have HK8 := Aside0.mk (blk_alloc HK7.out (.cells #[.string key, .string op, .slice A n c] 24))
    have HB8 := Aside0.mk (below_alloc HB7.out (.cells #[.string key, .string op, .slice A n c] 24))
    have hbk8 := heap_alloc_new w7 (.cells #[.string key, .string op, .slice A n c] 24)
    have hlt8 := blk_lt HK7.out
    have hle8 := HB7.out.size
    obtain ⟨bo, hbo⟩ : ∃ bo, w7.heap.size = bo := ⟨_, rfl⟩
    obtain ⟨W8, hW8⟩ : ∃ W8, w7.alloc (.cells #[.string key, .string op, .slice A n c] 24) = W8 := ⟨_, rfl⟩
    rw [hW8] at HK8 HB8 hbk8
    rw [hbo] at hbk8 hlt8 hle8
    have e1 : W8.cell? ⟨w.heap.size, 1, none⟩ = some (.string op) := (blk_cell HK8.out 1).trans rfl
    have g1 : W8.cell? ⟨bo, 1, none⟩ = some (.string op) := (blk_cell hbk8 1).trans rfl
    have g2 : W8.frozen? ⟨bo, 1, none⟩ = false := blk_frozen hbk8 1
    have HS8 := Aside0.mk hbk8
    clear hbk8 b0 b1 b2 a0 a1 a2
    go_upto_region 21 with (fail)
    have HK9 := Aside0.mk (blk_far HK8.out (p := ⟨bo, 1, none⟩) (show w.heap.size ≠ bo by omega) (.string ⟨#[33]⟩))
    have HS9 := Aside0.mk (blk_put HS8.out 1 (.string ⟨#[33]⟩) (cs' := #[.string key, .string ⟨#[33]⟩, .slice A n c]) rfl)
    have HB9 := Aside0.mk (below_set HB8.out (show w.heap.size ≤ bo by omega) (j := 1) (v := .string ⟨#[33]⟩))
    obtain ⟨W9, hW9⟩ : ∃ W9, W8.setCell ⟨bo, 1, none⟩ (.string ⟨#[33]⟩) = W9 := ⟨_, rfl⟩
    rw [hW9] at HK9 HS9 HB9
    have k0 : W9.cell? ⟨w.heap.size, 0, none⟩ = some (.string key) := (blk_cell HK9.out 0).trans rfl
    have k1 : W9.cell? ⟨w.heap.size, 1, none⟩ = some (.string op) := (blk_cell HK9.out 1).trans rfl
    have k2 : W9.cell? ⟨w.heap.size, 2, none⟩ = some (.slice A n c) := (blk_cell HK9.out 2).trans rfl
    have HL9 := Aside0.mk (blk_lt HS9.out)
    clear d0 d1 d2 e1 g1 g2
    cases q
    · go_wp2_with (first | ((with_reducible refine (HRA.out _ HB9.out).mono ?_); rintro e w10 ⟨rfl, hb⟩; have HBX := Aside0.mk (below_step HB9.out hb); have hsx := (hb.block _ HL9.out).trans HS9.out; have p0 : w10.cell? ⟨bo, 0, none⟩ = some (.string key) := (blk_cell hsx 0).trans rfl; have p1 : w10.cell? ⟨bo, 1, none⟩ = some (.string ⟨#[33]⟩) := (blk_cell hsx 1).trans rfl; have p2 : w10.cell? ⟨bo, 2, none⟩ = some (.slice A n c) := (blk_cell hsx 2).trans rfl; clear hb hsx HRA) | ((with_reducible refine (HRB.out _ HBX.out).mono ?_); rintro e w11 ⟨rfl, hb⟩; have HBY := Aside0.mk (below_step HBX.out hb); clear hb HRB))
      go_ret
      exact ⟨rfl, HBY.out⟩
    · go_wp2_with (first | ((with_reducible refine (HRA.out _ HB9.out).mono ?_); rintro e w10 ⟨rfl, hb⟩; have HBX := Aside0.mk (below_step HB9.out hb); have hsx := (hb.block _ HL9.out).trans HS9.out; have p0 : w10.cell? ⟨bo, 0, none⟩ = some (.string key) := (blk_cell hsx 0).trans rfl; have p1 : w10.cell? ⟨bo, 1, none⟩ = some (.string ⟨#[33]⟩) := (blk_cell hsx 1).trans rfl; have p2 : w10.cell? ⟨bo, 2, none⟩ = some (.slice A n c) := (blk_cell hsx 2).trans rfl; clear hb hsx HRA) | ((with_reducible refine (HRB.out _ HBX.out).mono ?_); rintro e w11 ⟨rfl, hb⟩; have HBY := Aside0.mk (below_step HBX.out hb); clear hb HRB))
      go_ret
      exact ⟨rfl, HBY.out⟩
  have e5_ : (op.toList == ([101, 120, 105, 115, 116, 115] : List UInt8)) = false := by rw [hx]; simpa using h5
  by_cases h6 : x = [33]
  · have e6_ : (op.toList == ([33] : List UInt8)) = true := by rw [hx, h6]; rfl
    rw [h6] at HRA HFR
    have HRB := Aside0.mk (HRM.out ⟨#[101, 120, 105, 115, 116, 115]⟩)
    rw [show (⟨#[101, 120, 105, 115, 116, 115]⟩ : ByteArray).data.toList = [101, 120, 105, 115, 116, 115] from rfl, opp_meets6, opp_fair6 HFR.out] at HRB
    rw [HFR.out] at HRA
    obtain ⟨q, hq⟩ : ∃ q, meetsR [33] (vL vs) got = q := ⟨_, rfl⟩
    rw [hq] at HRA HRB
    clear hx h6 hq HRM HFR
    go_enter Tryd.func3, Tryd.ntmps3
    go_upto_region 5 with (first | ((with_reducible refine (HF4.out).mono ?_); rintro e w2 ⟨rfl, hb⟩; have HB2 := Aside0.mk (below_step HBA.out hb); have HK2 := Aside0.mk ((hb.block _ HLA.out).trans HBK.out); clear hb HF4) | ((with_reducible refine (HF1.out _ HB2.out).mono ?_); rintro e w3 ⟨rfl, hb⟩; have HB3 := Aside0.mk (below_step HB2.out hb); have HK3 := Aside0.mk ((hb.block _ (blk_lt HK2.out)).trans HK2.out); have b0 : w3.cell? ⟨w.heap.size, 0, none⟩ = some (.string key) := (blk_cell HK3.out 0).trans rfl; have b1 : w3.cell? ⟨w.heap.size, 1, none⟩ = some (.string op) := (blk_cell HK3.out 1).trans rfl; have b2 : w3.cell? ⟨w.heap.size, 2, none⟩ = some (.slice A n c) := (blk_cell HK3.out 2).trans rfl; have hbk4 := heap_alloc_new w3 (.cells #[.string key, .string op, .slice A n c] 24); have HB4 := Aside0.mk (below_alloc HB3.out (.cells #[.string key, .string op, .slice A n c] 24)); have HK4 := Aside0.mk (blk_alloc HK3.out (.cells #[.string key, .string op, .slice A n c] 24)); have HL4 := Aside0.mk (blk_lt HK4.out); have HS4 := Aside0.mk hbk4; clear hb HF1 hbk4) | ((with_reducible refine (HWO.out _ _ HB4.out HS4.out).mono ?_); rintro e w5 ⟨rfl, hb⟩; have HB5 := Aside0.mk (below_step HB4.out hb); have HK5 := Aside0.mk ((hb.block _ HL4.out).trans HK4.out); have hbk6 := heap_alloc_new w5 (.cells #[.slice AL nl cl] 25); have HS6 := Aside0.mk ((blk_cell hbk6 0).trans (show _ = some (Value.slice AL nl cl) from rfl)); have HB6 := Aside0.mk (below_alloc HB5.out (.cells #[.slice AL nl cl] 25)); have HK6 := Aside0.mk (blk_alloc HK5.out (.cells #[.slice AL nl cl] 25)); clear hb HWO hbk6) | ((with_reducible refine (HEP.out _ _ HB6.out HS6.out).mono ?_); rintro e w7 ⟨rfl, hb⟩; have HB7 := Aside0.mk (below_step HB6.out hb); have HK7 := Aside0.mk ((hb.block _ (blk_lt HK6.out)).trans HK6.out); clear hb HEP))
    have d0 : w7.cell? ⟨w.heap.size, 0, none⟩ = some (.string key) := (blk_cell HK7.out 0).trans rfl
    have d1 : w7.cell? ⟨w.heap.size, 1, none⟩ = some (.string op) := (blk_cell HK7.out 1).trans rfl
    have d2 : w7.cell? ⟨w.heap.size, 2, none⟩ = some (.slice A n c) := (blk_cell HK7.out 2).trans rfl
    have HK8 := Aside0.mk (blk_alloc HK7.out (.cells #[.string key, .string op, .slice A n c] 24))
    have HB8 := Aside0.mk (below_alloc HB7.out (.cells #[.string key, .string op, .slice A n c] 24))
    have hbk8 := heap_alloc_new w7 (.cells #[.string key, .string op, .slice A n c] 24)
    have hlt8 := blk_lt HK7.out
    have hle8 := HB7.out.size
    obtain ⟨bo, hbo⟩ : ∃ bo, w7.heap.size = bo := ⟨_, rfl⟩
    obtain ⟨W8, hW8⟩ : ∃ W8, w7.alloc (.cells #[.string key, .string op, .slice A n c] 24) = W8 := ⟨_, rfl⟩
    rw [hW8] at HK8 HB8 hbk8
    rw [hbo] at hbk8 hlt8 hle8
    have e1 : W8.cell? ⟨w.heap.size, 1, none⟩ = some (.string op) := (blk_cell HK8.out 1).trans rfl
    have g1 : W8.cell? ⟨bo, 1, none⟩ = some (.string op) := (blk_cell hbk8 1).trans rfl
    have g2 : W8.frozen? ⟨bo, 1, none⟩ = false := blk_frozen hbk8 1
    have HS8 := Aside0.mk hbk8
    clear hbk8 b0 b1 b2 a0 a1 a2
    go_upto_region 21 with (fail)
    have HK9 := Aside0.mk (blk_far HK8.out (p := ⟨bo, 1, none⟩) (show w.heap.size ≠ bo by omega) (.string ⟨#[101, 120, 105, 115, 116, 115]⟩))
    have HS9 := Aside0.mk (blk_put HS8.out 1 (.string ⟨#[101, 120, 105, 115, 116, 115]⟩) (cs' := #[.string key, .string ⟨#[101, 120, 105, 115, 116, 115]⟩, .slice A n c]) rfl)
    have HB9 := Aside0.mk (below_set HB8.out (show w.heap.size ≤ bo by omega) (j := 1) (v := .string ⟨#[101, 120, 105, 115, 116, 115]⟩))
    obtain ⟨W9, hW9⟩ : ∃ W9, W8.setCell ⟨bo, 1, none⟩ (.string ⟨#[101, 120, 105, 115, 116, 115]⟩) = W9 := ⟨_, rfl⟩
    rw [hW9] at HK9 HS9 HB9
    have k0 : W9.cell? ⟨w.heap.size, 0, none⟩ = some (.string key) := (blk_cell HK9.out 0).trans rfl
    have k1 : W9.cell? ⟨w.heap.size, 1, none⟩ = some (.string op) := (blk_cell HK9.out 1).trans rfl
    have k2 : W9.cell? ⟨w.heap.size, 2, none⟩ = some (.slice A n c) := (blk_cell HK9.out 2).trans rfl
    have HL9 := Aside0.mk (blk_lt HS9.out)
    clear d0 d1 d2 e1 g1 g2
    cases q
    · go_wp2_with (first | ((with_reducible refine (HRA.out _ HB9.out).mono ?_); rintro e w10 ⟨rfl, hb⟩; have HBX := Aside0.mk (below_step HB9.out hb); have hsx := (hb.block _ HL9.out).trans HS9.out; have p0 : w10.cell? ⟨bo, 0, none⟩ = some (.string key) := (blk_cell hsx 0).trans rfl; have p1 : w10.cell? ⟨bo, 1, none⟩ = some (.string ⟨#[101, 120, 105, 115, 116, 115]⟩) := (blk_cell hsx 1).trans rfl; have p2 : w10.cell? ⟨bo, 2, none⟩ = some (.slice A n c) := (blk_cell hsx 2).trans rfl; clear hb hsx HRA) | ((with_reducible refine (HRB.out _ HBX.out).mono ?_); rintro e w11 ⟨rfl, hb⟩; have HBY := Aside0.mk (below_step HBX.out hb); clear hb HRB))
      go_ret
      exact ⟨rfl, HBY.out⟩
    · go_wp2_with (first | ((with_reducible refine (HRA.out _ HB9.out).mono ?_); rintro e w10 ⟨rfl, hb⟩; have HBX := Aside0.mk (below_step HB9.out hb); have hsx := (hb.block _ HL9.out).trans HS9.out; have p0 : w10.cell? ⟨bo, 0, none⟩ = some (.string key) := (blk_cell hsx 0).trans rfl; have p1 : w10.cell? ⟨bo, 1, none⟩ = some (.string ⟨#[101, 120, 105, 115, 116, 115]⟩) := (blk_cell hsx 1).trans rfl; have p2 : w10.cell? ⟨bo, 2, none⟩ = some (.slice A n c) := (blk_cell hsx 2).trans rfl; clear hb hsx HRA) | ((with_reducible refine (HRB.out _ HBX.out).mono ?_); rintro e w11 ⟨rfl, hb⟩; have HBY := Aside0.mk (below_step HBX.out hb); clear hb HRB))
      go_ret
      exact ⟨rfl, HBY.out⟩
  have e6_ : (op.toList == ([33] : List UInt8)) = false := by rw [hx]; simpa using h6
  clear hx HRM HRA HFR
  go_enter Tryd.func3, Tryd.ntmps3
  go_upto_region 5 with (first | ((with_reducible refine (HF4.out).mono ?_); rintro e w2 ⟨rfl, hb⟩; have HB2 := Aside0.mk (below_step HBA.out hb); have HK2 := Aside0.mk ((hb.block _ HLA.out).trans HBK.out); clear hb HF4) | ((with_reducible refine (HF1.out _ HB2.out).mono ?_); rintro e w3 ⟨rfl, hb⟩; have HB3 := Aside0.mk (below_step HB2.out hb); have HK3 := Aside0.mk ((hb.block _ (blk_lt HK2.out)).trans HK2.out); have b0 : w3.cell? ⟨w.heap.size, 0, none⟩ = some (.string key) := (blk_cell HK3.out 0).trans rfl; have b1 : w3.cell? ⟨w.heap.size, 1, none⟩ = some (.string op) := (blk_cell HK3.out 1).trans rfl; have b2 : w3.cell? ⟨w.heap.size, 2, none⟩ = some (.slice A n c) := (blk_cell HK3.out 2).trans rfl; have hbk4 := heap_alloc_new w3 (.cells #[.string key, .string op, .slice A n c] 24); have HB4 := Aside0.mk (below_alloc HB3.out (.cells #[.string key, .string op, .slice A n c] 24)); have HK4 := Aside0.mk (blk_alloc HK3.out (.cells #[.string key, .string op, .slice A n c] 24)); have HL4 := Aside0.mk (blk_lt HK4.out); have HS4 := Aside0.mk hbk4; clear hb HF1 hbk4) | ((with_reducible refine (HWO.out _ _ HB4.out HS4.out).mono ?_); rintro e w5 ⟨rfl, hb⟩; have HB5 := Aside0.mk (below_step HB4.out hb); have HK5 := Aside0.mk ((hb.block _ HL4.out).trans HK4.out); have hbk6 := heap_alloc_new w5 (.cells #[.slice AL nl cl] 25); have HS6 := Aside0.mk ((blk_cell hbk6 0).trans (show _ = some (Value.slice AL nl cl) from rfl)); have HB6 := Aside0.mk (below_alloc HB5.out (.cells #[.slice AL nl cl] 25)); have HK6 := Aside0.mk (blk_alloc HK5.out (.cells #[.slice AL nl cl] 25)); clear hb HWO hbk6) | ((with_reducible refine (HEP.out _ _ HB6.out HS6.out).mono ?_); rintro e w7 ⟨rfl, hb⟩; have HB7 := Aside0.mk (below_step HB6.out hb); have HK7 := Aside0.mk ((hb.block _ (blk_lt HK6.out)).trans HK6.out); clear hb HEP))
  have d0 : w7.cell? ⟨w.heap.size, 0, none⟩ = some (.string key) := (blk_cell HK7.out 0).trans rfl
  have d1 : w7.cell? ⟨w.heap.size, 1, none⟩ = some (.string op) := (blk_cell HK7.out 1).trans rfl
  have d2 : w7.cell? ⟨w.heap.size, 2, none⟩ = some (.slice A n c) := (blk_cell HK7.out 2).trans rfl
  have HK8 := Aside0.mk (blk_alloc HK7.out (.cells #[.string key, .string op, .slice A n c] 24))
  have HB8 := Aside0.mk (below_alloc HB7.out (.cells #[.string key, .string op, .slice A n c] 24))
  have hbk8 := heap_alloc_new w7 (.cells #[.string key, .string op, .slice A n c] 24)
  have hlt8 := blk_lt HK7.out
  have hle8 := HB7.out.size
  obtain ⟨bo, hbo⟩ : ∃ bo, w7.heap.size = bo := ⟨_, rfl⟩
  obtain ⟨W8, hW8⟩ : ∃ W8, w7.alloc (.cells #[.string key, .string op, .slice A n c] 24) = W8 := ⟨_, rfl⟩
  rw [hW8] at HK8 HB8 hbk8
  rw [hbo] at hbk8 hlt8 hle8
  have e1 : W8.cell? ⟨w.heap.size, 1, none⟩ = some (.string op) := (blk_cell HK8.out 1).trans rfl
  have g1 : W8.cell? ⟨bo, 1, none⟩ = some (.string op) := (blk_cell hbk8 1).trans rfl
  have g2 : W8.frozen? ⟨bo, 1, none⟩ = false := blk_frozen hbk8 1
  have HS8 := Aside0.mk hbk8
  clear hbk8 b0 b1 b2 a0 a1 a2
  go_wp2
  go_ret
  exact ⟨rfl, HB8.out⟩
end Go.Proofs.YteigfmchnblkgaaDoor.Hand
