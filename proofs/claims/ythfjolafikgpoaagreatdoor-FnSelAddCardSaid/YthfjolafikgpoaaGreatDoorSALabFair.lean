/- spec.Fair: what a requirement may be, as the reference says. -/
import Derived.Test.YthfjolafikgpoaaGreatDoorSALabNew
namespace Go.Proofs.YthfjolafikgpoaaGreatDoor.Hand
open Go.RowKit Go.Maps Go.Proofs.YthfjolafikgpoaaGreatDoorW.PrintWords Go.Proofs.YthfjolafikgpoaaGreatDoorW.PrintLast Go.Proofs.YthfjolafikgpoaaGreatDoorW.PrintMore Go.Proofs.YthfjolafikgpoaaGreatDoor.Base
set_option linter.unusedVariables false
set_option linter.unusedSimpArgs false
set_option maxRecDepth 100000
set_option maxHeartbeats 16000000 in
theorem Fair_calls (key op : ByteArray) (hk : key.size ≤ 2147483647) (A : Option Addr) (c n : Nat) (vs : List ByteArray) (hn : vs.length = n) (hn2 : n ≤ 2147483647) (hz : ∀ p ∈ vs, p.size ≤ 2147483647) (w : World) (hC : Kd.C Kd.string w A n vs) (hT : TV w) :
   Calls Tryz.prog 41 #[.agg #[.string key, .string op, .slice A n c]] w fun e w' => e = .returned (.bool (fairR key.data.toList op.data.toList (vL vs))) ∧ Below w.heap.size w w' := by
 have HKK := Aside0.mk (Qualified_calls key hk)
 have HZ := Aside0.mk hz
 have HLN := Aside0.mk hn
 obtain ⟨x, hx⟩ : ∃ x, op.toList = x := ⟨_, rfl⟩
 have hx2 : op.data.toList = x := by rw [← hx, toList_eq]
 rw [hx2]
 obtain ⟨q, hq⟩ : ∃ q, pQ key.data.toList = q := ⟨_, rfl⟩
 rw [hq] at HKK
 have hbk := heap_alloc_new w (.cells #[.string key, .string op, .slice A n c] 53)
 have HBA := Aside0.mk (below_alloc (Below.refl w.heap.size w) (.cells #[.string key, .string op, .slice A n c] 53))
 obtain ⟨W1, hW1⟩ : ∃ W1, w.alloc (.cells #[.string key, .string op, .slice A n c] 53) = W1 := ⟨_, rfl⟩
 rw [hW1] at hbk HBA
 have c0 : W1.cell? ⟨w.heap.size, 0, none⟩ = some (.string key) := (blk_cell hbk 0).trans rfl
 have c1 : W1.cell? ⟨w.heap.size, 1, none⟩ = some (.string op) := (blk_cell hbk 1).trans rfl
 have c2 : W1.cell? ⟨w.heap.size, 2, none⟩ = some (.slice A n c) := (blk_cell hbk 2).trans rfl
 have HC := Aside0.mk (Kd.C_below hC HBA.out)
 have HT := Aside0.mk (hT.below HBA.out)
 have HK0 := Aside0.mk c0
 have HK2 := Aside0.mk c2
 have HLA := Aside0.mk (blk_lt hbk)
 have HB0 := Aside0.mk (Below.refl W1.heap.size W1)
 clear hC hT hz hx2 hbk
 by_cases h0 : x = [105, 110]
 · have e0 : (op.toList == ([105, 110] : List UInt8)) = true := by rw [hx, h0]; rfl
   by_cases hm : n = 0
   · have m1 : ((n : Int) == 0) = true := by rw [hm]; rfl
     have HF : Aside0 (fairR key.data.toList x (vL vs) = false) := ⟨by unfold fairR; rw [h0]; have : vs = [] := List.eq_nil_of_length_eq_zero (by omega); subst this; rfl⟩
     clear hx h0 hm hn hq
     go_enter Tryz.func41, Tryz.ntmps41
     go_wp2
     go_ret
     exact ⟨by rw [HF.out]; try (first | rfl | (simp; done)), below_step HBA.out HB0.out⟩
   · have m1 : ((n : Int) == 0) = false := by simpa using hm
     have HF : Aside0 (fairR key.data.toList x (vL vs) = ((vL vs).all pValue && q)) := ⟨by unfold fairR; rw [hq, h0]; have : vs ≠ [] := fun e => hm (by rw [← hn, e]; rfl); simp [opOk, this]⟩
     clear hx h0 hm hn hq
     go_enter Tryz.func41, Tryz.ntmps41
     go_wp2
     go_loopg [47] (n) (fun k v47 w' => ∃ j : Nat, v47 = .int .i64 j ∧ Aside0 (k + j = n) ∧ Aside0 ((vL (vs.take j)).all pValue = true) ∧ Aside0 (Below W1.heap.size W1 w'))
     case atStart => exact ⟨0, rfl, ⟨by omega⟩, ⟨rfl⟩, HB0⟩
     case round =>
      obtain ⟨j, rfl, HJ, HA, HB⟩ := hrel
      by_cases hjl : j < n
      · obtain ⟨ad, rfl, hk0⟩ := Kd.at_string (Kd.C_below HC.out HB.out) (j : Int) (by omega) (by omega)
        rw [Int.toNat_natCast] at hk0
        obtain ⟨p, hp⟩ : ∃ p, vs[j]? = some p := ⟨_, List.getElem?_eq_getElem (by rw [HLN.out]; exact hjl)⟩
        have hg : rdOf ByteArray.empty vs (j : Int) = p := by unfold rdOf; rw [Int.toNat_natCast, List.getD_eq_getElem?_getD, hp]; rfl
        rw [hg] at hk0
        have HV := Aside0.mk (LabelText_calls p (by have := HZ.out p (List.mem_of_getElem? hp); omega) wr)
        cases hpv : pValue p.data.toList with
        | false =>
          have HF2 : Aside0 (fairR key.data.toList x (vL vs) = false) := ⟨by rw [HF.out, all_bad hp hpv]; rfl⟩
          rw [hpv] at HV
          clear hp hg hpv
          go_wp2_with (first | ((with_reducible refine (HV.out).mono ?_); rintro e w3 ⟨rfl, rfl⟩; clear HV))
          go_ret
          exact ⟨by rw [HF2.out]; try (first | rfl | (simp; done)), below_step HBA.out HB.out⟩
        | true =>
          have HA2 := Aside0.mk (all_take hp HA.out hpv)
          rw [hpv] at HV
          clear hp hg hpv
          go_wp2_with (first | ((with_reducible refine (HV.out).mono ?_); rintro e w3 ⟨rfl, rfl⟩; clear HV))
          go_roundg (n - (j + 1))
          case measure => have := HJ.out; omega
          case rel => exact ⟨j + 1, by go_num, ⟨by omega⟩, HA2, HB⟩
      · have hje : j = n := by have := HJ.out; omega
        have HF2 : Aside0 (fairR key.data.toList x (vL vs) = q) := ⟨by rw [HF.out]; have := HA.out; rw [List.take_of_length_le (by rw [HLN.out, hje]; exact Nat.le_refl _)] at this; rw [this]; rfl⟩
        subst hje
        have k0 : wr.cell? ⟨w.heap.size, 0, none⟩ = some (.string key) := (HB.out.cell HLA.out).trans HK0.out
        go_wp2_with (first | ((with_reducible refine (HKK.out _).mono ?_); rintro e w3 ⟨rfl, hb⟩; have HB3 := Aside0.mk (below_step HB.out hb); clear hb))
        go_ret
        exact ⟨by rw [HF2.out]; try (first | rfl | (simp; done)), below_step HBA.out HB3.out⟩
 have e0 : (op.toList == ([105, 110] : List UInt8)) = false := by rw [hx]; simpa using h0
 by_cases h1 : x = [110, 111, 116, 105, 110]
 · have e1 : (op.toList == ([110, 111, 116, 105, 110] : List UInt8)) = true := by rw [hx, h1]; rfl
   by_cases hm : n = 0
   · have m1 : ((n : Int) == 0) = true := by rw [hm]; rfl
     have HF : Aside0 (fairR key.data.toList x (vL vs) = false) := ⟨by unfold fairR; rw [h1]; have : vs = [] := List.eq_nil_of_length_eq_zero (by omega); subst this; rfl⟩
     clear hx h1 hm hn hq
     go_enter Tryz.func41, Tryz.ntmps41
     go_wp2
     go_ret
     exact ⟨by rw [HF.out]; try (first | rfl | (simp; done)), below_step HBA.out HB0.out⟩
   · have m1 : ((n : Int) == 0) = false := by simpa using hm
     have HF : Aside0 (fairR key.data.toList x (vL vs) = ((vL vs).all pValue && q)) := ⟨by unfold fairR; rw [hq, h1]; have : vs ≠ [] := fun e => hm (by rw [← hn, e]; rfl); simp [opOk, this]⟩
     clear hx h1 hm hn hq
     go_enter Tryz.func41, Tryz.ntmps41
     go_wp2
     go_loopg [47] (n) (fun k v47 w' => ∃ j : Nat, v47 = .int .i64 j ∧ Aside0 (k + j = n) ∧ Aside0 ((vL (vs.take j)).all pValue = true) ∧ Aside0 (Below W1.heap.size W1 w'))
     case atStart => exact ⟨0, rfl, ⟨by omega⟩, ⟨rfl⟩, HB0⟩
     case round =>
      obtain ⟨j, rfl, HJ, HA, HB⟩ := hrel
      by_cases hjl : j < n
      · obtain ⟨ad, rfl, hk0⟩ := Kd.at_string (Kd.C_below HC.out HB.out) (j : Int) (by omega) (by omega)
        rw [Int.toNat_natCast] at hk0
        obtain ⟨p, hp⟩ : ∃ p, vs[j]? = some p := ⟨_, List.getElem?_eq_getElem (by rw [HLN.out]; exact hjl)⟩
        have hg : rdOf ByteArray.empty vs (j : Int) = p := by unfold rdOf; rw [Int.toNat_natCast, List.getD_eq_getElem?_getD, hp]; rfl
        rw [hg] at hk0
        have HV := Aside0.mk (LabelText_calls p (by have := HZ.out p (List.mem_of_getElem? hp); omega) wr)
        cases hpv : pValue p.data.toList with
        | false =>
          have HF2 : Aside0 (fairR key.data.toList x (vL vs) = false) := ⟨by rw [HF.out, all_bad hp hpv]; rfl⟩
          rw [hpv] at HV
          clear hp hg hpv
          go_wp2_with (first | ((with_reducible refine (HV.out).mono ?_); rintro e w3 ⟨rfl, rfl⟩; clear HV))
          go_ret
          exact ⟨by rw [HF2.out]; try (first | rfl | (simp; done)), below_step HBA.out HB.out⟩
        | true =>
          have HA2 := Aside0.mk (all_take hp HA.out hpv)
          rw [hpv] at HV
          clear hp hg hpv
          go_wp2_with (first | ((with_reducible refine (HV.out).mono ?_); rintro e w3 ⟨rfl, rfl⟩; clear HV))
          go_roundg (n - (j + 1))
          case measure => have := HJ.out; omega
          case rel => exact ⟨j + 1, by go_num, ⟨by omega⟩, HA2, HB⟩
      · have hje : j = n := by have := HJ.out; omega
        have HF2 : Aside0 (fairR key.data.toList x (vL vs) = q) := ⟨by rw [HF.out]; have := HA.out; rw [List.take_of_length_le (by rw [HLN.out, hje]; exact Nat.le_refl _)] at this; rw [this]; rfl⟩
        subst hje
        have k0 : wr.cell? ⟨w.heap.size, 0, none⟩ = some (.string key) := (HB.out.cell HLA.out).trans HK0.out
        go_wp2_with (first | ((with_reducible refine (HKK.out _).mono ?_); rintro e w3 ⟨rfl, hb⟩; have HB3 := Aside0.mk (below_step HB.out hb); clear hb))
        go_ret
        exact ⟨by rw [HF2.out]; try (first | rfl | (simp; done)), below_step HBA.out HB3.out⟩
 have e1 : (op.toList == ([110, 111, 116, 105, 110] : List UInt8)) = false := by rw [hx]; simpa using h1
 by_cases h2 : x = [61]
 · have e2 : (op.toList == ([61] : List UInt8)) = true := by rw [hx, h2]; rfl
   by_cases hm : n = 1
   · have m1 : ((n : Int) != 1) = false := by rw [hm]; rfl
     have HF : Aside0 (fairR key.data.toList x (vL vs) = ((vL vs).all pValue && q)) := ⟨by unfold fairR; rw [hq, h2]; simp [opOk, hn, hm]⟩
     clear hx h2 hm hn hq
     go_enter Tryz.func41, Tryz.ntmps41
     go_wp2
     go_loopg [47] (n) (fun k v47 w' => ∃ j : Nat, v47 = .int .i64 j ∧ Aside0 (k + j = n) ∧ Aside0 ((vL (vs.take j)).all pValue = true) ∧ Aside0 (Below W1.heap.size W1 w'))
     case atStart => exact ⟨0, rfl, ⟨by omega⟩, ⟨rfl⟩, HB0⟩
     case round =>
      obtain ⟨j, rfl, HJ, HA, HB⟩ := hrel
      by_cases hjl : j < n
      · obtain ⟨ad, rfl, hk0⟩ := Kd.at_string (Kd.C_below HC.out HB.out) (j : Int) (by omega) (by omega)
        rw [Int.toNat_natCast] at hk0
        obtain ⟨p, hp⟩ : ∃ p, vs[j]? = some p := ⟨_, List.getElem?_eq_getElem (by rw [HLN.out]; exact hjl)⟩
        have hg : rdOf ByteArray.empty vs (j : Int) = p := by unfold rdOf; rw [Int.toNat_natCast, List.getD_eq_getElem?_getD, hp]; rfl
        rw [hg] at hk0
        have HV := Aside0.mk (LabelText_calls p (by have := HZ.out p (List.mem_of_getElem? hp); omega) wr)
        cases hpv : pValue p.data.toList with
        | false =>
          have HF2 : Aside0 (fairR key.data.toList x (vL vs) = false) := ⟨by rw [HF.out, all_bad hp hpv]; rfl⟩
          rw [hpv] at HV
          clear hp hg hpv
          go_wp2_with (first | ((with_reducible refine (HV.out).mono ?_); rintro e w3 ⟨rfl, rfl⟩; clear HV))
          go_ret
          exact ⟨by rw [HF2.out]; try (first | rfl | (simp; done)), below_step HBA.out HB.out⟩
        | true =>
          have HA2 := Aside0.mk (all_take hp HA.out hpv)
          rw [hpv] at HV
          clear hp hg hpv
          go_wp2_with (first | ((with_reducible refine (HV.out).mono ?_); rintro e w3 ⟨rfl, rfl⟩; clear HV))
          go_roundg (n - (j + 1))
          case measure => have := HJ.out; omega
          case rel => exact ⟨j + 1, by go_num, ⟨by omega⟩, HA2, HB⟩
      · have hje : j = n := by have := HJ.out; omega
        have HF2 : Aside0 (fairR key.data.toList x (vL vs) = q) := ⟨by rw [HF.out]; have := HA.out; rw [List.take_of_length_le (by rw [HLN.out, hje]; exact Nat.le_refl _)] at this; rw [this]; rfl⟩
        subst hje
        have k0 : wr.cell? ⟨w.heap.size, 0, none⟩ = some (.string key) := (HB.out.cell HLA.out).trans HK0.out
        go_wp2_with (first | ((with_reducible refine (HKK.out _).mono ?_); rintro e w3 ⟨rfl, hb⟩; have HB3 := Aside0.mk (below_step HB.out hb); clear hb))
        go_ret
        exact ⟨by rw [HF2.out]; try (first | rfl | (simp; done)), below_step HBA.out HB3.out⟩
   · have m1 : ((n : Int) != 1) = true := by simpa using (show ¬ (n : Int) = 1 by omega)
     have HF : Aside0 (fairR key.data.toList x (vL vs) = false) := ⟨by unfold fairR; rw [h2]; simp [opOk, hn, hm]⟩
     clear hx h2 hm hn hq
     go_enter Tryz.func41, Tryz.ntmps41
     go_wp2
     go_ret
     exact ⟨by rw [HF.out]; try (first | rfl | (simp; done)), below_step HBA.out HB0.out⟩
 have e2 : (op.toList == ([61] : List UInt8)) = false := by rw [hx]; simpa using h2
 by_cases h3 : x = [61, 61]
 · have e3 : (op.toList == ([61, 61] : List UInt8)) = true := by rw [hx, h3]; rfl
   by_cases hm : n = 1
   · have m1 : ((n : Int) != 1) = false := by rw [hm]; rfl
     have HF : Aside0 (fairR key.data.toList x (vL vs) = ((vL vs).all pValue && q)) := ⟨by unfold fairR; rw [hq, h3]; simp [opOk, hn, hm]⟩
     clear hx h3 hm hn hq
     go_enter Tryz.func41, Tryz.ntmps41
     go_wp2
     go_loopg [47] (n) (fun k v47 w' => ∃ j : Nat, v47 = .int .i64 j ∧ Aside0 (k + j = n) ∧ Aside0 ((vL (vs.take j)).all pValue = true) ∧ Aside0 (Below W1.heap.size W1 w'))
     case atStart => exact ⟨0, rfl, ⟨by omega⟩, ⟨rfl⟩, HB0⟩
     case round =>
      obtain ⟨j, rfl, HJ, HA, HB⟩ := hrel
      by_cases hjl : j < n
      · obtain ⟨ad, rfl, hk0⟩ := Kd.at_string (Kd.C_below HC.out HB.out) (j : Int) (by omega) (by omega)
        rw [Int.toNat_natCast] at hk0
        obtain ⟨p, hp⟩ : ∃ p, vs[j]? = some p := ⟨_, List.getElem?_eq_getElem (by rw [HLN.out]; exact hjl)⟩
        have hg : rdOf ByteArray.empty vs (j : Int) = p := by unfold rdOf; rw [Int.toNat_natCast, List.getD_eq_getElem?_getD, hp]; rfl
        rw [hg] at hk0
        have HV := Aside0.mk (LabelText_calls p (by have := HZ.out p (List.mem_of_getElem? hp); omega) wr)
        cases hpv : pValue p.data.toList with
        | false =>
          have HF2 : Aside0 (fairR key.data.toList x (vL vs) = false) := ⟨by rw [HF.out, all_bad hp hpv]; rfl⟩
          rw [hpv] at HV
          clear hp hg hpv
          go_wp2_with (first | ((with_reducible refine (HV.out).mono ?_); rintro e w3 ⟨rfl, rfl⟩; clear HV))
          go_ret
          exact ⟨by rw [HF2.out]; try (first | rfl | (simp; done)), below_step HBA.out HB.out⟩
        | true =>
          have HA2 := Aside0.mk (all_take hp HA.out hpv)
          rw [hpv] at HV
          clear hp hg hpv
          go_wp2_with (first | ((with_reducible refine (HV.out).mono ?_); rintro e w3 ⟨rfl, rfl⟩; clear HV))
          go_roundg (n - (j + 1))
          case measure => have := HJ.out; omega
          case rel => exact ⟨j + 1, by go_num, ⟨by omega⟩, HA2, HB⟩
      · have hje : j = n := by have := HJ.out; omega
        have HF2 : Aside0 (fairR key.data.toList x (vL vs) = q) := ⟨by rw [HF.out]; have := HA.out; rw [List.take_of_length_le (by rw [HLN.out, hje]; exact Nat.le_refl _)] at this; rw [this]; rfl⟩
        subst hje
        have k0 : wr.cell? ⟨w.heap.size, 0, none⟩ = some (.string key) := (HB.out.cell HLA.out).trans HK0.out
        go_wp2_with (first | ((with_reducible refine (HKK.out _).mono ?_); rintro e w3 ⟨rfl, hb⟩; have HB3 := Aside0.mk (below_step HB.out hb); clear hb))
        go_ret
        exact ⟨by rw [HF2.out]; try (first | rfl | (simp; done)), below_step HBA.out HB3.out⟩
   · have m1 : ((n : Int) != 1) = true := by simpa using (show ¬ (n : Int) = 1 by omega)
     have HF : Aside0 (fairR key.data.toList x (vL vs) = false) := ⟨by unfold fairR; rw [h3]; simp [opOk, hn, hm]⟩
     clear hx h3 hm hn hq
     go_enter Tryz.func41, Tryz.ntmps41
     go_wp2
     go_ret
     exact ⟨by rw [HF.out]; try (first | rfl | (simp; done)), below_step HBA.out HB0.out⟩
 have e3 : (op.toList == ([61, 61] : List UInt8)) = false := by rw [hx]; simpa using h3
 by_cases h4 : x = [33, 61]
 · have e4 : (op.toList == ([33, 61] : List UInt8)) = true := by rw [hx, h4]; rfl
   by_cases hm : n = 1
   · have m1 : ((n : Int) != 1) = false := by rw [hm]; rfl
     have HF : Aside0 (fairR key.data.toList x (vL vs) = ((vL vs).all pValue && q)) := ⟨by unfold fairR; rw [hq, h4]; simp [opOk, hn, hm]⟩
     clear hx h4 hm hn hq
     go_enter Tryz.func41, Tryz.ntmps41
     go_wp2
     go_loopg [47] (n) (fun k v47 w' => ∃ j : Nat, v47 = .int .i64 j ∧ Aside0 (k + j = n) ∧ Aside0 ((vL (vs.take j)).all pValue = true) ∧ Aside0 (Below W1.heap.size W1 w'))
     case atStart => exact ⟨0, rfl, ⟨by omega⟩, ⟨rfl⟩, HB0⟩
     case round =>
      obtain ⟨j, rfl, HJ, HA, HB⟩ := hrel
      by_cases hjl : j < n
      · obtain ⟨ad, rfl, hk0⟩ := Kd.at_string (Kd.C_below HC.out HB.out) (j : Int) (by omega) (by omega)
        rw [Int.toNat_natCast] at hk0
        obtain ⟨p, hp⟩ : ∃ p, vs[j]? = some p := ⟨_, List.getElem?_eq_getElem (by rw [HLN.out]; exact hjl)⟩
        have hg : rdOf ByteArray.empty vs (j : Int) = p := by unfold rdOf; rw [Int.toNat_natCast, List.getD_eq_getElem?_getD, hp]; rfl
        rw [hg] at hk0
        have HV := Aside0.mk (LabelText_calls p (by have := HZ.out p (List.mem_of_getElem? hp); omega) wr)
        cases hpv : pValue p.data.toList with
        | false =>
          have HF2 : Aside0 (fairR key.data.toList x (vL vs) = false) := ⟨by rw [HF.out, all_bad hp hpv]; rfl⟩
          rw [hpv] at HV
          clear hp hg hpv
          go_wp2_with (first | ((with_reducible refine (HV.out).mono ?_); rintro e w3 ⟨rfl, rfl⟩; clear HV))
          go_ret
          exact ⟨by rw [HF2.out]; try (first | rfl | (simp; done)), below_step HBA.out HB.out⟩
        | true =>
          have HA2 := Aside0.mk (all_take hp HA.out hpv)
          rw [hpv] at HV
          clear hp hg hpv
          go_wp2_with (first | ((with_reducible refine (HV.out).mono ?_); rintro e w3 ⟨rfl, rfl⟩; clear HV))
          go_roundg (n - (j + 1))
          case measure => have := HJ.out; omega
          case rel => exact ⟨j + 1, by go_num, ⟨by omega⟩, HA2, HB⟩
      · have hje : j = n := by have := HJ.out; omega
        have HF2 : Aside0 (fairR key.data.toList x (vL vs) = q) := ⟨by rw [HF.out]; have := HA.out; rw [List.take_of_length_le (by rw [HLN.out, hje]; exact Nat.le_refl _)] at this; rw [this]; rfl⟩
        subst hje
        have k0 : wr.cell? ⟨w.heap.size, 0, none⟩ = some (.string key) := (HB.out.cell HLA.out).trans HK0.out
        go_wp2_with (first | ((with_reducible refine (HKK.out _).mono ?_); rintro e w3 ⟨rfl, hb⟩; have HB3 := Aside0.mk (below_step HB.out hb); clear hb))
        go_ret
        exact ⟨by rw [HF2.out]; try (first | rfl | (simp; done)), below_step HBA.out HB3.out⟩
   · have m1 : ((n : Int) != 1) = true := by simpa using (show ¬ (n : Int) = 1 by omega)
     have HF : Aside0 (fairR key.data.toList x (vL vs) = false) := ⟨by unfold fairR; rw [h4]; simp [opOk, hn, hm]⟩
     clear hx h4 hm hn hq
     go_enter Tryz.func41, Tryz.ntmps41
     go_wp2
     go_ret
     exact ⟨by rw [HF.out]; try (first | rfl | (simp; done)), below_step HBA.out HB0.out⟩
 have e4 : (op.toList == ([33, 61] : List UInt8)) = false := by rw [hx]; simpa using h4
 by_cases h5 : x = [101, 120, 105, 115, 116, 115]
 · have e5 : (op.toList == ([101, 120, 105, 115, 116, 115] : List UInt8)) = true := by rw [hx, h5]; rfl
   by_cases hm : n = 0
   · have m1 : ((n : Int) != 0) = false := by rw [hm]; rfl
     have HF : Aside0 (fairR key.data.toList x (vL vs) = ((vL vs).all pValue && q)) := ⟨by unfold fairR; rw [hq, h5]; simp [opOk, hn, hm]⟩
     clear hx h5 hm hn hq
     go_enter Tryz.func41, Tryz.ntmps41
     go_wp2
     go_loopg [47] (n) (fun k v47 w' => ∃ j : Nat, v47 = .int .i64 j ∧ Aside0 (k + j = n) ∧ Aside0 ((vL (vs.take j)).all pValue = true) ∧ Aside0 (Below W1.heap.size W1 w'))
     case atStart => exact ⟨0, rfl, ⟨by omega⟩, ⟨rfl⟩, HB0⟩
     case round =>
      obtain ⟨j, rfl, HJ, HA, HB⟩ := hrel
      by_cases hjl : j < n
      · obtain ⟨ad, rfl, hk0⟩ := Kd.at_string (Kd.C_below HC.out HB.out) (j : Int) (by omega) (by omega)
        rw [Int.toNat_natCast] at hk0
        obtain ⟨p, hp⟩ : ∃ p, vs[j]? = some p := ⟨_, List.getElem?_eq_getElem (by rw [HLN.out]; exact hjl)⟩
        have hg : rdOf ByteArray.empty vs (j : Int) = p := by unfold rdOf; rw [Int.toNat_natCast, List.getD_eq_getElem?_getD, hp]; rfl
        rw [hg] at hk0
        have HV := Aside0.mk (LabelText_calls p (by have := HZ.out p (List.mem_of_getElem? hp); omega) wr)
        cases hpv : pValue p.data.toList with
        | false =>
          have HF2 : Aside0 (fairR key.data.toList x (vL vs) = false) := ⟨by rw [HF.out, all_bad hp hpv]; rfl⟩
          rw [hpv] at HV
          clear hp hg hpv
          go_wp2_with (first | ((with_reducible refine (HV.out).mono ?_); rintro e w3 ⟨rfl, rfl⟩; clear HV))
          go_ret
          exact ⟨by rw [HF2.out]; try (first | rfl | (simp; done)), below_step HBA.out HB.out⟩
        | true =>
          have HA2 := Aside0.mk (all_take hp HA.out hpv)
          rw [hpv] at HV
          clear hp hg hpv
          go_wp2_with (first | ((with_reducible refine (HV.out).mono ?_); rintro e w3 ⟨rfl, rfl⟩; clear HV))
          go_roundg (n - (j + 1))
          case measure => have := HJ.out; omega
          case rel => exact ⟨j + 1, by go_num, ⟨by omega⟩, HA2, HB⟩
      · have hje : j = n := by have := HJ.out; omega
        have HF2 : Aside0 (fairR key.data.toList x (vL vs) = q) := ⟨by rw [HF.out]; have := HA.out; rw [List.take_of_length_le (by rw [HLN.out, hje]; exact Nat.le_refl _)] at this; rw [this]; rfl⟩
        subst hje
        have k0 : wr.cell? ⟨w.heap.size, 0, none⟩ = some (.string key) := (HB.out.cell HLA.out).trans HK0.out
        go_wp2_with (first | ((with_reducible refine (HKK.out _).mono ?_); rintro e w3 ⟨rfl, hb⟩; have HB3 := Aside0.mk (below_step HB.out hb); clear hb))
        go_ret
        exact ⟨by rw [HF2.out]; try (first | rfl | (simp; done)), below_step HBA.out HB3.out⟩
   · have m1 : ((n : Int) != 0) = true := by simpa using (show ¬ (n : Int) = 0 by omega)
     have HF : Aside0 (fairR key.data.toList x (vL vs) = false) := ⟨by unfold fairR; rw [h5]; have hm0 : ¬ vs.length = 0 := (by omega); simp [opOk]; intro h; exact absurd (by rw [h]; rfl) hm0⟩
     clear hx h5 hm hn hq
     go_enter Tryz.func41, Tryz.ntmps41
     go_wp2
     go_ret
     exact ⟨by rw [HF.out]; try (first | rfl | (simp; done)), below_step HBA.out HB0.out⟩
 have e5 : (op.toList == ([101, 120, 105, 115, 116, 115] : List UInt8)) = false := by rw [hx]; simpa using h5
 by_cases h6 : x = [33]
 · have e6 : (op.toList == ([33] : List UInt8)) = true := by rw [hx, h6]; rfl
   by_cases hm : n = 0
   · have m1 : ((n : Int) != 0) = false := by rw [hm]; rfl
     have HF : Aside0 (fairR key.data.toList x (vL vs) = ((vL vs).all pValue && q)) := ⟨by unfold fairR; rw [hq, h6]; simp [opOk, hn, hm]⟩
     clear hx h6 hm hn hq
     go_enter Tryz.func41, Tryz.ntmps41
     go_wp2
     go_loopg [47] (n) (fun k v47 w' => ∃ j : Nat, v47 = .int .i64 j ∧ Aside0 (k + j = n) ∧ Aside0 ((vL (vs.take j)).all pValue = true) ∧ Aside0 (Below W1.heap.size W1 w'))
     case atStart => exact ⟨0, rfl, ⟨by omega⟩, ⟨rfl⟩, HB0⟩
     case round =>
      obtain ⟨j, rfl, HJ, HA, HB⟩ := hrel
      by_cases hjl : j < n
      · obtain ⟨ad, rfl, hk0⟩ := Kd.at_string (Kd.C_below HC.out HB.out) (j : Int) (by omega) (by omega)
        rw [Int.toNat_natCast] at hk0
        obtain ⟨p, hp⟩ : ∃ p, vs[j]? = some p := ⟨_, List.getElem?_eq_getElem (by rw [HLN.out]; exact hjl)⟩
        have hg : rdOf ByteArray.empty vs (j : Int) = p := by unfold rdOf; rw [Int.toNat_natCast, List.getD_eq_getElem?_getD, hp]; rfl
        rw [hg] at hk0
        have HV := Aside0.mk (LabelText_calls p (by have := HZ.out p (List.mem_of_getElem? hp); omega) wr)
        cases hpv : pValue p.data.toList with
        | false =>
          have HF2 : Aside0 (fairR key.data.toList x (vL vs) = false) := ⟨by rw [HF.out, all_bad hp hpv]; rfl⟩
          rw [hpv] at HV
          clear hp hg hpv
          go_wp2_with (first | ((with_reducible refine (HV.out).mono ?_); rintro e w3 ⟨rfl, rfl⟩; clear HV))
          go_ret
          exact ⟨by rw [HF2.out]; try (first | rfl | (simp; done)), below_step HBA.out HB.out⟩
        | true =>
          have HA2 := Aside0.mk (all_take hp HA.out hpv)
          rw [hpv] at HV
          clear hp hg hpv
          go_wp2_with (first | ((with_reducible refine (HV.out).mono ?_); rintro e w3 ⟨rfl, rfl⟩; clear HV))
          go_roundg (n - (j + 1))
          case measure => have := HJ.out; omega
          case rel => exact ⟨j + 1, by go_num, ⟨by omega⟩, HA2, HB⟩
      · have hje : j = n := by have := HJ.out; omega
        have HF2 : Aside0 (fairR key.data.toList x (vL vs) = q) := ⟨by rw [HF.out]; have := HA.out; rw [List.take_of_length_le (by rw [HLN.out, hje]; exact Nat.le_refl _)] at this; rw [this]; rfl⟩
        subst hje
        have k0 : wr.cell? ⟨w.heap.size, 0, none⟩ = some (.string key) := (HB.out.cell HLA.out).trans HK0.out
        go_wp2_with (first | ((with_reducible refine (HKK.out _).mono ?_); rintro e w3 ⟨rfl, hb⟩; have HB3 := Aside0.mk (below_step HB.out hb); clear hb))
        go_ret
        exact ⟨by rw [HF2.out]; try (first | rfl | (simp; done)), below_step HBA.out HB3.out⟩
   · have m1 : ((n : Int) != 0) = true := by simpa using (show ¬ (n : Int) = 0 by omega)
     have HF : Aside0 (fairR key.data.toList x (vL vs) = false) := ⟨by unfold fairR; rw [h6]; have hm0 : ¬ vs.length = 0 := (by omega); simp [opOk]; intro h; exact absurd (by rw [h]; rfl) hm0⟩
     clear hx h6 hm hn hq
     go_enter Tryz.func41, Tryz.ntmps41
     go_wp2
     go_ret
     exact ⟨by rw [HF.out]; try (first | rfl | (simp; done)), below_step HBA.out HB0.out⟩
 have e6 : (op.toList == ([33] : List UInt8)) = false := by rw [hx]; simpa using h6
 by_cases h7 : x = [103, 116]
 · have e7 : (op.toList == ([103, 116] : List UInt8)) = true := by rw [hx, h7]; rfl
   by_cases hm : n = 1
   · have m1 : ((n : Int) != 1) = false := by rw [hm]; rfl
     obtain ⟨v, hv⟩ := one_of (hn.trans hm)
     obtain ⟨ad0, hA, hk0⟩ := Kd.at_string HC.out 0 (by omega) (by omega)
     rw [hv] at hk0
     have hk1 : W1.cell? ad0 = some (.string v) := by rw [show (0 : Int).toNat = 0 from rfl, add0] at hk0; exact hk0
     have hvz := HZ.out v (by rw [hv]; simp)
     subst hA
     have HPB := Aside0.mk (fun (h : pint v.data.toList = none) => pint_bad v hvz h W1 HT.out)
     have HPO := Aside0.mk (fun (i : Int) (h : pint v.data.toList = some i) => pint_ok v hvz i h W1)
     cases hp : pint v.data.toList with
     | none =>
       have HF : Aside0 (fairR key.data.toList x (vL vs) = false) := ⟨by unfold fairR; rw [h7, hv]; simp [opOk, vL, hp]⟩
       have HP := Aside0.mk (HPB.out hp)
       clear hx h7 hq hp HPO HPB hk0 hn hv
       subst hm
       go_enter Tryz.func41, Tryz.ntmps41
       go_wp2_with (first | ((with_reducible refine (HP.out).mono ?_); rintro e w2 ⟨i, g, rfl, hb⟩; have HB2 := Aside0.mk hb; clear hb))
       go_ret
       exact ⟨by rw [HF.out]; try (first | rfl | (simp; done)), below_step HBA.out HB2.out⟩
     | some i =>
       have HF : Aside0 (fairR key.data.toList x (vL vs) = ((vL vs).all pValue && q)) := ⟨by unfold fairR; rw [hq, h7, hv]; simp [opOk, vL, hp]⟩
       have HP := Aside0.mk (HPO.out i hp)
       clear hx h7 hq hp HPO HPB hk0 hn hv
       subst hm
       go_enter Tryz.func41, Tryz.ntmps41
       go_wp2_with (first | ((with_reducible refine (HP.out).mono ?_); rintro e w2 ⟨rfl, hb⟩; have HB2 := Aside0.mk hb; have k2 : w2.cell? ⟨w.heap.size, 2, none⟩ = some (.slice (some ad0) 1 c) := (hb.cell HLA.out).trans HK2.out; clear hb))
       go_loopg [47] (1) (fun k v47 w' => ∃ j : Nat, v47 = .int .i64 j ∧ Aside0 (k + j = 1) ∧ Aside0 ((vL (vs.take j)).all pValue = true) ∧ Aside0 (Below W1.heap.size W1 w'))
       case atStart => exact ⟨0, rfl, ⟨by omega⟩, ⟨rfl⟩, HB2⟩
       case round =>
        obtain ⟨j, rfl, HJ, HA, HB⟩ := hrel
        by_cases hjl : j < 1
        · obtain ⟨ad2, had, hk0⟩ := Kd.at_string (Kd.C_below HC.out HB.out) (j : Int) (by omega) (by omega)
          rw [Int.toNat_natCast] at hk0; injection had with had; subst had
          obtain ⟨p, hp⟩ : ∃ p, vs[j]? = some p := ⟨_, List.getElem?_eq_getElem (by rw [HLN.out]; exact hjl)⟩
          have hg : rdOf ByteArray.empty vs (j : Int) = p := by unfold rdOf; rw [Int.toNat_natCast, List.getD_eq_getElem?_getD, hp]; rfl
          rw [hg] at hk0
          have HV := Aside0.mk (LabelText_calls p (by have := HZ.out p (List.mem_of_getElem? hp); omega) wr)
          cases hpv : pValue p.data.toList with
          | false =>
            have HF2 : Aside0 (fairR key.data.toList x (vL vs) = false) := ⟨by rw [HF.out, all_bad hp hpv]; rfl⟩
            rw [hpv] at HV
            clear hp hg hpv
            go_wp2_with (first | ((with_reducible refine (HV.out).mono ?_); rintro e w3 ⟨rfl, rfl⟩; clear HV))
            go_ret
            exact ⟨by rw [HF2.out]; try (first | rfl | (simp; done)), below_step HBA.out HB.out⟩
          | true =>
            have HA2 := Aside0.mk (all_take hp HA.out hpv)
            rw [hpv] at HV
            clear hp hg hpv
            go_wp2_with (first | ((with_reducible refine (HV.out).mono ?_); rintro e w3 ⟨rfl, rfl⟩; clear HV))
            go_roundg (1 - (j + 1))
            case measure => have := HJ.out; omega
            case rel => exact ⟨j + 1, by go_num, ⟨by omega⟩, HA2, HB⟩
        · have hje : j = 1 := by have := HJ.out; omega
          have HF2 : Aside0 (fairR key.data.toList x (vL vs) = q) := ⟨by rw [HF.out]; have := HA.out; rw [List.take_of_length_le (by rw [HLN.out, hje]; exact Nat.le_refl _)] at this; rw [this]; rfl⟩
          subst hje
          have k0 : wr.cell? ⟨w.heap.size, 0, none⟩ = some (.string key) := (HB.out.cell HLA.out).trans HK0.out
          go_wp2_with (first | ((with_reducible refine (HKK.out _).mono ?_); rintro e w3 ⟨rfl, hb⟩; have HB3 := Aside0.mk (below_step HB.out hb); clear hb))
          go_ret
          exact ⟨by rw [HF2.out]; try (first | rfl | (simp; done)), below_step HBA.out HB3.out⟩
   · have m1 : ((n : Int) != 1) = true := by simpa using (show ¬ (n : Int) = 1 by omega)
     have HF : Aside0 (fairR key.data.toList x (vL vs) = false) := ⟨by unfold fairR; rw [h7, op_more (.inl rfl) (by rw [vL, List.length_map, hn]; exact hm)]; rfl⟩
     clear hx h7 hm hn hq
     go_enter Tryz.func41, Tryz.ntmps41
     go_wp2
     go_ret
     exact ⟨by rw [HF.out]; try (first | rfl | (simp; done)), below_step HBA.out HB0.out⟩
 have e7 : (op.toList == ([103, 116] : List UInt8)) = false := by rw [hx]; simpa using h7
 by_cases h8 : x = [108, 116]
 · have e8 : (op.toList == ([108, 116] : List UInt8)) = true := by rw [hx, h8]; rfl
   by_cases hm : n = 1
   · have m1 : ((n : Int) != 1) = false := by rw [hm]; rfl
     obtain ⟨v, hv⟩ := one_of (hn.trans hm)
     obtain ⟨ad0, hA, hk0⟩ := Kd.at_string HC.out 0 (by omega) (by omega)
     rw [hv] at hk0
     have hk1 : W1.cell? ad0 = some (.string v) := by rw [show (0 : Int).toNat = 0 from rfl, add0] at hk0; exact hk0
     have hvz := HZ.out v (by rw [hv]; simp)
     subst hA
     have HPB := Aside0.mk (fun (h : pint v.data.toList = none) => pint_bad v hvz h W1 HT.out)
     have HPO := Aside0.mk (fun (i : Int) (h : pint v.data.toList = some i) => pint_ok v hvz i h W1)
     cases hp : pint v.data.toList with
     | none =>
       have HF : Aside0 (fairR key.data.toList x (vL vs) = false) := ⟨by unfold fairR; rw [h8, hv]; simp [opOk, vL, hp]⟩
       have HP := Aside0.mk (HPB.out hp)
       clear hx h8 hq hp HPO HPB hk0 hn hv
       subst hm
       go_enter Tryz.func41, Tryz.ntmps41
       go_wp2_with (first | ((with_reducible refine (HP.out).mono ?_); rintro e w2 ⟨i, g, rfl, hb⟩; have HB2 := Aside0.mk hb; clear hb))
       go_ret
       exact ⟨by rw [HF.out]; try (first | rfl | (simp; done)), below_step HBA.out HB2.out⟩
     | some i =>
       have HF : Aside0 (fairR key.data.toList x (vL vs) = ((vL vs).all pValue && q)) := ⟨by unfold fairR; rw [hq, h8, hv]; simp [opOk, vL, hp]⟩
       have HP := Aside0.mk (HPO.out i hp)
       clear hx h8 hq hp HPO HPB hk0 hn hv
       subst hm
       go_enter Tryz.func41, Tryz.ntmps41
       go_wp2_with (first | ((with_reducible refine (HP.out).mono ?_); rintro e w2 ⟨rfl, hb⟩; have HB2 := Aside0.mk hb; have k2 : w2.cell? ⟨w.heap.size, 2, none⟩ = some (.slice (some ad0) 1 c) := (hb.cell HLA.out).trans HK2.out; clear hb))
       go_loopg [47] (1) (fun k v47 w' => ∃ j : Nat, v47 = .int .i64 j ∧ Aside0 (k + j = 1) ∧ Aside0 ((vL (vs.take j)).all pValue = true) ∧ Aside0 (Below W1.heap.size W1 w'))
       case atStart => exact ⟨0, rfl, ⟨by omega⟩, ⟨rfl⟩, HB2⟩
       case round =>
        obtain ⟨j, rfl, HJ, HA, HB⟩ := hrel
        by_cases hjl : j < 1
        · obtain ⟨ad2, had, hk0⟩ := Kd.at_string (Kd.C_below HC.out HB.out) (j : Int) (by omega) (by omega)
          rw [Int.toNat_natCast] at hk0; injection had with had; subst had
          obtain ⟨p, hp⟩ : ∃ p, vs[j]? = some p := ⟨_, List.getElem?_eq_getElem (by rw [HLN.out]; exact hjl)⟩
          have hg : rdOf ByteArray.empty vs (j : Int) = p := by unfold rdOf; rw [Int.toNat_natCast, List.getD_eq_getElem?_getD, hp]; rfl
          rw [hg] at hk0
          have HV := Aside0.mk (LabelText_calls p (by have := HZ.out p (List.mem_of_getElem? hp); omega) wr)
          cases hpv : pValue p.data.toList with
          | false =>
            have HF2 : Aside0 (fairR key.data.toList x (vL vs) = false) := ⟨by rw [HF.out, all_bad hp hpv]; rfl⟩
            rw [hpv] at HV
            clear hp hg hpv
            go_wp2_with (first | ((with_reducible refine (HV.out).mono ?_); rintro e w3 ⟨rfl, rfl⟩; clear HV))
            go_ret
            exact ⟨by rw [HF2.out]; try (first | rfl | (simp; done)), below_step HBA.out HB.out⟩
          | true =>
            have HA2 := Aside0.mk (all_take hp HA.out hpv)
            rw [hpv] at HV
            clear hp hg hpv
            go_wp2_with (first | ((with_reducible refine (HV.out).mono ?_); rintro e w3 ⟨rfl, rfl⟩; clear HV))
            go_roundg (1 - (j + 1))
            case measure => have := HJ.out; omega
            case rel => exact ⟨j + 1, by go_num, ⟨by omega⟩, HA2, HB⟩
        · have hje : j = 1 := by have := HJ.out; omega
          have HF2 : Aside0 (fairR key.data.toList x (vL vs) = q) := ⟨by rw [HF.out]; have := HA.out; rw [List.take_of_length_le (by rw [HLN.out, hje]; exact Nat.le_refl _)] at this; rw [this]; rfl⟩
          subst hje
          have k0 : wr.cell? ⟨w.heap.size, 0, none⟩ = some (.string key) := (HB.out.cell HLA.out).trans HK0.out
          go_wp2_with (first | ((with_reducible refine (HKK.out _).mono ?_); rintro e w3 ⟨rfl, hb⟩; have HB3 := Aside0.mk (below_step HB.out hb); clear hb))
          go_ret
          exact ⟨by rw [HF2.out]; try (first | rfl | (simp; done)), below_step HBA.out HB3.out⟩
   · have m1 : ((n : Int) != 1) = true := by simpa using (show ¬ (n : Int) = 1 by omega)
     have HF : Aside0 (fairR key.data.toList x (vL vs) = false) := ⟨by unfold fairR; rw [h8, op_more (.inr rfl) (by rw [vL, List.length_map, hn]; exact hm)]; rfl⟩
     clear hx h8 hm hn hq
     go_enter Tryz.func41, Tryz.ntmps41
     go_wp2
     go_ret
     exact ⟨by rw [HF.out]; try (first | rfl | (simp; done)), below_step HBA.out HB0.out⟩
 have e8 : (op.toList == ([108, 116] : List UInt8)) = false := by rw [hx]; simpa using h8
 have HF : Aside0 (fairR key.data.toList x (vL vs) = false) := ⟨by unfold fairR opOk; simp [h0, h1, h2, h3, h4, h5, h6, h7, h8]⟩
 clear hx hn hq h0 h1 h2 h3 h4 h5 h6 h7 h8
 go_enter Tryz.func41, Tryz.ntmps41
 go_wp2
 go_ret
 exact ⟨by rw [HF.out]; try (first | rfl | (simp; done)), below_step HBA.out HB0.out⟩
end Go.Proofs.YthfjolafikgpoaaGreatDoor.Hand
