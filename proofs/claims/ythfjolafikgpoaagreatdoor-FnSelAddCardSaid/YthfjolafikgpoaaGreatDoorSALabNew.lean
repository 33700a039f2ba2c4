/- NewRequirement: what a requirement may be. -/
import Derived.Test.YthfjolafikgpoaaGreatDoorSAM10
namespace Go.Proofs.YthfjolafikgpoaaGreatDoor.Hand
open Go.RowKit Go.Maps Go.Proofs.YthfjolafikgpoaaGreatDoorW.PrintWords Go.Proofs.YthfjolafikgpoaaGreatDoorW.PrintLast Go.Proofs.YthfjolafikgpoaaGreatDoorW.PrintMore Go.Proofs.YthfjolafikgpoaaGreatDoor.Base
set_option linter.unusedVariables false
set_option linter.unusedSimpArgs false
set_option maxRecDepth 100000
def opOk (x : L) (vs : List L) : Bool :=
 if x = [105, 110] ∨ x = [110, 111, 116, 105, 110] then !vs.isEmpty
 else if x = [61] ∨ x = [61, 61] ∨ x = [33, 61] then vs.length == 1
 else if x = [101, 120, 105, 115, 116, 115] ∨ x = [33] then vs.length == 0
 else if x = [103, 116] ∨ x = [108, 116] then (match vs with | [v] => (pint v).isSome | _ => false)
 else false
def fairR (key op : L) (vs : List L) : Bool := opOk op vs && (vs.all pValue && pQ key)
abbrev vL (vs : List ByteArray) : List L := vs.map fun p => p.data.toList
theorem one_of {vs : List ByteArray} (h : vs.length = 1) : ∃ v, vs = [v] := by
 match vs, h with
 | [v], _ => exact ⟨v, rfl⟩
theorem all_take {vs : List ByteArray} {j : Nat} {p : ByteArray} (hp : vs[j]? = some p) (h : (vL (vs.take j)).all pValue = true) (h2 : pValue p.data.toList = true) : (vL (vs.take (j + 1))).all pValue = true := by
 rw [List.take_add_one, hp]; simp only [vL, List.map_append, List.all_append] at *; rw [h]; simp [h2]
theorem all_bad {vs : List ByteArray} {j : Nat} {p : ByteArray} (hp : vs[j]? = some p) (h2 : pValue p.data.toList = false) : (vL vs).all pValue = false := by
 rw [List.all_eq_false]
 exact ⟨p.data.toList, List.mem_map.2 ⟨p, List.mem_of_getElem? hp, rfl⟩, by rw [h2]; simp⟩
theorem op_more {x : L} {vs : List L} (hx : x = [103, 116] ∨ x = [108, 116]) (h : vs.length ≠ 1) : opOk x vs = false := by
 match vs, h with
 | [], _ => rcases hx with rfl | rfl <;> rfl
 | [v], h => exact absurd rfl h
 | a :: b :: l, _ => rcases hx with rfl | rfl <;> rfl
def CondP (b : Bool) (p q : Prop) : Prop := (b = true → p) ∧ (b = false → q)
theorem condP_t {b : Bool} {p q : Prop} (hb : b = true) (h : p) : CondP b p q := ⟨fun _ => h, fun h2 => by rw [hb] at h2; cases h2⟩
theorem condP_f {b : Bool} {p q : Prop} (hb : b = false) (h : q) : CondP b p q := ⟨fun h2 => (by rw [hb] at h2; cases h2), fun _ => h⟩
set_option maxHeartbeats 16000000 in
theorem NewReq_calls (key op : ByteArray) (hk : key.size ≤ 100000000) (A : Option Addr) (c n : Nat) (vs : List ByteArray) (hn : vs.length = n) (hn2 : n ≤ 1000000) (hz : ∀ p ∈ vs, p.size ≤ 100000000) (w : World) (hC : Kd.C Kd.string w A n vs) (hT : TV w) :
   Calls Tryz.prog 82 #[.string key, .string op, .slice A n c] w fun e w' => CondP (fairR key.data.toList op.data.toList (vL vs)) (∃ b : Nat, e = .returned (.tuple #[.pointer (some ⟨b, 0, none⟩), .nilIface]) ∧ w.heap.size ≤ b ∧ w'.heap[b]? = some (.cells #[.string key, .string op, .slice A n c] 88 (0, 0))) (∃ (g : Nat), e = .returned (.tuple #[.pointer none, .iface 166 (.pointer (some ⟨g, 0, none⟩))])) ∧ Below w.heap.size w w' := by
 have HKK := Aside0.mk (vKey_calls key hk w hT)
 have HN := Aside0.mk ENew_calls
 have HC := Aside0.mk hC
 have HT := Aside0.mk hT
 have HZ := Aside0.mk hz
 have HLN := Aside0.mk hn
 obtain ⟨x, hx⟩ : ∃ x, op.toList = x := ⟨_, rfl⟩
 have hx2 : op.data.toList = x := by rw [← hx, toList_eq]
 rw [hx2]
 obtain ⟨q, hq⟩ : ∃ q, pQ key.data.toList = q := ⟨_, rfl⟩
 rw [hq] at HKK
 clear hC hT hz hx2
 cases q
 · have HF : Aside0 (fairR key.data.toList x (vL vs) = false) := ⟨by unfold fairR; rw [hq]; simp⟩
   clear hq hn
   go_enter Tryz.func82, Tryz.ntmps82
   go_wp2_with (first | ((with_reducible refine (HKK.out).mono ?_); rintro e w1 ⟨⟨g1, rfl⟩, hb⟩; have HB1 := Aside0.mk hb; clear hb HKK))
   go_ret2
   exact ⟨condP_f HF.out ⟨_, rfl⟩, HB1.out⟩
 · have HQ := Aside0.mk hq
   simp only [if_true] at HKK
   by_cases h0 : x = [105, 110]
   · have e0 : (op.toList == ([105, 110] : List UInt8)) = true := by rw [hx, h0]; rfl
     by_cases hm : n = 0
     · have m1 : ((n : Int) == 0) = true := by rw [hm]; rfl
       have HF : Aside0 (fairR key.data.toList x (vL vs) = false) := ⟨by unfold fairR; rw [h0]; have : vs = [] := List.eq_nil_of_length_eq_zero (by omega); subst this; rfl⟩
       clear hx h0 hm hn hq
       go_enter Tryz.func82, Tryz.ntmps82
       go_wp2_with (first | ((with_reducible refine (HKK.out).mono ?_); rintro e w1 ⟨rfl, hb⟩; have HB1 := Aside0.mk hb; clear hb HKK) | ((with_reducible refine (HN.out _ _).mono ?_); rintro e w2 ⟨rfl, hb⟩; have HB2 := Aside0.mk (below_step HB1.out hb); clear hb))
       go_ret2
       exact ⟨condP_f HF.out ⟨_, rfl⟩, HB2.out⟩
     · have m1 : ((n : Int) == 0) = false := by simpa using hm
       have HF : Aside0 (fairR key.data.toList x (vL vs) = (vL vs).all pValue) := ⟨by unfold fairR; rw [HQ.out, h0]; have : vs ≠ [] := fun e => hm (by rw [← hn, e]; rfl); simp [opOk, this]⟩
       clear hx h0 hm hn hq
       go_enter Tryz.func82, Tryz.ntmps82
       go_wp2_with (first | ((with_reducible refine (HKK.out).mono ?_); rintro e w1 ⟨rfl, hb⟩; have HB1 := Aside0.mk hb; clear hb HKK))
       go_loopg [69] (n) (fun k v69 w' => ∃ j : Nat, v69 = .int .i64 j ∧ Aside0 (k + j = n) ∧ Aside0 ((vL (vs.take j)).all pValue = true) ∧ Aside0 (Below w.heap.size w w'))
       case atStart => exact ⟨0, rfl, ⟨by omega⟩, ⟨rfl⟩, HB1⟩
       case round =>
        obtain ⟨j, rfl, HJ, HA, HB⟩ := hrel
        by_cases hjl : j < n
        · obtain ⟨ad, rfl, hk0⟩ := Kd.at_string (Kd.C_below HC.out HB.out) (j : Int) (by omega) (by omega)
          rw [Int.toNat_natCast] at hk0
          obtain ⟨p, hp⟩ : ∃ p, vs[j]? = some p := ⟨_, List.getElem?_eq_getElem (by rw [HLN.out]; exact hjl)⟩
          have hg : rdOf ByteArray.empty vs (j : Int) = p := by unfold rdOf; rw [Int.toNat_natCast, List.getD_eq_getElem?_getD, hp]; rfl
          rw [hg] at hk0
          have HV := Aside0.mk (vValue_calls key p (HZ.out p (List.mem_of_getElem? hp)) wr)
          cases hpv : pValue p.data.toList with
          | false =>
            have HF2 : Aside0 (fairR key.data.toList x (vL vs) = false) := ⟨by rw [HF.out]; exact all_bad hp hpv⟩
            rw [hpv] at HV
            clear hp hg hpv
            go_wp2_with (first | ((with_reducible refine (HV.out).mono ?_); rintro e w3 ⟨⟨g3, rfl⟩, hb⟩; have HB3 := Aside0.mk (below_step HB.out hb); clear hb HV))
            go_ret2
            exact ⟨condP_f HF2.out ⟨_, rfl⟩, HB3.out⟩
          | true =>
            have HA2 := Aside0.mk (all_take hp HA.out hpv)
            rw [hpv] at HV
            simp only [if_true] at HV
            clear hp hg hpv
            go_wp2_with (first | ((with_reducible refine (HV.out).mono ?_); rintro e w3 ⟨rfl, hb⟩; have HB3 := Aside0.mk (below_step HB.out hb); clear hb HV))
            go_roundg (n - (j + 1))
            case measure => have := HJ.out; omega
            case rel => exact ⟨j + 1, by go_num, ⟨by omega⟩, HA2, HB3⟩
        · have hje : j = n := by have := HJ.out; omega
          have HF2 : Aside0 (fairR key.data.toList x (vL vs) = true) := ⟨by rw [HF.out]; have := HA.out; rwa [List.take_of_length_le (by rw [HLN.out, hje]; exact Nat.le_refl _)] at this⟩
          subst hje
          have hbl := heap_alloc_new wr (.cells #[.string key, .string op, .slice A j c] 88)
          have HBL := Aside0.mk hbl
          have HB4 := Aside0.mk (below_alloc HB.out (.cells #[.string key, .string op, .slice A j c] 88))
          have HSZ := Aside0.mk HB.out.size
          clear hbl
          go_wp2
          go_ret2
          exact ⟨condP_t HF2.out ⟨_, rfl, HSZ.out, HBL.out⟩, HB4.out⟩
   have e0 : (op.toList == ([105, 110] : List UInt8)) = false := by rw [hx]; simpa using h0
   by_cases h1 : x = [110, 111, 116, 105, 110]
   · have e1 : (op.toList == ([110, 111, 116, 105, 110] : List UInt8)) = true := by rw [hx, h1]; rfl
     by_cases hm : n = 0
     · have m1 : ((n : Int) == 0) = true := by rw [hm]; rfl
       have HF : Aside0 (fairR key.data.toList x (vL vs) = false) := ⟨by unfold fairR; rw [h1]; have : vs = [] := List.eq_nil_of_length_eq_zero (by omega); subst this; rfl⟩
       clear hx h1 hm hn hq
       go_enter Tryz.func82, Tryz.ntmps82
       go_wp2_with (first | ((with_reducible refine (HKK.out).mono ?_); rintro e w1 ⟨rfl, hb⟩; have HB1 := Aside0.mk hb; clear hb HKK) | ((with_reducible refine (HN.out _ _).mono ?_); rintro e w2 ⟨rfl, hb⟩; have HB2 := Aside0.mk (below_step HB1.out hb); clear hb))
       go_ret2
       exact ⟨condP_f HF.out ⟨_, rfl⟩, HB2.out⟩
     · have m1 : ((n : Int) == 0) = false := by simpa using hm
       have HF : Aside0 (fairR key.data.toList x (vL vs) = (vL vs).all pValue) := ⟨by unfold fairR; rw [HQ.out, h1]; have : vs ≠ [] := fun e => hm (by rw [← hn, e]; rfl); simp [opOk, this]⟩
       clear hx h1 hm hn hq
       go_enter Tryz.func82, Tryz.ntmps82
       go_wp2_with (first | ((with_reducible refine (HKK.out).mono ?_); rintro e w1 ⟨rfl, hb⟩; have HB1 := Aside0.mk hb; clear hb HKK))
       go_loopg [69] (n) (fun k v69 w' => ∃ j : Nat, v69 = .int .i64 j ∧ Aside0 (k + j = n) ∧ Aside0 ((vL (vs.take j)).all pValue = true) ∧ Aside0 (Below w.heap.size w w'))
       case atStart => exact ⟨0, rfl, ⟨by omega⟩, ⟨rfl⟩, HB1⟩
       case round =>
        obtain ⟨j, rfl, HJ, HA, HB⟩ := hrel
        by_cases hjl : j < n
        · obtain ⟨ad, rfl, hk0⟩ := Kd.at_string (Kd.C_below HC.out HB.out) (j : Int) (by omega) (by omega)
          rw [Int.toNat_natCast] at hk0
          obtain ⟨p, hp⟩ : ∃ p, vs[j]? = some p := ⟨_, List.getElem?_eq_getElem (by rw [HLN.out]; exact hjl)⟩
          have hg : rdOf ByteArray.empty vs (j : Int) = p := by unfold rdOf; rw [Int.toNat_natCast, List.getD_eq_getElem?_getD, hp]; rfl
          rw [hg] at hk0
          have HV := Aside0.mk (vValue_calls key p (HZ.out p (List.mem_of_getElem? hp)) wr)
          cases hpv : pValue p.data.toList with
          | false =>
            have HF2 : Aside0 (fairR key.data.toList x (vL vs) = false) := ⟨by rw [HF.out]; exact all_bad hp hpv⟩
            rw [hpv] at HV
            clear hp hg hpv
            go_wp2_with (first | ((with_reducible refine (HV.out).mono ?_); rintro e w3 ⟨⟨g3, rfl⟩, hb⟩; have HB3 := Aside0.mk (below_step HB.out hb); clear hb HV))
            go_ret2
            exact ⟨condP_f HF2.out ⟨_, rfl⟩, HB3.out⟩
          | true =>
            have HA2 := Aside0.mk (all_take hp HA.out hpv)
            rw [hpv] at HV
            simp only [if_true] at HV
            clear hp hg hpv
            go_wp2_with (first | ((with_reducible refine (HV.out).mono ?_); rintro e w3 ⟨rfl, hb⟩; have HB3 := Aside0.mk (below_step HB.out hb); clear hb HV))
            go_roundg (n - (j + 1))
            case measure => have := HJ.out; omega
            case rel => exact ⟨j + 1, by go_num, ⟨by omega⟩, HA2, HB3⟩
        · have hje : j = n := by have := HJ.out; omega
          have HF2 : Aside0 (fairR key.data.toList x (vL vs) = true) := ⟨by rw [HF.out]; have := HA.out; rwa [List.take_of_length_le (by rw [HLN.out, hje]; exact Nat.le_refl _)] at this⟩
          subst hje
          have hbl := heap_alloc_new wr (.cells #[.string key, .string op, .slice A j c] 88)
          have HBL := Aside0.mk hbl
          have HB4 := Aside0.mk (below_alloc HB.out (.cells #[.string key, .string op, .slice A j c] 88))
          have HSZ := Aside0.mk HB.out.size
          clear hbl
          go_wp2
          go_ret2
          exact ⟨condP_t HF2.out ⟨_, rfl, HSZ.out, HBL.out⟩, HB4.out⟩
   have e1 : (op.toList == ([110, 111, 116, 105, 110] : List UInt8)) = false := by rw [hx]; simpa using h1
   by_cases h2 : x = [61]
   · have e2 : (op.toList == ([61] : List UInt8)) = true := by rw [hx, h2]; rfl
     by_cases hm : n = 1
     · have m1 : ((n : Int) != 1) = false := by rw [hm]; rfl
       have HF : Aside0 (fairR key.data.toList x (vL vs) = (vL vs).all pValue) := ⟨by unfold fairR; rw [HQ.out, h2]; simp [opOk, hn, hm]⟩
       clear hx h2 hm hn hq
       go_enter Tryz.func82, Tryz.ntmps82
       go_wp2_with (first | ((with_reducible refine (HKK.out).mono ?_); rintro e w1 ⟨rfl, hb⟩; have HB1 := Aside0.mk hb; clear hb HKK))
       go_loopg [69] (n) (fun k v69 w' => ∃ j : Nat, v69 = .int .i64 j ∧ Aside0 (k + j = n) ∧ Aside0 ((vL (vs.take j)).all pValue = true) ∧ Aside0 (Below w.heap.size w w'))
       case atStart => exact ⟨0, rfl, ⟨by omega⟩, ⟨rfl⟩, HB1⟩
       case round =>
        obtain ⟨j, rfl, HJ, HA, HB⟩ := hrel
        by_cases hjl : j < n
        · obtain ⟨ad, rfl, hk0⟩ := Kd.at_string (Kd.C_below HC.out HB.out) (j : Int) (by omega) (by omega)
          rw [Int.toNat_natCast] at hk0
          obtain ⟨p, hp⟩ : ∃ p, vs[j]? = some p := ⟨_, List.getElem?_eq_getElem (by rw [HLN.out]; exact hjl)⟩
          have hg : rdOf ByteArray.empty vs (j : Int) = p := by unfold rdOf; rw [Int.toNat_natCast, List.getD_eq_getElem?_getD, hp]; rfl
          rw [hg] at hk0
          have HV := Aside0.mk (vValue_calls key p (HZ.out p (List.mem_of_getElem? hp)) wr)
          cases hpv : pValue p.data.toList with
          | false =>
            have HF2 : Aside0 (fairR key.data.toList x (vL vs) = false) := ⟨by rw [HF.out]; exact all_bad hp hpv⟩
            rw [hpv] at HV
            clear hp hg hpv
            go_wp2_with (first | ((with_reducible refine (HV.out).mono ?_); rintro e w3 ⟨⟨g3, rfl⟩, hb⟩; have HB3 := Aside0.mk (below_step HB.out hb); clear hb HV))
            go_ret2
            exact ⟨condP_f HF2.out ⟨_, rfl⟩, HB3.out⟩
          | true =>
            have HA2 := Aside0.mk (all_take hp HA.out hpv)
            rw [hpv] at HV
            simp only [if_true] at HV
            clear hp hg hpv
            go_wp2_with (first | ((with_reducible refine (HV.out).mono ?_); rintro e w3 ⟨rfl, hb⟩; have HB3 := Aside0.mk (below_step HB.out hb); clear hb HV))
            go_roundg (n - (j + 1))
            case measure => have := HJ.out; omega
            case rel => exact ⟨j + 1, by go_num, ⟨by omega⟩, HA2, HB3⟩
        · have hje : j = n := by have := HJ.out; omega
          have HF2 : Aside0 (fairR key.data.toList x (vL vs) = true) := ⟨by rw [HF.out]; have := HA.out; rwa [List.take_of_length_le (by rw [HLN.out, hje]; exact Nat.le_refl _)] at this⟩
          subst hje
          have hbl := heap_alloc_new wr (.cells #[.string key, .string op, .slice A j c] 88)
          have HBL := Aside0.mk hbl
          have HB4 := Aside0.mk (below_alloc HB.out (.cells #[.string key, .string op, .slice A j c] 88))
          have HSZ := Aside0.mk HB.out.size
          clear hbl
          go_wp2
          go_ret2
          exact ⟨condP_t HF2.out ⟨_, rfl, HSZ.out, HBL.out⟩, HB4.out⟩
     · have m1 : ((n : Int) != 1) = true := by simpa using (show ¬ (n : Int) = 1 by omega)
       have HF : Aside0 (fairR key.data.toList x (vL vs) = false) := ⟨by unfold fairR; rw [h2]; simp [opOk, hn, hm]⟩
       clear hx h2 hm hn hq
       go_enter Tryz.func82, Tryz.ntmps82
       go_wp2_with (first | ((with_reducible refine (HKK.out).mono ?_); rintro e w1 ⟨rfl, hb⟩; have HB1 := Aside0.mk hb; clear hb HKK) | ((with_reducible refine (HN.out _ _).mono ?_); rintro e w2 ⟨rfl, hb⟩; have HB2 := Aside0.mk (below_step HB1.out hb); clear hb))
       go_ret2
       exact ⟨condP_f HF.out ⟨_, rfl⟩, HB2.out⟩
   have e2 : (op.toList == ([61] : List UInt8)) = false := by rw [hx]; simpa using h2
   by_cases h3 : x = [61, 61]
   · have e3 : (op.toList == ([61, 61] : List UInt8)) = true := by rw [hx, h3]; rfl
     by_cases hm : n = 1
     · have m1 : ((n : Int) != 1) = false := by rw [hm]; rfl
       have HF : Aside0 (fairR key.data.toList x (vL vs) = (vL vs).all pValue) := ⟨by unfold fairR; rw [HQ.out, h3]; simp [opOk, hn, hm]⟩
       clear hx h3 hm hn hq
       go_enter Tryz.func82, Tryz.ntmps82
       go_wp2_with (first | ((with_reducible refine (HKK.out).mono ?_); rintro e w1 ⟨rfl, hb⟩; have HB1 := Aside0.mk hb; clear hb HKK))
       go_loopg [69] (n) (fun k v69 w' => ∃ j : Nat, v69 = .int .i64 j ∧ Aside0 (k + j = n) ∧ Aside0 ((vL (vs.take j)).all pValue = true) ∧ Aside0 (Below w.heap.size w w'))
       case atStart => exact ⟨0, rfl, ⟨by omega⟩, ⟨rfl⟩, HB1⟩
       case round =>
        obtain ⟨j, rfl, HJ, HA, HB⟩ := hrel
        by_cases hjl : j < n
        · obtain ⟨ad, rfl, hk0⟩ := Kd.at_string (Kd.C_below HC.out HB.out) (j : Int) (by omega) (by omega)
          rw [Int.toNat_natCast] at hk0
          obtain ⟨p, hp⟩ : ∃ p, vs[j]? = some p := ⟨_, List.getElem?_eq_getElem (by rw [HLN.out]; exact hjl)⟩
          have hg : rdOf ByteArray.empty vs (j : Int) = p := by unfold rdOf; rw [Int.toNat_natCast, List.getD_eq_getElem?_getD, hp]; rfl
          rw [hg] at hk0
          have HV := Aside0.mk (vValue_calls key p (HZ.out p (List.mem_of_getElem? hp)) wr)
          cases hpv : pValue p.data.toList with
          | false =>
            have HF2 : Aside0 (fairR key.data.toList x (vL vs) = false) := ⟨by rw [HF.out]; exact all_bad hp hpv⟩
            rw [hpv] at HV
            clear hp hg hpv
            go_wp2_with (first | ((with_reducible refine (HV.out).mono ?_); rintro e w3 ⟨⟨g3, rfl⟩, hb⟩; have HB3 := Aside0.mk (below_step HB.out hb); clear hb HV))
            go_ret2
            exact ⟨condP_f HF2.out ⟨_, rfl⟩, HB3.out⟩
          | true =>
            have HA2 := Aside0.mk (all_take hp HA.out hpv)
            rw [hpv] at HV
            simp only [if_true] at HV
            clear hp hg hpv
            go_wp2_with (first | ((with_reducible refine (HV.out).mono ?_); rintro e w3 ⟨rfl, hb⟩; have HB3 := Aside0.mk (below_step HB.out hb); clear hb HV))
            go_roundg (n - (j + 1))
            case measure => have := HJ.out; omega
            case rel => exact ⟨j + 1, by go_num, ⟨by omega⟩, HA2, HB3⟩
        · have hje : j = n := by have := HJ.out; omega
          have HF2 : Aside0 (fairR key.data.toList x (vL vs) = true) := ⟨by rw [HF.out]; have := HA.out; rwa [List.take_of_length_le (by rw [HLN.out, hje]; exact Nat.le_refl _)] at this⟩
          subst hje
          have hbl := heap_alloc_new wr (.cells #[.string key, .string op, .slice A j c] 88)
          have HBL := Aside0.mk hbl
          have HB4 := Aside0.mk (below_alloc HB.out (.cells #[.string key, .string op, .slice A j c] 88))
          have HSZ := Aside0.mk HB.out.size
          clear hbl
          go_wp2
          go_ret2
          exact ⟨condP_t HF2.out ⟨_, rfl, HSZ.out, HBL.out⟩, HB4.out⟩
     · have m1 : ((n : Int) != 1) = true := by simpa using (show ¬ (n : Int) = 1 by omega)
       have HF : Aside0 (fairR key.data.toList x (vL vs) = false) := ⟨by unfold fairR; rw [h3]; simp [opOk, hn, hm]⟩
       clear hx h3 hm hn hq
       go_enter Tryz.func82, Tryz.ntmps82
       go_wp2_with (first | ((with_reducible refine (HKK.out).mono ?_); rintro e w1 ⟨rfl, hb⟩; have HB1 := Aside0.mk hb; clear hb HKK) | ((with_reducible refine (HN.out _ _).mono ?_); rintro e w2 ⟨rfl, hb⟩; have HB2 := Aside0.mk (below_step HB1.out hb); clear hb))
       go_ret2
       exact ⟨condP_f HF.out ⟨_, rfl⟩, HB2.out⟩
   have e3 : (op.toList == ([61, 61] : List UInt8)) = false := by rw [hx]; simpa using h3
   by_cases h4 : x = [33, 61]
   · have e4 : (op.toList == ([33, 61] : List UInt8)) = true := by rw [hx, h4]; rfl
     by_cases hm : n = 1
     · have m1 : ((n : Int) != 1) = false := by rw [hm]; rfl
       have HF : Aside0 (fairR key.data.toList x (vL vs) = (vL vs).all pValue) := ⟨by unfold fairR; rw [HQ.out, h4]; simp [opOk, hn, hm]⟩
       clear hx h4 hm hn hq
       go_enter Tryz.func82, Tryz.ntmps82
       go_wp2_with (first | ((with_reducible refine (HKK.out).mono ?_); rintro e w1 ⟨rfl, hb⟩; have HB1 := Aside0.mk hb; clear hb HKK))
       go_loopg [69] (n) (fun k v69 w' => ∃ j : Nat, v69 = .int .i64 j ∧ Aside0 (k + j = n) ∧ Aside0 ((vL (vs.take j)).all pValue = true) ∧ Aside0 (Below w.heap.size w w'))
       case atStart => exact ⟨0, rfl, ⟨by omega⟩, ⟨rfl⟩, HB1⟩
       case round =>
        obtain ⟨j, rfl, HJ, HA, HB⟩ := hrel
        by_cases hjl : j < n
        · obtain ⟨ad, rfl, hk0⟩ := Kd.at_string (Kd.C_below HC.out HB.out) (j : Int) (by omega) (by omega)
          rw [Int.toNat_natCast] at hk0
          obtain ⟨p, hp⟩ : ∃ p, vs[j]? = some p := ⟨_, List.getElem?_eq_getElem (by rw [HLN.out]; exact hjl)⟩
          have hg : rdOf ByteArray.empty vs (j : Int) = p := by unfold rdOf; rw [Int.toNat_natCast, List.getD_eq_getElem?_getD, hp]; rfl
          rw [hg] at hk0
          have HV := Aside0.mk (vValue_calls key p (HZ.out p (List.mem_of_getElem? hp)) wr)
          cases hpv : pValue p.data.toList with
          | false =>
            have HF2 : Aside0 (fairR key.data.toList x (vL vs) = false) := ⟨by rw [HF.out]; exact all_bad hp hpv⟩
            rw [hpv] at HV
            clear hp hg hpv
            go_wp2_with (first | ((with_reducible refine (HV.out).mono ?_); rintro e w3 ⟨⟨g3, rfl⟩, hb⟩; have HB3 := Aside0.mk (below_step HB.out hb); clear hb HV))
            go_ret2
            exact ⟨condP_f HF2.out ⟨_, rfl⟩, HB3.out⟩
          | true =>
            have HA2 := Aside0.mk (all_take hp HA.out hpv)
            rw [hpv] at HV
            simp only [if_true] at HV
            clear hp hg hpv
            go_wp2_with (first | ((with_reducible refine (HV.out).mono ?_); rintro e w3 ⟨rfl, hb⟩; have HB3 := Aside0.mk (below_step HB.out hb); clear hb HV))
            go_roundg (n - (j + 1))
            case measure => have := HJ.out; omega
            case rel => exact ⟨j + 1, by go_num, ⟨by omega⟩, HA2, HB3⟩
        · have hje : j = n := by have := HJ.out; omega
          have HF2 : Aside0 (fairR key.data.toList x (vL vs) = true) := ⟨by rw [HF.out]; have := HA.out; rwa [List.take_of_length_le (by rw [HLN.out, hje]; exact Nat.le_refl _)] at this⟩
          subst hje
          have hbl := heap_alloc_new wr (.cells #[.string key, .string op, .slice A j c] 88)
          have HBL := Aside0.mk hbl
          have HB4 := Aside0.mk (below_alloc HB.out (.cells #[.string key, .string op, .slice A j c] 88))
          have HSZ := Aside0.mk HB.out.size
          clear hbl
          go_wp2
          go_ret2
          exact ⟨condP_t HF2.out ⟨_, rfl, HSZ.out, HBL.out⟩, HB4.out⟩
     · have m1 : ((n : Int) != 1) = true := by simpa using (show ¬ (n : Int) = 1 by omega)
       have HF : Aside0 (fairR key.data.toList x (vL vs) = false) := ⟨by unfold fairR; rw [h4]; simp [opOk, hn, hm]⟩
       clear hx h4 hm hn hq
       go_enter Tryz.func82, Tryz.ntmps82
       go_wp2_with (first | ((with_reducible refine (HKK.out).mono ?_); rintro e w1 ⟨rfl, hb⟩; have HB1 := Aside0.mk hb; clear hb HKK) | ((with_reducible refine (HN.out _ _).mono ?_); rintro e w2 ⟨rfl, hb⟩; have HB2 := Aside0.mk (below_step HB1.out hb); clear hb))
       go_ret2
       exact ⟨condP_f HF.out ⟨_, rfl⟩, HB2.out⟩
   have e4 : (op.toList == ([33, 61] : List UInt8)) = false := by rw [hx]; simpa using h4
   by_cases h5 : x = [101, 120, 105, 115, 116, 115]
   · have e5 : (op.toList == ([101, 120, 105, 115, 116, 115] : List UInt8)) = true := by rw [hx, h5]; rfl
     by_cases hm : n = 0
     · have m1 : ((n : Int) != 0) = false := by rw [hm]; rfl
       have HF : Aside0 (fairR key.data.toList x (vL vs) = (vL vs).all pValue) := ⟨by unfold fairR; rw [HQ.out, h5]; simp [opOk, hn, hm]⟩
       clear hx h5 hm hn hq
       go_enter Tryz.func82, Tryz.ntmps82
       go_wp2_with (first | ((with_reducible refine (HKK.out).mono ?_); rintro e w1 ⟨rfl, hb⟩; have HB1 := Aside0.mk hb; clear hb HKK))
       go_loopg [69] (n) (fun k v69 w' => ∃ j : Nat, v69 = .int .i64 j ∧ Aside0 (k + j = n) ∧ Aside0 ((vL (vs.take j)).all pValue = true) ∧ Aside0 (Below w.heap.size w w'))
       case atStart => exact ⟨0, rfl, ⟨by omega⟩, ⟨rfl⟩, HB1⟩
       case round =>
        obtain ⟨j, rfl, HJ, HA, HB⟩ := hrel
        by_cases hjl : j < n
        · obtain ⟨ad, rfl, hk0⟩ := Kd.at_string (Kd.C_below HC.out HB.out) (j : Int) (by omega) (by omega)
          rw [Int.toNat_natCast] at hk0
          obtain ⟨p, hp⟩ : ∃ p, vs[j]? = some p := ⟨_, List.getElem?_eq_getElem (by rw [HLN.out]; exact hjl)⟩
          have hg : rdOf ByteArray.empty vs (j : Int) = p := by unfold rdOf; rw [Int.toNat_natCast, List.getD_eq_getElem?_getD, hp]; rfl
          rw [hg] at hk0
          have HV := Aside0.mk (vValue_calls key p (HZ.out p (List.mem_of_getElem? hp)) wr)
          cases hpv : pValue p.data.toList with
          | false =>
            have HF2 : Aside0 (fairR key.data.toList x (vL vs) = false) := ⟨by rw [HF.out]; exact all_bad hp hpv⟩
            rw [hpv] at HV
            clear hp hg hpv
            go_wp2_with (first | ((with_reducible refine (HV.out).mono ?_); rintro e w3 ⟨⟨g3, rfl⟩, hb⟩; have HB3 := Aside0.mk (below_step HB.out hb); clear hb HV))
            go_ret2
            exact ⟨condP_f HF2.out ⟨_, rfl⟩, HB3.out⟩
          | true =>
            have HA2 := Aside0.mk (all_take hp HA.out hpv)
            rw [hpv] at HV
            simp only [if_true] at HV
            clear hp hg hpv
            go_wp2_with (first | ((with_reducible refine (HV.out).mono ?_); rintro e w3 ⟨rfl, hb⟩; have HB3 := Aside0.mk (below_step HB.out hb); clear hb HV))
            go_roundg (n - (j + 1))
            case measure => have := HJ.out; omega
            case rel => exact ⟨j + 1, by go_num, ⟨by omega⟩, HA2, HB3⟩
        · have hje : j = n := by have := HJ.out; omega
          have HF2 : Aside0 (fairR key.data.toList x (vL vs) = true) := ⟨by rw [HF.out]; have := HA.out; rwa [List.take_of_length_le (by rw [HLN.out, hje]; exact Nat.le_refl _)] at this⟩
          subst hje
          have hbl := heap_alloc_new wr (.cells #[.string key, .string op, .slice A j c] 88)
          have HBL := Aside0.mk hbl
          have HB4 := Aside0.mk (below_alloc HB.out (.cells #[.string key, .string op, .slice A j c] 88))
          have HSZ := Aside0.mk HB.out.size
          clear hbl
          go_wp2
          go_ret2
          exact ⟨condP_t HF2.out ⟨_, rfl, HSZ.out, HBL.out⟩, HB4.out⟩
     · have m1 : ((n : Int) != 0) = true := by simpa using (show ¬ (n : Int) = 0 by omega)
       have HF : Aside0 (fairR key.data.toList x (vL vs) = false) := ⟨by unfold fairR; rw [h5]; have hm0 : ¬ vs.length = 0 := (by omega); simp [opOk]; intro h; exact absurd (by rw [h]; rfl) hm0⟩
       clear hx h5 hm hn hq
       go_enter Tryz.func82, Tryz.ntmps82
       go_wp2_with (first | ((with_reducible refine (HKK.out).mono ?_); rintro e w1 ⟨rfl, hb⟩; have HB1 := Aside0.mk hb; clear hb HKK) | ((with_reducible refine (HN.out _ _).mono ?_); rintro e w2 ⟨rfl, hb⟩; have HB2 := Aside0.mk (below_step HB1.out hb); clear hb))
       go_ret2
       exact ⟨condP_f HF.out ⟨_, rfl⟩, HB2.out⟩
   have e5 : (op.toList == ([101, 120, 105, 115, 116, 115] : List UInt8)) = false := by rw [hx]; simpa using h5
   by_cases h6 : x = [33]
   · have e6 : (op.toList == ([33] : List UInt8)) = true := by rw [hx, h6]; rfl
     by_cases hm : n = 0
     · have m1 : ((n : Int) != 0) = false := by rw [hm]; rfl
       have HF : Aside0 (fairR key.data.toList x (vL vs) = (vL vs).all pValue) := ⟨by unfold fairR; rw [HQ.out, h6]; simp [opOk, hn, hm]⟩
       clear hx h6 hm hn hq
       go_enter Tryz.func82, Tryz.ntmps82
       go_wp2_with (first | ((with_reducible refine (HKK.out).mono ?_); rintro e w1 ⟨rfl, hb⟩; have HB1 := Aside0.mk hb; clear hb HKK))
       go_loopg [69] (n) (fun k v69 w' => ∃ j : Nat, v69 = .int .i64 j ∧ Aside0 (k + j = n) ∧ Aside0 ((vL (vs.take j)).all pValue = true) ∧ Aside0 (Below w.heap.size w w'))
       case atStart => exact ⟨0, rfl, ⟨by omega⟩, ⟨rfl⟩, HB1⟩
       case round =>
        obtain ⟨j, rfl, HJ, HA, HB⟩ := hrel
        by_cases hjl : j < n
        · obtain ⟨ad, rfl, hk0⟩ := Kd.at_string (Kd.C_below HC.out HB.out) (j : Int) (by omega) (by omega)
          rw [Int.toNat_natCast] at hk0
          obtain ⟨p, hp⟩ : ∃ p, vs[j]? = some p := ⟨_, List.getElem?_eq_getElem (by rw [HLN.out]; exact hjl)⟩
          have hg : rdOf ByteArray.empty vs (j : Int) = p := by unfold rdOf; rw [Int.toNat_natCast, List.getD_eq_getElem?_getD, hp]; rfl
          rw [hg] at hk0
          have HV := Aside0.mk (vValue_calls key p (HZ.out p (List.mem_of_getElem? hp)) wr)
          cases hpv : pValue p.data.toList with
          | false =>
            have HF2 : Aside0 (fairR key.data.toList x (vL vs) = false) := ⟨by rw [HF.out]; exact all_bad hp hpv⟩
            rw [hpv] at HV
            clear hp hg hpv
            go_wp2_with (first | ((with_reducible refine (HV.out).mono ?_); rintro e w3 ⟨⟨g3, rfl⟩, hb⟩; have HB3 := Aside0.mk (below_step HB.out hb); clear hb HV))
            go_ret2
            exact ⟨condP_f HF2.out ⟨_, rfl⟩, HB3.out⟩
          | true =>
            have HA2 := Aside0.mk (all_take hp HA.out hpv)
            rw [hpv] at HV
            simp only [if_true] at HV
            clear hp hg hpv
            go_wp2_with (first | ((with_reducible refine (HV.out).mono ?_); rintro e w3 ⟨rfl, hb⟩; have HB3 := Aside0.mk (below_step HB.out hb); clear hb HV))
            go_roundg (n - (j + 1))
            case measure => have := HJ.out; omega
            case rel => exact ⟨j + 1, by go_num, ⟨by omega⟩, HA2, HB3⟩
        · have hje : j = n := by have := HJ.out; omega
          have HF2 : Aside0 (fairR key.data.toList x (vL vs) = true) := ⟨by rw [HF.out]; have := HA.out; rwa [List.take_of_length_le (by rw [HLN.out, hje]; exact Nat.le_refl _)] at this⟩
          subst hje
          have hbl := heap_alloc_new wr (.cells #[.string key, .string op, .slice A j c] 88)
          have HBL := Aside0.mk hbl
          have HB4 := Aside0.mk (below_alloc HB.out (.cells #[.string key, .string op, .slice A j c] 88))
          have HSZ := Aside0.mk HB.out.size
          clear hbl
          go_wp2
          go_ret2
          exact ⟨condP_t HF2.out ⟨_, rfl, HSZ.out, HBL.out⟩, HB4.out⟩
     · have m1 : ((n : Int) != 0) = true := by simpa using (show ¬ (n : Int) = 0 by omega)
       have HF : Aside0 (fairR key.data.toList x (vL vs) = false) := ⟨by unfold fairR; rw [h6]; have hm0 : ¬ vs.length = 0 := (by omega); simp [opOk]; intro h; exact absurd (by rw [h]; rfl) hm0⟩
       clear hx h6 hm hn hq
       go_enter Tryz.func82, Tryz.ntmps82
       go_wp2_with (first | ((with_reducible refine (HKK.out).mono ?_); rintro e w1 ⟨rfl, hb⟩; have HB1 := Aside0.mk hb; clear hb HKK) | ((with_reducible refine (HN.out _ _).mono ?_); rintro e w2 ⟨rfl, hb⟩; have HB2 := Aside0.mk (below_step HB1.out hb); clear hb))
       go_ret2
       exact ⟨condP_f HF.out ⟨_, rfl⟩, HB2.out⟩
   have e6 : (op.toList == ([33] : List UInt8)) = false := by rw [hx]; simpa using h6
   by_cases h7 : x = [103, 116]
   · have e7 : (op.toList == ([103, 116] : List UInt8)) = true := by rw [hx, h7]; rfl
     by_cases hm : n = 1
     · have m1 : ((n : Int) != 1) = false := by rw [hm]; rfl
       obtain ⟨v, hv⟩ := one_of (hn.trans hm)
       obtain ⟨ad, hA, hk0⟩ := Kd.at_string HC.out 0 (by omega) (by omega)
       rw [hv] at hk0
       have hk1 : w.cell? ad = some (.string v) := by rw [show (0 : Int).toNat = 0 from rfl, add0] at hk0; exact hk0
       have HK1 := Aside0.mk hk1
       have hlt := World.block_lt_of_cell? w _ hk1
       have HLT := Aside0.mk hlt
       have hvz : v.size ≤ 2147483647 := by have := HZ.out v (by rw [hv]; simp); omega
       subst hA
       have HPB := Aside0.mk (fun (h : pint v.data.toList = none) (W : World) (hb : Below w.heap.size w W) => pint_bad v hvz h W (HT.out.below hb))
       have HPO := Aside0.mk (fun (i : Int) (h : pint v.data.toList = some i) (W : World) => pint_ok v hvz i h W)
       cases hp : pint v.data.toList with
       | none =>
         have HF : Aside0 (fairR key.data.toList x (vL vs) = false) := ⟨by unfold fairR; rw [h7, hv]; simp [opOk, vL, hp]⟩
         have HP := Aside0.mk (HPB.out hp)
         clear hx h7 hq hp HPO HPB hk0 hk1 hlt hn
         subst hm
         go_enter Tryz.func82, Tryz.ntmps82
         go_wp2_with (first | ((with_reducible refine (HKK.out).mono ?_); rintro e w1 ⟨rfl, hb⟩; have HB1 := Aside0.mk hb; clear hb HKK))
         go_loopg [52] (1) (fun k v52 w' => ∃ j : Nat, v52 = .int .i64 j ∧ Aside0 (k + j = 1 ∧ j = 0) ∧ Aside0 (Below w.heap.size w w'))
         case atStart => exact ⟨0, rfl, ⟨by omega⟩, HB1⟩
         case round =>
          obtain ⟨j, rfl, HJ, HB⟩ := hrel
          obtain ⟨_, rfl⟩ := HJ.out
          have hk2 : wr.cell? ad = some (.string v) := (HB.out.cell HLT.out).trans HK1.out
          go_wp2_with (first | ((with_reducible refine (HP.out _ HB.out).mono ?_); rintro e w2 ⟨i, g, rfl, hb⟩; have HB2 := Aside0.mk (below_step HB.out hb); clear hb) | ((with_reducible refine (HN.out _ _).mono ?_); rintro e w2 ⟨rfl, hb⟩; have HB3 := Aside0.mk (below_step HB2.out hb); clear hb))
          go_ret2
          exact ⟨condP_f HF.out ⟨_, rfl⟩, HB3.out⟩
       | some i =>
         have HF : Aside0 (fairR key.data.toList x (vL vs) = (vL vs).all pValue) := ⟨by unfold fairR; rw [HQ.out, h7, hv]; simp [opOk, vL, hp]⟩
         have HP := Aside0.mk (HPO.out i hp)
         clear hx h7 hq hp HPO HPB hk0 hk1 hlt hn
         subst hm
         go_enter Tryz.func82, Tryz.ntmps82
         go_wp2_with (first | ((with_reducible refine (HKK.out).mono ?_); rintro e w1 ⟨rfl, hb⟩; have HB1 := Aside0.mk hb; clear hb HKK))
         go_loopg [52] (1) (fun k v52 w' => ∃ j : Nat, v52 = .int .i64 j ∧ Aside0 (k + j = 1) ∧ Aside0 (Below w.heap.size w w'))
         case atStart => exact ⟨0, rfl, ⟨by omega⟩, HB1⟩
         case round =>
          obtain ⟨j, rfl, HJ, HB⟩ := hrel
          by_cases hj0 : j = 0
          · subst hj0
            have hk2 : wr.cell? ad = some (.string v) := (HB.out.cell HLT.out).trans HK1.out
            go_wp2_with (first | ((with_reducible refine (HP.out _).mono ?_); rintro e w2 ⟨rfl, hb⟩; have HB2 := Aside0.mk (below_step HB.out hb); clear hb))
            go_roundg (0)
            case measure => have := HJ.out; omega
            case rel => exact ⟨1, by go_num, ⟨by omega⟩, HB2⟩
          · obtain rfl : j = 1 := by have := HJ.out; omega
            have HBX := Aside0.mk HB.out
            clear HB
            go_wp2
            generalize gk = go at *
            go_loopg [69] (1) (fun k v69 w' => ∃ j : Nat, v69 = .int .i64 j ∧ Aside0 (k + j = 1) ∧ Aside0 ((vL (vs.take j)).all pValue = true) ∧ Aside0 (Below w.heap.size w w'))
            case atStart => exact ⟨0, rfl, ⟨by omega⟩, ⟨rfl⟩, HBX⟩
            case round =>
             obtain ⟨j, rfl, HJ, HA, HB⟩ := hrel
             by_cases hjl : j < 1
             · obtain ⟨ad2, had, hk0⟩ := Kd.at_string (Kd.C_below HC.out HB.out) (j : Int) (by omega) (by omega)
               rw [Int.toNat_natCast] at hk0; injection had with had; subst had
               obtain ⟨p, hp⟩ : ∃ p, vs[j]? = some p := ⟨_, List.getElem?_eq_getElem (by rw [HLN.out]; exact hjl)⟩
               have hg : rdOf ByteArray.empty vs (j : Int) = p := by unfold rdOf; rw [Int.toNat_natCast, List.getD_eq_getElem?_getD, hp]; rfl
               rw [hg] at hk0
               have HV := Aside0.mk (vValue_calls key p (HZ.out p (List.mem_of_getElem? hp)) wr)
               cases hpv : pValue p.data.toList with
               | false =>
                 have HF2 : Aside0 (fairR key.data.toList x (vL vs) = false) := ⟨by rw [HF.out]; exact all_bad hp hpv⟩
                 rw [hpv] at HV
                 clear hp hg hpv
                 go_wp2_with (first | ((with_reducible refine (HV.out).mono ?_); rintro e w3 ⟨⟨g3, rfl⟩, hb⟩; have HB3 := Aside0.mk (below_step HB.out hb); clear hb HV))
                 go_ret2
                 exact ⟨condP_f HF2.out ⟨_, rfl⟩, HB3.out⟩
               | true =>
                 have HA2 := Aside0.mk (all_take hp HA.out hpv)
                 rw [hpv] at HV
                 simp only [if_true] at HV
                 clear hp hg hpv
                 go_wp2_with (first | ((with_reducible refine (HV.out).mono ?_); rintro e w3 ⟨rfl, hb⟩; have HB3 := Aside0.mk (below_step HB.out hb); clear hb HV))
                 go_roundg (1 - (j + 1))
                 case measure => have := HJ.out; omega
                 case rel => exact ⟨j + 1, by go_num, ⟨by omega⟩, HA2, HB3⟩
             · have hje : j = 1 := by have := HJ.out; omega
               have HF2 : Aside0 (fairR key.data.toList x (vL vs) = true) := ⟨by rw [HF.out]; have := HA.out; rwa [List.take_of_length_le (by rw [HLN.out, hje]; exact Nat.le_refl _)] at this⟩
               subst hje
               have hbl := heap_alloc_new wr (.cells #[.string key, .string op, .slice (some ad) 1 c] 88)
               have HBL := Aside0.mk hbl
               have HB4 := Aside0.mk (below_alloc HB.out (.cells #[.string key, .string op, .slice (some ad) 1 c] 88))
               have HSZ := Aside0.mk HB.out.size
               clear hbl
               go_wp2
               go_ret2
               exact ⟨condP_t HF2.out ⟨_, rfl, HSZ.out, HBL.out⟩, HB4.out⟩
     · have m1 : ((n : Int) != 1) = true := by simpa using (show ¬ (n : Int) = 1 by omega)
       have HF : Aside0 (fairR key.data.toList x (vL vs) = false) := ⟨by unfold fairR; rw [h7, op_more (.inl rfl) (by rw [vL, List.length_map, hn]; exact hm)]; rfl⟩
       clear hx h7 hm hn hq
       go_enter Tryz.func82, Tryz.ntmps82
       go_wp2_with (first | ((with_reducible refine (HKK.out).mono ?_); rintro e w1 ⟨rfl, hb⟩; have HB1 := Aside0.mk hb; clear hb HKK) | ((with_reducible refine (HN.out _ _).mono ?_); rintro e w2 ⟨rfl, hb⟩; have HB2 := Aside0.mk (below_step HB1.out hb); clear hb))
       go_ret2
       exact ⟨condP_f HF.out ⟨_, rfl⟩, HB2.out⟩
   have e7 : (op.toList == ([103, 116] : List UInt8)) = false := by rw [hx]; simpa using h7
   by_cases h8 : x = [108, 116]
   · have e8 : (op.toList == ([108, 116] : List UInt8)) = true := by rw [hx, h8]; rfl
     by_cases hm : n = 1
     · have m1 : ((n : Int) != 1) = false := by rw [hm]; rfl
       obtain ⟨v, hv⟩ := one_of (hn.trans hm)
       obtain ⟨ad, hA, hk0⟩ := Kd.at_string HC.out 0 (by omega) (by omega)
       rw [hv] at hk0
       have hk1 : w.cell? ad = some (.string v) := by rw [show (0 : Int).toNat = 0 from rfl, add0] at hk0; exact hk0
       have HK1 := Aside0.mk hk1
       have hlt := World.block_lt_of_cell? w _ hk1
       have HLT := Aside0.mk hlt
       have hvz : v.size ≤ 2147483647 := by have := HZ.out v (by rw [hv]; simp); omega
       subst hA
       have HPB := Aside0.mk (fun (h : pint v.data.toList = none) (W : World) (hb : Below w.heap.size w W) => pint_bad v hvz h W (HT.out.below hb))
       have HPO := Aside0.mk (fun (i : Int) (h : pint v.data.toList = some i) (W : World) => pint_ok v hvz i h W)
       cases hp : pint v.data.toList with
       | none =>
         have HF : Aside0 (fairR key.data.toList x (vL vs) = false) := ⟨by unfold fairR; rw [h8, hv]; simp [opOk, vL, hp]⟩
         have HP := Aside0.mk (HPB.out hp)
         clear hx h8 hq hp HPO HPB hk0 hk1 hlt hn
         subst hm
         go_enter Tryz.func82, Tryz.ntmps82
         go_wp2_with (first | ((with_reducible refine (HKK.out).mono ?_); rintro e w1 ⟨rfl, hb⟩; have HB1 := Aside0.mk hb; clear hb HKK))
         go_loopg [52] (1) (fun k v52 w' => ∃ j : Nat, v52 = .int .i64 j ∧ Aside0 (k + j = 1 ∧ j = 0) ∧ Aside0 (Below w.heap.size w w'))
         case atStart => exact ⟨0, rfl, ⟨by omega⟩, HB1⟩
         case round =>
          obtain ⟨j, rfl, HJ, HB⟩ := hrel
          obtain ⟨_, rfl⟩ := HJ.out
          have hk2 : wr.cell? ad = some (.string v) := (HB.out.cell HLT.out).trans HK1.out
          go_wp2_with (first | ((with_reducible refine (HP.out _ HB.out).mono ?_); rintro e w2 ⟨i, g, rfl, hb⟩; have HB2 := Aside0.mk (below_step HB.out hb); clear hb) | ((with_reducible refine (HN.out _ _).mono ?_); rintro e w2 ⟨rfl, hb⟩; have HB3 := Aside0.mk (below_step HB2.out hb); clear hb))
          go_ret2
          exact ⟨condP_f HF.out ⟨_, rfl⟩, HB3.out⟩
       | some i =>
         have HF : Aside0 (fairR key.data.toList x (vL vs) = (vL vs).all pValue) := ⟨by unfold fairR; rw [HQ.out, h8, hv]; simp [opOk, vL, hp]⟩
         have HP := Aside0.mk (HPO.out i hp)
         clear hx h8 hq hp HPO HPB hk0 hk1 hlt hn
         subst hm
         go_enter Tryz.func82, Tryz.ntmps82
         go_wp2_with (first | ((with_reducible refine (HKK.out).mono ?_); rintro e w1 ⟨rfl, hb⟩; have HB1 := Aside0.mk hb; clear hb HKK))
         go_loopg [52] (1) (fun k v52 w' => ∃ j : Nat, v52 = .int .i64 j ∧ Aside0 (k + j = 1) ∧ Aside0 (Below w.heap.size w w'))
         case atStart => exact ⟨0, rfl, ⟨by omega⟩, HB1⟩
         case round =>
          obtain ⟨j, rfl, HJ, HB⟩ := hrel
          by_cases hj0 : j = 0
          · subst hj0
            have hk2 : wr.cell? ad = some (.string v) := (HB.out.cell HLT.out).trans HK1.out
            go_wp2_with (first | ((with_reducible refine (HP.out _).mono ?_); rintro e w2 ⟨rfl, hb⟩; have HB2 := Aside0.mk (below_step HB.out hb); clear hb))
            go_roundg (0)
            case measure => have := HJ.out; omega
            case rel => exact ⟨1, by go_num, ⟨by omega⟩, HB2⟩
          · obtain rfl : j = 1 := by have := HJ.out; omega
            have HBX := Aside0.mk HB.out
            clear HB
            go_wp2
            generalize gk = go at *
            go_loopg [69] (1) (fun k v69 w' => ∃ j : Nat, v69 = .int .i64 j ∧ Aside0 (k + j = 1) ∧ Aside0 ((vL (vs.take j)).all pValue = true) ∧ Aside0 (Below w.heap.size w w'))
            case atStart => exact ⟨0, rfl, ⟨by omega⟩, ⟨rfl⟩, HBX⟩
            case round =>
             obtain ⟨j, rfl, HJ, HA, HB⟩ := hrel
             by_cases hjl : j < 1
             · obtain ⟨ad2, had, hk0⟩ := Kd.at_string (Kd.C_below HC.out HB.out) (j : Int) (by omega) (by omega)
               rw [Int.toNat_natCast] at hk0; injection had with had; subst had
               obtain ⟨p, hp⟩ : ∃ p, vs[j]? = some p := ⟨_, List.getElem?_eq_getElem (by rw [HLN.out]; exact hjl)⟩
               have hg : rdOf ByteArray.empty vs (j : Int) = p := by unfold rdOf; rw [Int.toNat_natCast, List.getD_eq_getElem?_getD, hp]; rfl
               rw [hg] at hk0
               have HV := Aside0.mk (vValue_calls key p (HZ.out p (List.mem_of_getElem? hp)) wr)
               cases hpv : pValue p.data.toList with
               | false =>
                 have HF2 : Aside0 (fairR key.data.toList x (vL vs) = false) := ⟨by rw [HF.out]; exact all_bad hp hpv⟩
                 rw [hpv] at HV
                 clear hp hg hpv
                 go_wp2_with (first | ((with_reducible refine (HV.out).mono ?_); rintro e w3 ⟨⟨g3, rfl⟩, hb⟩; have HB3 := Aside0.mk (below_step HB.out hb); clear hb HV))
                 go_ret2
                 exact ⟨condP_f HF2.out ⟨_, rfl⟩, HB3.out⟩
               | true =>
                 have HA2 := Aside0.mk (all_take hp HA.out hpv)
                 rw [hpv] at HV
                 simp only [if_true] at HV
                 clear hp hg hpv
                 go_wp2_with (first | ((with_reducible refine (HV.out).mono ?_); rintro e w3 ⟨rfl, hb⟩; have HB3 := Aside0.mk (below_step HB.out hb); clear hb HV))
                 go_roundg (1 - (j + 1))
                 case measure => have := HJ.out; omega
                 case rel => exact ⟨j + 1, by go_num, ⟨by omega⟩, HA2, HB3⟩
             · have hje : j = 1 := by have := HJ.out; omega
               have HF2 : Aside0 (fairR key.data.toList x (vL vs) = true) := ⟨by rw [HF.out]; have := HA.out; rwa [List.take_of_length_le (by rw [HLN.out, hje]; exact Nat.le_refl _)] at this⟩
               subst hje
               have hbl := heap_alloc_new wr (.cells #[.string key, .string op, .slice (some ad) 1 c] 88)
               have HBL := Aside0.mk hbl
               have HB4 := Aside0.mk (below_alloc HB.out (.cells #[.string key, .string op, .slice (some ad) 1 c] 88))
               have HSZ := Aside0.mk HB.out.size
               clear hbl
               go_wp2
               go_ret2
               exact ⟨condP_t HF2.out ⟨_, rfl, HSZ.out, HBL.out⟩, HB4.out⟩
     · have m1 : ((n : Int) != 1) = true := by simpa using (show ¬ (n : Int) = 1 by omega)
       have HF : Aside0 (fairR key.data.toList x (vL vs) = false) := ⟨by unfold fairR; rw [h8, op_more (.inr rfl) (by rw [vL, List.length_map, hn]; exact hm)]; rfl⟩
       clear hx h8 hm hn hq
       go_enter Tryz.func82, Tryz.ntmps82
       go_wp2_with (first | ((with_reducible refine (HKK.out).mono ?_); rintro e w1 ⟨rfl, hb⟩; have HB1 := Aside0.mk hb; clear hb HKK) | ((with_reducible refine (HN.out _ _).mono ?_); rintro e w2 ⟨rfl, hb⟩; have HB2 := Aside0.mk (below_step HB1.out hb); clear hb))
       go_ret2
       exact ⟨condP_f HF.out ⟨_, rfl⟩, HB2.out⟩
   have e8 : (op.toList == ([108, 116] : List UInt8)) = false := by rw [hx]; simpa using h8
   have HF : Aside0 (fairR key.data.toList x (vL vs) = false) := ⟨by unfold fairR opOk; simp [h0, h1, h2, h3, h4, h5, h6, h7, h8]⟩
   clear hx hn hq h0 h1 h2 h3 h4 h5 h6 h7 h8
   go_enter Tryz.func82, Tryz.ntmps82
   go_wp2_with (first | ((with_reducible refine (HKK.out).mono ?_); rintro e w1 ⟨rfl, hb⟩; have HB1 := Aside0.mk hb; clear hb HKK) | ((with_reducible refine (HN.out _ _).mono ?_); rintro e w2 ⟨rfl, hb⟩; have HB2 := Aside0.mk (below_step HB1.out hb); clear hb))
   go_ret2
   exact ⟨condP_f HF.out ⟨_, rfl⟩, HB2.out⟩
end Go.Proofs.YthfjolafikgpoaaGreatDoor.Hand
