/- spec.Written. (Printed by written.py.) -/
import Derived.Test.YteigfmchnblkgaaGreatDoorRTTxG
import Derived.Deep.RegionHeldLaw
namespace Go.Proofs.YteigfmchnblkgaaGreatDoor.Hand
open Go.RowKit Go.Proofs.YteigfmchnblkgaaGreatDoorW.PrintWords Go.Proofs.YteigfmchnblkgaaGreatDoorW.PrintLast Go.Proofs.YteigfmchnblkgaaGreatDoorW.PrintMore Go.Proofs.YteigfmchnblkgaaGreatDoor.Base
set_option linter.unusedVariables false
set_option linter.unusedSimpArgs false
set_option maxRecDepth 100000
set_option maxHeartbeats 8000000 in
theorem Wr_eq (key op v : ByteArray) (hx : op.toList = [61]) (hos : op.size ≤ 100) (hk : key.size ≤ 2000) (hv : v.size ≤ 20000000) (c : Nat) (A : Option Addr) (w : World) (hC : Kd.C Kd.string w A 1 [v]) :
    Calls Tryz.prog 39 #[.agg #[.string key, .string op, .slice A 1 c]] w fun e w' => e = .returned (.string (key ++ op ++ v)) ∧ Below w.heap.size w w' := by
  have e_eq : (op.toList == ([61] : List UInt8)) = true := by rw [hx]; rfl
  have e_deq : (op.toList == ([61, 61] : List UInt8)) = false := by rw [hx]; rfl
  have e_ne : (op.toList == ([33, 61] : List UInt8)) = false := by rw [hx]; rfl
  have e_in : (op.toList == ([105, 110] : List UInt8)) = false := by rw [hx]; rfl
  have e_notin : (op.toList == ([110, 111, 116, 105, 110] : List UInt8)) = false := by rw [hx]; rfl
  have e_gt : (op.toList == ([103, 116] : List UInt8)) = false := by rw [hx]; rfl
  have e_lt : (op.toList == ([108, 116] : List UInt8)) = false := by rw [hx]; rfl
  have e_ex : (op.toList == ([101, 120, 105, 115, 116, 115] : List UInt8)) = false := by rw [hx]; rfl
  have e_nex : (op.toList == ([33] : List UInt8)) = false := by rw [hx]; rfl
  clear hx
  obtain ⟨ad, rfl, _⟩ := Kd.at_string hC 0 (by omega) (by omega)
  obtain ⟨W1, hW1⟩ : ∃ W1, w.alloc (.cells #[.string key, .string op, .slice (some ad) 1 c] 31) = W1 := ⟨_, rfl⟩
  have HB : Aside0 (Below w.heap.size w W1) := ⟨by rw [← hW1]; exact below_alloc (Below.refl _ _) _⟩
  have hbk : W1.heap[w.heap.size]? = some (.cells #[.string key, .string op, .slice (some ad) 1 c] 31 (0, 0)) := by rw [← hW1]; exact heap_alloc_new w _
  have c0 : W1.cell? ⟨w.heap.size, 0, none⟩ = some (.string key) := (blk_cell hbk 0).trans rfl
  have c1 : W1.cell? ⟨w.heap.size, 1, none⟩ = some (.string op) := (blk_cell hbk 1).trans rfl
  have c2 : W1.cell? ⟨w.heap.size, 2, none⟩ = some (.slice (some ad) 1 c) := (blk_cell hbk 2).trans rfl
  have c3 : W1.cell? ad = some (.string v) := by
    obtain ⟨ad2, e2, h3⟩ := Kd.at_string (Kd.C_below hC HB.out) 0 (by omega) (by omega)
    cases e2
    have e : ad.add 0 = ad := by cases ad; rfl
    rwa [show (0 : Int).toNat = 0 from rfl, e] at h3
  clear hbk hC
  obtain ⟨y1, y2, y3⟩ := small_sum (a := key) (b := op) (by omega)
  have z4 : (9223372036854775807 < key.size + op.size + v.size) = False := eq_false (by omega)
  have z5 : ((9223372036854775807 : Int) < (key.size : Int) + (op.size : Int) + (v.size : Int)) = False := eq_false (by omega)
  have z6 : (9223372036854775807 < key.size + 1) = False := eq_false (by omega)
  go_enter Tryz.func39, Tryz.ntmps39
  go_upto_region 13 with (fail)
  go_region_held_law (fun w' => w'.cell? ⟨w.heap.size, 0, none⟩ = some (.string key) ∧ w'.cell? ⟨w.heap.size, 1, none⟩ = some (.string op) ∧ w'.cell? ⟨w.heap.size, 2, none⟩ = some (.slice (some ad) 1 c) ∧ w'.cell? ad = some (.string v)) (first | exact ⟨c0, c1, c2, c3⟩ | go_keep) (fail)
  all_goals go_wp2
  all_goals go_ret
  all_goals exact ⟨rfl, by first | exact HB.out | exact below_drew1 HB.out | exact pw_below_drewN HB.out _⟩
set_option maxHeartbeats 8000000 in
theorem Wr_deq (key op v : ByteArray) (hx : op.toList = [61, 61]) (hos : op.size ≤ 100) (hk : key.size ≤ 2000) (hv : v.size ≤ 20000000) (c : Nat) (A : Option Addr) (w : World) (hC : Kd.C Kd.string w A 1 [v]) :
    Calls Tryz.prog 39 #[.agg #[.string key, .string op, .slice A 1 c]] w fun e w' => e = .returned (.string (key ++ op ++ v)) ∧ Below w.heap.size w w' := by
  have e_eq : (op.toList == ([61] : List UInt8)) = false := by rw [hx]; rfl
  have e_deq : (op.toList == ([61, 61] : List UInt8)) = true := by rw [hx]; rfl
  have e_ne : (op.toList == ([33, 61] : List UInt8)) = false := by rw [hx]; rfl
  have e_in : (op.toList == ([105, 110] : List UInt8)) = false := by rw [hx]; rfl
  have e_notin : (op.toList == ([110, 111, 116, 105, 110] : List UInt8)) = false := by rw [hx]; rfl
  have e_gt : (op.toList == ([103, 116] : List UInt8)) = false := by rw [hx]; rfl
  have e_lt : (op.toList == ([108, 116] : List UInt8)) = false := by rw [hx]; rfl
  have e_ex : (op.toList == ([101, 120, 105, 115, 116, 115] : List UInt8)) = false := by rw [hx]; rfl
  have e_nex : (op.toList == ([33] : List UInt8)) = false := by rw [hx]; rfl
  clear hx
  obtain ⟨ad, rfl, _⟩ := Kd.at_string hC 0 (by omega) (by omega)
  obtain ⟨W1, hW1⟩ : ∃ W1, w.alloc (.cells #[.string key, .string op, .slice (some ad) 1 c] 31) = W1 := ⟨_, rfl⟩
  have HB : Aside0 (Below w.heap.size w W1) := ⟨by rw [← hW1]; exact below_alloc (Below.refl _ _) _⟩
  have hbk : W1.heap[w.heap.size]? = some (.cells #[.string key, .string op, .slice (some ad) 1 c] 31 (0, 0)) := by rw [← hW1]; exact heap_alloc_new w _
  have c0 : W1.cell? ⟨w.heap.size, 0, none⟩ = some (.string key) := (blk_cell hbk 0).trans rfl
  have c1 : W1.cell? ⟨w.heap.size, 1, none⟩ = some (.string op) := (blk_cell hbk 1).trans rfl
  have c2 : W1.cell? ⟨w.heap.size, 2, none⟩ = some (.slice (some ad) 1 c) := (blk_cell hbk 2).trans rfl
  have c3 : W1.cell? ad = some (.string v) := by
    obtain ⟨ad2, e2, h3⟩ := Kd.at_string (Kd.C_below hC HB.out) 0 (by omega) (by omega)
    cases e2
    have e : ad.add 0 = ad := by cases ad; rfl
    rwa [show (0 : Int).toNat = 0 from rfl, e] at h3
  clear hbk hC
  obtain ⟨y1, y2, y3⟩ := small_sum (a := key) (b := op) (by omega)
  have z4 : (9223372036854775807 < key.size + op.size + v.size) = False := eq_false (by omega)
  have z5 : ((9223372036854775807 : Int) < (key.size : Int) + (op.size : Int) + (v.size : Int)) = False := eq_false (by omega)
  have z6 : (9223372036854775807 < key.size + 1) = False := eq_false (by omega)
  go_enter Tryz.func39, Tryz.ntmps39
  go_upto_region 13 with (fail)
  go_region_held_law (fun w' => w'.cell? ⟨w.heap.size, 0, none⟩ = some (.string key) ∧ w'.cell? ⟨w.heap.size, 1, none⟩ = some (.string op) ∧ w'.cell? ⟨w.heap.size, 2, none⟩ = some (.slice (some ad) 1 c) ∧ w'.cell? ad = some (.string v)) (first | exact ⟨c0, c1, c2, c3⟩ | go_keep) (fail)
  all_goals go_wp2
  all_goals go_ret
  all_goals exact ⟨rfl, by first | exact HB.out | exact below_drew1 HB.out | exact pw_below_drewN HB.out _⟩
set_option maxHeartbeats 8000000 in
theorem Wr_ne (key op v : ByteArray) (hx : op.toList = [33, 61]) (hos : op.size ≤ 100) (hk : key.size ≤ 2000) (hv : v.size ≤ 20000000) (c : Nat) (A : Option Addr) (w : World) (hC : Kd.C Kd.string w A 1 [v]) :
    Calls Tryz.prog 39 #[.agg #[.string key, .string op, .slice A 1 c]] w fun e w' => e = .returned (.string (key ++ op ++ v)) ∧ Below w.heap.size w w' := by
  have e_eq : (op.toList == ([61] : List UInt8)) = false := by rw [hx]; rfl
  have e_deq : (op.toList == ([61, 61] : List UInt8)) = false := by rw [hx]; rfl
  have e_ne : (op.toList == ([33, 61] : List UInt8)) = true := by rw [hx]; rfl
  have e_in : (op.toList == ([105, 110] : List UInt8)) = false := by rw [hx]; rfl
  have e_notin : (op.toList == ([110, 111, 116, 105, 110] : List UInt8)) = false := by rw [hx]; rfl
  have e_gt : (op.toList == ([103, 116] : List UInt8)) = false := by rw [hx]; rfl
  have e_lt : (op.toList == ([108, 116] : List UInt8)) = false := by rw [hx]; rfl
  have e_ex : (op.toList == ([101, 120, 105, 115, 116, 115] : List UInt8)) = false := by rw [hx]; rfl
  have e_nex : (op.toList == ([33] : List UInt8)) = false := by rw [hx]; rfl
  clear hx
  obtain ⟨ad, rfl, _⟩ := Kd.at_string hC 0 (by omega) (by omega)
  obtain ⟨W1, hW1⟩ : ∃ W1, w.alloc (.cells #[.string key, .string op, .slice (some ad) 1 c] 31) = W1 := ⟨_, rfl⟩
  have HB : Aside0 (Below w.heap.size w W1) := ⟨by rw [← hW1]; exact below_alloc (Below.refl _ _) _⟩
  have hbk : W1.heap[w.heap.size]? = some (.cells #[.string key, .string op, .slice (some ad) 1 c] 31 (0, 0)) := by rw [← hW1]; exact heap_alloc_new w _
  have c0 : W1.cell? ⟨w.heap.size, 0, none⟩ = some (.string key) := (blk_cell hbk 0).trans rfl
  have c1 : W1.cell? ⟨w.heap.size, 1, none⟩ = some (.string op) := (blk_cell hbk 1).trans rfl
  have c2 : W1.cell? ⟨w.heap.size, 2, none⟩ = some (.slice (some ad) 1 c) := (blk_cell hbk 2).trans rfl
  have c3 : W1.cell? ad = some (.string v) := by
    obtain ⟨ad2, e2, h3⟩ := Kd.at_string (Kd.C_below hC HB.out) 0 (by omega) (by omega)
    cases e2
    have e : ad.add 0 = ad := by cases ad; rfl
    rwa [show (0 : Int).toNat = 0 from rfl, e] at h3
  clear hbk hC
  obtain ⟨y1, y2, y3⟩ := small_sum (a := key) (b := op) (by omega)
  have z4 : (9223372036854775807 < key.size + op.size + v.size) = False := eq_false (by omega)
  have z5 : ((9223372036854775807 : Int) < (key.size : Int) + (op.size : Int) + (v.size : Int)) = False := eq_false (by omega)
  have z6 : (9223372036854775807 < key.size + 1) = False := eq_false (by omega)
  go_enter Tryz.func39, Tryz.ntmps39
  go_upto_region 13 with (fail)
  go_region_held_law (fun w' => w'.cell? ⟨w.heap.size, 0, none⟩ = some (.string key) ∧ w'.cell? ⟨w.heap.size, 1, none⟩ = some (.string op) ∧ w'.cell? ⟨w.heap.size, 2, none⟩ = some (.slice (some ad) 1 c) ∧ w'.cell? ad = some (.string v)) (first | exact ⟨c0, c1, c2, c3⟩ | go_keep) (fail)
  all_goals go_wp2
  all_goals go_ret
  all_goals exact ⟨rfl, by first | exact HB.out | exact below_drew1 HB.out | exact pw_below_drewN HB.out _⟩
set_option maxHeartbeats 8000000 in
theorem Wr_gt (key op v : ByteArray) (hx : op.toList = [103, 116]) (hos : op.size ≤ 100) (hk : key.size ≤ 2000) (hv : v.size ≤ 20000000) (c : Nat) (A : Option Addr) (w : World) (hC : Kd.C Kd.string w A 1 [v]) :
    Calls Tryz.prog 39 #[.agg #[.string key, .string op, .slice A 1 c]] w fun e w' => e = .returned (.string (key ++ ⟨#[62]⟩ ++ v)) ∧ Below w.heap.size w w' := by
  have e_eq : (op.toList == ([61] : List UInt8)) = false := by rw [hx]; rfl
  have e_deq : (op.toList == ([61, 61] : List UInt8)) = false := by rw [hx]; rfl
  have e_ne : (op.toList == ([33, 61] : List UInt8)) = false := by rw [hx]; rfl
  have e_in : (op.toList == ([105, 110] : List UInt8)) = false := by rw [hx]; rfl
  have e_notin : (op.toList == ([110, 111, 116, 105, 110] : List UInt8)) = false := by rw [hx]; rfl
  have e_gt : (op.toList == ([103, 116] : List UInt8)) = true := by rw [hx]; rfl
  have e_lt : (op.toList == ([108, 116] : List UInt8)) = false := by rw [hx]; rfl
  have e_ex : (op.toList == ([101, 120, 105, 115, 116, 115] : List UInt8)) = false := by rw [hx]; rfl
  have e_nex : (op.toList == ([33] : List UInt8)) = false := by rw [hx]; rfl
  clear hx
  obtain ⟨ad, rfl, _⟩ := Kd.at_string hC 0 (by omega) (by omega)
  obtain ⟨W1, hW1⟩ : ∃ W1, w.alloc (.cells #[.string key, .string op, .slice (some ad) 1 c] 31) = W1 := ⟨_, rfl⟩
  have HB : Aside0 (Below w.heap.size w W1) := ⟨by rw [← hW1]; exact below_alloc (Below.refl _ _) _⟩
  have hbk : W1.heap[w.heap.size]? = some (.cells #[.string key, .string op, .slice (some ad) 1 c] 31 (0, 0)) := by rw [← hW1]; exact heap_alloc_new w _
  have c0 : W1.cell? ⟨w.heap.size, 0, none⟩ = some (.string key) := (blk_cell hbk 0).trans rfl
  have c1 : W1.cell? ⟨w.heap.size, 1, none⟩ = some (.string op) := (blk_cell hbk 1).trans rfl
  have c2 : W1.cell? ⟨w.heap.size, 2, none⟩ = some (.slice (some ad) 1 c) := (blk_cell hbk 2).trans rfl
  have c3 : W1.cell? ad = some (.string v) := by
    obtain ⟨ad2, e2, h3⟩ := Kd.at_string (Kd.C_below hC HB.out) 0 (by omega) (by omega)
    cases e2
    have e : ad.add 0 = ad := by cases ad; rfl
    rwa [show (0 : Int).toNat = 0 from rfl, e] at h3
  clear hbk hC
  obtain ⟨y1, y2, y3⟩ := small_sum (a := key) (b := op) (by omega)
  have z4 : (9223372036854775807 < key.size + 1 + v.size) = False := eq_false (by omega)
  have z5 : ((9223372036854775807 : Int) < (key.size : Int) + (1 : Int) + (v.size : Int)) = False := eq_false (by omega)
  have z6 : (9223372036854775807 < key.size + 1) = False := eq_false (by omega)
  go_enter Tryz.func39, Tryz.ntmps39
  go_upto_region 10 with (fail)
  go_region_held_law (fun w' => w'.cell? ⟨w.heap.size, 0, none⟩ = some (.string key) ∧ w'.cell? ⟨w.heap.size, 1, none⟩ = some (.string op) ∧ w'.cell? ⟨w.heap.size, 2, none⟩ = some (.slice (some ad) 1 c) ∧ w'.cell? ad = some (.string v)) (first | exact ⟨c0, c1, c2, c3⟩ | go_keep) (fail)
  all_goals go_wp2
  all_goals go_ret
  all_goals exact ⟨rfl, by first | exact HB.out | exact below_drew1 HB.out | exact pw_below_drewN HB.out _⟩
set_option maxHeartbeats 8000000 in
theorem Wr_lt (key op v : ByteArray) (hx : op.toList = [108, 116]) (hos : op.size ≤ 100) (hk : key.size ≤ 2000) (hv : v.size ≤ 20000000) (c : Nat) (A : Option Addr) (w : World) (hC : Kd.C Kd.string w A 1 [v]) :
    Calls Tryz.prog 39 #[.agg #[.string key, .string op, .slice A 1 c]] w fun e w' => e = .returned (.string (key ++ ⟨#[60]⟩ ++ v)) ∧ Below w.heap.size w w' := by
  have e_eq : (op.toList == ([61] : List UInt8)) = false := by rw [hx]; rfl
  have e_deq : (op.toList == ([61, 61] : List UInt8)) = false := by rw [hx]; rfl
  have e_ne : (op.toList == ([33, 61] : List UInt8)) = false := by rw [hx]; rfl
  have e_in : (op.toList == ([105, 110] : List UInt8)) = false := by rw [hx]; rfl
  have e_notin : (op.toList == ([110, 111, 116, 105, 110] : List UInt8)) = false := by rw [hx]; rfl
  have e_gt : (op.toList == ([103, 116] : List UInt8)) = false := by rw [hx]; rfl
  have e_lt : (op.toList == ([108, 116] : List UInt8)) = true := by rw [hx]; rfl
  have e_ex : (op.toList == ([101, 120, 105, 115, 116, 115] : List UInt8)) = false := by rw [hx]; rfl
  have e_nex : (op.toList == ([33] : List UInt8)) = false := by rw [hx]; rfl
  clear hx
  obtain ⟨ad, rfl, _⟩ := Kd.at_string hC 0 (by omega) (by omega)
  obtain ⟨W1, hW1⟩ : ∃ W1, w.alloc (.cells #[.string key, .string op, .slice (some ad) 1 c] 31) = W1 := ⟨_, rfl⟩
  have HB : Aside0 (Below w.heap.size w W1) := ⟨by rw [← hW1]; exact below_alloc (Below.refl _ _) _⟩
  have hbk : W1.heap[w.heap.size]? = some (.cells #[.string key, .string op, .slice (some ad) 1 c] 31 (0, 0)) := by rw [← hW1]; exact heap_alloc_new w _
  have c0 : W1.cell? ⟨w.heap.size, 0, none⟩ = some (.string key) := (blk_cell hbk 0).trans rfl
  have c1 : W1.cell? ⟨w.heap.size, 1, none⟩ = some (.string op) := (blk_cell hbk 1).trans rfl
  have c2 : W1.cell? ⟨w.heap.size, 2, none⟩ = some (.slice (some ad) 1 c) := (blk_cell hbk 2).trans rfl
  have c3 : W1.cell? ad = some (.string v) := by
    obtain ⟨ad2, e2, h3⟩ := Kd.at_string (Kd.C_below hC HB.out) 0 (by omega) (by omega)
    cases e2
    have e : ad.add 0 = ad := by cases ad; rfl
    rwa [show (0 : Int).toNat = 0 from rfl, e] at h3
  clear hbk hC
  obtain ⟨y1, y2, y3⟩ := small_sum (a := key) (b := op) (by omega)
  have z4 : (9223372036854775807 < key.size + 1 + v.size) = False := eq_false (by omega)
  have z5 : ((9223372036854775807 : Int) < (key.size : Int) + (1 : Int) + (v.size : Int)) = False := eq_false (by omega)
  have z6 : (9223372036854775807 < key.size + 1) = False := eq_false (by omega)
  go_enter Tryz.func39, Tryz.ntmps39
  go_upto_region 12 with (fail)
  go_region_held_law (fun w' => w'.cell? ⟨w.heap.size, 0, none⟩ = some (.string key) ∧ w'.cell? ⟨w.heap.size, 1, none⟩ = some (.string op) ∧ w'.cell? ⟨w.heap.size, 2, none⟩ = some (.slice (some ad) 1 c) ∧ w'.cell? ad = some (.string v)) (first | exact ⟨c0, c1, c2, c3⟩ | go_keep) (fail)
  all_goals go_wp2
  all_goals go_ret
  all_goals exact ⟨rfl, by first | exact HB.out | exact below_drew1 HB.out | exact pw_below_drewN HB.out _⟩
set_option maxHeartbeats 8000000 in
theorem Wr_ex (key op : ByteArray) (hx : op.toList = [101, 120, 105, 115, 116, 115]) (hk : key.size ≤ 2000) (c n : Nat) (A : Option Addr) (w : World) :
    Calls Tryz.prog 39 #[.agg #[.string key, .string op, .slice A n c]] w fun e w' => e = .returned (.string (key)) ∧ Below w.heap.size w w' := by
  have e_eq : (op.toList == ([61] : List UInt8)) = false := by rw [hx]; rfl
  have e_deq : (op.toList == ([61, 61] : List UInt8)) = false := by rw [hx]; rfl
  have e_ne : (op.toList == ([33, 61] : List UInt8)) = false := by rw [hx]; rfl
  have e_in : (op.toList == ([105, 110] : List UInt8)) = false := by rw [hx]; rfl
  have e_notin : (op.toList == ([110, 111, 116, 105, 110] : List UInt8)) = false := by rw [hx]; rfl
  have e_gt : (op.toList == ([103, 116] : List UInt8)) = false := by rw [hx]; rfl
  have e_lt : (op.toList == ([108, 116] : List UInt8)) = false := by rw [hx]; rfl
  have e_ex : (op.toList == ([101, 120, 105, 115, 116, 115] : List UInt8)) = true := by rw [hx]; rfl
  have e_nex : (op.toList == ([33] : List UInt8)) = false := by rw [hx]; rfl
  clear hx
  obtain ⟨W1, hW1⟩ : ∃ W1, w.alloc (.cells #[.string key, .string op, .slice A n c] 31) = W1 := ⟨_, rfl⟩
  have HB : Aside0 (Below w.heap.size w W1) := ⟨by rw [← hW1]; exact below_alloc (Below.refl _ _) _⟩
  have hbk : W1.heap[w.heap.size]? = some (.cells #[.string key, .string op, .slice A n c] 31 (0, 0)) := by rw [← hW1]; exact heap_alloc_new w _
  have c0 : W1.cell? ⟨w.heap.size, 0, none⟩ = some (.string key) := (blk_cell hbk 0).trans rfl
  have c1 : W1.cell? ⟨w.heap.size, 1, none⟩ = some (.string op) := (blk_cell hbk 1).trans rfl
  clear hbk
  have z6 : (9223372036854775807 < 1 + key.size) = False := eq_false (by omega)
  go_enter Tryz.func39, Tryz.ntmps39
  go_wp2
  go_ret
  exact ⟨rfl, HB.out⟩
set_option maxHeartbeats 8000000 in
theorem Wr_nex (key op : ByteArray) (hx : op.toList = [33]) (hk : key.size ≤ 2000) (c n : Nat) (A : Option Addr) (w : World) :
    Calls Tryz.prog 39 #[.agg #[.string key, .string op, .slice A n c]] w fun e w' => e = .returned (.string (⟨#[33]⟩ ++ key)) ∧ Below w.heap.size w w' := by
  have e_eq : (op.toList == ([61] : List UInt8)) = false := by rw [hx]; rfl
  have e_deq : (op.toList == ([61, 61] : List UInt8)) = false := by rw [hx]; rfl
  have e_ne : (op.toList == ([33, 61] : List UInt8)) = false := by rw [hx]; rfl
  have e_in : (op.toList == ([105, 110] : List UInt8)) = false := by rw [hx]; rfl
  have e_notin : (op.toList == ([110, 111, 116, 105, 110] : List UInt8)) = false := by rw [hx]; rfl
  have e_gt : (op.toList == ([103, 116] : List UInt8)) = false := by rw [hx]; rfl
  have e_lt : (op.toList == ([108, 116] : List UInt8)) = false := by rw [hx]; rfl
  have e_ex : (op.toList == ([101, 120, 105, 115, 116, 115] : List UInt8)) = false := by rw [hx]; rfl
  have e_nex : (op.toList == ([33] : List UInt8)) = true := by rw [hx]; rfl
  clear hx
  obtain ⟨W1, hW1⟩ : ∃ W1, w.alloc (.cells #[.string key, .string op, .slice A n c] 31) = W1 := ⟨_, rfl⟩
  have HB : Aside0 (Below w.heap.size w W1) := ⟨by rw [← hW1]; exact below_alloc (Below.refl _ _) _⟩
  have hbk : W1.heap[w.heap.size]? = some (.cells #[.string key, .string op, .slice A n c] 31 (0, 0)) := by rw [← hW1]; exact heap_alloc_new w _
  have c0 : W1.cell? ⟨w.heap.size, 0, none⟩ = some (.string key) := (blk_cell hbk 0).trans rfl
  have c1 : W1.cell? ⟨w.heap.size, 1, none⟩ = some (.string op) := (blk_cell hbk 1).trans rfl
  clear hbk
  have z6 : (9223372036854775807 < 1 + key.size) = False := eq_false (by omega)
  go_enter Tryz.func39, Tryz.ntmps39
  go_wp2
  go_ret
  exact ⟨rfl, HB.out⟩
end Go.Proofs.YteigfmchnblkgaaGreatDoor.Hand
