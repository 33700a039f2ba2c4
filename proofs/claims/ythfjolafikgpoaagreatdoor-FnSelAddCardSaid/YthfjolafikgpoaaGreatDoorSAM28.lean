/- impl.RequirementText. -/
import Derived.Test.YthfjolafikgpoaaGreatDoorSAM26
import Derived.Test.YthfjolafikgpoaaGreatDoorSAM25
import Derived.Tactics
import Derived.Tactics2
import Derived.Defers
import Derived.Recover
import Derived.Laws.Pointers
import Derived.Deep.RegionHeldLaw
import Derived.Test.YthfjolafikgpoaaGreatDoorSALabSetOf
import Derived.Test.YthfjolafikgpoaaGreatDoorSAGParB
namespace Go.Proofs.YthfjolafikgpoaaGreatDoor.Hand
open Go.RowKit Go.Proofs.YthfjolafikgpoaaGreatDoorW.PrintWords Go.Proofs.YthfjolafikgpoaaGreatDoorW.PrintLast Go.Proofs.YthfjolafikgpoaaGreatDoorW.PrintMore Go.Proofs.YthfjolafikgpoaaGreatDoor.Base
set_option linter.unusedVariables false
set_option linter.unusedSimpArgs false
set_option maxRecDepth 100000
set_option maxHeartbeats 8000000 in
theorem Wr_eq (key op v : ByteArray) (hx : op.toList = [61]) (hos : op.size ≤ 100) (hk : key.size ≤ 2000) (hv : v.size ≤ 20000000) (c : Nat) (A : Option Addr) (w : World) (hC : Kd.C Kd.string w A 1 [v]) :
   Calls Tryz.prog 51 #[.agg #[.string key, .string op, .slice A 1 c]] w fun e w' => e = .returned (.string (key ++ op ++ v)) ∧ Below w.heap.size w w' := by
 have e_eq : (op.toList == ([61] : List UInt8)) = true := by rw [hx]; rfl
 have e_deq : (op.toList == ([61, 61] : List UInt8)) = false := by rw [hx]; rfl
 have e_ne : (op.toList == ([33, 61] : List UInt8)) = false := by rw [hx]; rfl
 have e_in : (op.toList == ([105, 110] : List UInt8)) = false := by rw [hx]; rfl
 have e_notin : (op.toList == ([110, 111, 116, 105, 110] : List UInt8)) = false := by rw [hx]; rfl
 have e_gt : (op.toList == ([103, 116] : List UInt8)) = false := by rw [hx]; rfl
 have e_lt : (op.toList == ([108, 116] : List UInt8)) = false := by rw [hx]; rfl
 have e_ex : (op.toList == ([101, 120, 105, 115, 116, 115] : List UInt8)) = false := by rw [hx]; rfl
 have e_nex : (op.toList == ([33] : List UInt8)) = false := by rw [hx]; rfl
 clear hx
 obtain ⟨ad, rfl, _⟩ := Kd.at_string hC 0 (by omega) (by omega)
 obtain ⟨W1, hW1⟩ : ∃ W1, w.alloc (.cells #[.string key, .string op, .slice (some ad) 1 c] 53) = W1 := ⟨_, rfl⟩
 have HB : Aside0 (Below w.heap.size w W1) := ⟨by rw [← hW1]; exact below_alloc (Below.refl _ _) _⟩
 have hbk : W1.heap[w.heap.size]? = some (.cells #[.string key, .string op, .slice (some ad) 1 c] 53 (0, 0)) := by rw [← hW1]; exact heap_alloc_new w _
 have c0 : W1.cell? ⟨w.heap.size, 0, none⟩ = some (.string key) := (blk_cell hbk 0).trans rfl
 have c1 : W1.cell? ⟨w.heap.size, 1, none⟩ = some (.string op) := (blk_cell hbk 1).trans rfl
 have c2 : W1.cell? ⟨w.heap.size, 2, none⟩ = some (.slice (some ad) 1 c) := (blk_cell hbk 2).trans rfl
 have c3 : W1.cell? ad = some (.string v) := by
  obtain ⟨ad2, e2, h3⟩ := Kd.at_string (Kd.C_below hC HB.out) 0 (by omega) (by omega)
  cases e2
  have e : ad.add 0 = ad := by cases ad; rfl
  rwa [show (0 : Int).toNat = 0 from rfl, e] at h3
 clear hbk hC
 obtain ⟨y1, y2, y3⟩ := small_sum (a := key) (b := op) (by omega)
 have z4 : (9223372036854775807 < key.size + op.size + v.size) = False := eq_false (by omega)
 have z5 : ((9223372036854775807 : Int) < (key.size : Int) + (op.size : Int) + (v.size : Int)) = False := eq_false (by omega)
 have z6 : (9223372036854775807 < key.size + 1) = False := eq_false (by omega)
 go_enter Tryz.func51, Tryz.ntmps51
 go_upto_region 13 with (fail)
 go_region_held_law (fun w' => w'.cell? ⟨w.heap.size, 0, none⟩ = some (.string key) ∧ w'.cell? ⟨w.heap.size, 1, none⟩ = some (.string op) ∧ w'.cell? ⟨w.heap.size, 2, none⟩ = some (.slice (some ad) 1 c) ∧ w'.cell? ad = some (.string v)) (first | exact ⟨c0, c1, c2, c3⟩ | go_keep) (fail)
 all_goals go_wp2
 all_goals go_ret
 all_goals exact ⟨rfl, by first | exact HB.out | exact below_drew1 HB.out | exact pw_below_drewN HB.out _⟩
set_option maxHeartbeats 8000000 in
theorem Wr_deq (key op v : ByteArray) (hx : op.toList = [61, 61]) (hos : op.size ≤ 100) (hk : key.size ≤ 2000) (hv : v.size ≤ 20000000) (c : Nat) (A : Option Addr) (w : World) (hC : Kd.C Kd.string w A 1 [v]) :
   Calls Tryz.prog 51 #[.agg #[.string key, .string op, .slice A 1 c]] w fun e w' => e = .returned (.string (key ++ op ++ v)) ∧ Below w.heap.size w w' := by
 have e_eq : (op.toList == ([61] : List UInt8)) = false := by rw [hx]; rfl
 have e_deq : (op.toList == ([61, 61] : List UInt8)) = true := by rw [hx]; rfl
 have e_ne : (op.toList == ([33, 61] : List UInt8)) = false := by rw [hx]; rfl
 have e_in : (op.toList == ([105, 110] : List UInt8)) = false := by rw [hx]; rfl
 have e_notin : (op.toList == ([110, 111, 116, 105, 110] : List UInt8)) = false := by rw [hx]; rfl
 have e_gt : (op.toList == ([103, 116] : List UInt8)) = false := by rw [hx]; rfl
 have e_lt : (op.toList == ([108, 116] : List UInt8)) = false := by rw [hx]; rfl
 have e_ex : (op.toList == ([101, 120, 105, 115, 116, 115] : List UInt8)) = false := by rw [hx]; rfl
 have e_nex : (op.toList == ([33] : List UInt8)) = false := by rw [hx]; rfl
 clear hx
 obtain ⟨ad, rfl, _⟩ := Kd.at_string hC 0 (by omega) (by omega)
 obtain ⟨W1, hW1⟩ : ∃ W1, w.alloc (.cells #[.string key, .string op, .slice (some ad) 1 c] 53) = W1 := ⟨_, rfl⟩
 have HB : Aside0 (Below w.heap.size w W1) := ⟨by rw [← hW1]; exact below_alloc (Below.refl _ _) _⟩
 have hbk : W1.heap[w.heap.size]? = some (.cells #[.string key, .string op, .slice (some ad) 1 c] 53 (0, 0)) := by rw [← hW1]; exact heap_alloc_new w _
 have c0 : W1.cell? ⟨w.heap.size, 0, none⟩ = some (.string key) := (blk_cell hbk 0).trans rfl
 have c1 : W1.cell? ⟨w.heap.size, 1, none⟩ = some (.string op) := (blk_cell hbk 1).trans rfl
 have c2 : W1.cell? ⟨w.heap.size, 2, none⟩ = some (.slice (some ad) 1 c) := (blk_cell hbk 2).trans rfl
 have c3 : W1.cell? ad = some (.string v) := by
  obtain ⟨ad2, e2, h3⟩ := Kd.at_string (Kd.C_below hC HB.out) 0 (by omega) (by omega)
  cases e2
  have e : ad.add 0 = ad := by cases ad; rfl
  rwa [show (0 : Int).toNat = 0 from rfl, e] at h3
 clear hbk hC
 obtain ⟨y1, y2, y3⟩ := small_sum (a := key) (b := op) (by omega)
 have z4 : (9223372036854775807 < key.size + op.size + v.size) = False := eq_false (by omega)
 have z5 : ((9223372036854775807 : Int) < (key.size : Int) + (op.size : Int) + (v.size : Int)) = False := eq_false (by omega)
 have z6 : (9223372036854775807 < key.size + 1) = False := eq_false (by omega)
 go_enter Tryz.func51, Tryz.ntmps51
 go_upto_region 13 with (fail)
 go_region_held_law (fun w' => w'.cell? ⟨w.heap.size, 0, none⟩ = some (.string key) ∧ w'.cell? ⟨w.heap.size, 1, none⟩ = some (.string op) ∧ w'.cell? ⟨w.heap.size, 2, none⟩ = some (.slice (some ad) 1 c) ∧ w'.cell? ad = some (.string v)) (first | exact ⟨c0, c1, c2, c3⟩ | go_keep) (fail)
 all_goals go_wp2
 all_goals go_ret
 all_goals exact ⟨rfl, by first | exact HB.out | exact below_drew1 HB.out | exact pw_below_drewN HB.out _⟩
set_option maxHeartbeats 8000000 in
theorem Wr_ne (key op v : ByteArray) (hx : op.toList = [33, 61]) (hos : op.size ≤ 100) (hk : key.size ≤ 2000) (hv : v.size ≤ 20000000) (c : Nat) (A : Option Addr) (w : World) (hC : Kd.C Kd.string w A 1 [v]) :
   Calls Tryz.prog 51 #[.agg #[.string key, .string op, .slice A 1 c]] w fun e w' => e = .returned (.string (key ++ op ++ v)) ∧ Below w.heap.size w w' := by
 have e_eq : (op.toList == ([61] : List UInt8)) = false := by rw [hx]; rfl
 have e_deq : (op.toList == ([61, 61] : List UInt8)) = false := by rw [hx]; rfl
 have e_ne : (op.toList == ([33, 61] : List UInt8)) = true := by rw [hx]; rfl
 have e_in : (op.toList == ([105, 110] : List UInt8)) = false := by rw [hx]; rfl
 have e_notin : (op.toList == ([110, 111, 116, 105, 110] : List UInt8)) = false := by rw [hx]; rfl
 have e_gt : (op.toList == ([103, 116] : List UInt8)) = false := by rw [hx]; rfl
 have e_lt : (op.toList == ([108, 116] : List UInt8)) = false := by rw [hx]; rfl
 have e_ex : (op.toList == ([101, 120, 105, 115, 116, 115] : List UInt8)) = false := by rw [hx]; rfl
 have e_nex : (op.toList == ([33] : List UInt8)) = false := by rw [hx]; rfl
 clear hx
 obtain ⟨ad, rfl, _⟩ := Kd.at_string hC 0 (by omega) (by omega)
 obtain ⟨W1, hW1⟩ : ∃ W1, w.alloc (.cells #[.string key, .string op, .slice (some ad) 1 c] 53) = W1 := ⟨_, rfl⟩
 have HB : Aside0 (Below w.heap.size w W1) := ⟨by rw [← hW1]; exact below_alloc (Below.refl _ _) _⟩
 have hbk : W1.heap[w.heap.size]? = some (.cells #[.string key, .string op, .slice (some ad) 1 c] 53 (0, 0)) := by rw [← hW1]; exact heap_alloc_new w _
 have c0 : W1.cell? ⟨w.heap.size, 0, none⟩ = some (.string key) := (blk_cell hbk 0).trans rfl
 have c1 : W1.cell? ⟨w.heap.size, 1, none⟩ = some (.string op) := (blk_cell hbk 1).trans rfl
 have c2 : W1.cell? ⟨w.heap.size, 2, none⟩ = some (.slice (some ad) 1 c) := (blk_cell hbk 2).trans rfl
 have c3 : W1.cell? ad = some (.string v) := by
  obtain ⟨ad2, e2, h3⟩ := Kd.at_string (Kd.C_below hC HB.out) 0 (by omega) (by omega)
  cases e2
  have e : ad.add 0 = ad := by cases ad; rfl
  rwa [show (0 : Int).toNat = 0 from rfl, e] at h3
 clear hbk hC
 obtain ⟨y1, y2, y3⟩ := small_sum (a := key) (b := op) (by omega)
 have z4 : (9223372036854775807 < key.size + op.size + v.size) = False := eq_false (by omega)
 have z5 : ((9223372036854775807 : Int) < (key.size : Int) + (op.size : Int) + (v.size : Int)) = False := eq_false (by omega)
 have z6 : (9223372036854775807 < key.size + 1) = False := eq_false (by omega)
 go_enter Tryz.func51, Tryz.ntmps51
 go_upto_region 13 with (fail)
 go_region_held_law (fun w' => w'.cell? ⟨w.heap.size, 0, none⟩ = some (.string key) ∧ w'.cell? ⟨w.heap.size, 1, none⟩ = some (.string op) ∧ w'.cell? ⟨w.heap.size, 2, none⟩ = some (.slice (some ad) 1 c) ∧ w'.cell? ad = some (.string v)) (first | exact ⟨c0, c1, c2, c3⟩ | go_keep) (fail)
 all_goals go_wp2
 all_goals go_ret
 all_goals exact ⟨rfl, by first | exact HB.out | exact below_drew1 HB.out | exact pw_below_drewN HB.out _⟩
set_option maxHeartbeats 8000000 in
theorem Wr_gt (key op v : ByteArray) (hx : op.toList = [103, 116]) (hos : op.size ≤ 100) (hk : key.size ≤ 2000) (hv : v.size ≤ 20000000) (c : Nat) (A : Option Addr) (w : World) (hC : Kd.C Kd.string w A 1 [v]) :
   Calls Tryz.prog 51 #[.agg #[.string key, .string op, .slice A 1 c]] w fun e w' => e = .returned (.string (key ++ ⟨#[62]⟩ ++ v)) ∧ Below w.heap.size w w' := by
 have e_eq : (op.toList == ([61] : List UInt8)) = false := by rw [hx]; rfl
 have e_deq : (op.toList == ([61, 61] : List UInt8)) = false := by rw [hx]; rfl
 have e_ne : (op.toList == ([33, 61] : List UInt8)) = false := by rw [hx]; rfl
 have e_in : (op.toList == ([105, 110] : List UInt8)) = false := by rw [hx]; rfl
 have e_notin : (op.toList == ([110, 111, 116, 105, 110] : List UInt8)) = false := by rw [hx]; rfl
 have e_gt : (op.toList == ([103, 116] : List UInt8)) = true := by rw [hx]; rfl
 have e_lt : (op.toList == ([108, 116] : List UInt8)) = false := by rw [hx]; rfl
 have e_ex : (op.toList == ([101, 120, 105, 115, 116, 115] : List UInt8)) = false := by rw [hx]; rfl
 have e_nex : (op.toList == ([33] : List UInt8)) = false := by rw [hx]; rfl
 clear hx
 obtain ⟨ad, rfl, _⟩ := Kd.at_string hC 0 (by omega) (by omega)
 obtain ⟨W1, hW1⟩ : ∃ W1, w.alloc (.cells #[.string key, .string op, .slice (some ad) 1 c] 53) = W1 := ⟨_, rfl⟩
 have HB : Aside0 (Below w.heap.size w W1) := ⟨by rw [← hW1]; exact below_alloc (Below.refl _ _) _⟩
 have hbk : W1.heap[w.heap.size]? = some (.cells #[.string key, .string op, .slice (some ad) 1 c] 53 (0, 0)) := by rw [← hW1]; exact heap_alloc_new w _
 have c0 : W1.cell? ⟨w.heap.size, 0, none⟩ = some (.string key) := (blk_cell hbk 0).trans rfl
 have c1 : W1.cell? ⟨w.heap.size, 1, none⟩ = some (.string op) := (blk_cell hbk 1).trans rfl
 have c2 : W1.cell? ⟨w.heap.size, 2, none⟩ = some (.slice (some ad) 1 c) := (blk_cell hbk 2).trans rfl
 have c3 : W1.cell? ad = some (.string v) := by
  obtain ⟨ad2, e2, h3⟩ := Kd.at_string (Kd.C_below hC HB.out) 0 (by omega) (by omega)
  cases e2
  have e : ad.add 0 = ad := by cases ad; rfl
  rwa [show (0 : Int).toNat = 0 from rfl, e] at h3
 clear hbk hC
 obtain ⟨y1, y2, y3⟩ := small_sum (a := key) (b := op) (by omega)
 have z4 : (9223372036854775807 < key.size + 1 + v.size) = False := eq_false (by omega)
 have z5 : ((9223372036854775807 : Int) < (key.size : Int) + (1 : Int) + (v.size : Int)) = False := eq_false (by omega)
 have z6 : (9223372036854775807 < key.size + 1) = False := eq_false (by omega)
 go_enter Tryz.func51, Tryz.ntmps51
 go_upto_region 10 with (fail)
 go_region_held_law (fun w' => w'.cell? ⟨w.heap.size, 0, none⟩ = some (.string key) ∧ w'.cell? ⟨w.heap.size, 1, none⟩ = some (.string op) ∧ w'.cell? ⟨w.heap.size, 2, none⟩ = some (.slice (some ad) 1 c) ∧ w'.cell? ad = some (.string v)) (first | exact ⟨c0, c1, c2, c3⟩ | go_keep) (fail)
 all_goals go_wp2
 all_goals go_ret
 all_goals exact ⟨rfl, by first | exact HB.out | exact below_drew1 HB.out | exact pw_below_drewN HB.out _⟩
set_option maxHeartbeats 8000000 in
theorem Wr_lt (key op v : ByteArray) (hx : op.toList = [108, 116]) (hos : op.size ≤ 100) (hk : key.size ≤ 2000) (hv : v.size ≤ 20000000) (c : Nat) (A : Option Addr) (w : World) (hC : Kd.C Kd.string w A 1 [v]) :
   Calls Tryz.prog 51 #[.agg #[.string key, .string op, .slice A 1 c]] w fun e w' => e = .returned (.string (key ++ ⟨#[60]⟩ ++ v)) ∧ Below w.heap.size w w' := by
 have e_eq : (op.toList == ([61] : List UInt8)) = false := by rw [hx]; rfl
 have e_deq : (op.toList == ([61, 61] : List UInt8)) = false := by rw [hx]; rfl
 have e_ne : (op.toList == ([33, 61] : List UInt8)) = false := by rw [hx]; rfl
 have e_in : (op.toList == ([105, 110] : List UInt8)) = false := by rw [hx]; rfl
 have e_notin : (op.toList == ([110, 111, 116, 105, 110] : List UInt8)) = false := by rw [hx]; rfl
 have e_gt : (op.toList == ([103, 116] : List UInt8)) = false := by rw [hx]; rfl
 have e_lt : (op.toList == ([108, 116] : List UInt8)) = true := by rw [hx]; rfl
 have e_ex : (op.toList == ([101, 120, 105, 115, 116, 115] : List UInt8)) = false := by rw [hx]; rfl
 have e_nex : (op.toList == ([33] : List UInt8)) = false := by rw [hx]; rfl
 clear hx
 obtain ⟨ad, rfl, _⟩ := Kd.at_string hC 0 (by omega) (by omega)
 obtain ⟨W1, hW1⟩ : ∃ W1, w.alloc (.cells #[.string key, .string op, .slice (some ad) 1 c] 53) = W1 := ⟨_, rfl⟩
 have HB : Aside0 (Below w.heap.size w W1) := ⟨by rw [← hW1]; exact below_alloc (Below.refl _ _) _⟩
 have hbk : W1.heap[w.heap.size]? = some (.cells #[.string key, .string op, .slice (some ad) 1 c] 53 (0, 0)) := by rw [← hW1]; exact heap_alloc_new w _
 have c0 : W1.cell? ⟨w.heap.size, 0, none⟩ = some (.string key) := (blk_cell hbk 0).trans rfl
 have c1 : W1.cell? ⟨w.heap.size, 1, none⟩ = some (.string op) := (blk_cell hbk 1).trans rfl
 have c2 : W1.cell? ⟨w.heap.size, 2, none⟩ = some (.slice (some ad) 1 c) := (blk_cell hbk 2).trans rfl
 have c3 : W1.cell? ad = some (.string v) := by
  obtain ⟨ad2, e2, h3⟩ := Kd.at_string (Kd.C_below hC HB.out) 0 (by omega) (by omega)
  cases e2
  have e : ad.add 0 = ad := by cases ad; rfl
  rwa [show (0 : Int).toNat = 0 from rfl, e] at h3
 clear hbk hC
 obtain ⟨y1, y2, y3⟩ := small_sum (a := key) (b := op) (by omega)
 have z4 : (9223372036854775807 < key.size + 1 + v.size) = False := eq_false (by omega)
 have z5 : ((9223372036854775807 : Int) < (key.size : Int) + (1 : Int) + (v.size : Int)) = False := eq_false (by omega)
 have z6 : (9223372036854775807 < key.size + 1) = False := eq_false (by omega)
 go_enter Tryz.func51, Tryz.ntmps51
 go_upto_region 12 with (fail)
 go_region_held_law (fun w' => w'.cell? ⟨w.heap.size, 0, none⟩ = some (.string key) ∧ w'.cell? ⟨w.heap.size, 1, none⟩ = some (.string op) ∧ w'.cell? ⟨w.heap.size, 2, none⟩ = some (.slice (some ad) 1 c) ∧ w'.cell? ad = some (.string v)) (first | exact ⟨c0, c1, c2, c3⟩ | go_keep) (fail)
 all_goals go_wp2
 all_goals go_ret
 all_goals exact ⟨rfl, by first | exact HB.out | exact below_drew1 HB.out | exact pw_below_drewN HB.out _⟩
set_option maxHeartbeats 8000000 in
theorem Wr_ex (key op : ByteArray) (hx : op.toList = [101, 120, 105, 115, 116, 115]) (hk : key.size ≤ 2000) (c n : Nat) (A : Option Addr) (w : World) :
   Calls Tryz.prog 51 #[.agg #[.string key, .string op, .slice A n c]] w fun e w' => e = .returned (.string (key)) ∧ Below w.heap.size w w' := by
 have e_eq : (op.toList == ([61] : List UInt8)) = false := by rw [hx]; rfl
 have e_deq : (op.toList == ([61, 61] : List UInt8)) = false := by rw [hx]; rfl
 have e_ne : (op.toList == ([33, 61] : List UInt8)) = false := by rw [hx]; rfl
 have e_in : (op.toList == ([105, 110] : List UInt8)) = false := by rw [hx]; rfl
 have e_notin : (op.toList == ([110, 111, 116, 105, 110] : List UInt8)) = false := by rw [hx]; rfl
 have e_gt : (op.toList == ([103, 116] : List UInt8)) = false := by rw [hx]; rfl
 have e_lt : (op.toList == ([108, 116] : List UInt8)) = false := by rw [hx]; rfl
 have e_ex : (op.toList == ([101, 120, 105, 115, 116, 115] : List UInt8)) = true := by rw [hx]; rfl
 have e_nex : (op.toList == ([33] : List UInt8)) = false := by rw [hx]; rfl
 clear hx
 obtain ⟨W1, hW1⟩ : ∃ W1, w.alloc (.cells #[.string key, .string op, .slice A n c] 53) = W1 := ⟨_, rfl⟩
 have HB : Aside0 (Below w.heap.size w W1) := ⟨by rw [← hW1]; exact below_alloc (Below.refl _ _) _⟩
 have hbk : W1.heap[w.heap.size]? = some (.cells #[.string key, .string op, .slice A n c] 53 (0, 0)) := by rw [← hW1]; exact heap_alloc_new w _
 have c0 : W1.cell? ⟨w.heap.size, 0, none⟩ = some (.string key) := (blk_cell hbk 0).trans rfl
 have c1 : W1.cell? ⟨w.heap.size, 1, none⟩ = some (.string op) := (blk_cell hbk 1).trans rfl
 clear hbk
 have z6 : (9223372036854775807 < 1 + key.size) = False := eq_false (by omega)
 go_enter Tryz.func51, Tryz.ntmps51
 go_wp2
 go_ret
 exact ⟨rfl, HB.out⟩
set_option maxHeartbeats 8000000 in
theorem Wr_nex (key op : ByteArray) (hx : op.toList = [33]) (hk : key.size ≤ 2000) (c n : Nat) (A : Option Addr) (w : World) :
   Calls Tryz.prog 51 #[.agg #[.string key, .string op, .slice A n c]] w fun e w' => e = .returned (.string (⟨#[33]⟩ ++ key)) ∧ Below w.heap.size w w' := by
 have e_eq : (op.toList == ([61] : List UInt8)) = false := by rw [hx]; rfl
 have e_deq : (op.toList == ([61, 61] : List UInt8)) = false := by rw [hx]; rfl
 have e_ne : (op.toList == ([33, 61] : List UInt8)) = false := by rw [hx]; rfl
 have e_in : (op.toList == ([105, 110] : List UInt8)) = false := by rw [hx]; rfl
 have e_notin : (op.toList == ([110, 111, 116, 105, 110] : List UInt8)) = false := by rw [hx]; rfl
 have e_gt : (op.toList == ([103, 116] : List UInt8)) = false := by rw [hx]; rfl
 have e_lt : (op.toList == ([108, 116] : List UInt8)) = false := by rw [hx]; rfl
 have e_ex : (op.toList == ([101, 120, 105, 115, 116, 115] : List UInt8)) = false := by rw [hx]; rfl
 have e_nex : (op.toList == ([33] : List UInt8)) = true := by rw [hx]; rfl
 clear hx
 obtain ⟨W1, hW1⟩ : ∃ W1, w.alloc (.cells #[.string key, .string op, .slice A n c] 53) = W1 := ⟨_, rfl⟩
 have HB : Aside0 (Below w.heap.size w W1) := ⟨by rw [← hW1]; exact below_alloc (Below.refl _ _) _⟩
 have hbk : W1.heap[w.heap.size]? = some (.cells #[.string key, .string op, .slice A n c] 53 (0, 0)) := by rw [← hW1]; exact heap_alloc_new w _
 have c0 : W1.cell? ⟨w.heap.size, 0, none⟩ = some (.string key) := (blk_cell hbk 0).trans rfl
 have c1 : W1.cell? ⟨w.heap.size, 1, none⟩ = some (.string op) := (blk_cell hbk 1).trans rfl
 clear hbk
 have z6 : (9223372036854775807 < 1 + key.size) = False := eq_false (by omega)
 go_enter Tryz.func51, Tryz.ntmps51
 go_wp2
 go_ret
 exact ⟨rfl, HB.out⟩
set_option maxHeartbeats 8000000 in
theorem Wr_in (key op : ByteArray) (hx : op.toList = [105, 110]) (hos : op.size ≤ 100) (hk : key.size ≤ 2000) (vs : List ByteArray) (n : Nat) (hn : vs.length = n) (hn2 : n ≤ 1000) (c : Nat) (hc : n ≤ c) (hz : ∀ v ∈ vs, v.size ≤ 10000) (J : ByteArray) (hJ : joinB ⟨#[44]⟩ ((setL (vL vs)).map mk) = J) (hJs : J.size ≤ 20000000) (A : Option Addr) (w : World) (hC : Kd.C Kd.string w A n vs) :
   Calls Tryz.prog 51 #[.agg #[.string key, .string op, .slice A n c]] w fun e w' => e = .returned (.string (key ++ ⟨#[32]⟩ ++ op ++ ⟨#[32, 40]⟩ ++ J ++ ⟨#[41]⟩)) ∧ Below w.heap.size w w' := by
 have e_eq : (op.toList == ([61] : List UInt8)) = false := by rw [hx]; rfl
 have e_deq : (op.toList == ([61, 61] : List UInt8)) = false := by rw [hx]; rfl
 have e_ne : (op.toList == ([33, 61] : List UInt8)) = false := by rw [hx]; rfl
 have e_in : (op.toList == ([105, 110] : List UInt8)) = true := by rw [hx]; rfl
 have e_notin : (op.toList == ([110, 111, 116, 105, 110] : List UInt8)) = false := by rw [hx]; rfl
 have e_gt : (op.toList == ([103, 116] : List UInt8)) = false := by rw [hx]; rfl
 have e_lt : (op.toList == ([108, 116] : List UInt8)) = false := by rw [hx]; rfl
 have e_ex : (op.toList == ([101, 120, 105, 115, 116, 115] : List UInt8)) = false := by rw [hx]; rfl
 have e_nex : (op.toList == ([33] : List UInt8)) = false := by rw [hx]; rfl
 clear hx
 obtain ⟨W1, hW1⟩ : ∃ W1, w.alloc (.cells #[.string key, .string op, .slice A n c] 53) = W1 := ⟨_, rfl⟩
 have HB : Aside0 (Below w.heap.size w W1) := ⟨by rw [← hW1]; exact below_alloc (Below.refl _ _) _⟩
 have hbk : W1.heap[w.heap.size]? = some (.cells #[.string key, .string op, .slice A n c] 53 (0, 0)) := by rw [← hW1]; exact heap_alloc_new w _
 have c0 : W1.cell? ⟨w.heap.size, 0, none⟩ = some (.string key) := (blk_cell hbk 0).trans rfl
 have c1 : W1.cell? ⟨w.heap.size, 1, none⟩ = some (.string op) := (blk_cell hbk 1).trans rfl
 have c2 : W1.cell? ⟨w.heap.size, 2, none⟩ = some (.slice A n c) := (blk_cell hbk 2).trans rfl
 have HC0 := Aside0.mk c0
 have HC1 := Aside0.mk c1
 have HC2 := Aside0.mk c2
 have HLT := Aside0.mk (blk_lt hbk)
 have HZU : Aside0 (((setL (vL vs)).map mk).length ≤ 1000 ∧ ∀ p ∈ (setL (vL vs)).map mk, p.size ≤ 10000) := ⟨by rw [List.length_map]; have := setL_len (vL vs); rw [List.length_map, hn] at this; omega, fun p hp => by
  obtain ⟨x, hx, rfl⟩ := List.mem_map.1 hp
  obtain ⟨q, hq, rfl⟩ := List.mem_map.1 ((setL_mem (vL vs) x).1 hx)
  rw [← mk_of q]; exact hz q hq⟩
 have HSO : Aside0 (∀ W, Below W1.heap.size W1 W → Calls Tryz.prog 42 #[.slice A n c] W fun e w' => ∃ (A' : Option Addr) (c' : Nat), e = .returned (.slice A' ((setL (vL vs)).map mk).length c') ∧ Kd.C Kd.string w' A' ((setL (vL vs)).map mk).length ((setL (vL vs)).map mk) ∧ Below W.heap.size W w') := ⟨fun W hb => by
  have h := SetOf_calls A c (vL vs) (by rw [List.length_map, hn]; exact hn2) W (by rw [vL_mkD, List.length_map, hn]; exact Kd.C_below (Kd.C_below hC HB.out) hb) (by rw [List.length_map, hn]; exact hc)
  rw [List.length_map, hn] at h
  refine h.mono ?_
  rintro e w' ⟨v, rfl, hR, hb2⟩
  obtain ⟨A', c', rfl⟩ := Kd.R_slice hR
  exact ⟨A', c', rfl, (Kd.R_reads' hR).2.2, hb2⟩⟩
 have HJO : Aside0 (∀ (A' : Option Addr) (c' : Nat) W, Kd.C Kd.string W A' ((setL (vL vs)).map mk).length ((setL (vL vs)).map mk) → Calls Tryz.prog 48 #[.slice A' ((setL (vL vs)).map mk).length c', .string ⟨#[44]⟩] W fun e w' => e = .returned (.string J) ∧ W = w') := ⟨fun A' c' W h => by
  have := joined_calls ⟨#[44]⟩ (by decide) A' c' _ ((setL (vL vs)).map mk) rfl HZU.out.1 HZU.out.2 W h
  rwa [hJ] at this⟩
 generalize ((setL (vL vs)).map mk).length = ml at HSO HJO
 generalize ((setL (vL vs)).map mk) = us at HSO HJO
 clear hbk hC hJ HZU hz
 have z1 : (9223372036854775807 < key.size + 1) = False := eq_false (by omega)
 have z2 : (9223372036854775807 < key.size + 1 + op.size) = False := eq_false (by omega)
 have z3 : (9223372036854775807 < key.size + 1 + op.size + 2) = False := eq_false (by omega)
 have z4 : (9223372036854775807 < key.size + 1 + op.size + 2 + J.size) = False := eq_false (by omega)
 have z5 : (9223372036854775807 < key.size + 1 + op.size + 2 + J.size + 1) = False := eq_false (by omega)
 go_enter Tryz.func51, Tryz.ntmps51
 go_upto_region 8 with (fail)
 go_region_held_law (fun w' => w'.cell? ⟨w.heap.size, 0, none⟩ = some (.string key) ∧ w'.cell? ⟨w.heap.size, 1, none⟩ = some (.string op) ∧ w'.cell? ⟨w.heap.size, 2, none⟩ = some (.slice A n c)) (first | exact ⟨c0, c1, c2⟩ | exact ⟨k0, k1, k2⟩ | go_keep) (first | (refine call_ (N := some 26) 42 #[.slice A n c] (by rfl) (by rfl) (by go_simp) ?_; refine (HSO.out _ ?hb).mono ?_; (case hb => first | exact Below.refl _ _ | exact below_drew1 (Below.refl _ _) | exact pw_below_drewN (Below.refl _ _) _); rintro e w2 ⟨A', c', rfl, hu, hb2⟩; have HU := Aside0.mk hu; have HB2 : Aside0 (Below W1.heap.size W1 w2) := ⟨below_step (by first | exact Below.refl _ _ | exact below_drew1 (Below.refl _ _) | exact pw_below_drewN (Below.refl _ _) _) hb2⟩; clear hu hb2; have k0 := (HB2.out.cell HLT.out).trans HC0.out; have k1 := (HB2.out.cell HLT.out).trans HC1.out; have k2 := (HB2.out.cell HLT.out).trans HC2.out; refine ⟨_, rfl, ?_⟩) | (refine call_ (N := some 27) 48 #[.slice A' ml c', .string ⟨#[44]⟩] (by rfl) (by rfl) (by go_simp) ?_; refine (HJO.out A' c' _ ?hj).mono ?_; (case hj => first | exact HU.out | exact Kd.C_below HU.out (below_drew1 (Below.refl _ _)) | exact Kd.C_below HU.out (pw_below_drewN (Below.refl _ _) _)); rintro e w3 ⟨rfl, rfl⟩; refine ⟨_, rfl, ?_⟩))
 all_goals go_wp2
 all_goals go_ret
 all_goals exact ⟨rfl, by first | exact below_step HB.out HB2.out | exact below_step HB.out (below_drew1 HB2.out) | exact below_step HB.out (pw_below_drewN HB2.out _)⟩
set_option maxHeartbeats 8000000 in
theorem Wr_notin (key op : ByteArray) (hx : op.toList = [110, 111, 116, 105, 110]) (hos : op.size ≤ 100) (hk : key.size ≤ 2000) (vs : List ByteArray) (n : Nat) (hn : vs.length = n) (hn2 : n ≤ 1000) (c : Nat) (hc : n ≤ c) (hz : ∀ v ∈ vs, v.size ≤ 10000) (J : ByteArray) (hJ : joinB ⟨#[44]⟩ ((setL (vL vs)).map mk) = J) (hJs : J.size ≤ 20000000) (A : Option Addr) (w : World) (hC : Kd.C Kd.string w A n vs) :
   Calls Tryz.prog 51 #[.agg #[.string key, .string op, .slice A n c]] w fun e w' => e = .returned (.string (key ++ ⟨#[32]⟩ ++ op ++ ⟨#[32, 40]⟩ ++ J ++ ⟨#[41]⟩)) ∧ Below w.heap.size w w' := by
 have e_eq : (op.toList == ([61] : List UInt8)) = false := by rw [hx]; rfl
 have e_deq : (op.toList == ([61, 61] : List UInt8)) = false := by rw [hx]; rfl
 have e_ne : (op.toList == ([33, 61] : List UInt8)) = false := by rw [hx]; rfl
 have e_in : (op.toList == ([105, 110] : List UInt8)) = false := by rw [hx]; rfl
 have e_notin : (op.toList == ([110, 111, 116, 105, 110] : List UInt8)) = true := by rw [hx]; rfl
 have e_gt : (op.toList == ([103, 116] : List UInt8)) = false := by rw [hx]; rfl
 have e_lt : (op.toList == ([108, 116] : List UInt8)) = false := by rw [hx]; rfl
 have e_ex : (op.toList == ([101, 120, 105, 115, 116, 115] : List UInt8)) = false := by rw [hx]; rfl
 have e_nex : (op.toList == ([33] : List UInt8)) = false := by rw [hx]; rfl
 clear hx
 obtain ⟨W1, hW1⟩ : ∃ W1, w.alloc (.cells #[.string key, .string op, .slice A n c] 53) = W1 := ⟨_, rfl⟩
 have HB : Aside0 (Below w.heap.size w W1) := ⟨by rw [← hW1]; exact below_alloc (Below.refl _ _) _⟩
 have hbk : W1.heap[w.heap.size]? = some (.cells #[.string key, .string op, .slice A n c] 53 (0, 0)) := by rw [← hW1]; exact heap_alloc_new w _
 have c0 : W1.cell? ⟨w.heap.size, 0, none⟩ = some (.string key) := (blk_cell hbk 0).trans rfl
 have c1 : W1.cell? ⟨w.heap.size, 1, none⟩ = some (.string op) := (blk_cell hbk 1).trans rfl
 have c2 : W1.cell? ⟨w.heap.size, 2, none⟩ = some (.slice A n c) := (blk_cell hbk 2).trans rfl
 have HC0 := Aside0.mk c0
 have HC1 := Aside0.mk c1
 have HC2 := Aside0.mk c2
 have HLT := Aside0.mk (blk_lt hbk)
 have HZU : Aside0 (((setL (vL vs)).map mk).length ≤ 1000 ∧ ∀ p ∈ (setL (vL vs)).map mk, p.size ≤ 10000) := ⟨by rw [List.length_map]; have := setL_len (vL vs); rw [List.length_map, hn] at this; omega, fun p hp => by
  obtain ⟨x, hx, rfl⟩ := List.mem_map.1 hp
  obtain ⟨q, hq, rfl⟩ := List.mem_map.1 ((setL_mem (vL vs) x).1 hx)
  rw [← mk_of q]; exact hz q hq⟩
 have HSO : Aside0 (∀ W, Below W1.heap.size W1 W → Calls Tryz.prog 42 #[.slice A n c] W fun e w' => ∃ (A' : Option Addr) (c' : Nat), e = .returned (.slice A' ((setL (vL vs)).map mk).length c') ∧ Kd.C Kd.string w' A' ((setL (vL vs)).map mk).length ((setL (vL vs)).map mk) ∧ Below W.heap.size W w') := ⟨fun W hb => by
  have h := SetOf_calls A c (vL vs) (by rw [List.length_map, hn]; exact hn2) W (by rw [vL_mkD, List.length_map, hn]; exact Kd.C_below (Kd.C_below hC HB.out) hb) (by rw [List.length_map, hn]; exact hc)
  rw [List.length_map, hn] at h
  refine h.mono ?_
  rintro e w' ⟨v, rfl, hR, hb2⟩
  obtain ⟨A', c', rfl⟩ := Kd.R_slice hR
  exact ⟨A', c', rfl, (Kd.R_reads' hR).2.2, hb2⟩⟩
 have HJO : Aside0 (∀ (A' : Option Addr) (c' : Nat) W, Kd.C Kd.string W A' ((setL (vL vs)).map mk).length ((setL (vL vs)).map mk) → Calls Tryz.prog 48 #[.slice A' ((setL (vL vs)).map mk).length c', .string ⟨#[44]⟩] W fun e w' => e = .returned (.string J) ∧ W = w') := ⟨fun A' c' W h => by
  have := joined_calls ⟨#[44]⟩ (by decide) A' c' _ ((setL (vL vs)).map mk) rfl HZU.out.1 HZU.out.2 W h
  rwa [hJ] at this⟩
 generalize ((setL (vL vs)).map mk).length = ml at HSO HJO
 generalize ((setL (vL vs)).map mk) = us at HSO HJO
 clear hbk hC hJ HZU hz
 have z1 : (9223372036854775807 < key.size + 1) = False := eq_false (by omega)
 have z2 : (9223372036854775807 < key.size + 1 + op.size) = False := eq_false (by omega)
 have z3 : (9223372036854775807 < key.size + 1 + op.size + 2) = False := eq_false (by omega)
 have z4 : (9223372036854775807 < key.size + 1 + op.size + 2 + J.size) = False := eq_false (by omega)
 have z5 : (9223372036854775807 < key.size + 1 + op.size + 2 + J.size + 1) = False := eq_false (by omega)
 go_enter Tryz.func51, Tryz.ntmps51
 go_upto_region 8 with (fail)
 go_region_held_law (fun w' => w'.cell? ⟨w.heap.size, 0, none⟩ = some (.string key) ∧ w'.cell? ⟨w.heap.size, 1, none⟩ = some (.string op) ∧ w'.cell? ⟨w.heap.size, 2, none⟩ = some (.slice A n c)) (first | exact ⟨c0, c1, c2⟩ | exact ⟨k0, k1, k2⟩ | go_keep) (first | (refine call_ (N := some 26) 42 #[.slice A n c] (by rfl) (by rfl) (by go_simp) ?_; refine (HSO.out _ ?hb).mono ?_; (case hb => first | exact Below.refl _ _ | exact below_drew1 (Below.refl _ _) | exact pw_below_drewN (Below.refl _ _) _); rintro e w2 ⟨A', c', rfl, hu, hb2⟩; have HU := Aside0.mk hu; have HB2 : Aside0 (Below W1.heap.size W1 w2) := ⟨below_step (by first | exact Below.refl _ _ | exact below_drew1 (Below.refl _ _) | exact pw_below_drewN (Below.refl _ _) _) hb2⟩; clear hu hb2; have k0 := (HB2.out.cell HLT.out).trans HC0.out; have k1 := (HB2.out.cell HLT.out).trans HC1.out; have k2 := (HB2.out.cell HLT.out).trans HC2.out; refine ⟨_, rfl, ?_⟩) | (refine call_ (N := some 27) 48 #[.slice A' ml c', .string ⟨#[44]⟩] (by rfl) (by rfl) (by go_simp) ?_; refine (HJO.out A' c' _ ?hj).mono ?_; (case hj => first | exact HU.out | exact Kd.C_below HU.out (below_drew1 (Below.refl _ _)) | exact Kd.C_below HU.out (pw_below_drewN (Below.refl _ _) _)); rintro e w3 ⟨rfl, rfl⟩; refine ⟨_, rfl, ?_⟩))
 all_goals go_wp2
 all_goals go_ret
 all_goals exact ⟨rfl, by first | exact below_step HB.out HB2.out | exact below_step HB.out (below_drew1 HB2.out) | exact below_step HB.out (pw_below_drewN HB2.out _)⟩
end Go.Proofs.YthfjolafikgpoaaGreatDoor.Hand
