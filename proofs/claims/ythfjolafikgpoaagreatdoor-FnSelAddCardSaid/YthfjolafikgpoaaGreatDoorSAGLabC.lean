/- (*Requirement).Matches: what labels keep a requirement. -/
import Derived.Test.YthfjolafikgpoaaGreatDoorSAGLabB
import Derived.Deep.RegionHeldLaw
namespace Go.Proofs.YthfjolafikgpoaaGreatDoor.Hand
open Go.RowKit Go.Maps Go.Proofs.YthfjolafikgpoaaGreatDoorW.PrintWords Go.Proofs.YthfjolafikgpoaaGreatDoorW.PrintLast Go.Proofs.YthfjolafikgpoaaGreatDoorW.PrintMore Go.Proofs.YthfjolafikgpoaaGreatDoor.Base
set_option linter.unusedVariables false
set_option linter.unusedSimpArgs false
set_option maxRecDepth 100000
def meetsR (op : L) (vs : List L) (got : Option L) : Bool :=
 if op = [105, 110] ∨ op = [61] ∨ op = [61, 61] then (match got with | some v => vs.contains v | none => false)
 else if op = [110, 111, 116, 105, 110] ∨ op = [33, 61] then (match got with | some v => !vs.contains v | none => true)
 else if op = [101, 120, 105, 115, 116, 115] then got.isSome
 else if op = [33] then !got.isSome
 else if op = [103, 116] ∨ op = [108, 116] then (match got with
   | some v => (match pint v, vs with
     | some a, [x] => (match pint x with | some b => if op = [103, 116] then decide (b < a) else decide (a < b) | none => false)
     | _, _ => false)
   | none => false)
 else false
theorem meets_more {x : L} {vs : List L} {v : L} (hx : x = [103, 116] ∨ x = [108, 116]) (h : vs.length ≠ 1) : meetsR x vs (some v) = false := by
 match vs, h with
 | [], _ => rcases hx with rfl | rfl <;> (simp [meetsR])
 | [u], h => exact absurd rfl h
 | a :: b :: l, _ => rcases hx with rfl | rfl <;> (simp [meetsR])
set_option maxHeartbeats 16000000 in
theorem Matches_gt (key op : ByteArray) (hk : key.size ≤ 100000000) (A : Option Addr) (c n b o : Nat) (vs : List ByteArray) (hn : vs.length = n) (hn2 : n ≤ 1000000) (hz : ∀ p ∈ vs, p.size ≤ 100000000) (bm N : Nat) (m : List (L × L)) (hmz : ∀ v, mget m key.data.toList = some v → v.length ≤ 100000000) (w : World)
   (c0 : w.cell? ⟨b, o, none⟩ = some (.string key)) (c1 : w.cell? ⟨b, o + 1, none⟩ = some (.string op)) (c2 : w.cell? ⟨b, o + 2, none⟩ = some (.slice A n c)) (hC : Kd.C Kd.string w A n vs) (hM : IsLab w bm N m) (hT : TV w) (hop : op.data.toList = [103, 116]) :
   Calls Tryz.prog 217 #[.pointer (some ⟨b, o, none⟩), .iface 96 (.map (some bm))] w fun e w' => e = .returned (.bool (meetsR op.data.toList (vL vs) (mget m key.data.toList))) ∧ Below w.heap.size w w' := by
 have HHAS := Aside0.mk (fun (W : World) (hb : Below w.heap.size w W) => LHas_calls bm N m key (by omega) W (hM.below hb))
 have HGET := Aside0.mk (fun (W : World) (hb : Below w.heap.size w W) => LGet_calls bm N m key (by omega) W (hM.below hb))
 have HLT := Aside0.mk (show b < w.heap.size from World.block_lt_of_cell? w _ c0)
 have HVAL := Aside0.mk (fun (v : ByteArray) (W : World) (hb2 : Below w.heap.size w W) => hasValue_calls A c n b o vs hn hn2 v W ((hb2.cell HLT.out).trans c2) (Kd.C_below hC hb2))
 have HC0 := Aside0.mk c0
 have HC1 := Aside0.mk c1
 have HC2 := Aside0.mk c2
 have HT := Aside0.mk hT
 have HZ := Aside0.mk hz
 have HC := Aside0.mk hC
 obtain ⟨x, hx⟩ : ∃ x, op.toList = x := ⟨_, rfl⟩
 have hx2 : op.data.toList = x := by rw [← hx, toList_eq]
 rw [hx2]
 obtain ⟨got, hgot⟩ : ∃ got, mget m key.data.toList = got := ⟨_, rfl⟩
 rw [hgot] at HHAS HGET hmz ⊢
 clear hT hz hC hM hgot
 have na1 : ∀ w : World, (nilAhead 390 96 (.map (some bm)) "Has").run Tryz.prog w = .ok (some false) w := fun _ => by kernel_rfl
 have na2 : ∀ w : World, (nilAhead 390 96 (.map (some bm)) "Get").run Tryz.prog w = .ok (some false) w := fun _ => by kernel_rfl
 have me1 : ∀ w : World, (method 390 96 (.map (some bm)) "Has").run Tryz.prog w = .ok (242, .map (some bm)) w := fun _ => by kernel_rfl
 have me2 : ∀ w : World, (method 390 96 (.map (some bm)) "Get").run Tryz.prog w = .ok (241, .map (some bm)) w := fun _ => by kernel_rfl
 have h7 : x = [103, 116] := by rw [← hx2]; exact hop
 clear hop hx2
 have e0 : (op.toList == ([105, 110] : List UInt8)) = false := by rw [hx, h7]; rfl
 have e1 : (op.toList == ([61] : List UInt8)) = false := by rw [hx, h7]; rfl
 have e2 : (op.toList == ([61, 61] : List UInt8)) = false := by rw [hx, h7]; rfl
 have e3 : (op.toList == ([110, 111, 116, 105, 110] : List UInt8)) = false := by rw [hx, h7]; rfl
 have e4 : (op.toList == ([33, 61] : List UInt8)) = false := by rw [hx, h7]; rfl
 have e5 : (op.toList == ([101, 120, 105, 115, 116, 115] : List UInt8)) = false := by rw [hx, h7]; rfl
 have e6 : (op.toList == ([33] : List UInt8)) = false := by rw [hx, h7]; rfl
 have e7 : (op.toList == ([103, 116] : List UInt8)) = true := by rw [hx, h7]; rfl
 have e8 : (op.toList == ([108, 116] : List UInt8)) = false := by rw [hx, h7]; rfl
 cases got with
 | none =>
   have HF : Aside0 (meetsR x (vL vs) none = false) := ⟨by rw [h7]; rfl⟩
   simp only [Option.isSome_none] at HHAS
   clear hx h7
   go_enter Tryz.func217, Tryz.ntmps217
   go_upto_region 20 with (fail)
   go_region_held_law (fun w' => w'.cell? ⟨b, o, none⟩ = some (.string key)) (first | exact c0 | exact k0 | exact j0 | exact k2 | exact k3 | go_keep) ((refine call_ 242 #[.map (some bm), .string key] (by rfl) (by rfl) (by go_simp) ?_; refine (HHAS.out _ ?hb).mono ?_; (case hb => first | exact Below.refl _ _ | exact below_drew1 (Below.refl _ _) | exact pw_below_drewN (Below.refl _ _) _); rintro e w1 ⟨rfl, hw1⟩; have HB1 : Aside0 (Below w.heap.size w w1) := ⟨by rw [hw1]; first | exact Below.refl _ _ | exact below_drew1 (Below.refl _ _) | exact pw_below_drewN (Below.refl _ _) _⟩; have k0 : w1.cell? ⟨b, o, none⟩ = some (.string key) := (HB1.out.cell HLT.out).trans HC0.out; clear hw1; refine ⟨_, rfl, ?_⟩))
   all_goals
     go_wp2
     go_ret
     exact ⟨by rw [HF.out]; first | rfl | (simp; done), HB1.out⟩
 | some v =>
   have hvz := hmz v rfl
   simp only [Option.isSome_some] at HHAS
   simp only [Option.getD_some] at HGET
   obtain ⟨sv, hsv⟩ : ∃ sv, mk v = sv := ⟨_, rfl⟩
   have hsd : sv.data.toList = v := by rw [← hsv]; rfl
   have hsz : sv.size ≤ 2147483647 := by rw [← hsv, mk_size]; omega
   rw [hsv] at HGET
   have HPB := Aside0.mk (fun (h : pint v = none) (W : World) (hb : Below w.heap.size w W) => pint_bad sv hsz (by rw [hsd]; exact h) W (HT.out.below hb))
   have HPO := Aside0.mk (fun (i : Int) (h : pint v = some i) (W : World) (_ : Below w.heap.size w W) => pint_ok sv hsz i (by rw [hsd]; exact h) W)
   clear hsv hsd HVAL hmz
   cases hp : pint v with
   | none =>
     have HF : Aside0 (meetsR x (vL vs) (some v) = false) := ⟨by rw [h7]; simp [meetsR, hp]⟩
     have HP1 := Aside0.mk (HPB.out hp)
     clear HPB HPO hp hx h7
     go_enter Tryz.func217, Tryz.ntmps217
     go_upto_region 20 with (fail)
     go_region_held_law (fun w' => w'.cell? ⟨b, o, none⟩ = some (.string key)) (first | exact c0 | exact k0 | exact j0 | exact k2 | exact k3 | go_keep) ((refine call_ 242 #[.map (some bm), .string key] (by rfl) (by rfl) (by go_simp) ?_; refine (HHAS.out _ ?hb).mono ?_; (case hb => first | exact Below.refl _ _ | exact below_drew1 (Below.refl _ _) | exact pw_below_drewN (Below.refl _ _) _); rintro e w1 ⟨rfl, hw1⟩; have HB1 : Aside0 (Below w.heap.size w w1) := ⟨by rw [hw1]; first | exact Below.refl _ _ | exact below_drew1 (Below.refl _ _) | exact pw_below_drewN (Below.refl _ _) _⟩; have k0 : w1.cell? ⟨b, o, none⟩ = some (.string key) := (HB1.out.cell HLT.out).trans HC0.out; clear hw1; refine ⟨_, rfl, ?_⟩))
     all_goals
       go_upto_region 22 with (fail)
       have j0 : w1.cell? ⟨b, o, none⟩ = some (.string key) := (HB1.out.cell HLT.out).trans HC0.out
       go_region_held_law (fun w' => w'.cell? ⟨b, o, none⟩ = some (.string key)) (first | exact c0 | exact k0 | exact j0 | exact k2 | exact k3 | go_keep) (first | (refine call_ 241 #[.map (some bm), .string key] (by rfl) (by rfl) (by go_simp) ?_; refine (HGET.out _ ?hb).mono ?_; (case hb => (first | exact HB1.out | exact below_drew1 HB1.out | exact pw_below_drewN HB1.out _)); rintro e w2 ⟨rfl, hw2⟩; have HB2 : Aside0 (Below w.heap.size w w2) := ⟨by rw [hw2]; (first | exact HB1.out | exact below_drew1 HB1.out | exact pw_below_drewN HB1.out _)⟩; have k2 : w2.cell? ⟨b, o, none⟩ = some (.string key) := (HB2.out.cell HLT.out).trans HC0.out; clear hw2; refine ⟨_, rfl, ?_⟩) | (refine goes_ Tryz.func65 (by kernel_rfl) rfl #[.string sv, .int .i64 10, .int .i64 64] (by rfl) rfl rfl (by (try simp only [List.map_toArray, List.map_cons, List.map_nil]); first | done | rfl) ?_; refine (HP1.out _ ?hb).mono ?_; (case hb => (first | exact HB2.out | exact below_drew1 HB2.out | exact pw_below_drewN HB2.out _)); rintro e w3 ⟨i, g, rfl, hb3⟩; have HB3 := Aside0.mk (below_step HB2.out hb3); have k3 := (HB3.out.cell HLT.out).trans HC0.out; clear hb3; refine ⟨_, rfl, ?_⟩))
       all_goals
         go_wp2
         go_ret
         exact ⟨by rw [HF.out]; first | rfl | (simp; done), HB3.out⟩
   | some a =>
     have HP1 := Aside0.mk (HPO.out a hp)
     by_cases hm : n = 1
     · obtain ⟨xv, hxv⟩ := one_of (hn.trans hm)
       obtain ⟨ad, hA, hk0⟩ := Kd.at_string HC.out 0 (by omega) (by omega)
       rw [hxv] at hk0
       have hk1 : w.cell? ad = some (.string xv) := by rw [show (0 : Int).toNat = 0 from rfl, add0] at hk0; exact hk0
       have HK1 := Aside0.mk hk1
       have HLT2 := Aside0.mk (World.block_lt_of_cell? w _ hk1)
       have hxz : xv.size ≤ 2147483647 := by have := HZ.out xv (by rw [hxv]; simp); omega
       have HPB2 := Aside0.mk (fun (h : pint xv.data.toList = none) (W : World) (hb : Below w.heap.size w W) => pint_bad xv hxz h W (HT.out.below hb))
       have HPO2 := Aside0.mk (fun (i : Int) (h : pint xv.data.toList = some i) (W : World) => pint_ok xv hxz i h W)
       subst hA
       have m1 : ((n : Int) != 1) = false := by rw [hm]; rfl
       cases hp2 : pint xv.data.toList with
       | none =>
         have HF : Aside0 (meetsR x (vL vs) (some v) = false) := ⟨by rw [h7, hxv]; simp [meetsR, vL, hp, hp2]⟩
         have HP2 := Aside0.mk (HPB2.out hp2)
         clear HPB HPO HPB2 HPO2 hp hp2 hx h7 hk0 hk1 hn HC hxv
         subst hm
         go_enter Tryz.func217, Tryz.ntmps217
         go_upto_region 20 with (fail)
         go_region_held_law (fun w' => w'.cell? ⟨b, o, none⟩ = some (.string key)) (first | exact c0 | exact k0 | exact j0 | exact k2 | exact k3 | go_keep) ((refine call_ 242 #[.map (some bm), .string key] (by rfl) (by rfl) (by go_simp) ?_; refine (HHAS.out _ ?hb).mono ?_; (case hb => first | exact Below.refl _ _ | exact below_drew1 (Below.refl _ _) | exact pw_below_drewN (Below.refl _ _) _); rintro e w1 ⟨rfl, hw1⟩; have HB1 : Aside0 (Below w.heap.size w w1) := ⟨by rw [hw1]; first | exact Below.refl _ _ | exact below_drew1 (Below.refl _ _) | exact pw_below_drewN (Below.refl _ _) _⟩; have k0 : w1.cell? ⟨b, o, none⟩ = some (.string key) := (HB1.out.cell HLT.out).trans HC0.out; clear hw1; refine ⟨_, rfl, ?_⟩))
         all_goals
           go_upto_region 22 with (fail)
           have j0 : w1.cell? ⟨b, o, none⟩ = some (.string key) := (HB1.out.cell HLT.out).trans HC0.out
           go_region_held_law (fun w' => w'.cell? ⟨b, o, none⟩ = some (.string key)) (first | exact c0 | exact k0 | exact j0 | exact k2 | exact k3 | go_keep) (first | (refine call_ 241 #[.map (some bm), .string key] (by rfl) (by rfl) (by go_simp) ?_; refine (HGET.out _ ?hb).mono ?_; (case hb => (first | exact HB1.out | exact below_drew1 HB1.out | exact pw_below_drewN HB1.out _)); rintro e w2 ⟨rfl, hw2⟩; have HB2 : Aside0 (Below w.heap.size w w2) := ⟨by rw [hw2]; (first | exact HB1.out | exact below_drew1 HB1.out | exact pw_below_drewN HB1.out _)⟩; have k2 : w2.cell? ⟨b, o, none⟩ = some (.string key) := (HB2.out.cell HLT.out).trans HC0.out; clear hw2; refine ⟨_, rfl, ?_⟩) | (refine goes_ Tryz.func65 (by kernel_rfl) rfl #[.string sv, .int .i64 10, .int .i64 64] (by rfl) rfl rfl (by (try simp only [List.map_toArray, List.map_cons, List.map_nil]); first | done | rfl) ?_; refine (HP1.out _ ?hb).mono ?_; (case hb => (first | exact HB2.out | exact below_drew1 HB2.out | exact pw_below_drewN HB2.out _)); rintro e w3 ⟨rfl, hb3⟩; have HB3 := Aside0.mk (below_step HB2.out hb3); have k3 := (HB3.out.cell HLT.out).trans HC0.out; clear hb3; refine ⟨_, rfl, ?_⟩))
           all_goals
             have l1 : w3.cell? ⟨b, o + 1, none⟩ = some (.string op) := (HB3.out.cell HLT.out).trans HC1.out
             have l2 := (HB3.out.cell HLT.out).trans HC2.out
             go_wp2
             go_loopg [6, 7, 125] (1) (fun k v6 v7 v125 w' => ∃ j : Nat, v125 = .int .i64 j ∧ Aside0 (k + j = 1 ∧ j = 0) ∧ Aside0 (Below w.heap.size w w'))
             case atStart => exact ⟨0, rfl, ⟨by omega⟩, HB3⟩
             case round =>
              obtain ⟨j, rfl, HJ, HB⟩ := hrel
              obtain ⟨_, rfl⟩ := HJ.out
              have hk2 : wr.cell? ad = some (.string xv) := (HB.out.cell HLT2.out).trans HK1.out
              have l4 : wr.cell? ⟨b, o + 2, none⟩ = some (.slice (some ad) 1 c) := (HB.out.cell HLT.out).trans HC2.out
              clear k0 k2 k3 l1 l2 j0
              go_wp2_with (first | ((with_reducible refine (HP2.out _ HB.out).mono ?_); rintro e w4 ⟨i, g, rfl, hb⟩; have HB4 := Aside0.mk (below_step HB.out hb); clear hb))
              go_ret
              exact ⟨by rw [HF.out]; first | rfl | (simp; done), HB4.out⟩
       | some i =>
         have HF : Aside0 (meetsR x (vL vs) (some v) = decide (i < a)) := ⟨by rw [h7, hxv]; simp [meetsR, vL, hp, hp2]⟩
         have HP2 := Aside0.mk (HPO2.out i hp2)
         clear HPB HPO HPB2 HPO2 hp hp2 hx h7 hk0 hk1 hn HC hxv
         subst hm
         go_enter Tryz.func217, Tryz.ntmps217
         go_upto_region 20 with (fail)
         go_region_held_law (fun w' => w'.cell? ⟨b, o, none⟩ = some (.string key)) (first | exact c0 | exact k0 | exact j0 | exact k2 | exact k3 | go_keep) ((refine call_ 242 #[.map (some bm), .string key] (by rfl) (by rfl) (by go_simp) ?_; refine (HHAS.out _ ?hb).mono ?_; (case hb => first | exact Below.refl _ _ | exact below_drew1 (Below.refl _ _) | exact pw_below_drewN (Below.refl _ _) _); rintro e w1 ⟨rfl, hw1⟩; have HB1 : Aside0 (Below w.heap.size w w1) := ⟨by rw [hw1]; first | exact Below.refl _ _ | exact below_drew1 (Below.refl _ _) | exact pw_below_drewN (Below.refl _ _) _⟩; have k0 : w1.cell? ⟨b, o, none⟩ = some (.string key) := (HB1.out.cell HLT.out).trans HC0.out; clear hw1; refine ⟨_, rfl, ?_⟩))
         all_goals
           go_upto_region 22 with (fail)
           have j0 : w1.cell? ⟨b, o, none⟩ = some (.string key) := (HB1.out.cell HLT.out).trans HC0.out
           go_region_held_law (fun w' => w'.cell? ⟨b, o, none⟩ = some (.string key)) (first | exact c0 | exact k0 | exact j0 | exact k2 | exact k3 | go_keep) (first | (refine call_ 241 #[.map (some bm), .string key] (by rfl) (by rfl) (by go_simp) ?_; refine (HGET.out _ ?hb).mono ?_; (case hb => (first | exact HB1.out | exact below_drew1 HB1.out | exact pw_below_drewN HB1.out _)); rintro e w2 ⟨rfl, hw2⟩; have HB2 : Aside0 (Below w.heap.size w w2) := ⟨by rw [hw2]; (first | exact HB1.out | exact below_drew1 HB1.out | exact pw_below_drewN HB1.out _)⟩; have k2 : w2.cell? ⟨b, o, none⟩ = some (.string key) := (HB2.out.cell HLT.out).trans HC0.out; clear hw2; refine ⟨_, rfl, ?_⟩) | (refine goes_ Tryz.func65 (by kernel_rfl) rfl #[.string sv, .int .i64 10, .int .i64 64] (by rfl) rfl rfl (by (try simp only [List.map_toArray, List.map_cons, List.map_nil]); first | done | rfl) ?_; refine (HP1.out _ ?hb).mono ?_; (case hb => (first | exact HB2.out | exact below_drew1 HB2.out | exact pw_below_drewN HB2.out _)); rintro e w3 ⟨rfl, hb3⟩; have HB3 := Aside0.mk (below_step HB2.out hb3); have k3 := (HB3.out.cell HLT.out).trans HC0.out; clear hb3; refine ⟨_, rfl, ?_⟩))
           all_goals
             have l1 : w3.cell? ⟨b, o + 1, none⟩ = some (.string op) := (HB3.out.cell HLT.out).trans HC1.out
             have l2 := (HB3.out.cell HLT.out).trans HC2.out
             go_wp2
             go_loopg [6, 7, 125] (1) (fun k v6 v7 v125 w' => ∃ j : Nat, v125 = .int .i64 j ∧ Aside0 (k + j = 1) ∧ Aside0 (j = 1 → v7 = .int .i64 i) ∧ Aside0 (Below w.heap.size w w'))
             case atStart => exact ⟨0, rfl, ⟨by omega⟩, ⟨fun h => by cases h⟩, HB3⟩
             case round =>
              obtain ⟨j, rfl, HJ, H7, HB⟩ := hrel
              have l3 : wr.cell? ⟨b, o + 1, none⟩ = some (.string op) := (HB.out.cell HLT.out).trans HC1.out
              have l4 : wr.cell? ⟨b, o + 2, none⟩ = some (.slice (some ad) 1 c) := (HB.out.cell HLT.out).trans HC2.out
              clear k0 k2 k3 l1 l2 j0
              by_cases hj0 : j = 0
              · subst hj0
                have hk2 : wr.cell? ad = some (.string xv) := (HB.out.cell HLT2.out).trans HK1.out
                go_wp2_with (first | ((with_reducible refine (HP2.out _).mono ?_); rintro e w4 ⟨rfl, hb⟩; have HB4 := Aside0.mk (below_step HB.out hb); clear hb))
                go_roundg (0)
                case measure => have := HJ.out; omega
                case rel => exact ⟨1, by go_num, ⟨by omega⟩, ⟨fun _ => rfl⟩, HB4⟩
              · obtain rfl : j = 1 := by have := HJ.out; omega
                have h7 := H7.out rfl
                subst h7
                clear H7
                by_cases hab : i < a
                · go_wp2
                  go_ret
                  exact ⟨by rw [HF.out]; first | rfl | (simp [hab]; done), HB.out⟩
                · go_wp2
                  go_ret
                  exact ⟨by rw [HF.out]; first | rfl | (simp [hab]; done), HB.out⟩
     · have m1 : ((n : Int) != 1) = true := by simpa using (show ¬ (n : Int) = 1 by omega)
       have HF : Aside0 (meetsR x (vL vs) (some v) = false) := ⟨by rw [h7]; exact meets_more (.inl rfl) (by rw [vL, List.length_map, hn]; exact hm)⟩
       clear HPB HPO hp hx h7 hm hn
       go_enter Tryz.func217, Tryz.ntmps217
       go_upto_region 20 with (fail)
       go_region_held_law (fun w' => w'.cell? ⟨b, o, none⟩ = some (.string key)) (first | exact c0 | exact k0 | exact j0 | exact k2 | exact k3 | go_keep) ((refine call_ 242 #[.map (some bm), .string key] (by rfl) (by rfl) (by go_simp) ?_; refine (HHAS.out _ ?hb).mono ?_; (case hb => first | exact Below.refl _ _ | exact below_drew1 (Below.refl _ _) | exact pw_below_drewN (Below.refl _ _) _); rintro e w1 ⟨rfl, hw1⟩; have HB1 : Aside0 (Below w.heap.size w w1) := ⟨by rw [hw1]; first | exact Below.refl _ _ | exact below_drew1 (Below.refl _ _) | exact pw_below_drewN (Below.refl _ _) _⟩; have k0 : w1.cell? ⟨b, o, none⟩ = some (.string key) := (HB1.out.cell HLT.out).trans HC0.out; clear hw1; refine ⟨_, rfl, ?_⟩))
       all_goals
         go_upto_region 22 with (fail)
         have j0 : w1.cell? ⟨b, o, none⟩ = some (.string key) := (HB1.out.cell HLT.out).trans HC0.out
         go_region_held_law (fun w' => w'.cell? ⟨b, o, none⟩ = some (.string key)) (first | exact c0 | exact k0 | exact j0 | exact k2 | exact k3 | go_keep) (first | (refine call_ 241 #[.map (some bm), .string key] (by rfl) (by rfl) (by go_simp) ?_; refine (HGET.out _ ?hb).mono ?_; (case hb => (first | exact HB1.out | exact below_drew1 HB1.out | exact pw_below_drewN HB1.out _)); rintro e w2 ⟨rfl, hw2⟩; have HB2 : Aside0 (Below w.heap.size w w2) := ⟨by rw [hw2]; (first | exact HB1.out | exact below_drew1 HB1.out | exact pw_below_drewN HB1.out _)⟩; have k2 : w2.cell? ⟨b, o, none⟩ = some (.string key) := (HB2.out.cell HLT.out).trans HC0.out; clear hw2; refine ⟨_, rfl, ?_⟩) | (refine goes_ Tryz.func65 (by kernel_rfl) rfl #[.string sv, .int .i64 10, .int .i64 64] (by rfl) rfl rfl (by (try simp only [List.map_toArray, List.map_cons, List.map_nil]); first | done | rfl) ?_; refine (HP1.out _ ?hb).mono ?_; (case hb => (first | exact HB2.out | exact below_drew1 HB2.out | exact pw_below_drewN HB2.out _)); rintro e w3 ⟨rfl, hb3⟩; have HB3 := Aside0.mk (below_step HB2.out hb3); have k3 := (HB3.out.cell HLT.out).trans HC0.out; clear hb3; refine ⟨_, rfl, ?_⟩))
         all_goals
           have l1 : w3.cell? ⟨b, o + 1, none⟩ = some (.string op) := (HB3.out.cell HLT.out).trans HC1.out
           have l2 := (HB3.out.cell HLT.out).trans HC2.out
           go_wp2
           go_ret
           exact ⟨by rw [HF.out]; first | rfl | (simp; done), HB3.out⟩
set_option maxHeartbeats 16000000 in
theorem Matches_lt (key op : ByteArray) (hk : key.size ≤ 100000000) (A : Option Addr) (c n b o : Nat) (vs : List ByteArray) (hn : vs.length = n) (hn2 : n ≤ 1000000) (hz : ∀ p ∈ vs, p.size ≤ 100000000) (bm N : Nat) (m : List (L × L)) (hmz : ∀ v, mget m key.data.toList = some v → v.length ≤ 100000000) (w : World)
   (c0 : w.cell? ⟨b, o, none⟩ = some (.string key)) (c1 : w.cell? ⟨b, o + 1, none⟩ = some (.string op)) (c2 : w.cell? ⟨b, o + 2, none⟩ = some (.slice A n c)) (hC : Kd.C Kd.string w A n vs) (hM : IsLab w bm N m) (hT : TV w) (hop : op.data.toList = [108, 116]) :
   Calls Tryz.prog 217 #[.pointer (some ⟨b, o, none⟩), .iface 96 (.map (some bm))] w fun e w' => e = .returned (.bool (meetsR op.data.toList (vL vs) (mget m key.data.toList))) ∧ Below w.heap.size w w' := by
 have HHAS := Aside0.mk (fun (W : World) (hb : Below w.heap.size w W) => LHas_calls bm N m key (by omega) W (hM.below hb))
 have HGET := Aside0.mk (fun (W : World) (hb : Below w.heap.size w W) => LGet_calls bm N m key (by omega) W (hM.below hb))
 have HLT := Aside0.mk (show b < w.heap.size from World.block_lt_of_cell? w _ c0)
 have HVAL := Aside0.mk (fun (v : ByteArray) (W : World) (hb2 : Below w.heap.size w W) => hasValue_calls A c n b o vs hn hn2 v W ((hb2.cell HLT.out).trans c2) (Kd.C_below hC hb2))
 have HC0 := Aside0.mk c0
 have HC1 := Aside0.mk c1
 have HC2 := Aside0.mk c2
 have HT := Aside0.mk hT
 have HZ := Aside0.mk hz
 have HC := Aside0.mk hC
 obtain ⟨x, hx⟩ : ∃ x, op.toList = x := ⟨_, rfl⟩
 have hx2 : op.data.toList = x := by rw [← hx, toList_eq]
 rw [hx2]
 obtain ⟨got, hgot⟩ : ∃ got, mget m key.data.toList = got := ⟨_, rfl⟩
 rw [hgot] at HHAS HGET hmz ⊢
 clear hT hz hC hM hgot
 have na1 : ∀ w : World, (nilAhead 390 96 (.map (some bm)) "Has").run Tryz.prog w = .ok (some false) w := fun _ => by kernel_rfl
 have na2 : ∀ w : World, (nilAhead 390 96 (.map (some bm)) "Get").run Tryz.prog w = .ok (some false) w := fun _ => by kernel_rfl
 have me1 : ∀ w : World, (method 390 96 (.map (some bm)) "Has").run Tryz.prog w = .ok (242, .map (some bm)) w := fun _ => by kernel_rfl
 have me2 : ∀ w : World, (method 390 96 (.map (some bm)) "Get").run Tryz.prog w = .ok (241, .map (some bm)) w := fun _ => by kernel_rfl
 have h8 : x = [108, 116] := by rw [← hx2]; exact hop
 clear hop hx2
 have e0 : (op.toList == ([105, 110] : List UInt8)) = false := by rw [hx, h8]; rfl
 have e1 : (op.toList == ([61] : List UInt8)) = false := by rw [hx, h8]; rfl
 have e2 : (op.toList == ([61, 61] : List UInt8)) = false := by rw [hx, h8]; rfl
 have e3 : (op.toList == ([110, 111, 116, 105, 110] : List UInt8)) = false := by rw [hx, h8]; rfl
 have e4 : (op.toList == ([33, 61] : List UInt8)) = false := by rw [hx, h8]; rfl
 have e5 : (op.toList == ([101, 120, 105, 115, 116, 115] : List UInt8)) = false := by rw [hx, h8]; rfl
 have e6 : (op.toList == ([33] : List UInt8)) = false := by rw [hx, h8]; rfl
 have e7 : (op.toList == ([103, 116] : List UInt8)) = false := by rw [hx, h8]; rfl
 have e8 : (op.toList == ([108, 116] : List UInt8)) = true := by rw [hx, h8]; rfl
 cases got with
 | none =>
   have HF : Aside0 (meetsR x (vL vs) none = false) := ⟨by rw [h8]; rfl⟩
   simp only [Option.isSome_none] at HHAS
   clear hx h8
   go_enter Tryz.func217, Tryz.ntmps217
   go_upto_region 20 with (fail)
   go_region_held_law (fun w' => w'.cell? ⟨b, o, none⟩ = some (.string key)) (first | exact c0 | exact k0 | exact j0 | exact k2 | exact k3 | go_keep) ((refine call_ 242 #[.map (some bm), .string key] (by rfl) (by rfl) (by go_simp) ?_; refine (HHAS.out _ ?hb).mono ?_; (case hb => first | exact Below.refl _ _ | exact below_drew1 (Below.refl _ _) | exact pw_below_drewN (Below.refl _ _) _); rintro e w1 ⟨rfl, hw1⟩; have HB1 : Aside0 (Below w.heap.size w w1) := ⟨by rw [hw1]; first | exact Below.refl _ _ | exact below_drew1 (Below.refl _ _) | exact pw_below_drewN (Below.refl _ _) _⟩; have k0 : w1.cell? ⟨b, o, none⟩ = some (.string key) := (HB1.out.cell HLT.out).trans HC0.out; clear hw1; refine ⟨_, rfl, ?_⟩))
   all_goals
     go_wp2
     go_ret
     exact ⟨by rw [HF.out]; first | rfl | (simp; done), HB1.out⟩
 | some v =>
   have hvz := hmz v rfl
   simp only [Option.isSome_some] at HHAS
   simp only [Option.getD_some] at HGET
   obtain ⟨sv, hsv⟩ : ∃ sv, mk v = sv := ⟨_, rfl⟩
   have hsd : sv.data.toList = v := by rw [← hsv]; rfl
   have hsz : sv.size ≤ 2147483647 := by rw [← hsv, mk_size]; omega
   rw [hsv] at HGET
   have HPB := Aside0.mk (fun (h : pint v = none) (W : World) (hb : Below w.heap.size w W) => pint_bad sv hsz (by rw [hsd]; exact h) W (HT.out.below hb))
   have HPO := Aside0.mk (fun (i : Int) (h : pint v = some i) (W : World) (_ : Below w.heap.size w W) => pint_ok sv hsz i (by rw [hsd]; exact h) W)
   clear hsv hsd HVAL hmz
   cases hp : pint v with
   | none =>
     have HF : Aside0 (meetsR x (vL vs) (some v) = false) := ⟨by rw [h8]; simp [meetsR, hp]⟩
     have HP1 := Aside0.mk (HPB.out hp)
     clear HPB HPO hp hx h8
     go_enter Tryz.func217, Tryz.ntmps217
     go_upto_region 20 with (fail)
     go_region_held_law (fun w' => w'.cell? ⟨b, o, none⟩ = some (.string key)) (first | exact c0 | exact k0 | exact j0 | exact k2 | exact k3 | go_keep) ((refine call_ 242 #[.map (some bm), .string key] (by rfl) (by rfl) (by go_simp) ?_; refine (HHAS.out _ ?hb).mono ?_; (case hb => first | exact Below.refl _ _ | exact below_drew1 (Below.refl _ _) | exact pw_below_drewN (Below.refl _ _) _); rintro e w1 ⟨rfl, hw1⟩; have HB1 : Aside0 (Below w.heap.size w w1) := ⟨by rw [hw1]; first | exact Below.refl _ _ | exact below_drew1 (Below.refl _ _) | exact pw_below_drewN (Below.refl _ _) _⟩; have k0 : w1.cell? ⟨b, o, none⟩ = some (.string key) := (HB1.out.cell HLT.out).trans HC0.out; clear hw1; refine ⟨_, rfl, ?_⟩))
     all_goals
       go_upto_region 22 with (fail)
       have j0 : w1.cell? ⟨b, o, none⟩ = some (.string key) := (HB1.out.cell HLT.out).trans HC0.out
       go_region_held_law (fun w' => w'.cell? ⟨b, o, none⟩ = some (.string key)) (first | exact c0 | exact k0 | exact j0 | exact k2 | exact k3 | go_keep) (first | (refine call_ 241 #[.map (some bm), .string key] (by rfl) (by rfl) (by go_simp) ?_; refine (HGET.out _ ?hb).mono ?_; (case hb => (first | exact HB1.out | exact below_drew1 HB1.out | exact pw_below_drewN HB1.out _)); rintro e w2 ⟨rfl, hw2⟩; have HB2 : Aside0 (Below w.heap.size w w2) := ⟨by rw [hw2]; (first | exact HB1.out | exact below_drew1 HB1.out | exact pw_below_drewN HB1.out _)⟩; have k2 : w2.cell? ⟨b, o, none⟩ = some (.string key) := (HB2.out.cell HLT.out).trans HC0.out; clear hw2; refine ⟨_, rfl, ?_⟩) | (refine goes_ Tryz.func65 (by kernel_rfl) rfl #[.string sv, .int .i64 10, .int .i64 64] (by rfl) rfl rfl (by (try simp only [List.map_toArray, List.map_cons, List.map_nil]); first | done | rfl) ?_; refine (HP1.out _ ?hb).mono ?_; (case hb => (first | exact HB2.out | exact below_drew1 HB2.out | exact pw_below_drewN HB2.out _)); rintro e w3 ⟨i, g, rfl, hb3⟩; have HB3 := Aside0.mk (below_step HB2.out hb3); have k3 := (HB3.out.cell HLT.out).trans HC0.out; clear hb3; refine ⟨_, rfl, ?_⟩))
       all_goals
         go_wp2
         go_ret
         exact ⟨by rw [HF.out]; first | rfl | (simp; done), HB3.out⟩
   | some a =>
     have HP1 := Aside0.mk (HPO.out a hp)
     by_cases hm : n = 1
     · obtain ⟨xv, hxv⟩ := one_of (hn.trans hm)
       obtain ⟨ad, hA, hk0⟩ := Kd.at_string HC.out 0 (by omega) (by omega)
       rw [hxv] at hk0
       have hk1 : w.cell? ad = some (.string xv) := by rw [show (0 : Int).toNat = 0 from rfl, add0] at hk0; exact hk0
       have HK1 := Aside0.mk hk1
       have HLT2 := Aside0.mk (World.block_lt_of_cell? w _ hk1)
       have hxz : xv.size ≤ 2147483647 := by have := HZ.out xv (by rw [hxv]; simp); omega
       have HPB2 := Aside0.mk (fun (h : pint xv.data.toList = none) (W : World) (hb : Below w.heap.size w W) => pint_bad xv hxz h W (HT.out.below hb))
       have HPO2 := Aside0.mk (fun (i : Int) (h : pint xv.data.toList = some i) (W : World) => pint_ok xv hxz i h W)
       subst hA
       have m1 : ((n : Int) != 1) = false := by rw [hm]; rfl
       cases hp2 : pint xv.data.toList with
       | none =>
         have HF : Aside0 (meetsR x (vL vs) (some v) = false) := ⟨by rw [h8, hxv]; simp [meetsR, vL, hp, hp2]⟩
         have HP2 := Aside0.mk (HPB2.out hp2)
         clear HPB HPO HPB2 HPO2 hp hp2 hx h8 hk0 hk1 hn HC hxv
         subst hm
         go_enter Tryz.func217, Tryz.ntmps217
         go_upto_region 20 with (fail)
         go_region_held_law (fun w' => w'.cell? ⟨b, o, none⟩ = some (.string key)) (first | exact c0 | exact k0 | exact j0 | exact k2 | exact k3 | go_keep) ((refine call_ 242 #[.map (some bm), .string key] (by rfl) (by rfl) (by go_simp) ?_; refine (HHAS.out _ ?hb).mono ?_; (case hb => first | exact Below.refl _ _ | exact below_drew1 (Below.refl _ _) | exact pw_below_drewN (Below.refl _ _) _); rintro e w1 ⟨rfl, hw1⟩; have HB1 : Aside0 (Below w.heap.size w w1) := ⟨by rw [hw1]; first | exact Below.refl _ _ | exact below_drew1 (Below.refl _ _) | exact pw_below_drewN (Below.refl _ _) _⟩; have k0 : w1.cell? ⟨b, o, none⟩ = some (.string key) := (HB1.out.cell HLT.out).trans HC0.out; clear hw1; refine ⟨_, rfl, ?_⟩))
         all_goals
           go_upto_region 22 with (fail)
           have j0 : w1.cell? ⟨b, o, none⟩ = some (.string key) := (HB1.out.cell HLT.out).trans HC0.out
           go_region_held_law (fun w' => w'.cell? ⟨b, o, none⟩ = some (.string key)) (first | exact c0 | exact k0 | exact j0 | exact k2 | exact k3 | go_keep) (first | (refine call_ 241 #[.map (some bm), .string key] (by rfl) (by rfl) (by go_simp) ?_; refine (HGET.out _ ?hb).mono ?_; (case hb => (first | exact HB1.out | exact below_drew1 HB1.out | exact pw_below_drewN HB1.out _)); rintro e w2 ⟨rfl, hw2⟩; have HB2 : Aside0 (Below w.heap.size w w2) := ⟨by rw [hw2]; (first | exact HB1.out | exact below_drew1 HB1.out | exact pw_below_drewN HB1.out _)⟩; have k2 : w2.cell? ⟨b, o, none⟩ = some (.string key) := (HB2.out.cell HLT.out).trans HC0.out; clear hw2; refine ⟨_, rfl, ?_⟩) | (refine goes_ Tryz.func65 (by kernel_rfl) rfl #[.string sv, .int .i64 10, .int .i64 64] (by rfl) rfl rfl (by (try simp only [List.map_toArray, List.map_cons, List.map_nil]); first | done | rfl) ?_; refine (HP1.out _ ?hb).mono ?_; (case hb => (first | exact HB2.out | exact below_drew1 HB2.out | exact pw_below_drewN HB2.out _)); rintro e w3 ⟨rfl, hb3⟩; have HB3 := Aside0.mk (below_step HB2.out hb3); have k3 := (HB3.out.cell HLT.out).trans HC0.out; clear hb3; refine ⟨_, rfl, ?_⟩))
           all_goals
             have l1 : w3.cell? ⟨b, o + 1, none⟩ = some (.string op) := (HB3.out.cell HLT.out).trans HC1.out
             have l2 := (HB3.out.cell HLT.out).trans HC2.out
             go_wp2
             go_loopg [6, 7, 125] (1) (fun k v6 v7 v125 w' => ∃ j : Nat, v125 = .int .i64 j ∧ Aside0 (k + j = 1 ∧ j = 0) ∧ Aside0 (Below w.heap.size w w'))
             case atStart => exact ⟨0, rfl, ⟨by omega⟩, HB3⟩
             case round =>
              obtain ⟨j, rfl, HJ, HB⟩ := hrel
              obtain ⟨_, rfl⟩ := HJ.out
              have hk2 : wr.cell? ad = some (.string xv) := (HB.out.cell HLT2.out).trans HK1.out
              have l4 : wr.cell? ⟨b, o + 2, none⟩ = some (.slice (some ad) 1 c) := (HB.out.cell HLT.out).trans HC2.out
              clear k0 k2 k3 l1 l2 j0
              go_wp2_with (first | ((with_reducible refine (HP2.out _ HB.out).mono ?_); rintro e w4 ⟨i, g, rfl, hb⟩; have HB4 := Aside0.mk (below_step HB.out hb); clear hb))
              go_ret
              exact ⟨by rw [HF.out]; first | rfl | (simp; done), HB4.out⟩
       | some i =>
         have HF : Aside0 (meetsR x (vL vs) (some v) = decide (a < i)) := ⟨by rw [h8, hxv]; simp [meetsR, vL, hp, hp2]⟩
         have HP2 := Aside0.mk (HPO2.out i hp2)
         clear HPB HPO HPB2 HPO2 hp hp2 hx h8 hk0 hk1 hn HC hxv
         subst hm
         go_enter Tryz.func217, Tryz.ntmps217
         go_upto_region 20 with (fail)
         go_region_held_law (fun w' => w'.cell? ⟨b, o, none⟩ = some (.string key)) (first | exact c0 | exact k0 | exact j0 | exact k2 | exact k3 | go_keep) ((refine call_ 242 #[.map (some bm), .string key] (by rfl) (by rfl) (by go_simp) ?_; refine (HHAS.out _ ?hb).mono ?_; (case hb => first | exact Below.refl _ _ | exact below_drew1 (Below.refl _ _) | exact pw_below_drewN (Below.refl _ _) _); rintro e w1 ⟨rfl, hw1⟩; have HB1 : Aside0 (Below w.heap.size w w1) := ⟨by rw [hw1]; first | exact Below.refl _ _ | exact below_drew1 (Below.refl _ _) | exact pw_below_drewN (Below.refl _ _) _⟩; have k0 : w1.cell? ⟨b, o, none⟩ = some (.string key) := (HB1.out.cell HLT.out).trans HC0.out; clear hw1; refine ⟨_, rfl, ?_⟩))
         all_goals
           go_upto_region 22 with (fail)
           have j0 : w1.cell? ⟨b, o, none⟩ = some (.string key) := (HB1.out.cell HLT.out).trans HC0.out
           go_region_held_law (fun w' => w'.cell? ⟨b, o, none⟩ = some (.string key)) (first | exact c0 | exact k0 | exact j0 | exact k2 | exact k3 | go_keep) (first | (refine call_ 241 #[.map (some bm), .string key] (by rfl) (by rfl) (by go_simp) ?_; refine (HGET.out _ ?hb).mono ?_; (case hb => (first | exact HB1.out | exact below_drew1 HB1.out | exact pw_below_drewN HB1.out _)); rintro e w2 ⟨rfl, hw2⟩; have HB2 : Aside0 (Below w.heap.size w w2) := ⟨by rw [hw2]; (first | exact HB1.out | exact below_drew1 HB1.out | exact pw_below_drewN HB1.out _)⟩; have k2 : w2.cell? ⟨b, o, none⟩ = some (.string key) := (HB2.out.cell HLT.out).trans HC0.out; clear hw2; refine ⟨_, rfl, ?_⟩) | (refine goes_ Tryz.func65 (by kernel_rfl) rfl #[.string sv, .int .i64 10, .int .i64 64] (by rfl) rfl rfl (by (try simp only [List.map_toArray, List.map_cons, List.map_nil]); first | done | rfl) ?_; refine (HP1.out _ ?hb).mono ?_; (case hb => (first | exact HB2.out | exact below_drew1 HB2.out | exact pw_below_drewN HB2.out _)); rintro e w3 ⟨rfl, hb3⟩; have HB3 := Aside0.mk (below_step HB2.out hb3); have k3 := (HB3.out.cell HLT.out).trans HC0.out; clear hb3; refine ⟨_, rfl, ?_⟩))
           all_goals
             have l1 : w3.cell? ⟨b, o + 1, none⟩ = some (.string op) := (HB3.out.cell HLT.out).trans HC1.out
             have l2 := (HB3.out.cell HLT.out).trans HC2.out
             go_wp2
             go_loopg [6, 7, 125] (1) (fun k v6 v7 v125 w' => ∃ j : Nat, v125 = .int .i64 j ∧ Aside0 (k + j = 1) ∧ Aside0 (j = 1 → v7 = .int .i64 i) ∧ Aside0 (Below w.heap.size w w'))
             case atStart => exact ⟨0, rfl, ⟨by omega⟩, ⟨fun h => by cases h⟩, HB3⟩
             case round =>
              obtain ⟨j, rfl, HJ, H7, HB⟩ := hrel
              have l3 : wr.cell? ⟨b, o + 1, none⟩ = some (.string op) := (HB.out.cell HLT.out).trans HC1.out
              have l4 : wr.cell? ⟨b, o + 2, none⟩ = some (.slice (some ad) 1 c) := (HB.out.cell HLT.out).trans HC2.out
              clear k0 k2 k3 l1 l2 j0
              by_cases hj0 : j = 0
              · subst hj0
                have hk2 : wr.cell? ad = some (.string xv) := (HB.out.cell HLT2.out).trans HK1.out
                go_wp2_with (first | ((with_reducible refine (HP2.out _).mono ?_); rintro e w4 ⟨rfl, hb⟩; have HB4 := Aside0.mk (below_step HB.out hb); clear hb))
                go_roundg (0)
                case measure => have := HJ.out; omega
                case rel => exact ⟨1, by go_num, ⟨by omega⟩, ⟨fun _ => rfl⟩, HB4⟩
              · obtain rfl : j = 1 := by have := HJ.out; omega
                have h7 := H7.out rfl
                subst h7
                clear H7
                by_cases hab : a < i
                · go_wp2
                  go_ret
                  exact ⟨by rw [HF.out]; first | rfl | (simp [hab]; done), HB.out⟩
                · go_wp2
                  go_ret
                  exact ⟨by rw [HF.out]; first | rfl | (simp [hab]; done), HB.out⟩
     · have m1 : ((n : Int) != 1) = true := by simpa using (show ¬ (n : Int) = 1 by omega)
       have HF : Aside0 (meetsR x (vL vs) (some v) = false) := ⟨by rw [h8]; exact meets_more (.inr rfl) (by rw [vL, List.length_map, hn]; exact hm)⟩
       clear HPB HPO hp hx h8 hm hn
       go_enter Tryz.func217, Tryz.ntmps217
       go_upto_region 20 with (fail)
       go_region_held_law (fun w' => w'.cell? ⟨b, o, none⟩ = some (.string key)) (first | exact c0 | exact k0 | exact j0 | exact k2 | exact k3 | go_keep) ((refine call_ 242 #[.map (some bm), .string key] (by rfl) (by rfl) (by go_simp) ?_; refine (HHAS.out _ ?hb).mono ?_; (case hb => first | exact Below.refl _ _ | exact below_drew1 (Below.refl _ _) | exact pw_below_drewN (Below.refl _ _) _); rintro e w1 ⟨rfl, hw1⟩; have HB1 : Aside0 (Below w.heap.size w w1) := ⟨by rw [hw1]; first | exact Below.refl _ _ | exact below_drew1 (Below.refl _ _) | exact pw_below_drewN (Below.refl _ _) _⟩; have k0 : w1.cell? ⟨b, o, none⟩ = some (.string key) := (HB1.out.cell HLT.out).trans HC0.out; clear hw1; refine ⟨_, rfl, ?_⟩))
       all_goals
         go_upto_region 22 with (fail)
         have j0 : w1.cell? ⟨b, o, none⟩ = some (.string key) := (HB1.out.cell HLT.out).trans HC0.out
         go_region_held_law (fun w' => w'.cell? ⟨b, o, none⟩ = some (.string key)) (first | exact c0 | exact k0 | exact j0 | exact k2 | exact k3 | go_keep) (first | (refine call_ 241 #[.map (some bm), .string key] (by rfl) (by rfl) (by go_simp) ?_; refine (HGET.out _ ?hb).mono ?_; (case hb => (first | exact HB1.out | exact below_drew1 HB1.out | exact pw_below_drewN HB1.out _)); rintro e w2 ⟨rfl, hw2⟩; have HB2 : Aside0 (Below w.heap.size w w2) := ⟨by rw [hw2]; (first | exact HB1.out | exact below_drew1 HB1.out | exact pw_below_drewN HB1.out _)⟩; have k2 : w2.cell? ⟨b, o, none⟩ = some (.string key) := (HB2.out.cell HLT.out).trans HC0.out; clear hw2; refine ⟨_, rfl, ?_⟩) | (refine goes_ Tryz.func65 (by kernel_rfl) rfl #[.string sv, .int .i64 10, .int .i64 64] (by rfl) rfl rfl (by (try simp only [List.map_toArray, List.map_cons, List.map_nil]); first | done | rfl) ?_; refine (HP1.out _ ?hb).mono ?_; (case hb => (first | exact HB2.out | exact below_drew1 HB2.out | exact pw_below_drewN HB2.out _)); rintro e w3 ⟨rfl, hb3⟩; have HB3 := Aside0.mk (below_step HB2.out hb3); have k3 := (HB3.out.cell HLT.out).trans HC0.out; clear hb3; refine ⟨_, rfl, ?_⟩))
         all_goals
           have l1 : w3.cell? ⟨b, o + 1, none⟩ = some (.string op) := (HB3.out.cell HLT.out).trans HC1.out
           have l2 := (HB3.out.cell HLT.out).trans HC2.out
           go_wp2
           go_ret
           exact ⟨by rw [HF.out]; first | rfl | (simp; done), HB3.out⟩
set_option maxHeartbeats 16000000 in
theorem Matches_calls (key op : ByteArray) (hk : key.size ≤ 100000000) (A : Option Addr) (c n b o : Nat) (vs : List ByteArray) (hn : vs.length = n) (hn2 : n ≤ 1000000) (hz : ∀ p ∈ vs, p.size ≤ 100000000) (bm N : Nat) (m : List (L × L)) (hmz : ∀ v, mget m key.data.toList = some v → v.length ≤ 100000000) (w : World)
   (c0 : w.cell? ⟨b, o, none⟩ = some (.string key)) (c1 : w.cell? ⟨b, o + 1, none⟩ = some (.string op)) (c2 : w.cell? ⟨b, o + 2, none⟩ = some (.slice A n c)) (hC : Kd.C Kd.string w A n vs) (hM : IsLab w bm N m) (hT : TV w) :
   Calls Tryz.prog 217 #[.pointer (some ⟨b, o, none⟩), .iface 96 (.map (some bm))] w fun e w' => e = .returned (.bool (meetsR op.data.toList (vL vs) (mget m key.data.toList))) ∧ Below w.heap.size w w' := by
 by_cases h7 : op.data.toList = [103, 116]
 · exact Matches_gt key op hk A c n b o vs hn hn2 hz bm N m hmz w c0 c1 c2 hC hM hT h7
 by_cases h8 : op.data.toList = [108, 116]
 · exact Matches_lt key op hk A c n b o vs hn hn2 hz bm N m hmz w c0 c1 c2 hC hM hT h8
 have HHAS := Aside0.mk (fun (W : World) (hb : Below w.heap.size w W) => LHas_calls bm N m key (by omega) W (hM.below hb))
 have HGET := Aside0.mk (fun (W : World) (hb : Below w.heap.size w W) => LGet_calls bm N m key (by omega) W (hM.below hb))
 have HLT := Aside0.mk (show b < w.heap.size from World.block_lt_of_cell? w _ c0)
 have HVAL := Aside0.mk (fun (v : ByteArray) (W : World) (hb2 : Below w.heap.size w W) => hasValue_calls A c n b o vs hn hn2 v W ((hb2.cell HLT.out).trans c2) (Kd.C_below hC hb2))
 have HC0 := Aside0.mk c0
 have HC1 := Aside0.mk c1
 have HC2 := Aside0.mk c2
 have HT := Aside0.mk hT
 have HZ := Aside0.mk hz
 have HC := Aside0.mk hC
 obtain ⟨x, hx⟩ : ∃ x, op.toList = x := ⟨_, rfl⟩
 have hx2 : op.data.toList = x := by rw [← hx, toList_eq]
 rw [hx2]
 obtain ⟨got, hgot⟩ : ∃ got, mget m key.data.toList = got := ⟨_, rfl⟩
 rw [hgot] at HHAS HGET hmz ⊢
 clear hT hz hC hM hgot
 have na1 : ∀ w : World, (nilAhead 390 96 (.map (some bm)) "Has").run Tryz.prog w = .ok (some false) w := fun _ => by kernel_rfl
 have na2 : ∀ w : World, (nilAhead 390 96 (.map (some bm)) "Get").run Tryz.prog w = .ok (some false) w := fun _ => by kernel_rfl
 have me1 : ∀ w : World, (method 390 96 (.map (some bm)) "Has").run Tryz.prog w = .ok (242, .map (some bm)) w := fun _ => by kernel_rfl
 have me2 : ∀ w : World, (method 390 96 (.map (some bm)) "Get").run Tryz.prog w = .ok (241, .map (some bm)) w := fun _ => by kernel_rfl
 rw [hx2] at h7 h8
 clear hx2
 by_cases h0 : x = [105, 110]
 · have e0 : (op.toList == ([105, 110] : List UInt8)) = true := by rw [hx, h0]; rfl
   cases got with
   | none =>
     have HF : Aside0 (meetsR x (vL vs) none = false) := ⟨by rw [h0]; rfl⟩
     simp only [Option.isSome_none] at HHAS
     clear hx h0
     go_enter Tryz.func217, Tryz.ntmps217
     go_upto_region 6 with (fail)
     go_region_held_law (fun w' => w'.cell? ⟨b, o, none⟩ = some (.string key)) (first | exact c0 | exact k0 | exact j0 | exact k2 | exact k3 | go_keep) ((refine call_ 242 #[.map (some bm), .string key] (by rfl) (by rfl) (by go_simp) ?_; refine (HHAS.out _ ?hb).mono ?_; (case hb => first | exact Below.refl _ _ | exact below_drew1 (Below.refl _ _) | exact pw_below_drewN (Below.refl _ _) _); rintro e w1 ⟨rfl, hw1⟩; have HB1 : Aside0 (Below w.heap.size w w1) := ⟨by rw [hw1]; first | exact Below.refl _ _ | exact below_drew1 (Below.refl _ _) | exact pw_below_drewN (Below.refl _ _) _⟩; have k0 : w1.cell? ⟨b, o, none⟩ = some (.string key) := (HB1.out.cell HLT.out).trans HC0.out; clear hw1; refine ⟨_, rfl, ?_⟩))
     all_goals
       go_wp2
       go_ret
       exact ⟨by rw [HF.out]; first | rfl | (simp; done), HB1.out⟩
   | some v =>
     have HF : Aside0 (meetsR x (vL vs) (some v) = (vL vs).contains v) := ⟨by rw [h0]; rfl⟩
     simp only [Option.isSome_some] at HHAS
     simp only [Option.getD_some] at HGET
     have HV2 := Aside0.mk (HVAL.out (mk v))
     rw [show (mk v).data.toList = v from rfl] at HV2
     obtain ⟨q, hq⟩ : ∃ q, (vL vs).contains v = q := ⟨_, rfl⟩
     rw [hq] at HV2 HF
     obtain ⟨sv, hsv⟩ : ∃ sv, mk v = sv := ⟨_, rfl⟩
     rw [hsv] at HV2 HGET
     clear hx h0 hq hsv HVAL
     go_enter Tryz.func217, Tryz.ntmps217
     go_upto_region 6 with (fail)
     go_region_held_law (fun w' => w'.cell? ⟨b, o, none⟩ = some (.string key)) (first | exact c0 | exact k0 | exact j0 | exact k2 | exact k3 | go_keep) ((refine call_ 242 #[.map (some bm), .string key] (by rfl) (by rfl) (by go_simp) ?_; refine (HHAS.out _ ?hb).mono ?_; (case hb => first | exact Below.refl _ _ | exact below_drew1 (Below.refl _ _) | exact pw_below_drewN (Below.refl _ _) _); rintro e w1 ⟨rfl, hw1⟩; have HB1 : Aside0 (Below w.heap.size w w1) := ⟨by rw [hw1]; first | exact Below.refl _ _ | exact below_drew1 (Below.refl _ _) | exact pw_below_drewN (Below.refl _ _) _⟩; have k0 : w1.cell? ⟨b, o, none⟩ = some (.string key) := (HB1.out.cell HLT.out).trans HC0.out; clear hw1; refine ⟨_, rfl, ?_⟩))
     all_goals
       go_upto_region 8 with (fail)
       have j0 : w1.cell? ⟨b, o, none⟩ = some (.string key) := (HB1.out.cell HLT.out).trans HC0.out
       go_region_held_law (fun w' => w'.cell? ⟨b, o, none⟩ = some (.string key)) (first | exact c0 | exact k0 | exact j0 | exact k2 | exact k3 | go_keep) (first | (refine call_ 241 #[.map (some bm), .string key] (by rfl) (by rfl) (by go_simp) ?_; refine (HGET.out _ ?hb).mono ?_; (case hb => (first | exact HB1.out | exact below_drew1 HB1.out | exact pw_below_drewN HB1.out _)); rintro e w2 ⟨rfl, hw2⟩; have HB2 : Aside0 (Below w.heap.size w w2) := ⟨by rw [hw2]; (first | exact HB1.out | exact below_drew1 HB1.out | exact pw_below_drewN HB1.out _)⟩; have k2 : w2.cell? ⟨b, o, none⟩ = some (.string key) := (HB2.out.cell HLT.out).trans HC0.out; clear hw2; refine ⟨_, rfl, ?_⟩) | (refine goes_ Tryz.func219 (by kernel_rfl) rfl #[.pointer (some ⟨b, o, none⟩), .string sv] (by rfl) rfl rfl (by (try simp only [List.map_toArray, List.map_cons, List.map_nil]); first | done | rfl) ?_; refine (HV2.out _ ?hb).mono ?_; (case hb => (first | exact HB2.out | exact below_drew1 HB2.out | exact pw_below_drewN HB2.out _)); rintro e w3 ⟨rfl, hb3⟩; have HB3 := Aside0.mk (below_step HB2.out hb3); have k3 := (HB3.out.cell HLT.out).trans HC0.out; clear hb3; refine ⟨_, rfl, ?_⟩))
       all_goals
         go_wp2
         go_ret
         exact ⟨by rw [HF.out]; first | rfl | (simp; done), HB3.out⟩
 have e0 : (op.toList == ([105, 110] : List UInt8)) = false := by rw [hx]; simpa using h0
 by_cases h1 : x = [61]
 · have e1 : (op.toList == ([61] : List UInt8)) = true := by rw [hx, h1]; rfl
   cases got with
   | none =>
     have HF : Aside0 (meetsR x (vL vs) none = false) := ⟨by rw [h1]; rfl⟩
     simp only [Option.isSome_none] at HHAS
     clear hx h1
     go_enter Tryz.func217, Tryz.ntmps217
     go_upto_region 6 with (fail)
     go_region_held_law (fun w' => w'.cell? ⟨b, o, none⟩ = some (.string key)) (first | exact c0 | exact k0 | exact j0 | exact k2 | exact k3 | go_keep) ((refine call_ 242 #[.map (some bm), .string key] (by rfl) (by rfl) (by go_simp) ?_; refine (HHAS.out _ ?hb).mono ?_; (case hb => first | exact Below.refl _ _ | exact below_drew1 (Below.refl _ _) | exact pw_below_drewN (Below.refl _ _) _); rintro e w1 ⟨rfl, hw1⟩; have HB1 : Aside0 (Below w.heap.size w w1) := ⟨by rw [hw1]; first | exact Below.refl _ _ | exact below_drew1 (Below.refl _ _) | exact pw_below_drewN (Below.refl _ _) _⟩; have k0 : w1.cell? ⟨b, o, none⟩ = some (.string key) := (HB1.out.cell HLT.out).trans HC0.out; clear hw1; refine ⟨_, rfl, ?_⟩))
     all_goals
       go_wp2
       go_ret
       exact ⟨by rw [HF.out]; first | rfl | (simp; done), HB1.out⟩
   | some v =>
     have HF : Aside0 (meetsR x (vL vs) (some v) = (vL vs).contains v) := ⟨by rw [h1]; rfl⟩
     simp only [Option.isSome_some] at HHAS
     simp only [Option.getD_some] at HGET
     have HV2 := Aside0.mk (HVAL.out (mk v))
     rw [show (mk v).data.toList = v from rfl] at HV2
     obtain ⟨q, hq⟩ : ∃ q, (vL vs).contains v = q := ⟨_, rfl⟩
     rw [hq] at HV2 HF
     obtain ⟨sv, hsv⟩ : ∃ sv, mk v = sv := ⟨_, rfl⟩
     rw [hsv] at HV2 HGET
     clear hx h1 hq hsv HVAL
     go_enter Tryz.func217, Tryz.ntmps217
     go_upto_region 6 with (fail)
     go_region_held_law (fun w' => w'.cell? ⟨b, o, none⟩ = some (.string key)) (first | exact c0 | exact k0 | exact j0 | exact k2 | exact k3 | go_keep) ((refine call_ 242 #[.map (some bm), .string key] (by rfl) (by rfl) (by go_simp) ?_; refine (HHAS.out _ ?hb).mono ?_; (case hb => first | exact Below.refl _ _ | exact below_drew1 (Below.refl _ _) | exact pw_below_drewN (Below.refl _ _) _); rintro e w1 ⟨rfl, hw1⟩; have HB1 : Aside0 (Below w.heap.size w w1) := ⟨by rw [hw1]; first | exact Below.refl _ _ | exact below_drew1 (Below.refl _ _) | exact pw_below_drewN (Below.refl _ _) _⟩; have k0 : w1.cell? ⟨b, o, none⟩ = some (.string key) := (HB1.out.cell HLT.out).trans HC0.out; clear hw1; refine ⟨_, rfl, ?_⟩))
     all_goals
       go_upto_region 8 with (fail)
       have j0 : w1.cell? ⟨b, o, none⟩ = some (.string key) := (HB1.out.cell HLT.out).trans HC0.out
       go_region_held_law (fun w' => w'.cell? ⟨b, o, none⟩ = some (.string key)) (first | exact c0 | exact k0 | exact j0 | exact k2 | exact k3 | go_keep) (first | (refine call_ 241 #[.map (some bm), .string key] (by rfl) (by rfl) (by go_simp) ?_; refine (HGET.out _ ?hb).mono ?_; (case hb => (first | exact HB1.out | exact below_drew1 HB1.out | exact pw_below_drewN HB1.out _)); rintro e w2 ⟨rfl, hw2⟩; have HB2 : Aside0 (Below w.heap.size w w2) := ⟨by rw [hw2]; (first | exact HB1.out | exact below_drew1 HB1.out | exact pw_below_drewN HB1.out _)⟩; have k2 : w2.cell? ⟨b, o, none⟩ = some (.string key) := (HB2.out.cell HLT.out).trans HC0.out; clear hw2; refine ⟨_, rfl, ?_⟩) | (refine goes_ Tryz.func219 (by kernel_rfl) rfl #[.pointer (some ⟨b, o, none⟩), .string sv] (by rfl) rfl rfl (by (try simp only [List.map_toArray, List.map_cons, List.map_nil]); first | done | rfl) ?_; refine (HV2.out _ ?hb).mono ?_; (case hb => (first | exact HB2.out | exact below_drew1 HB2.out | exact pw_below_drewN HB2.out _)); rintro e w3 ⟨rfl, hb3⟩; have HB3 := Aside0.mk (below_step HB2.out hb3); have k3 := (HB3.out.cell HLT.out).trans HC0.out; clear hb3; refine ⟨_, rfl, ?_⟩))
       all_goals
         go_wp2
         go_ret
         exact ⟨by rw [HF.out]; first | rfl | (simp; done), HB3.out⟩
 have e1 : (op.toList == ([61] : List UInt8)) = false := by rw [hx]; simpa using h1
 by_cases h2 : x = [61, 61]
 · have e2 : (op.toList == ([61, 61] : List UInt8)) = true := by rw [hx, h2]; rfl
   cases got with
   | none =>
     have HF : Aside0 (meetsR x (vL vs) none = false) := ⟨by rw [h2]; rfl⟩
     simp only [Option.isSome_none] at HHAS
     clear hx h2
     go_enter Tryz.func217, Tryz.ntmps217
     go_upto_region 6 with (fail)
     go_region_held_law (fun w' => w'.cell? ⟨b, o, none⟩ = some (.string key)) (first | exact c0 | exact k0 | exact j0 | exact k2 | exact k3 | go_keep) ((refine call_ 242 #[.map (some bm), .string key] (by rfl) (by rfl) (by go_simp) ?_; refine (HHAS.out _ ?hb).mono ?_; (case hb => first | exact Below.refl _ _ | exact below_drew1 (Below.refl _ _) | exact pw_below_drewN (Below.refl _ _) _); rintro e w1 ⟨rfl, hw1⟩; have HB1 : Aside0 (Below w.heap.size w w1) := ⟨by rw [hw1]; first | exact Below.refl _ _ | exact below_drew1 (Below.refl _ _) | exact pw_below_drewN (Below.refl _ _) _⟩; have k0 : w1.cell? ⟨b, o, none⟩ = some (.string key) := (HB1.out.cell HLT.out).trans HC0.out; clear hw1; refine ⟨_, rfl, ?_⟩))
     all_goals
       go_wp2
       go_ret
       exact ⟨by rw [HF.out]; first | rfl | (simp; done), HB1.out⟩
   | some v =>
     have HF : Aside0 (meetsR x (vL vs) (some v) = (vL vs).contains v) := ⟨by rw [h2]; rfl⟩
     simp only [Option.isSome_some] at HHAS
     simp only [Option.getD_some] at HGET
     have HV2 := Aside0.mk (HVAL.out (mk v))
     rw [show (mk v).data.toList = v from rfl] at HV2
     obtain ⟨q, hq⟩ : ∃ q, (vL vs).contains v = q := ⟨_, rfl⟩
     rw [hq] at HV2 HF
     obtain ⟨sv, hsv⟩ : ∃ sv, mk v = sv := ⟨_, rfl⟩
     rw [hsv] at HV2 HGET
     clear hx h2 hq hsv HVAL
     go_enter Tryz.func217, Tryz.ntmps217
     go_upto_region 6 with (fail)
     go_region_held_law (fun w' => w'.cell? ⟨b, o, none⟩ = some (.string key)) (first | exact c0 | exact k0 | exact j0 | exact k2 | exact k3 | go_keep) ((refine call_ 242 #[.map (some bm), .string key] (by rfl) (by rfl) (by go_simp) ?_; refine (HHAS.out _ ?hb).mono ?_; (case hb => first | exact Below.refl _ _ | exact below_drew1 (Below.refl _ _) | exact pw_below_drewN (Below.refl _ _) _); rintro e w1 ⟨rfl, hw1⟩; have HB1 : Aside0 (Below w.heap.size w w1) := ⟨by rw [hw1]; first | exact Below.refl _ _ | exact below_drew1 (Below.refl _ _) | exact pw_below_drewN (Below.refl _ _) _⟩; have k0 : w1.cell? ⟨b, o, none⟩ = some (.string key) := (HB1.out.cell HLT.out).trans HC0.out; clear hw1; refine ⟨_, rfl, ?_⟩))
     all_goals
       go_upto_region 8 with (fail)
       have j0 : w1.cell? ⟨b, o, none⟩ = some (.string key) := (HB1.out.cell HLT.out).trans HC0.out
       go_region_held_law (fun w' => w'.cell? ⟨b, o, none⟩ = some (.string key)) (first | exact c0 | exact k0 | exact j0 | exact k2 | exact k3 | go_keep) (first | (refine call_ 241 #[.map (some bm), .string key] (by rfl) (by rfl) (by go_simp) ?_; refine (HGET.out _ ?hb).mono ?_; (case hb => (first | exact HB1.out | exact below_drew1 HB1.out | exact pw_below_drewN HB1.out _)); rintro e w2 ⟨rfl, hw2⟩; have HB2 : Aside0 (Below w.heap.size w w2) := ⟨by rw [hw2]; (first | exact HB1.out | exact below_drew1 HB1.out | exact pw_below_drewN HB1.out _)⟩; have k2 : w2.cell? ⟨b, o, none⟩ = some (.string key) := (HB2.out.cell HLT.out).trans HC0.out; clear hw2; refine ⟨_, rfl, ?_⟩) | (refine goes_ Tryz.func219 (by kernel_rfl) rfl #[.pointer (some ⟨b, o, none⟩), .string sv] (by rfl) rfl rfl (by (try simp only [List.map_toArray, List.map_cons, List.map_nil]); first | done | rfl) ?_; refine (HV2.out _ ?hb).mono ?_; (case hb => (first | exact HB2.out | exact below_drew1 HB2.out | exact pw_below_drewN HB2.out _)); rintro e w3 ⟨rfl, hb3⟩; have HB3 := Aside0.mk (below_step HB2.out hb3); have k3 := (HB3.out.cell HLT.out).trans HC0.out; clear hb3; refine ⟨_, rfl, ?_⟩))
       all_goals
         go_wp2
         go_ret
         exact ⟨by rw [HF.out]; first | rfl | (simp; done), HB3.out⟩
 have e2 : (op.toList == ([61, 61] : List UInt8)) = false := by rw [hx]; simpa using h2
 by_cases h3 : x = [110, 111, 116, 105, 110]
 · have e3 : (op.toList == ([110, 111, 116, 105, 110] : List UInt8)) = true := by rw [hx, h3]; rfl
   cases got with
   | none =>
     have HF : Aside0 (meetsR x (vL vs) none = true) := ⟨by rw [h3]; rfl⟩
     simp only [Option.isSome_none] at HHAS
     clear hx h3
     go_enter Tryz.func217, Tryz.ntmps217
     go_upto_region 11 with (fail)
     go_region_held_law (fun w' => w'.cell? ⟨b, o, none⟩ = some (.string key)) (first | exact c0 | exact k0 | exact j0 | exact k2 | exact k3 | go_keep) ((refine call_ 242 #[.map (some bm), .string key] (by rfl) (by rfl) (by go_simp) ?_; refine (HHAS.out _ ?hb).mono ?_; (case hb => first | exact Below.refl _ _ | exact below_drew1 (Below.refl _ _) | exact pw_below_drewN (Below.refl _ _) _); rintro e w1 ⟨rfl, hw1⟩; have HB1 : Aside0 (Below w.heap.size w w1) := ⟨by rw [hw1]; first | exact Below.refl _ _ | exact below_drew1 (Below.refl _ _) | exact pw_below_drewN (Below.refl _ _) _⟩; have k0 : w1.cell? ⟨b, o, none⟩ = some (.string key) := (HB1.out.cell HLT.out).trans HC0.out; clear hw1; refine ⟨_, rfl, ?_⟩))
     all_goals
       go_wp2
       go_ret
       exact ⟨by rw [HF.out]; first | rfl | (simp; done), HB1.out⟩
   | some v =>
     have HF : Aside0 (meetsR x (vL vs) (some v) = !(vL vs).contains v) := ⟨by rw [h3]; rfl⟩
     simp only [Option.isSome_some] at HHAS
     simp only [Option.getD_some] at HGET
     have HV2 := Aside0.mk (HVAL.out (mk v))
     rw [show (mk v).data.toList = v from rfl] at HV2
     obtain ⟨q, hq⟩ : ∃ q, (vL vs).contains v = q := ⟨_, rfl⟩
     rw [hq] at HV2 HF
     obtain ⟨sv, hsv⟩ : ∃ sv, mk v = sv := ⟨_, rfl⟩
     rw [hsv] at HV2 HGET
     clear hx h3 hq hsv HVAL
     go_enter Tryz.func217, Tryz.ntmps217
     go_upto_region 11 with (fail)
     go_region_held_law (fun w' => w'.cell? ⟨b, o, none⟩ = some (.string key)) (first | exact c0 | exact k0 | exact j0 | exact k2 | exact k3 | go_keep) ((refine call_ 242 #[.map (some bm), .string key] (by rfl) (by rfl) (by go_simp) ?_; refine (HHAS.out _ ?hb).mono ?_; (case hb => first | exact Below.refl _ _ | exact below_drew1 (Below.refl _ _) | exact pw_below_drewN (Below.refl _ _) _); rintro e w1 ⟨rfl, hw1⟩; have HB1 : Aside0 (Below w.heap.size w w1) := ⟨by rw [hw1]; first | exact Below.refl _ _ | exact below_drew1 (Below.refl _ _) | exact pw_below_drewN (Below.refl _ _) _⟩; have k0 : w1.cell? ⟨b, o, none⟩ = some (.string key) := (HB1.out.cell HLT.out).trans HC0.out; clear hw1; refine ⟨_, rfl, ?_⟩))
     all_goals
       go_upto_region 13 with (fail)
       have j0 : w1.cell? ⟨b, o, none⟩ = some (.string key) := (HB1.out.cell HLT.out).trans HC0.out
       go_region_held_law (fun w' => w'.cell? ⟨b, o, none⟩ = some (.string key)) (first | exact c0 | exact k0 | exact j0 | exact k2 | exact k3 | go_keep) (first | (refine call_ 241 #[.map (some bm), .string key] (by rfl) (by rfl) (by go_simp) ?_; refine (HGET.out _ ?hb).mono ?_; (case hb => (first | exact HB1.out | exact below_drew1 HB1.out | exact pw_below_drewN HB1.out _)); rintro e w2 ⟨rfl, hw2⟩; have HB2 : Aside0 (Below w.heap.size w w2) := ⟨by rw [hw2]; (first | exact HB1.out | exact below_drew1 HB1.out | exact pw_below_drewN HB1.out _)⟩; have k2 : w2.cell? ⟨b, o, none⟩ = some (.string key) := (HB2.out.cell HLT.out).trans HC0.out; clear hw2; refine ⟨_, rfl, ?_⟩) | (refine goes_ Tryz.func219 (by kernel_rfl) rfl #[.pointer (some ⟨b, o, none⟩), .string sv] (by rfl) rfl rfl (by (try simp only [List.map_toArray, List.map_cons, List.map_nil]); first | done | rfl) ?_; refine (HV2.out _ ?hb).mono ?_; (case hb => (first | exact HB2.out | exact below_drew1 HB2.out | exact pw_below_drewN HB2.out _)); rintro e w3 ⟨rfl, hb3⟩; have HB3 := Aside0.mk (below_step HB2.out hb3); have k3 := (HB3.out.cell HLT.out).trans HC0.out; clear hb3; refine ⟨_, rfl, ?_⟩))
       all_goals
         go_wp2
         go_ret
         exact ⟨by rw [HF.out]; first | rfl | (simp; done), HB3.out⟩
 have e3 : (op.toList == ([110, 111, 116, 105, 110] : List UInt8)) = false := by rw [hx]; simpa using h3
 by_cases h4 : x = [33, 61]
 · have e4 : (op.toList == ([33, 61] : List UInt8)) = true := by rw [hx, h4]; rfl
   cases got with
   | none =>
     have HF : Aside0 (meetsR x (vL vs) none = true) := ⟨by rw [h4]; rfl⟩
     simp only [Option.isSome_none] at HHAS
     clear hx h4
     go_enter Tryz.func217, Tryz.ntmps217
     go_upto_region 11 with (fail)
     go_region_held_law (fun w' => w'.cell? ⟨b, o, none⟩ = some (.string key)) (first | exact c0 | exact k0 | exact j0 | exact k2 | exact k3 | go_keep) ((refine call_ 242 #[.map (some bm), .string key] (by rfl) (by rfl) (by go_simp) ?_; refine (HHAS.out _ ?hb).mono ?_; (case hb => first | exact Below.refl _ _ | exact below_drew1 (Below.refl _ _) | exact pw_below_drewN (Below.refl _ _) _); rintro e w1 ⟨rfl, hw1⟩; have HB1 : Aside0 (Below w.heap.size w w1) := ⟨by rw [hw1]; first | exact Below.refl _ _ | exact below_drew1 (Below.refl _ _) | exact pw_below_drewN (Below.refl _ _) _⟩; have k0 : w1.cell? ⟨b, o, none⟩ = some (.string key) := (HB1.out.cell HLT.out).trans HC0.out; clear hw1; refine ⟨_, rfl, ?_⟩))
     all_goals
       go_wp2
       go_ret
       exact ⟨by rw [HF.out]; first | rfl | (simp; done), HB1.out⟩
   | some v =>
     have HF : Aside0 (meetsR x (vL vs) (some v) = !(vL vs).contains v) := ⟨by rw [h4]; rfl⟩
     simp only [Option.isSome_some] at HHAS
     simp only [Option.getD_some] at HGET
     have HV2 := Aside0.mk (HVAL.out (mk v))
     rw [show (mk v).data.toList = v from rfl] at HV2
     obtain ⟨q, hq⟩ : ∃ q, (vL vs).contains v = q := ⟨_, rfl⟩
     rw [hq] at HV2 HF
     obtain ⟨sv, hsv⟩ : ∃ sv, mk v = sv := ⟨_, rfl⟩
     rw [hsv] at HV2 HGET
     clear hx h4 hq hsv HVAL
     go_enter Tryz.func217, Tryz.ntmps217
     go_upto_region 11 with (fail)
     go_region_held_law (fun w' => w'.cell? ⟨b, o, none⟩ = some (.string key)) (first | exact c0 | exact k0 | exact j0 | exact k2 | exact k3 | go_keep) ((refine call_ 242 #[.map (some bm), .string key] (by rfl) (by rfl) (by go_simp) ?_; refine (HHAS.out _ ?hb).mono ?_; (case hb => first | exact Below.refl _ _ | exact below_drew1 (Below.refl _ _) | exact pw_below_drewN (Below.refl _ _) _); rintro e w1 ⟨rfl, hw1⟩; have HB1 : Aside0 (Below w.heap.size w w1) := ⟨by rw [hw1]; first | exact Below.refl _ _ | exact below_drew1 (Below.refl _ _) | exact pw_below_drewN (Below.refl _ _) _⟩; have k0 : w1.cell? ⟨b, o, none⟩ = some (.string key) := (HB1.out.cell HLT.out).trans HC0.out; clear hw1; refine ⟨_, rfl, ?_⟩))
     all_goals
       go_upto_region 13 with (fail)
       have j0 : w1.cell? ⟨b, o, none⟩ = some (.string key) := (HB1.out.cell HLT.out).trans HC0.out
       go_region_held_law (fun w' => w'.cell? ⟨b, o, none⟩ = some (.string key)) (first | exact c0 | exact k0 | exact j0 | exact k2 | exact k3 | go_keep) (first | (refine call_ 241 #[.map (some bm), .string key] (by rfl) (by rfl) (by go_simp) ?_; refine (HGET.out _ ?hb).mono ?_; (case hb => (first | exact HB1.out | exact below_drew1 HB1.out | exact pw_below_drewN HB1.out _)); rintro e w2 ⟨rfl, hw2⟩; have HB2 : Aside0 (Below w.heap.size w w2) := ⟨by rw [hw2]; (first | exact HB1.out | exact below_drew1 HB1.out | exact pw_below_drewN HB1.out _)⟩; have k2 : w2.cell? ⟨b, o, none⟩ = some (.string key) := (HB2.out.cell HLT.out).trans HC0.out; clear hw2; refine ⟨_, rfl, ?_⟩) | (refine goes_ Tryz.func219 (by kernel_rfl) rfl #[.pointer (some ⟨b, o, none⟩), .string sv] (by rfl) rfl rfl (by (try simp only [List.map_toArray, List.map_cons, List.map_nil]); first | done | rfl) ?_; refine (HV2.out _ ?hb).mono ?_; (case hb => (first | exact HB2.out | exact below_drew1 HB2.out | exact pw_below_drewN HB2.out _)); rintro e w3 ⟨rfl, hb3⟩; have HB3 := Aside0.mk (below_step HB2.out hb3); have k3 := (HB3.out.cell HLT.out).trans HC0.out; clear hb3; refine ⟨_, rfl, ?_⟩))
       all_goals
         go_wp2
         go_ret
         exact ⟨by rw [HF.out]; first | rfl | (simp; done), HB3.out⟩
 have e4 : (op.toList == ([33, 61] : List UInt8)) = false := by rw [hx]; simpa using h4
 by_cases h5 : x = [101, 120, 105, 115, 116, 115]
 · have e5 : (op.toList == ([101, 120, 105, 115, 116, 115] : List UInt8)) = true := by rw [hx, h5]; rfl
   have HF : Aside0 (meetsR x (vL vs) got = got.isSome) := ⟨by rw [h5]; rfl⟩
   obtain ⟨q, hq⟩ : ∃ q, got.isSome = q := ⟨_, rfl⟩
   rw [hq] at HHAS HF
   clear hx h5 hq
   go_enter Tryz.func217, Tryz.ntmps217
   go_upto_region 15 with (fail)
   go_region_held_law (fun w' => w'.cell? ⟨b, o, none⟩ = some (.string key)) (first | exact c0 | exact k0 | exact j0 | exact k2 | exact k3 | go_keep) ((refine call_ 242 #[.map (some bm), .string key] (by rfl) (by rfl) (by go_simp) ?_; refine (HHAS.out _ ?hb).mono ?_; (case hb => first | exact Below.refl _ _ | exact below_drew1 (Below.refl _ _) | exact pw_below_drewN (Below.refl _ _) _); rintro e w1 ⟨rfl, hw1⟩; have HB1 : Aside0 (Below w.heap.size w w1) := ⟨by rw [hw1]; first | exact Below.refl _ _ | exact below_drew1 (Below.refl _ _) | exact pw_below_drewN (Below.refl _ _) _⟩; have k0 : w1.cell? ⟨b, o, none⟩ = some (.string key) := (HB1.out.cell HLT.out).trans HC0.out; clear hw1; refine ⟨_, rfl, ?_⟩))
   all_goals
     go_wp2
     go_ret
     exact ⟨by rw [HF.out]; first | rfl | (simp; done), HB1.out⟩
 have e5 : (op.toList == ([101, 120, 105, 115, 116, 115] : List UInt8)) = false := by rw [hx]; simpa using h5
 by_cases h6 : x = [33]
 · have e6 : (op.toList == ([33] : List UInt8)) = true := by rw [hx, h6]; rfl
   have HF : Aside0 (meetsR x (vL vs) got = !got.isSome) := ⟨by rw [h6]; rfl⟩
   obtain ⟨q, hq⟩ : ∃ q, got.isSome = q := ⟨_, rfl⟩
   rw [hq] at HHAS HF
   clear hx h6 hq
   go_enter Tryz.func217, Tryz.ntmps217
   go_upto_region 17 with (fail)
   go_region_held_law (fun w' => w'.cell? ⟨b, o, none⟩ = some (.string key)) (first | exact c0 | exact k0 | exact j0 | exact k2 | exact k3 | go_keep) ((refine call_ 242 #[.map (some bm), .string key] (by rfl) (by rfl) (by go_simp) ?_; refine (HHAS.out _ ?hb).mono ?_; (case hb => first | exact Below.refl _ _ | exact below_drew1 (Below.refl _ _) | exact pw_below_drewN (Below.refl _ _) _); rintro e w1 ⟨rfl, hw1⟩; have HB1 : Aside0 (Below w.heap.size w w1) := ⟨by rw [hw1]; first | exact Below.refl _ _ | exact below_drew1 (Below.refl _ _) | exact pw_below_drewN (Below.refl _ _) _⟩; have k0 : w1.cell? ⟨b, o, none⟩ = some (.string key) := (HB1.out.cell HLT.out).trans HC0.out; clear hw1; refine ⟨_, rfl, ?_⟩))
   all_goals
     go_wp2
     go_ret
     exact ⟨by rw [HF.out]; first | rfl | (simp; done), HB1.out⟩
 have e6 : (op.toList == ([33] : List UInt8)) = false := by rw [hx]; simpa using h6
 have e7 : (op.toList == ([103, 116] : List UInt8)) = false := by rw [hx]; simpa using h7
 have e8 : (op.toList == ([108, 116] : List UInt8)) = false := by rw [hx]; simpa using h8
 have HF : Aside0 (meetsR x (vL vs) got = false) := ⟨by unfold meetsR; simp [h0, h1, h2, h3, h4, h5, h6, h7, h8]⟩
 clear hx h0 h1 h2 h3 h4 h5 h6 h7 h8
 go_enter Tryz.func217, Tryz.ntmps217
 go_wp2
 go_ret
 exact ⟨by rw [HF.out]; first | rfl | (simp; done), Below.refl _ _⟩
end Go.Proofs.YthfjolafikgpoaaGreatDoor.Hand
