/- (*Requirement).Matches: what labels keep a requirement. -/
import Derived.Test.YteigfmchnblkgaaDoorLabMeetG
namespace Go.Proofs.YteigfmchnblkgaaDoor.Hand
open Go.RowKit Go.Maps Go.Proofs.YteigfmchnblkgaaDoorW.PrintWords Go.Proofs.YteigfmchnblkgaaDoorW.PrintLast Go.Proofs.YteigfmchnblkgaaDoorW.PrintMore Go.Proofs.YteigfmchnblkgaaDoor.Base
set_option linter.unusedVariables false
set_option linter.unusedSimpArgs false
set_option maxRecDepth 100000

set_option maxHeartbeats 16000000 in
theorem Matches_calls (key op : ByteArray) (hk : key.size ≤ 100000000) (A : Option Addr) (c n b o : Nat) (vs : List ByteArray) (hn : vs.length = n) (hn2 : n ≤ 1000000) (hz : ∀ p ∈ vs, p.size ≤ 100000000) (bm N : Nat) (m : List (L × L)) (hmz : ∀ v, mget m key.data.toList = some v → v.length ≤ 100000000) (w : World)
    (c0 : w.cell? ⟨b, o, none⟩ = some (.string key)) (c1 : w.cell? ⟨b, o + 1, none⟩ = some (.string op)) (c2 : w.cell? ⟨b, o + 2, none⟩ = some (.slice A n c)) (hC : Kd.C Kd.string w A n vs) (hM : IsLab w bm N m) (hT : TV w) :
    Calls Tryd.prog 15 #[.pointer (some ⟨b, o, none⟩), .iface 45 (.map (some bm))] w fun e w' => e = .returned (.bool (meetsR op.data.toList (vL vs) (mget m key.data.toList))) ∧ Below w.heap.size w w' := by
  by_cases h7 : op.data.toList = [103, 116]
  · exact Matches_gt key op hk A c n b o vs hn hn2 hz bm N m hmz w c0 c1 c2 hC hM hT h7
  by_cases h8 : op.data.toList = [108, 116]
  · exact Matches_lt key op hk A c n b o vs hn hn2 hz bm N m hmz w c0 c1 c2 hC hM hT h8
  have HHAS := Aside0.mk (fun (W : World) (hb : Below w.heap.size w W) => LHas_calls bm N m key (by omega) W (hM.below hb))
  have HGET := Aside0.mk (fun (W : World) (hb : Below w.heap.size w W) => LGet_calls bm N m key (by omega) W (hM.below hb))
  have HLT := Aside0.mk (show b < w.heap.size from World.block_lt_of_cell? w _ c0)
  have HVAL := Aside0.mk (fun (v : ByteArray) (W : World) (hb2 : Below w.heap.size w W) => hasValue_calls A c n b o vs hn hn2 v W ((hb2.cell HLT.out).trans c2) (Kd.C_below hC hb2))
  have HC0 := Aside0.mk c0
  have HC1 := Aside0.mk c1
  have HC2 := Aside0.mk c2
  have HT := Aside0.mk hT
  have HZ := Aside0.mk hz
  have HC := Aside0.mk hC
  obtain ⟨x, hx⟩ : ∃ x, op.toList = x := ⟨_, rfl⟩
  have hx2 : op.data.toList = x := by rw [← hx, toList_eq]
  rw [hx2]
  obtain ⟨got, hgot⟩ : ∃ got, mget m key.data.toList = got := ⟨_, rfl⟩
  rw [hgot] at HHAS HGET hmz ⊢
  clear hT hz hC hM hgot
  have na1 : ∀ w : World, (nilAhead 220 45 (.map (some bm)) "Has").run Tryd.prog w = .ok (some false) w := fun _ => by kernel_rfl
  have na2 : ∀ w : World, (nilAhead 220 45 (.map (some bm)) "Get").run Tryd.prog w = .ok (some false) w := fun _ => by kernel_rfl
  have me1 : ∀ w : World, (method 220 45 (.map (some bm)) "Has").run Tryd.prog w = .ok (90, .map (some bm)) w := fun _ => by kernel_rfl
  have me2 : ∀ w : World, (method 220 45 (.map (some bm)) "Get").run Tryd.prog w = .ok (89, .map (some bm)) w := fun _ => by kernel_rfl
  rw [hx2] at h7 h8
  clear hx2
  by_cases h0 : x = [105, 110]
  · have e0 : (op.toList == ([105, 110] : List UInt8)) = true := by rw [hx, h0]; rfl
    cases got with
    | none =>
      have HF : Aside0 (meetsR x (vL vs) none = false) := ⟨by rw [h0]; rfl⟩
      simp only [Option.isSome_none] at HHAS
      clear hx h0
      go_enter Tryd.func15, Tryd.ntmps15
      go_upto_region 6 with (fail)
      go_region_held_law (fun w' => w'.cell? ⟨b, o, none⟩ = some (.string key)) (first | exact c0 | exact k0 | exact j0 | exact k2 | exact k3 | go_keep) ((refine call_ 90 #[.map (some bm), .string key] (by rfl) (by rfl) (by go_simp) ?_; refine (HHAS.out _ ?hb).mono ?_; (case hb => first | exact Below.refl _ _ | exact below_drew1 (Below.refl _ _) | exact pw_below_drewN (Below.refl _ _) _); rintro e w1 ⟨rfl, hw1⟩; have HB1 : Aside0 (Below w.heap.size w w1) := ⟨by rw [hw1]; first | exact Below.refl _ _ | exact below_drew1 (Below.refl _ _) | exact pw_below_drewN (Below.refl _ _) _⟩; have k0 : w1.cell? ⟨b, o, none⟩ = some (.string key) := (HB1.out.cell HLT.out).trans HC0.out; clear hw1; refine ⟨_, rfl, ?_⟩))
      all_goals
        go_wp2
        go_ret
        exact ⟨by rw [HF.out]; first | rfl | (simp; done), HB1.out⟩
    | some v =>
      have HF : Aside0 (meetsR x (vL vs) (some v) = (vL vs).contains v) := ⟨by rw [h0]; rfl⟩
      simp only [Option.isSome_some] at HHAS
      simp only [Option.getD_some] at HGET
      have HV2 := Aside0.mk (HVAL.out (mk v))
      rw [show (mk v).data.toList = v from rfl] at HV2
      obtain ⟨q, hq⟩ : ∃ q, (vL vs).contains v = q := ⟨_, rfl⟩
      rw [hq] at HV2 HF
      obtain ⟨sv, hsv⟩ : ∃ sv, mk v = sv := ⟨_, rfl⟩
      rw [hsv] at HV2 HGET
      clear hx h0 hq hsv HVAL
      go_enter Tryd.func15, Tryd.ntmps15
      go_upto_region 6 with (fail)
      go_region_held_law (fun w' => w'.cell? ⟨b, o, none⟩ = some (.string key)) (first | exact c0 | exact k0 | exact j0 | exact k2 | exact k3 | go_keep) ((refine call_ 90 #[.map (some bm), .string key] (by rfl) (by rfl) (by go_simp) ?_; refine (HHAS.out _ ?hb).mono ?_; (case hb => first | exact Below.refl _ _ | exact below_drew1 (Below.refl _ _) | exact pw_below_drewN (Below.refl _ _) _); rintro e w1 ⟨rfl, hw1⟩; have HB1 : Aside0 (Below w.heap.size w w1) := ⟨by rw [hw1]; first | exact Below.refl _ _ | exact below_drew1 (Below.refl _ _) | exact pw_below_drewN (Below.refl _ _) _⟩; have k0 : w1.cell? ⟨b, o, none⟩ = some (.string key) := (HB1.out.cell HLT.out).trans HC0.out; clear hw1; refine ⟨_, rfl, ?_⟩))
      all_goals
        go_upto_region 8 with (fail)
        have j0 : w1.cell? ⟨b, o, none⟩ = some (.string key) := (HB1.out.cell HLT.out).trans HC0.out
        go_region_held_law (fun w' => w'.cell? ⟨b, o, none⟩ = some (.string key)) (first | exact c0 | exact k0 | exact j0 | exact k2 | exact k3 | go_keep) (first | (refine call_ 89 #[.map (some bm), .string key] (by rfl) (by rfl) (by go_simp) ?_; refine (HGET.out _ ?hb).mono ?_; (case hb => (first | exact HB1.out | exact below_drew1 HB1.out | exact pw_below_drewN HB1.out _)); rintro e w2 ⟨rfl, hw2⟩; have HB2 : Aside0 (Below w.heap.size w w2) := ⟨by rw [hw2]; (first | exact HB1.out | exact below_drew1 HB1.out | exact pw_below_drewN HB1.out _)⟩; have k2 : w2.cell? ⟨b, o, none⟩ = some (.string key) := (HB2.out.cell HLT.out).trans HC0.out; clear hw2; refine ⟨_, rfl, ?_⟩) | (refine goes_ Tryd.func21 (by kernel_rfl) rfl #[.pointer (some ⟨b, o, none⟩), .string sv] (by rfl) rfl rfl (by (try simp only [List.map_toArray, List.map_cons, List.map_nil]); first | done | rfl) ?_; refine (HV2.out _ ?hb).mono ?_; (case hb => (first | exact HB2.out | exact below_drew1 HB2.out | exact pw_below_drewN HB2.out _)); rintro e w3 ⟨rfl, hb3⟩; have HB3 := Aside0.mk (below_step HB2.out hb3); have k3 := (HB3.out.cell HLT.out).trans HC0.out; clear hb3; refine ⟨_, rfl, ?_⟩))
        all_goals
          go_wp2
          go_ret
          exact ⟨by rw [HF.out]; first | rfl | (simp; done), HB3.out⟩
  have e0 : (op.toList == ([105, 110] : List UInt8)) = false := by rw [hx]; simpa using h0
  by_cases h1 : x = [61]
  · have e1 : (op.toList == ([61] : List UInt8)) = true := by rw [hx, h1]; rfl
    cases got with
    | none =>
      have HF : Aside0 (meetsR x (vL vs) none = false) := ⟨by rw [h1]; rfl⟩
      simp only [Option.isSome_none] at HHAS
      clear hx h1
      go_enter Tryd.func15, Tryd.ntmps15
      go_upto_region 6 with (fail)
      go_region_held_law (fun w' => w'.cell? ⟨b, o, none⟩ = some (.string key)) (first | exact c0 | exact k0 | exact j0 | exact k2 | exact k3 | go_keep) ((refine call_ 90 #[.map (some bm), .string key] (by rfl) (by rfl) (by go_simp) ?_; refine (HHAS.out _ ?hb).mono ?_; (case hb => first | exact Below.refl _ _ | exact below_drew1 (Below.refl _ _) | exact pw_below_drewN (Below.refl _ _) _); rintro e w1 ⟨rfl, hw1⟩; have HB1 : Aside0 (Below w.heap.size w w1) := ⟨by rw [hw1]; first | exact Below.refl _ _ | exact below_drew1 (Below.refl _ _) | exact pw_below_drewN (Below.refl _ _) _⟩; have k0 : w1.cell? ⟨b, o, none⟩ = some (.string key) := (HB1.out.cell HLT.out).trans HC0.out; clear hw1; refine ⟨_, rfl, ?_⟩))
      all_goals
        go_wp2
        go_ret
        exact ⟨by rw [HF.out]; first | rfl | (simp; done), HB1.out⟩
    | some v =>
      have HF : Aside0 (meetsR x (vL vs) (some v) = (vL vs).contains v) := ⟨by rw [h1]; rfl⟩
      simp only [Option.isSome_some] at HHAS
      simp only [Option.getD_some] at HGET
      have HV2 := Aside0.mk (HVAL.out (mk v))
      rw [show (mk v).data.toList = v from rfl] at HV2
      obtain ⟨q, hq⟩ : ∃ q, (vL vs).contains v = q := ⟨_, rfl⟩
      rw [hq] at HV2 HF
      obtain ⟨sv, hsv⟩ : ∃ sv, mk v = sv := ⟨_, rfl⟩
      rw [hsv] at HV2 HGET
      clear hx h1 hq hsv HVAL
      go_enter Tryd.func15, Tryd.ntmps15
      go_upto_region 6 with (fail)
      go_region_held_law (fun w' => w'.cell? ⟨b, o, none⟩ = some (.string key)) (first | exact c0 | exact k0 | exact j0 | exact k2 | exact k3 | go_keep) ((refine call_ 90 #[.map (some bm), .string key] (by rfl) (by rfl) (by go_simp) ?_; refine (HHAS.out _ ?hb).mono ?_; (case hb => first | exact Below.refl _ _ | exact below_drew1 (Below.refl _ _) | exact pw_below_drewN (Below.refl _ _) _); rintro e w1 ⟨rfl, hw1⟩; have HB1 : Aside0 (Below w.heap.size w w1) := ⟨by rw [hw1]; first | exact Below.refl _ _ | exact below_drew1 (Below.refl _ _) | exact pw_below_drewN (Below.refl _ _) _⟩; have k0 : w1.cell? ⟨b, o, none⟩ = some (.string key) := (HB1.out.cell HLT.out).trans HC0.out; clear hw1; refine ⟨_, rfl, ?_⟩))
      all_goals
        go_upto_region 8 with (fail)
        have j0 : w1.cell? ⟨b, o, none⟩ = some (.string key) := (HB1.out.cell HLT.out).trans HC0.out
        go_region_held_law (fun w' => w'.cell? ⟨b, o, none⟩ = some (.string key)) (first | exact c0 | exact k0 | exact j0 | exact k2 | exact k3 | go_keep) (first | (refine call_ 89 #[.map (some bm), .string key] (by rfl) (by rfl) (by go_simp) ?_; refine (HGET.out _ ?hb).mono ?_; (case hb => (first | exact HB1.out | exact below_drew1 HB1.out | exact pw_below_drewN HB1.out _)); rintro e w2 ⟨rfl, hw2⟩; have HB2 : Aside0 (Below w.heap.size w w2) := ⟨by rw [hw2]; (first | exact HB1.out | exact below_drew1 HB1.out | exact pw_below_drewN HB1.out _)⟩; have k2 : w2.cell? ⟨b, o, none⟩ = some (.string key) := (HB2.out.cell HLT.out).trans HC0.out; clear hw2; refine ⟨_, rfl, ?_⟩) | (refine goes_ Tryd.func21 (by kernel_rfl) rfl #[.pointer (some ⟨b, o, none⟩), .string sv] (by rfl) rfl rfl (by (try simp only [List.map_toArray, List.map_cons, List.map_nil]); first | done | rfl) ?_; refine (HV2.out _ ?hb).mono ?_; (case hb => (first | exact HB2.out | exact below_drew1 HB2.out | exact pw_below_drewN HB2.out _)); rintro e w3 ⟨rfl, hb3⟩; have HB3 := Aside0.mk (below_step HB2.out hb3); have k3 := (HB3.out.cell HLT.out).trans HC0.out; clear hb3; refine ⟨_, rfl, ?_⟩))
        all_goals
          go_wp2
          go_ret
          exact ⟨by rw [HF.out]; first | rfl | (simp; done), HB3.out⟩
  have e1 : (op.toList == ([61] : List UInt8)) = false := by rw [hx]; simpa using h1
  by_cases h2 : x = [61, 61]
  · have e2 : (op.toList == ([61, 61] : List UInt8)) = true := by rw [hx, h2]; rfl
    cases got with
    | none =>
      have HF : Aside0 (meetsR x (vL vs) none = false) := ⟨by rw [h2]; rfl⟩
      simp only [Option.isSome_none] at HHAS
      clear hx h2
      go_enter Tryd.func15, Tryd.ntmps15
      go_upto_region 6 with (fail)
      go_region_held_law (fun w' => w'.cell? ⟨b, o, none⟩ = some (.string key)) (first | exact c0 | exact k0 | exact j0 | exact k2 | exact k3 | go_keep) ((refine call_ 90 #[.map (some bm), .string key] (by rfl) (by rfl) (by go_simp) ?_; refine (HHAS.out _ ?hb).mono ?_; (case hb => first | exact Below.refl _ _ | exact below_drew1 (Below.refl _ _) | exact pw_below_drewN (Below.refl _ _) _); rintro e w1 ⟨rfl, hw1⟩; have HB1 : Aside0 (Below w.heap.size w w1) := ⟨by rw [hw1]; first | exact Below.refl _ _ | exact below_drew1 (Below.refl _ _) | exact pw_below_drewN (Below.refl _ _) _⟩; have k0 : w1.cell? ⟨b, o, none⟩ = some (.string key) := (HB1.out.cell HLT.out).trans HC0.out; clear hw1; refine ⟨_, rfl, ?_⟩))
      all_goals
        go_wp2
        go_ret
        exact ⟨by rw [HF.out]; first | rfl | (simp; done), HB1.out⟩
    | some v =>
      have HF : Aside0 (meetsR x (vL vs) (some v) = (vL vs).contains v) := ⟨by rw [h2]; rfl⟩
      simp only [Option.isSome_some] at HHAS
      simp only [Option.getD_some] at HGET
      have HV2 := Aside0.mk (HVAL.out (mk v))
      rw [show (mk v).data.toList = v from rfl] at HV2
      obtain ⟨q, hq⟩ : ∃ q, (vL vs).contains v = q := ⟨_, rfl⟩
      rw [hq] at HV2 HF
      obtain ⟨sv, hsv⟩ : ∃ sv, mk v = sv := ⟨_, rfl⟩
      rw [hsv] at HV2 HGET
      clear hx h2 hq hsv HVAL
      go_enter Tryd.func15, Tryd.ntmps15
      go_upto_region 6 with (fail)
      go_region_held_law (fun w' => w'.cell? ⟨b, o, none⟩ = some (.string key)) (first | exact c0 | exact k0 | exact j0 | exact k2 | exact k3 | go_keep) ((refine call_ 90 #[.map (some bm), .string key] (by rfl) (by rfl) (by go_simp) ?_; refine (HHAS.out _ ?hb).mono ?_; (case hb => first | exact Below.refl _ _ | exact below_drew1 (Below.refl _ _) | exact pw_below_drewN (Below.refl _ _) _); rintro e w1 ⟨rfl, hw1⟩; have HB1 : Aside0 (Below w.heap.size w w1) := ⟨by rw [hw1]; first | exact Below.refl _ _ | exact below_drew1 (Below.refl _ _) | exact pw_below_drewN (Below.refl _ _) _⟩; have k0 : w1.cell? ⟨b, o, none⟩ = some (.string key) := (HB1.out.cell HLT.out).trans HC0.out; clear hw1; refine ⟨_, rfl, ?_⟩))
      all_goals
        go_upto_region 8 with (fail)
        have j0 : w1.cell? ⟨b, o, none⟩ = some (.string key) := (HB1.out.cell HLT.out).trans HC0.out
        go_region_held_law (fun w' => w'.cell? ⟨b, o, none⟩ = some (.string key)) (first | exact c0 | exact k0 | exact j0 | exact k2 | exact k3 | go_keep) (first | (refine call_ 89 #[.map (some bm), .string key] (by rfl) (by rfl) (by go_simp) ?_; refine (HGET.out _ ?hb).mono ?_; (case hb => (first | exact HB1.out | exact below_drew1 HB1.out | exact pw_below_drewN HB1.out _)); rintro e w2 ⟨rfl, hw2⟩; have HB2 : Aside0 (Below w.heap.size w w2) := ⟨by rw [hw2]; (first | exact HB1.out | exact below_drew1 HB1.out | exact pw_below_drewN HB1.out _)⟩; have k2 : w2.cell? ⟨b, o, none⟩ = some (.string key) := (HB2.out.cell HLT.out).trans HC0.out; clear hw2; refine ⟨_, rfl, ?_⟩) | (refine goes_ Tryd.func21 (by kernel_rfl) rfl #[.pointer (some ⟨b, o, none⟩), .string sv] (by rfl) rfl rfl (by (try simp only [List.map_toArray, List.map_cons, List.map_nil]); first | done | rfl) ?_; refine (HV2.out _ ?hb).mono ?_; (case hb => (first | exact HB2.out | exact below_drew1 HB2.out | exact pw_below_drewN HB2.out _)); rintro e w3 ⟨rfl, hb3⟩; have HB3 := Aside0.mk (below_step HB2.out hb3); have k3 := (HB3.out.cell HLT.out).trans HC0.out; clear hb3; refine ⟨_, rfl, ?_⟩))
        all_goals
          go_wp2
          go_ret
          exact ⟨by rw [HF.out]; first | rfl | (simp; done), HB3.out⟩
  have e2 : (op.toList == ([61, 61] : List UInt8)) = false := by rw [hx]; simpa using h2
  by_cases h3 : x = [110, 111, 116, 105, 110]
  · have e3 : (op.toList == ([110, 111, 116, 105, 110] : List UInt8)) = true := by rw [hx, h3]; rfl
    cases got with
    | none =>
      have HF : Aside0 (meetsR x (vL vs) none = true) := ⟨by rw [h3]; rfl⟩
      simp only [Option.isSome_none] at HHAS
      clear hx h3
      go_enter Tryd.func15, Tryd.ntmps15
      go_upto_region 11 with (fail)
      go_region_held_law (fun w' => w'.cell? ⟨b, o, none⟩ = some (.string key)) (first | exact c0 | exact k0 | exact j0 | exact k2 | exact k3 | go_keep) ((refine call_ 90 #[.map (some bm), .string key] (by rfl) (by rfl) (by go_simp) ?_; refine (HHAS.out _ ?hb).mono ?_; (case hb => first | exact Below.refl _ _ | exact below_drew1 (Below.refl _ _) | exact pw_below_drewN (Below.refl _ _) _); rintro e w1 ⟨rfl, hw1⟩; have HB1 : Aside0 (Below w.heap.size w w1) := ⟨by rw [hw1]; first | exact Below.refl _ _ | exact below_drew1 (Below.refl _ _) | exact pw_below_drewN (Below.refl _ _) _⟩; have k0 : w1.cell? ⟨b, o, none⟩ = some (.string key) := (HB1.out.cell HLT.out).trans HC0.out; clear hw1; refine ⟨_, rfl, ?_⟩))
      all_goals
        go_wp2
        go_ret
        exact ⟨by rw [HF.out]; first | rfl | (simp; done), HB1.out⟩
    | some v =>
      have HF : Aside0 (meetsR x (vL vs) (some v) = !(vL vs).contains v) := ⟨by rw [h3]; rfl⟩
      simp only [Option.isSome_some] at HHAS
      simp only [Option.getD_some] at HGET
      have HV2 := Aside0.mk (HVAL.out (mk v))
      rw [show (mk v).data.toList = v from rfl] at HV2
      obtain ⟨q, hq⟩ : ∃ q, (vL vs).contains v = q := ⟨_, rfl⟩
      rw [hq] at HV2 HF
      obtain ⟨sv, hsv⟩ : ∃ sv, mk v = sv := ⟨_, rfl⟩
      rw [hsv] at HV2 HGET
      clear hx h3 hq hsv HVAL
      go_enter Tryd.func15, Tryd.ntmps15
      go_upto_region 11 with (fail)
      go_region_held_law (fun w' => w'.cell? ⟨b, o, none⟩ = some (.string key)) (first | exact c0 | exact k0 | exact j0 | exact k2 | exact k3 | go_keep) ((refine call_ 90 #[.map (some bm), .string key] (by rfl) (by rfl) (by go_simp) ?_; refine (HHAS.out _ ?hb).mono ?_; (case hb => first | exact Below.refl _ _ | exact below_drew1 (Below.refl _ _) | exact pw_below_drewN (Below.refl _ _) _); rintro e w1 ⟨rfl, hw1⟩; have HB1 : Aside0 (Below w.heap.size w w1) := ⟨by rw [hw1]; first | exact Below.refl _ _ | exact below_drew1 (Below.refl _ _) | exact pw_below_drewN (Below.refl _ _) _⟩; have k0 : w1.cell? ⟨b, o, none⟩ = some (.string key) := (HB1.out.cell HLT.out).trans HC0.out; clear hw1; refine ⟨_, rfl, ?_⟩))
      all_goals
        go_upto_region 13 with (fail)
        have j0 : w1.cell? ⟨b, o, none⟩ = some (.string key) := (HB1.out.cell HLT.out).trans HC0.out
        go_region_held_law (fun w' => w'.cell? ⟨b, o, none⟩ = some (.string key)) (first | exact c0 | exact k0 | exact j0 | exact k2 | exact k3 | go_keep) (first | (refine call_ 89 #[.map (some bm), .string key] (by rfl) (by rfl) (by go_simp) ?_; refine (HGET.out _ ?hb).mono ?_; (case hb => (first | exact HB1.out | exact below_drew1 HB1.out | exact pw_below_drewN HB1.out _)); rintro e w2 ⟨rfl, hw2⟩; have HB2 : Aside0 (Below w.heap.size w w2) := ⟨by rw [hw2]; (first | exact HB1.out | exact below_drew1 HB1.out | exact pw_below_drewN HB1.out _)⟩; have k2 : w2.cell? ⟨b, o, none⟩ = some (.string key) := (HB2.out.cell HLT.out).trans HC0.out; clear hw2; refine ⟨_, rfl, ?_⟩) | (refine goes_ Tryd.func21 (by kernel_rfl) rfl #[.pointer (some ⟨b, o, none⟩), .string sv] (by rfl) rfl rfl (by (try simp only [List.map_toArray, List.map_cons, List.map_nil]); first | done | rfl) ?_; refine (HV2.out _ ?hb).mono ?_; (case hb => (first | exact HB2.out | exact below_drew1 HB2.out | exact pw_below_drewN HB2.out _)); rintro e w3 ⟨rfl, hb3⟩; have HB3 := Aside0.mk (below_step HB2.out hb3); have k3 := (HB3.out.cell HLT.out).trans HC0.out; clear hb3; refine ⟨_, rfl, ?_⟩))
        all_goals
          go_wp2
          go_ret
          exact ⟨by rw [HF.out]; first | rfl | (simp; done), HB3.out⟩
  have e3 : (op.toList == ([110, 111, 116, 105, 110] : List UInt8)) = false := by rw [hx]; simpa using h3
  by_cases h4 : x = [33, 61]
  · have e4 : (op.toList == ([33, 61] : List UInt8)) = true := by rw [hx, h4]; rfl
    cases got with
    | none =>
      have HF : Aside0 (meetsR x (vL vs) none = true) := ⟨by rw [h4]; rfl⟩
      simp only [Option.isSome_none] at HHAS
      clear hx h4
      go_enter Tryd.func15, Tryd.ntmps15
      go_upto_region 11 with (fail)
      go_region_held_law (fun w' => w'.cell? ⟨b, o, none⟩ = some (.string key)) (first | exact c0 | exact k0 | exact j0 | exact k2 | exact k3 | go_keep) ((refine call_ 90 #[.map (some bm), .string key] (by rfl) (by rfl) (by go_simp) ?_; refine (HHAS.out _ ?hb).mono ?_; (case hb => first | exact Below.refl _ _ | exact below_drew1 (Below.refl _ _) | exact pw_below_drewN (Below.refl _ _) _); rintro e w1 ⟨rfl, hw1⟩; have HB1 : Aside0 (Below w.heap.size w w1) := ⟨by rw [hw1]; first | exact Below.refl _ _ | exact below_drew1 (Below.refl _ _) | exact pw_below_drewN (Below.refl _ _) _⟩; have k0 : w1.cell? ⟨b, o, none⟩ = some (.string key) := (HB1.out.cell HLT.out).trans HC0.out; clear hw1; refine ⟨_, rfl, ?_⟩))
      all_goals
        go_wp2
        go_ret
        exact ⟨by rw [HF.out]; first | rfl | (simp; done), HB1.out⟩
    | some v =>
      have HF : Aside0 (meetsR x (vL vs) (some v) = !(vL vs).contains v) := ⟨by rw [h4]; rfl⟩
      simp only [Option.isSome_some] at HHAS
      simp only [Option.getD_some] at HGET
      have HV2 := Aside0.mk (HVAL.out (mk v))
      rw [show (mk v).data.toList = v from rfl] at HV2
      obtain ⟨q, hq⟩ : ∃ q, (vL vs).contains v = q := ⟨_, rfl⟩
      rw [hq] at HV2 HF
      obtain ⟨sv, hsv⟩ : ∃ sv, mk v = sv := ⟨_, rfl⟩
      rw [hsv] at HV2 HGET
      clear hx h4 hq hsv HVAL
      go_enter Tryd.func15, Tryd.ntmps15
      go_upto_region 11 with (fail)
      go_region_held_law (fun w' => w'.cell? ⟨b, o, none⟩ = some (.string key)) (first | exact c0 | exact k0 | exact j0 | exact k2 | exact k3 | go_keep) ((refine call_ 90 #[.map (some bm), .string key] (by rfl) (by rfl) (by go_simp) ?_; refine (HHAS.out _ ?hb).mono ?_; (case hb => first | exact Below.refl _ _ | exact below_drew1 (Below.refl _ _) | exact pw_below_drewN (Below.refl _ _) _); rintro e w1 ⟨rfl, hw1⟩; have HB1 : Aside0 (Below w.heap.size w w1) := ⟨by rw [hw1]; first | exact Below.refl _ _ | exact below_drew1 (Below.refl _ _) | exact pw_below_drewN (Below.refl _ _) _⟩; have k0 : w1.cell? ⟨b, o, none⟩ = some (.string key) := (HB1.out.cell HLT.out).trans HC0.out; clear hw1; refine ⟨_, rfl, ?_⟩))
      all_goals
        go_upto_region 13 with (fail)
        have j0 : w1.cell? ⟨b, o, none⟩ = some (.string key) := (HB1.out.cell HLT.out).trans HC0.out
        go_region_held_law (fun w' => w'.cell? ⟨b, o, none⟩ = some (.string key)) (first | exact c0 | exact k0 | exact j0 | exact k2 | exact k3 | go_keep) (first | (refine call_ 89 #[.map (some bm), .string key] (by rfl) (by rfl) (by go_simp) ?_; refine (HGET.out _ ?hb).mono ?_; (case hb => (first | exact HB1.out | exact below_drew1 HB1.out | exact pw_below_drewN HB1.out _)); rintro e w2 ⟨rfl, hw2⟩; have HB2 : Aside0 (Below w.heap.size w w2) := ⟨by rw [hw2]; (first | exact HB1.out | exact below_drew1 HB1.out | exact pw_below_drewN HB1.out _)⟩; have k2 : w2.cell? ⟨b, o, none⟩ = some (.string key) := (HB2.out.cell HLT.out).trans HC0.out; clear hw2; refine ⟨_, rfl, ?_⟩) | (refine goes_ Tryd.func21 (by kernel_rfl) rfl #[.pointer (some ⟨b, o, none⟩), .string sv] (by rfl) rfl rfl (by (try simp only [List.map_toArray, List.map_cons, List.map_nil]); first | done | rfl) ?_; refine (HV2.out _ ?hb).mono ?_; (case hb => (first | exact HB2.out | exact below_drew1 HB2.out | exact pw_below_drewN HB2.out _)); rintro e w3 ⟨rfl, hb3⟩; have HB3 := Aside0.mk (below_step HB2.out hb3); have k3 := (HB3.out.cell HLT.out).trans HC0.out; clear hb3; refine ⟨_, rfl, ?_⟩))
        all_goals
          go_wp2
          go_ret
          exact ⟨by rw [HF.out]; first | rfl | (simp; done), HB3.out⟩
  have e4 : (op.toList == ([33, 61] : List UInt8)) = false := by rw [hx]; simpa using h4
  by_cases h5 : x = [101, 120, 105, 115, 116, 115]
  · have e5 : (op.toList == ([101, 120, 105, 115, 116, 115] : List UInt8)) = true := by rw [hx, h5]; rfl
    have HF : Aside0 (meetsR x (vL vs) got = got.isSome) := ⟨by rw [h5]; rfl⟩
    obtain ⟨q, hq⟩ : ∃ q, got.isSome = q := ⟨_, rfl⟩
    rw [hq] at HHAS HF
    clear hx h5 hq
    go_enter Tryd.func15, Tryd.ntmps15
    go_upto_region 15 with (fail)
    go_region_held_law (fun w' => w'.cell? ⟨b, o, none⟩ = some (.string key)) (first | exact c0 | exact k0 | exact j0 | exact k2 | exact k3 | go_keep) ((refine call_ 90 #[.map (some bm), .string key] (by rfl) (by rfl) (by go_simp) ?_; refine (HHAS.out _ ?hb).mono ?_; (case hb => first | exact Below.refl _ _ | exact below_drew1 (Below.refl _ _) | exact pw_below_drewN (Below.refl _ _) _); rintro e w1 ⟨rfl, hw1⟩; have HB1 : Aside0 (Below w.heap.size w w1) := ⟨by rw [hw1]; first | exact Below.refl _ _ | exact below_drew1 (Below.refl _ _) | exact pw_below_drewN (Below.refl _ _) _⟩; have k0 : w1.cell? ⟨b, o, none⟩ = some (.string key) := (HB1.out.cell HLT.out).trans HC0.out; clear hw1; refine ⟨_, rfl, ?_⟩))
    all_goals
      go_wp2
      go_ret
      exact ⟨by rw [HF.out]; first | rfl | (simp; done), HB1.out⟩
  have e5 : (op.toList == ([101, 120, 105, 115, 116, 115] : List UInt8)) = false := by rw [hx]; simpa using h5
  by_cases h6 : x = [33]
  · have e6 : (op.toList == ([33] : List UInt8)) = true := by rw [hx, h6]; rfl
    have HF : Aside0 (meetsR x (vL vs) got = !got.isSome) := ⟨by rw [h6]; rfl⟩
    obtain ⟨q, hq⟩ : ∃ q, got.isSome = q := ⟨_, rfl⟩
    rw [hq] at HHAS HF
    clear hx h6 hq
    go_enter Tryd.func15, Tryd.ntmps15
    go_upto_region 17 with (fail)
    go_region_held_law (fun w' => w'.cell? ⟨b, o, none⟩ = some (.string key)) (first | exact c0 | exact k0 | exact j0 | exact k2 | exact k3 | go_keep) ((refine call_ 90 #[.map (some bm), .string key] (by rfl) (by rfl) (by go_simp) ?_; refine (HHAS.out _ ?hb).mono ?_; (case hb => first | exact Below.refl _ _ | exact below_drew1 (Below.refl _ _) | exact pw_below_drewN (Below.refl _ _) _); rintro e w1 ⟨rfl, hw1⟩; have HB1 : Aside0 (Below w.heap.size w w1) := ⟨by rw [hw1]; first | exact Below.refl _ _ | exact below_drew1 (Below.refl _ _) | exact pw_below_drewN (Below.refl _ _) _⟩; have k0 : w1.cell? ⟨b, o, none⟩ = some (.string key) := (HB1.out.cell HLT.out).trans HC0.out; clear hw1; refine ⟨_, rfl, ?_⟩))
    all_goals
      go_wp2
      go_ret
      exact ⟨by rw [HF.out]; first | rfl | (simp; done), HB1.out⟩
  have e6 : (op.toList == ([33] : List UInt8)) = false := by rw [hx]; simpa using h6
  have e7 : (op.toList == ([103, 116] : List UInt8)) = false := by rw [hx]; simpa using h7
  have e8 : (op.toList == ([108, 116] : List UInt8)) = false := by rw [hx]; simpa using h8
  have HF : Aside0 (meetsR x (vL vs) got = false) := ⟨by unfold meetsR; simp [h0, h1, h2, h3, h4, h5, h6, h7, h8]⟩
  clear hx h0 h1 h2 h3 h4 h5 h6 h7 h8
  go_enter Tryd.func15, Tryd.ntmps15
  go_wp2
  go_ret
  exact ⟨by rw [HF.out]; first | rfl | (simp; done), Below.refl _ _⟩
end Go.Proofs.YteigfmchnblkgaaDoor.Hand
