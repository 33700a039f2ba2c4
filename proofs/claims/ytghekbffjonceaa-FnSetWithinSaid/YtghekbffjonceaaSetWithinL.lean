/- The law FnSetWithin. -/
import Derived.Test.YtghekbffjonceaaSetLaw2
namespace Go.Proofs.Ytghekbffjonceaa.Hand
open Go.RowKit Go.Proofs.YtghekbffjonceaaW.PrintWords Go.Proofs.YtghekbffjonceaaW.PrintLast Go.Proofs.YtghekbffjonceaaW.PrintMore Go.Proofs.Ytghekbffjonceaa.Base
set_option linter.unusedVariables false
set_option linter.unusedSimpArgs false
set_option maxRecDepth 100000
set_option maxHeartbeats 8000000 in
theorem FnSetWithin_calls (A : Option Addr) (c : Nat) (l : List L) (B : Option Addr) (d : Nat) (m : List L) (w : World) (hr1 : Kd.C Kd.string w A l.length (l.map mk)) (hc1 : l.length ≤ c) (hr2 : Kd.C Kd.string w B m.length (m.map mk)) (hc2 : m.length ≤ d) :
    Calls Try.prog 5 #[.slice A l.length c, .slice B m.length d] w fun e w' => e = .returned (.bool true) ∧ Below w.heap.size w w' := by
  have HB := Aside0.mk (Below.refl w.heap.size w)
  have HT := Aside0.mk (Below.refl w.heap.size w)
  have HF1 : Aside0 (∀ w, Kd.C Kd.string w A l.length (l.map mk) → Calls Try.prog 8 #[.slice A l.length c] w fun e w' => e = .returned (.bool (fits5 l)) ∧ Drawn0 w w') := ⟨fun w h => fits5_calls A c l w h hc1⟩
  have HR1 := Aside0.mk hr1
  have HC1 := Aside0.mk hc1
  clear hr1 hc1
  obtain ⟨f1, hf1⟩ : ∃ f, fits5 l = f := ⟨_, rfl⟩
  rw [hf1] at HF1
  have G1 := Aside0.mk hf1
  clear hf1
  have HF2 : Aside0 (∀ w, Kd.C Kd.string w B m.length (m.map mk) → Calls Try.prog 8 #[.slice B m.length d] w fun e w' => e = .returned (.bool (fits5 m)) ∧ Drawn0 w w') := ⟨fun w h => fits5_calls B d m w h hc2⟩
  have HR2 := Aside0.mk hr2
  have HC2 := Aside0.mk hc2
  clear hr2 hc2
  obtain ⟨f2, hf2⟩ : ∃ f, fits5 m = f := ⟨_, rfl⟩
  rw [hf2] at HF2
  have G2 := Aside0.mk hf2
  clear hf2
  cases f1 with
  | false =>
    go_enter Try.func5, Try.ntmps5
    go_wp2_with (first | ((with_reducible refine (HF1.out _ (Kd.C_below HR1.out (by repeat (first | (with_reducible first | exact HB.out | apply below_alloc | apply pw_below_drewN | apply below_drew1) | exact HB.out)))).mono ?_); rintro e w' ⟨rfl, ⟨nd, rfl⟩⟩) | ((with_reducible refine (HF2.out _ (Kd.C_below HR2.out (by repeat (first | (with_reducible first | exact HB.out | apply below_alloc | apply pw_below_drewN | apply below_drew1) | exact HB.out)))).mono ?_); rintro e w' ⟨rfl, ⟨nd, rfl⟩⟩))
    go_ret
    exact ⟨rfl, (by repeat (first | (with_reducible first | exact HB.out | apply below_alloc | apply pw_below_drewN | apply below_drew1) | exact HB.out))⟩
  | true =>
  cases f2 with
  | false =>
    go_enter Try.func5, Try.ntmps5
    go_wp2_with (first | ((with_reducible refine (HF1.out _ (Kd.C_below HR1.out (by repeat (first | (with_reducible first | exact HB.out | apply below_alloc | apply pw_below_drewN | apply below_drew1) | exact HB.out)))).mono ?_); rintro e w' ⟨rfl, ⟨nd, rfl⟩⟩) | ((with_reducible refine (HF2.out _ (Kd.C_below HR2.out (by repeat (first | (with_reducible first | exact HB.out | apply below_alloc | apply pw_below_drewN | apply below_drew1) | exact HB.out)))).mono ?_); rintro e w' ⟨rfl, ⟨nd, rfl⟩⟩))
    go_ret
    exact ⟨rfl, (by repeat (first | (with_reducible first | exact HB.out | apply below_alloc | apply pw_below_drewN | apply below_drew1) | exact HB.out))⟩
  | true =>
  have hn1 := fits_len G1.out
  have hn2 := fits_len G2.out
  by_cases hfew : l.length ≤ 30 ∧ m.length ≤ 30
  · obtain ⟨h301, h302⟩ := hfew
    have hF : (decide (l.length ≤ 30) && decide (m.length ≤ 30)) = true := by simp [h301, h302]
    have HX1 : Aside0 (∀ p ∈ l.map mk, p.size ≤ 140737488351232) := ⟨fun p hp => by have := fits_all G1.out p hp; omega⟩
    have HX2 : Aside0 (∀ p ∈ m.map mk, p.size ≤ 140737488351232) := ⟨fun p hp => by have := fits_all G2.out p hp; omega⟩
    obtain ⟨G1, hG1⟩ : ∃ G, setL l = G := ⟨_, rfl⟩
    obtain ⟨G2, hG2⟩ : ∃ G, setL m = G := ⟨_, rfl⟩
    have hl1 : G1.length ≤ 30 := by subst hG1; have := setL_len l; omega
    have hl2 : G2.length ≤ 30 := by subst hG2; have := setL_len m; omega
    obtain ⟨K, hK⟩ : ∃ K, kept G2 G1 true = K := ⟨_, rfl⟩
    have hlk : K.length ≤ 30 := by subst hK; have : (kept G2 G1 true).length ≤ G2.length := List.length_filter_le _ _; omega
    obtain ⟨q1, hq1⟩ : ∃ q, (G2.all fun k => G1.contains k) = q := ⟨_, rfl⟩
    obtain ⟨q2, hq2⟩ : ∃ q, (G1 == G2) = q := ⟨_, rfl⟩
    have hqk := kept_all G2 G1
    rw [hq1, hK] at hqk
    have HW : Aside0 (∀ w, Kd.C Kd.string w A l.length (l.map mk) → Kd.C Kd.string w B m.length (m.map mk) → Calls Try.prog 16 #[.slice A l.length c, .slice B m.length d] w fun e w' => e = .returned (.tuple #[.bool q1, .bool q2]) ∧ Below w.heap.size w w') := ⟨fun w h1 h2 => by have h := SetWithin_calls A c l B d m HX1.out HX2.out (by omega) (by omega) w h1 HC1.out h2 HC2.out; rw [hG1, hG2, hq1, hq2] at h; exact h⟩
    have HO1 : Aside0 (∀ w A c, Kd.C Kd.string w A l.length (l.map mk) → l.length ≤ c → Calls Try.prog 14 #[.slice A l.length c] w fun e w' => ∃ v : Value, e = .returned v ∧ Kd.R Kd.string 9 w' w.heap.size (fun _ => True) v (G1.map mk) ∧ Below w.heap.size w w') := ⟨by subst hG1; exact fun w A c h hc => SetOf_calls A c _ (by omega) w h hc⟩
    have HO2 : Aside0 (∀ w A c, Kd.C Kd.string w A m.length (m.map mk) → m.length ≤ c → Calls Try.prog 14 #[.slice A m.length c] w fun e w' => ∃ v : Value, e = .returned v ∧ Kd.R Kd.string 9 w' w.heap.size (fun _ => True) v (G2.map mk) ∧ Below w.heap.size w w') := ⟨by subst hG2; exact fun w A c h hc => SetOf_calls A c _ (by omega) w h hc⟩
    have HE1 : Aside0 (∀ w A c B d, Kd.C Kd.string w A G1.length (G1.map mk) → G1.length ≤ c → Kd.C Kd.string w B G2.length (G2.map mk) → G2.length ≤ d → Calls Try.prog 15 #[.slice A G1.length c, .slice B G2.length d] w fun e w' => e = .returned (.bool q2) ∧ Drawn0 w w') := ⟨fun w A c B d h1 h2 h3 h4 => by have h := SameC A c B d G1 G2 w h1 h3 h2 h4 (by omega); first | (rw [beq_self_eq_true] at h; exact h) | (rw [hq2] at h; exact h)⟩
    have HK1 : Aside0 (∀ w A c B d, Kd.C Kd.string w A G2.length (G2.map mk) → G2.length ≤ c → Kd.C Kd.string w B G1.length (G1.map mk) → G1.length ≤ d → Calls Try.prog 11 #[.slice A G2.length c, .slice B G1.length d, .bool true] w fun e w' => ∃ v0 : Value, e = .returned v0 ∧ Kd.R Kd.string 9 w' w.heap.size (fun _ => True) v0 (K.map mk) ∧ Below w.heap.size w w') := ⟨fun w A c B d h1 h2 h3 h4 => by rw [← hK]; exact Kept_calls A c G2 B d G1 true w h1 h2 h3 h4 (by omega) (by omega)⟩
    have HLV := Aside0.mk epLives_calls
    have HQK := Aside0.mk hqk.symm
    clear hG1 hG2 hK hq1 hq2 hqk hl1 hl2 hlk
    cases q1
    all_goals
      have hk1 := HQK.out
      clear HQK
      go_enter Try.func5, Try.ntmps5
      go_wp2_with (first | ((with_reducible refine (HF1.out _ (Kd.C_below HR1.out (by repeat (first | (with_reducible first | exact HB.out | apply below_alloc | apply pw_below_drewN | apply below_drew1) | exact HB.out)))).mono ?_); rintro e w' ⟨rfl, ⟨nd, rfl⟩⟩) | ((with_reducible refine (HF2.out _ (Kd.C_below HR2.out (by repeat (first | (with_reducible first | exact HB.out | apply below_alloc | apply pw_below_drewN | apply below_drew1) | exact HB.out)))).mono ?_); rintro e w' ⟨rfl, ⟨nd, rfl⟩⟩) | ((with_reducible refine (Few2_calls _ _ ?hH A B l.length c m.length d hn1 hn2).mono ?_); (case hH => rfl); rintro e w' ⟨rfl, rfl⟩) |
        ((with_reducible refine (HW.out _ (Kd.C_below HR1.out (by repeat (first | (with_reducible first | exact HB.out | apply below_alloc | apply pw_below_drewN | apply below_drew1) | exact HB.out))) (Kd.C_below HR2.out (by repeat (first | (with_reducible first | exact HB.out | apply below_alloc | apply pw_below_drewN | apply below_drew1) | exact HB.out)))).mono ?_); rintro e wa ⟨rfl, hb⟩; clear HW HF1 HF2; have nb_ := Aside0.mk (below_step (by repeat (first | (with_reducible first | exact HB.out | apply below_alloc | apply pw_below_drewN | apply below_drew1) | exact HB.out)) hb); have nc_ := Aside0.mk (Kd.C_below HR1.out nb_.out); clear HR1; have HR1 := nc_; clear nc_; have nc_ := Aside0.mk (Kd.C_below HR2.out nb_.out); clear HR2; have HR2 := nc_; clear nc_; have nt_ := Aside0.mk (below_step HT.out nb_.out); clear HT; have HT := nt_; clear nt_ nb_ hb; clear HB; have HB := Aside0.mk (Below.refl wa.heap.size wa)) |
        ((with_reducible refine (HO1.out _ A c (Kd.C_below HR1.out (by repeat (first | (with_reducible first | exact HB.out | apply below_alloc | apply pw_below_drewN | apply below_drew1) | exact HB.out))) HC1.out).mono ?_); rintro e wa ⟨v1, rfl, hg, hb⟩; clear HO1; (obtain ⟨A1, c1, e1⟩ := Kd.R_slice hg); rw [List.length_map] at e1; subst e1; have hh := (Kd.R_reads' hg).2; rw [List.length_map] at hh; have CV1 := Aside0.mk hh.2; have LV1 := Aside0.mk hh.1; clear hh hg; have nb_ := Aside0.mk (below_step (by repeat (first | (with_reducible first | exact HB.out | apply below_alloc | apply pw_below_drewN | apply below_drew1) | exact HB.out)) hb); have nc_ := Aside0.mk (Kd.C_below HR1.out nb_.out); clear HR1; have HR1 := nc_; clear nc_; have nc_ := Aside0.mk (Kd.C_below HR2.out nb_.out); clear HR2; have HR2 := nc_; clear nc_; have nt_ := Aside0.mk (below_step HT.out nb_.out); clear HT; have HT := nt_; clear nt_ nb_ hb; clear HB; have HB := Aside0.mk (Below.refl wa.heap.size wa)) |
        ((with_reducible refine (HO2.out _ B d (Kd.C_below HR2.out (by repeat (first | (with_reducible first | exact HB.out | apply below_alloc | apply pw_below_drewN | apply below_drew1) | exact HB.out))) HC2.out).mono ?_); rintro e wa ⟨v2, rfl, hg, hb⟩; clear HO2; (obtain ⟨A2, c2, e2⟩ := Kd.R_slice hg); rw [List.length_map] at e2; subst e2; have hh := (Kd.R_reads' hg).2; rw [List.length_map] at hh; have CV2 := Aside0.mk hh.2; have LV2 := Aside0.mk hh.1; clear hh hg; have nb_ := Aside0.mk (below_step (by repeat (first | (with_reducible first | exact HB.out | apply below_alloc | apply pw_below_drewN | apply below_drew1) | exact HB.out)) hb); have nc_ := Aside0.mk (Kd.C_below HR1.out nb_.out); clear HR1; have HR1 := nc_; clear nc_; have nc_ := Aside0.mk (Kd.C_below HR2.out nb_.out); clear HR2; have HR2 := nc_; clear nc_; have nc_ := Aside0.mk (Kd.C_below CV1.out nb_.out); clear CV1; have CV1 := nc_; clear nc_; have nt_ := Aside0.mk (below_step HT.out nb_.out); clear HT; have HT := nt_; clear nt_ nb_ hb; clear HB; have HB := Aside0.mk (Below.refl wa.heap.size wa)) |
        ((with_reducible refine (HK1.out _ A2 c2 A1 c1 (Kd.C_below CV2.out (by repeat (first | (with_reducible first | exact HB.out | apply below_alloc | apply pw_below_drewN | apply below_drew1) | exact HB.out))) LV2.out (Kd.C_below CV1.out (by repeat (first | (with_reducible first | exact HB.out | apply below_alloc | apply pw_below_drewN | apply below_drew1) | exact HB.out))) LV1.out).mono ?_); rintro e wa ⟨v3, rfl, hg, hb⟩; clear HK1 HR1 HR2; (obtain ⟨A3, c3, e3⟩ := Kd.R_slice hg); rw [List.length_map] at e3; subst e3; have hh := (Kd.R_reads' hg).2; rw [List.length_map] at hh; have CV3 := Aside0.mk hh.2; have LV3 := Aside0.mk hh.1; clear hh hg; have nb_ := Aside0.mk (below_step (by repeat (first | (with_reducible first | exact HB.out | apply below_alloc | apply pw_below_drewN | apply below_drew1) | exact HB.out)) hb); have nc_ := Aside0.mk (Kd.C_below CV1.out nb_.out); clear CV1; have CV1 := nc_; clear nc_; have nc_ := Aside0.mk (Kd.C_below CV2.out nb_.out); clear CV2; have CV2 := nc_; clear nc_; have nt_ := Aside0.mk (below_step HT.out nb_.out); clear HT; have HT := nt_; clear nt_ nb_ hb; clear HB; have HB := Aside0.mk (Below.refl wa.heap.size wa)) |
        ((with_reducible refine (HE1.out _ A1 c1 A2 c2 (Kd.C_below CV1.out (by repeat (first | (with_reducible first | exact HB.out | apply below_alloc | apply pw_below_drewN | apply below_drew1) | exact HB.out))) LV1.out (Kd.C_below CV2.out (by repeat (first | (with_reducible first | exact HB.out | apply below_alloc | apply pw_below_drewN | apply below_drew1) | exact HB.out))) LV2.out).mono ?_); rintro e w' ⟨rfl, ⟨nd, rfl⟩⟩; clear HE1) |
        ((with_reducible refine (HLV.out _).mono ?_); rintro e wa ⟨rfl, hb⟩; have nb_ := Aside0.mk (below_step (by repeat (first | (with_reducible first | exact HB.out | apply below_alloc | apply pw_below_drewN | apply below_drew1) | exact HB.out)) hb); have nt_ := Aside0.mk (below_step HT.out nb_.out); clear HT; have HT := nt_; clear nt_ nb_ hb; clear HB; have HB := Aside0.mk (Below.refl wa.heap.size wa)))
      go_ret
      exact ⟨by first | rfl | exact congrArg (fun b : Bool => Ending.returned (Value.bool b)) (by first | (simp; done) | (simp at hk1; simp; omega)), below_step HT.out (by repeat (first | (with_reducible first | exact HB.out | apply below_alloc | apply pw_below_drewN | apply below_drew1) | exact HB.out))⟩
  · have hF : (decide (l.length ≤ 30) && decide (m.length ≤ 30)) = false := by rw [Bool.eq_false_iff]; simpa using hfew
    clear hfew
    go_enter Try.func5, Try.ntmps5
    go_wp2_with (first | ((with_reducible refine (HF1.out _ (Kd.C_below HR1.out (by repeat (first | (with_reducible first | exact HB.out | apply below_alloc | apply pw_below_drewN | apply below_drew1) | exact HB.out)))).mono ?_); rintro e w' ⟨rfl, ⟨nd, rfl⟩⟩) | ((with_reducible refine (HF2.out _ (Kd.C_below HR2.out (by repeat (first | (with_reducible first | exact HB.out | apply below_alloc | apply pw_below_drewN | apply below_drew1) | exact HB.out)))).mono ?_); rintro e w' ⟨rfl, ⟨nd, rfl⟩⟩) | ((with_reducible refine (Few2_calls _ _ ?hH A B l.length c m.length d hn1 hn2).mono ?_); (case hH => rfl); rintro e w' ⟨rfl, rfl⟩))
    go_ret
    exact ⟨rfl, (by repeat (first | (with_reducible first | exact HB.out | apply below_alloc | apply pw_below_drewN | apply below_drew1) | exact HB.out))⟩
end Go.Proofs.Ytghekbffjonceaa.Hand
