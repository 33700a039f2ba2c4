/- The law FnSelRound. (Printed by lawsr.py.) -/
import Derived.Test.YthfjolafikgpoaaGreatDoorSRM33
import Derived.Test.YthfjolafikgpoaaGreatDoorSRM23
import Derived.Test.YthfjolafikgpoaaGreatDoorSRM30
import Derived.Test.YthfjolafikgpoaaGreatDoorSRFreely
namespace Go.Proofs.YthfjolafikgpoaaGreatDoor.Hand
open Go.RowKit Go.Maps Go.Proofs.YthfjolafikgpoaaGreatDoorW.PrintWords Go.Proofs.YthfjolafikgpoaaGreatDoorW.PrintLast Go.Proofs.YthfjolafikgpoaaGreatDoorW.PrintMore Go.Proofs.YthfjolafikgpoaaGreatDoor.Base
set_option linter.unusedVariables false
set_option linter.unusedSimpArgs false
set_option maxRecDepth 100000
theorem Bts.atR_ {w W : World} {A : Option Addr} {n : Nat} {cs : L} (h : Bts w A n cs) (hb : Below w.heap.size w W) : Bts W A n cs :=
  ⟨h.1, h.2.1, fun i c hc => by
    obtain ⟨ad, e, h1, h2⟩ := h.2.2 i c hc
    exact ⟨ad, e, (hb.cell (p := ad.add i) (by rw [add_block_]; exact h2)).trans h1, Nat.lt_of_lt_of_le h2 hb.size⟩⟩
theorem totL_memR {x : L} : ∀ {l : List L}, x ∈ l → x.length ≤ totL l
  | y :: l, h => by
    show _ ≤ y.length + totL l
    rcases List.mem_cons.1 h with h | h
    · rw [h]; omega
    · have := totL_memR h; omega
theorem totR_memR {r : Rq} : ∀ {l : List Rq}, r ∈ l → r.1.length + totL r.2.2 ≤ totR l
  | y :: l, h => by
    show _ ≤ (y.1.length + totL y.2.2) + totR l
    rcases List.mem_cons.1 h with h | h
    · rw [h]; omega
    · have := totR_memR h; omega
set_option maxHeartbeats 32000000 in
theorem SRd_calls (AQ : Option Addr) (cq N : Nat) (l : List Rq) (hN : l.length = N) (hcq : N ≤ cq) (hcm : cq ≤ 9223372036854775807) (A : Option Addr) (c n : Nat) (cs : L) (w : World) (hQ : KQ.C w AQ N (rqV l)) (hBt : Bts w A n cs) (hT : TV w) :
    Calls Tryz.prog 3 #[.slice AQ N cq, .slice A n c] w fun e w' => e = .returned (.bool true) ∧ Below w.heap.size w w' := by
  have HQQ := Aside0.mk hQ
  have HBT := Aside0.mk hBt
  have HTT := Aside0.mk hT
  have HLN := Aside0.mk hN
  have HB0 := Aside0.mk (Below.refl w.heap.size w)
  have HF3 := Aside0.mk (fun (W : World) (hb : Below w.heap.size w W) => Fits3_calls AQ cq N l hN W (Kd.C_below hQ hb))
  have HSE := Aside0.mk (fun (W : World) (hb : Below w.heap.size w W) => epSel_calls W (hT.below hb))
  clear hQ hBt hT hN
  cases hf3 : fits3 l
  · rw [hf3] at HF3
    clear hf3
    go_enter Tryz.func3, Tryz.ntmps3
    go_wp2_with (first | ((with_reducible refine (HF3.out _ HB0.out).mono ?_); rintro e w1 ⟨rfl, hb⟩; have HB1 := Aside0.mk (below_step HB0.out hb); clear hb HF3))
    go_ret
    exact ⟨rfl, HB1.out⟩
  rw [hf3] at HF3
  obtain ⟨hN2, hls⟩ := fits3_t hf3
  rw [HLN.out] at hN2
  clear hf3
  by_cases hnc : n ≤ 2147483647
  rotate_left
  · have b0 : decide ((2147483647 : Int) < (n : Int)) = true := decide_eq_true (by omega)
    have b1 : decide (2147483647 < n) = true := decide_eq_true (by omega)
    clear hls hN2
    go_enter Tryz.func3, Tryz.ntmps3
    go_wp2_with (first | ((with_reducible refine (HF3.out _ HB0.out).mono ?_); rintro e w1 ⟨rfl, hb⟩; have HB1 := Aside0.mk (below_step HB0.out hb); clear hb HF3))
    go_ret
    exact ⟨rfl, HB1.out⟩
  have b0 : decide ((2147483647 : Int) < (n : Int)) = false := decide_eq_false (by omega)
  have b1 : decide (2147483647 < n) = false := decide_eq_false (by omega)
  have HWO := Aside0.mk (fun (W : World) (hb : Below w.heap.size w W) => WordsN_calls l N HLN.out hN2 6 (by omega) AQ cq hcq hcm hls W (Kd.C_below HQQ.out hb) (HTT.out.below hb))
  rw [show ((6 : Nat) : Int) = 6 from rfl] at HWO
  cases hwo : wordsN l 6
  · rw [hwo] at HWO
    clear hwo hls hN2 hnc
    go_enter Tryz.func3, Tryz.ntmps3
    go_wp2_with (first | ((with_reducible refine (HF3.out _ HB0.out).mono ?_); rintro e w1 ⟨rfl, hb⟩; have HB1 := Aside0.mk (below_step HB0.out hb); clear hb HF3) | ((with_reducible refine (HWO.out _ HB1.out).mono ?_); rintro e w2 ⟨rfl, hb⟩; have HB2 := Aside0.mk (below_step HB1.out hb); clear hb HWO))
    go_ret
    exact ⟨rfl, HB2.out⟩
  rw [hwo] at HWO
  obtain ⟨hl6, htb, hrw⟩ := words_t hwo
  have hky := words_keys hwo
  clear hwo
  rw [totB_totR] at htb
  have hfw : ∀ r ∈ l, FairW r := fun r hr => (reqW_fair (hrw r hr)).1
  have hnz : ∀ r ∈ l, nz r.1 = true ∧ nz r.2.1 = true ∧ ∀ v ∈ r.2.2, nz v = true := fun r hr => (reqW_fair (hrw r hr)).2
  have h55 : ∀ r ∈ l, r.2.2.length ≤ 5 := fun r hr => (reqW_t (hrw r hr)).2.1
  have htm : ∀ r ∈ l, r.1.length + totL r.2.2 ≤ 600 := fun r hr => Nat.le_trans (totR_memR hr) htb
  obtain ⟨t1, t2, t3, t4, t5⟩ := free_text hfw hnz h55 cs
  have HN6 : Aside0 (N ≤ 6) := ⟨by rw [← HLN.out]; exact hl6⟩
  have HFR := Aside0.mk (fun (W : World) (hb : Below w.heap.size w W) => Freely_calls l N HLN.out (by have := HN6.out; omega) (fun r hr => (hfw r hr).1) h55 (fun r hr => by have := htm r hr; omega) AQ cq cs A n c W (HBT.out.atR_ hb) (Kd.C_below HQQ.out hb))
  have HP1 := Aside0.mk (fun (W : World) (hb : Below w.heap.size w W) => PSel_calls (outL (.gap :: pcsAll l) cs) (by omega) t1 (toksAll l ++ [(1, [])]) t3 (by omega) (fun l2 h2 => by rw [t5] at h2; injection h2 with h2; subst h2; exact sortOK_12 _ (by rw [List.length_map]; omega)) W (HTT.out.below hb))
  rw [t5] at HP1
  obtain ⟨tx, htx⟩ : ∃ tx, mk (outL (.gap :: pcsAll l) cs) = tx := ⟨_, rfl⟩
  rw [htx] at HFR HP1
  have HKY : Aside0 (((l.map setR).map (·.1)).Nodup) := ⟨by rw [List.map_map]; exact hky⟩
  have HPX := Aside0.mk (fun (l1 : List Rq) (hp : l1.Perm (l.map setR)) (ha : KAsc l1) (W : World) (hb : Below w.heap.size w W) => show Calls Tryz.prog 13 #[.string (joinB ⟨#[44]⟩ (l1.map txtV))] W fun e w' => Below W.heap.size W w' ∧ ∃ v, e = .returned (.tuple #[v, .string (joinB ⟨#[44]⟩ (l1.map txtV)), .int .i64 0]) ∧ KQ.R 53 w' W.heap.size (fun _ => True) v (rqV l1) from by
    obtain ⟨k1, k2, k3, k4, k5, k6, k7⟩ := written_again hfw hnz h55 hp
    have h := PSel_calls (outL (pcwAll l1) []) (by omega) k3 (toksAll l1 ++ [(1, [])]) k4 (by omega) (fun l2 h2 => by rw [k6] at h2; injection h2 with h2; subst h2; exact sortOK_12 _ (by rw [hp.length_eq, List.length_map]; omega)) W (HTT.out.below hb)
    rw [k6, ← k2] at h
    refine h.mono ?_
    rintro e w' ⟨hb1, v, l2, hp2, ha2, he, hr⟩
    have hu : l2 = l1 := kasc_uniq hp2 ha2 ha (((hp2.trans hp).map (·.1)).nodup_iff.2 HKY.out)
    subst hu
    exact ⟨hb1, v, he, hr⟩)
  have HFW : Aside0 (∀ l1 : List Rq, l1.Perm (l.map setR) → ∀ r ∈ l1, fewR r) := ⟨fun l1 hp r hr => by
    obtain ⟨q, hq, rfl⟩ := List.mem_map.1 (hp.mem_iff.1 hr)
    have h1 := htm q hq
    refine ⟨Nat.le_trans (setL_len _) (by have := h55 q hq; omega), fun v hv => ?_⟩
    have h2 := totL_memR ((setL_mem _ _).1 hv)
    omega⟩
  clear hls hN2 hnc hl6 htb hrw hfw hnz h55 htm t1 t2 t3 t4 t5 htx hky HKY
  go_enter Tryz.func3, Tryz.ntmps3
  go_wp2_with (first | ((with_reducible refine (HF3.out _ HB0.out).mono ?_); rintro e w1 ⟨rfl, hb⟩; have HB1 := Aside0.mk (below_step HB0.out hb); clear hb HF3) | ((with_reducible refine (HWO.out _ HB1.out).mono ?_); rintro e w2 ⟨rfl, hb⟩; have HB2 := Aside0.mk (below_step HB1.out hb); clear hb HWO) | ((with_reducible refine (HFR.out _ HB2.out).mono ?_); rintro e w3 ⟨rfl, hb⟩; have HB3 := Aside0.mk (below_step HB2.out hb); clear hb HFR) | ((with_reducible refine (HP1.out _ HB3.out).mono ?_); rintro e w4 ⟨hb, v4, l1, hp, ha, he, hr⟩; obtain ⟨A4, c4, e4⟩ := Kd.R_slice hr; rw [show (rqV l1).length = N from by rw [List.length_map, hp.length_eq, List.length_map, HLN.out]] at e4; subst e4; obtain ⟨t2, ht2⟩ : ∃ t2, joinB ⟨#[44]⟩ (l1.map txtV) = t2 := ⟨_, rfl⟩; rw [ht2] at he; subst he; have HP2 := Aside0.mk (HPX.out l1 hp ha); rw [ht2] at HP2; have HB4 := Aside0.mk (below_step HB3.out hb); have HC4 := Aside0.mk (Kd.R_reads' hr).2.2; rw [show (rqV l1).length = N from by rw [List.length_map, hp.length_eq, List.length_map, HLN.out]] at HC4; have HFE := Aside0.mk (HFW.out l1 hp); have HL1 : Aside0 (l1.length = N) := ⟨by rw [hp.length_eq, List.length_map, HLN.out]⟩; clear hb hp ha hr ht2 HP1 HPX HFW) | ((with_reducible refine (HP2.out _ HB4.out).mono ?_); rintro e w5 ⟨hb, v5, he, hr⟩; subst he; obtain ⟨A5, c5, e5⟩ := Kd.R_slice hr; rw [show (rqV l1).length = N from by rw [List.length_map, HL1.out]] at e5; subst e5; have HB5 := Aside0.mk (below_step HB4.out hb); have HC5 := Aside0.mk (Kd.R_reads' hr).2.2; rw [show (rqV l1).length = N from by rw [List.length_map, HL1.out]] at HC5; have HC6 := Aside0.mk (Kd.C_below HC4.out hb); have HSR := Aside0.mk (SameR_calls l1 l1 N HL1.out HL1.out (by have := HN6.out; omega) (fun i r q h1 h2 => by rw [h1] at h2; injection h2 with h2; subst h2; exact ⟨rfl, rfl, rfl⟩) HFE.out HFE.out A4 c4 A5 c5 w5 HC6.out HC5.out); clear hb hr HP2 HC4) | ((with_reducible refine (HSR.out).mono ?_); rintro e w6 ⟨rfl, hb⟩; have HB6 := Aside0.mk (below_step HB5.out hb); clear hb HSR) | ((with_reducible refine (HSE.out _ HB6.out).mono ?_); rintro e w7 ⟨rfl, hb⟩; have HB7 := Aside0.mk (below_step HB6.out hb); clear hb HSE))
  go_ret
  exact ⟨by simp; try rfl, HB7.out⟩
end Go.Proofs.YthfjolafikgpoaaGreatDoor.Hand
