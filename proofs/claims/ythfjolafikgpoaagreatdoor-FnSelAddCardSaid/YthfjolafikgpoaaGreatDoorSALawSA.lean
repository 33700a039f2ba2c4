/- The law FnSelAdd. (Printed by lawsa.py.) -/
import Derived.Test.YthfjolafikgpoaaGreatDoorSAM33
import Derived.Test.YthfjolafikgpoaaGreatDoorSAM35
import Derived.Test.YthfjolafikgpoaaGreatDoorSAM23
import Derived.Deep.RegionHeld3
namespace Go.Proofs.YthfjolafikgpoaaGreatDoor.Hand
open Go.RowKit Go.Maps Go.Proofs.YthfjolafikgpoaaGreatDoorW.PrintWords Go.Proofs.YthfjolafikgpoaaGreatDoorW.PrintLast Go.Proofs.YthfjolafikgpoaaGreatDoorW.PrintMore Go.Proofs.YthfjolafikgpoaaGreatDoor.Base
set_option linter.unusedVariables false
set_option linter.unusedSimpArgs false
set_option maxRecDepth 100000
set_option maxHeartbeats 32000000 in
theorem SA_calls (AQ : Option Addr) (cq N : Nat) (l : List Rq) (hN : l.length = N) (hcq : N ≤ cq) (hcm : cq ≤ 9223372036854775807) (cu : UInt8) (w : World) (hQ : KQ.C w AQ N (rqV l)) (hT : TV w) :
   Calls Tryz.prog 4 #[.slice AQ N cq, .int .u8 (cu.toNat : Int)] w fun e w' => e = .returned (.bool true) ∧ Below w.heap.size w w' := by
 have HQQ := Aside0.mk hQ
 have HTT := Aside0.mk hT
 have HLN := Aside0.mk hN
 have HB0 := Aside0.mk (Below.refl w.heap.size w)
 have HF3 := Aside0.mk (fun (W : World) (hb : Below w.heap.size w W) => Fits3_calls AQ cq N l hN W (Kd.C_below hQ hb))
 have HSE := Aside0.mk (fun (W : World) (hb : Below w.heap.size w W) => epSel_calls W (hT.below hb))
 clear hQ hT hN
 cases hf3 : fits3 l
 · rw [hf3] at HF3
   clear hf3
   go_enter Tryz.func4, Tryz.ntmps4
   go_wp2_with (first | ((with_reducible refine (HF3.out _ HB0.out).mono ?_); rintro e w1 ⟨rfl, hb⟩; have HB1 := Aside0.mk (below_step HB0.out hb); clear hb HF3))
   go_ret
   exact ⟨rfl, HB1.out⟩
 rw [hf3] at HF3
 obtain ⟨hN2, hls⟩ := fits3_t hf3
 rw [HLN.out] at hN2
 clear hf3
 have HWO := Aside0.mk (fun (W : World) (hb : Below w.heap.size w W) => WordsN_calls l N HLN.out hN2 6 (by omega) AQ cq hcq hcm hls W (Kd.C_below HQQ.out hb) (HTT.out.below hb))
 rw [show ((6 : Nat) : Int) = 6 from rfl] at HWO
 cases hwo : wordsN l 6
 · rw [hwo] at HWO
   clear hwo hls hN2
   go_enter Tryz.func4, Tryz.ntmps4
   go_wp2_with (first | ((with_reducible refine (HF3.out _ HB0.out).mono ?_); rintro e w1 ⟨rfl, hb⟩; have HB1 := Aside0.mk (below_step HB0.out hb); clear hb HF3) | ((with_reducible refine (HWO.out _ HB1.out).mono ?_); rintro e w2 ⟨rfl, hb⟩; have HB2 := Aside0.mk (below_step HB1.out hb); clear hb HWO))
   go_ret
   exact ⟨rfl, HB2.out⟩
 rw [hwo] at HWO
 obtain ⟨hl6, htb, hrw⟩ := words_t hwo
 have hky := words_keys hwo
 clear hwo
 rw [totB_totR] at htb
 have hfw : ∀ r ∈ l, FairW r := fun r hr => (reqW_fair (hrw r hr)).1
 have hnz : ∀ r ∈ l, nz r.1 = true ∧ nz r.2.1 = true ∧ ∀ v ∈ r.2.2, nz v = true := fun r hr => (reqW_fair (hrw r hr)).2
 have h55 : ∀ r ∈ l, r.2.2.length ≤ 5 := fun r hr => (reqW_t (hrw r hr)).2.1
 have htm : ∀ r ∈ l, r.1.length + totL r.2.2 ≤ 600 := fun r hr => Nat.le_trans (totR_memR hr) htb
 have hwz : ∀ r ∈ l, r.1.length ≤ 700 ∧ r.2.2.length ≤ 5 ∧ ∀ v ∈ r.2.2, v.length ≤ 700 := fun r hr => ⟨by have := htm r hr; omega, h55 r hr, fun v hv => by have := totL_memR hv; have := htm r hr; omega⟩
 rw [HLN.out] at hl6
 obtain ⟨k, hk⟩ : ∃ k, cu.toNat % (N + 1) = k := ⟨_, rfl⟩
 have hkN : k ≤ N := by have := Nat.mod_lt cu.toNat (show 0 < N + 1 by omega); omega
 have hmod : Int.tmod (cu.toNat : Int) ((N : Int) + 1) = (k : Int) := by
  rw [show ((N : Int) + 1) = ((N + 1 : Nat) : Int) from by omega, ← Int.ofNat_tmod, hk]
 have hc256 : cu.toNat < 256 := cu.toNat_lt
 have hw64 : wrap64 (cu.toNat : Int) = (cu.toNat : Int) := IntWalk.wrap64_in _ (by omega)
 have hz1 : ((N : Int) + 1 = 0) = False := eq_false (by omega)
 have hsub : ∀ r ∈ l.take k, r ∈ l := fun r hr => List.mem_of_mem_take hr
 have hsub2 : ∀ r ∈ l.drop k, r ∈ l := fun r hr => List.mem_of_mem_drop hr
 obtain ⟨t1, t2, t3, t4, t5, t6, t7⟩ := written_again (l := l.take k) (l' := (l.take k).map setR) (fun r hr => hfw r (hsub r hr)) (fun r hr => hnz r (hsub r hr)) (fun r hr => h55 r (hsub r hr)) (List.Perm.refl _)
 have hlk : (l.take k).length = k := by rw [List.length_take, HLN.out]; omega
 rw [hlk] at t5 t7
 have ttr := totR_take l k
 have HW1 := Aside0.mk (fun (W : World) (hb : Below w.heap.size w W) => WrittenAll_calls (l.take k) k hlk (by omega) (fun r hr => hfw r (hsub r hr)) (fun r hr => hwz r (hsub r hr)) AQ cq W (kq_take (Kd.C_below HQQ.out hb) HLN.out k hkN))
 obtain ⟨AR, hAR⟩ : ∃ A, (if cq = k then AQ else AQ.map (·.add (k * 3))) = A := ⟨_, rfl⟩
 have HSA := Aside0.mk (fun (W : World) (hb : Below w.heap.size w W) => SAd_calls (outL (pcwAll ((l.take k).map setR)) []) (by omega) t3 (toksAll ((l.take k).map setR) ++ [(1, [])]) t4 (by omega) ((l.take k).map setR) t6 (sortOK_12 _ (by rw [List.length_map, hlk]; omega)) AR (cq - k) (N - k) (l.drop k) (by rw [List.length_drop, HLN.out]) (by omega) (by rw [List.length_map, hlk]; omega)
   (fun r hr => by obtain ⟨q, hq, rfl⟩ := List.mem_map.1 hr; exact rqW_set (reqW_w (hrw q (hsub q hq)))) (fun r hr => ⟨reqW_w (hrw r (hsub2 r hr)), by have := h55 r (hsub2 r hr); omega⟩) (fun l1 hp => sortOK_12 _ (by rw [List.length_append, hp.length_eq, List.length_map, hlk, List.length_drop, HLN.out]; omega)) W (by rw [← hAR]; exact kq_drop (Kd.C_below HQQ.out hb) HLN.out hcq k hkN) (HTT.out.below hb))
 obtain ⟨x1, hx1⟩ : ∃ t, mk (outL (pcwAll ((l.take k).map setR)) []) = t := ⟨_, rfl⟩
 rw [hx1] at HW1 HSA
 obtain ⟨i0, hi0, _, hsz, _⟩ := info_parts infoIQ
 have hcut1 := cut_to (P := Tryz.prog) 22 53 .i64 Tryz.underlying22 hi0 AQ N cq (k : Int) (by omega) (by omega) hcq
 have hcut2 := cut_from (P := Tryz.prog) 22 53 .i64 Tryz.underlying22 hi0 3 hsz AQ N cq (k : Int) (by omega) (by omega)
 rw [Int.toNat_natCast] at hcut1 hcut2
 rw [hAR] at hcut2
 have HEQ : Aside0 (∀ l2 l3 : List Rq, l2.Perm ((l.take k).map setR ++ l.drop k) → KAsc l2 → l3.Perm l → KAsc l3 → mk (outL (pcwAll (l3.map setR)) []) = joinB ⟨#[44]⟩ (l2.map txtW)) := ⟨fun l2 l3 h2 a2 h3 a3 => by
  rw [add_same hky h2 a2 h3 a3]
  exact (join_all l3 (fun r hr => (hfw r (h3.mem_iff.1 hr)).1)).symm⟩
 have HLE : Aside0 (∀ l2 : List Rq, l2.Perm ((l.take k).map setR ++ l.drop k) → (l2.length == 0) = (N == 0)) := ⟨fun l2 hp => by rw [hp.length_eq, List.length_append, List.length_map, ← List.length_append, List.take_append_drop, HLN.out]⟩
 have HOR := Aside0.mk (fun (W : World) (hb : Below w.heap.size w W) => Ord_calls AQ cq N l HLN.out (by omega) W (Kd.C_below HQQ.out hb))
 have HWR := Aside0.mk (fun (l3 : List Rq) (hp : l3.Perm l) (A : Option Addr) (c : Nat) (W : World) (hq : KQ.C W A N (rqV l3)) => WrittenAll_calls l3 N (by rw [hp.length_eq, HLN.out]) (by omega) (fun r hr => hfw r (hp.mem_iff.1 hr)) (fun r hr => hwz r (hp.mem_iff.1 hr)) A c W hq)
 have hq0 : ((N : Int) == 0) = (N == 0) := by rw [Bool.eq_iff_iff, beq_iff_eq, beq_iff_eq]; omega
 have HNC : Aside0 (N ≤ 6) := ⟨hl6⟩
 have HK6 : Aside0 (k ≤ N) := ⟨hkN⟩
 clear hls hN2 htb hrw hky hfw hnz h55 htm hwz hk hsub hsub2 t1 t2 t3 t4 t5 t6 t7 hlk ttr hAR hx1 hi0 hsz
 obtain ⟨z, hz⟩ : ∃ z, (N == 0) = z := ⟨_, rfl⟩
 rw [hz] at HLE hq0
 clear hz
 go_enter Tryz.func4, Tryz.ntmps4
 go_upto_region 6 with (first | ((with_reducible refine (HF3.out _ HB0.out).mono ?_); rintro e w1 ⟨rfl, hb⟩; have HB1 := Aside0.mk (below_step HB0.out hb); clear hb HF3) | ((with_reducible refine (HWO.out _ HB1.out).mono ?_); rintro e w2 ⟨rfl, hb⟩; have HB2 := Aside0.mk (below_step HB1.out hb); clear hb HWO))
 try simp only [hw64, hmod]
 go_region_held3 (fun _ => True) (exact trivial) (first | (go_at_call 17; with_reducible refine (HSA.out _ ?hb).mono ?_; (case hb => with_reducible first | exact HB3.out | exact below_drew1 HB3.out | exact pw_below_drewN HB3.out _); rintro e w4 ⟨l2, hp, ha, rfl, hb_⟩; have HP2 := Aside0.mk hp; have HA2 := Aside0.mk ha; have HB4 := Aside0.mk (below_step (show Below w.heap.size w _ from by with_reducible first | exact HB3.out | exact below_drew1 HB3.out | exact pw_below_drewN HB3.out _) hb_); clear hb_ hp ha) | (go_at_call 18; with_reducible refine (HW1.out _ ?hb).mono ?_; (case hb => with_reducible first | exact HB2.out | exact below_drew1 HB2.out | exact pw_below_drewN HB2.out _); rintro e w3 ⟨rfl, hb_⟩; have HB3 := Aside0.mk (below_step (show Below w.heap.size w _ from by with_reducible first | exact HB2.out | exact below_drew1 HB2.out | exact pw_below_drewN HB2.out _) hb_); clear hb_))
 all_goals (
   obtain ⟨tx, htx⟩ : ∃ t, joinB ⟨#[44]⟩ (l2.map txtW) = t := ⟨_, rfl⟩
   have HTX := Aside0.mk htx
   have hle := HLE.out l2 HP2.out
   rw [htx, hle]
   clear htx hle
   cases z)
 all_goals go_wp2_with (first | ((with_reducible refine (HOR.out _ ?hb).mono ?_); (case hb => with_reducible first | exact HB4.out | exact below_drew1 HB4.out | exact pw_below_drewN HB4.out _); rintro e w5 ⟨hb_, A5, c5, l3, rfl, hp, ha, hq⟩; have HB5 := Aside0.mk (below_step (show Below w.heap.size w _ from by with_reducible first | exact HB4.out | exact below_drew1 HB4.out | exact pw_below_drewN HB4.out _) hb_); have HT2 := Aside0.mk (HEQ.out l2 l3 HP2.out HA2.out hp ha); have HWA := Aside0.mk (HWR.out l3 hp A5 c5 w5 hq); rw [HT2.out, HTX.out] at HWA; clear hb_ hp ha hq) | ((with_reducible refine (HWA.out).mono ?_); rintro e w6 ⟨rfl, hb⟩; have HB6 := Aside0.mk (below_step HB5.out hb); clear hb HWA) | ((with_reducible refine (HSE.out _ HB6.out).mono ?_); rintro e w7 ⟨rfl, hb⟩; have HB7 := Aside0.mk (below_step HB6.out hb); clear hb HSE))
 all_goals go_ret
 all_goals exact ⟨by simp; try rfl, HB7.out⟩
end Go.Proofs.YthfjolafikgpoaaGreatDoor.Hand
