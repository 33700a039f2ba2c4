/- impl.LabelsMerge. -/
import Derived.Test.YteigfmchnblkgaaGreatDoorMTM16
import Derived.Test.YteigfmchnblkgaaGreatDoorMTM15
namespace Go.Proofs.YteigfmchnblkgaaGreatDoor.Hand
open Go.RowKit Go.Maps Go.Proofs.YteigfmchnblkgaaGreatDoorW.PrintWords Go.Proofs.YteigfmchnblkgaaGreatDoorW.PrintLast Go.Proofs.YteigfmchnblkgaaGreatDoorW.PrintMore Go.Proofs.YteigfmchnblkgaaGreatDoor.Base
open Go.Sort (ltStr)
set_option linter.unusedVariables false
set_option linter.unusedSimpArgs false
set_option maxRecDepth 100000
theorem dk_le : ∀ m : List LP, (dk m).length ≤ m.length
  | [] => Nat.le_refl _
  | p :: m => by
    unfold dk
    have := dk_le m
    split <;> simp only [List.length_cons] <;> omega
theorem dk_mg {m1 m2 m3 : List LP} (h : mgOf m1 m2 m3) : (dk m3).length ≤ (dk m1).length + (dk m2).length := by
  have h1 := nodup_len (dk_nodup m3) (l2 := dk m1 ++ dk m2) (fun x hx => by
    obtain ⟨v, hv⟩ := dk_mem.1 hx
    rw [h x] at hv
    rw [List.mem_append]
    cases h2 : mget m2 x with
    | some u => exact .inr (dk_mem.2 ⟨u, h2⟩)
    | none => rw [h2] at hv; exact .inl (dk_mem.2 ⟨v, hv⟩))
  rwa [List.length_append] at h1
theorem rev_sizes {l : List (ByteArray × ByteArray)} (hz : ∀ p ∈ l, p.1.size ≤ 140737488351232 ∧ p.2.size ≤ 140737488351232) : ∀ k v, mget (labRev l) k = some v → k.length ≤ 140737488351232 ∧ v.length ≤ 140737488351232 := by
  intro k v hv
  unfold mget at hv
  obtain ⟨q, hq, hqv⟩ := Option.map_eq_some_iff.1 hv
  have hm := List.mem_of_find?_eq_some hq
  have he := List.find?_some hq
  unfold labRev at hm
  rw [List.mem_reverse, List.mem_map] at hm
  obtain ⟨p, hp, rfl⟩ := hm
  have e1 : p.1.data.toList = k := by simpa using he
  have e2 : p.2.data.toList = v := hqv
  rw [← e1, ← e2]
  exact hz p hp
set_option maxHeartbeats 4000000 in
theorem LMerge_calls (A A2 : Option Addr) (c c2 : Nat) (l l2 : List (ByteArray × ByteArray)) (hl : l.length ≤ 400) (hl2 : l2.length ≤ 400) (hz : ∀ p ∈ l, p.1.size ≤ 140737488351232 ∧ p.2.size ≤ 140737488351232) (hz2 : ∀ p ∈ l2, p.1.size ≤ 140737488351232 ∧ p.2.size ≤ 140737488351232) (w : World) (hx : PK.C w A l.length l) (hy : PK.C w A2 l2.length l2) :
    Calls Tryz.prog 37 #[.slice A l.length c, .slice A2 l2.length c2] w fun e w' => ∃ v : Value, e = .returned v ∧ PK.R 45 w' w.heap.size (fun _ => True) v ((keyL (l.map unP ++ l2.map unP)).map mkP) ∧ Below w.heap.size w w' := by
  have HX := Aside0.mk hx
  have HY := Aside0.mk hy
  have H1 := Aside0.mk (fun W (h : PK.C W A l.length l) => setOfZ_calls A c l (by omega) hz W h)
  have H2 := Aside0.mk (fun W (h : PK.C W A2 l2.length l2) => setOfZ_calls A2 c2 l2 (by omega) hz2 W h)
  have d1 : (dk (labRev l)).length ≤ l.length := Nat.le_trans (dk_le _) (by unfold labRev; simp)
  have d2 : (dk (labRev l2)).length ≤ l2.length := Nat.le_trans (dk_le _) (by unfold labRev; simp)
  have HM := Aside0.mk (fun b1 b2 N1 N2 W h1 h2 => Merge_calls b1 N1 (labRev l) b2 N2 (labRev l2) (rev_sizes hz) (rev_sizes hz2) (by omega) (by omega) W h1 h2)
  have HP := Aside0.mk (fun b N (m3 : List LP) (hm : mgOf (labRev l) (labRev l2) m3) W h => Pairs_calls b N m3 (by have := dk_mg hm; omega) W h)
  have HB := Aside0.mk (Below.refl w.heap.size w)
  clear hx hy
  go_enter Tryz.func37, Tryz.ntmps37
  go_wp2_with (first
    | ((with_reducible refine (H1.out _ HX.out).mono ?_); rintro e w1 ⟨rfl, hi, hb⟩; have HI1 := Aside0.mk hi; have HB1 := Aside0.mk (below_step HB.out hb); have HY1 := Aside0.mk (Kd.C_below HY.out hb); clear hi hb H1)
    | ((with_reducible refine (H2.out _ HY1.out).mono ?_); rintro e w2 ⟨rfl, hi, hb⟩; have HI2 := Aside0.mk hi; have HI3 := Aside0.mk (HI1.out.below hb); have HB2 := Aside0.mk (below_step HB1.out hb); clear hi hb H2)
    | ((with_reducible refine (HM.out _ _ _ _ _ HI3.out HI2.out).mono ?_); rintro e w3 ⟨N3, m3, rfl, hi, hm, hN, hb⟩; have HI4 := Aside0.mk hi; have HMG := Aside0.mk hm; have HB3 := Aside0.mk (below_step HB2.out hb); clear hi hm hN hb HM)
    | ((with_reducible refine (HP.out _ _ _ HMG.out _ HI4.out).mono ?_); rintro e w4 ⟨v, xs, rfl, hr, hsk, hmem, hb⟩; have HR4 := Aside0.mk (Kd.R_lower hr (below_size HB3.out)); have HSK := Aside0.mk hsk; have HME := Aside0.mk hmem; have HB4 := Aside0.mk (below_step HB3.out hb); clear hr hsk hmem hb HP))
  go_ret
  refine ⟨_, rfl, ?_, HB4.out⟩
  rw [← keyL_merge HMG.out HSK.out HME.out]
  exact HR4.out
end Go.Proofs.YteigfmchnblkgaaGreatDoor.Hand
