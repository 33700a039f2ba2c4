/- impl.requirement. -/
import Derived.Test.YteigfmchnblkgaaGreatDoorRTGLabB
import Derived.RegionTactic
import Derived.Deep.RegionLaw
import Derived.Deep.RegionWith
import Derived.Deep.RegionHeldLaw
namespace Go.Proofs.YteigfmchnblkgaaGreatDoor.Hand
open Go.RowKit Go.Maps Go.Proofs.YteigfmchnblkgaaGreatDoorW.PrintWords Go.Proofs.YteigfmchnblkgaaGreatDoorW.PrintLast Go.Proofs.YteigfmchnblkgaaGreatDoorW.PrintMore Go.Proofs.YteigfmchnblkgaaGreatDoor.Base
set_option linter.unusedVariables false
set_option linter.unusedSimpArgs false
set_option maxRecDepth 100000
set_option maxHeartbeats 8000000 in
theorem requirement2_calls (key op : ByteArray) (hk : key.size ≤ 2000) (A : Option Addr) (c n : Nat) (vs : List ByteArray) (hn : vs.length = n) (hn2 : n ≤ 200) (hz : ∀ p ∈ vs, p.size ≤ 100000000) (w : World) (hC : Kd.C Kd.string w A n vs) (hT : TV w) :
    Calls Tryz.prog 58 #[.agg #[.string key, .string op, .slice A n c]] w fun e w' => CondP (fairR key.data.toList op.data.toList (vL vs)) (∃ (b c' : Nat) (A' : Option Addr), e = .returned (.tuple #[.pointer (some ⟨b, 0, none⟩), .int .i64 0]) ∧ w'.heap[b]? = some (.cells #[.string key, .string op, .slice A' n c'] 128 (0, 0)) ∧ Kd.C Kd.string w' A' n vs ∧ n ≤ c') (e = .returned (.tuple #[.pointer none, .int .i64 1])) ∧ Below w.heap.size w w' := by
  have h1 : ((key.size : Int) ≤ 2000) = True := eq_true (by omega)
  have h2 : (2000 < (key.size : Int)) = False := eq_false (by omega)
  have h3 : ((n : Int) ≤ 200) = True := eq_true (by omega)
  have h4 : (200 < (n : Int)) = False := eq_false (by omega)
  have HN := Aside0.mk (fun (A' : Option Addr) (c' : Nat) (W : World) (hC : Kd.C Kd.string W A' n vs) (hT : TV W) => NewReq_calls key op (by omega) A' c' n vs hn (by omega) hz W hC hT)
  have HT := Aside0.mk hT
  have HLN := Aside0.mk hn
  clear hT hn hz
  obtain ⟨fr, hfr⟩ : ∃ fr, fairR key.data.toList op.data.toList (vL vs) = fr := ⟨_, rfl⟩
  rw [hfr] at HN ⊢
  clear hfr
  go_enter Tryz.func58, Tryz.ntmps58
  go_upto_region 3 with (fail)
  have hbk := heap_alloc_new w (.cells #[.string key, .string op, .slice A n c] 31)
  have HB := Aside0.mk (below_alloc (Below.refl w.heap.size w) (.cells #[.string key, .string op, .slice A n c] 31))
  obtain ⟨W1, hW1⟩ : ∃ W1, w.alloc (.cells #[.string key, .string op, .slice A n c] 31) = W1 := ⟨_, rfl⟩
  rw [hW1] at hbk HB ⊢
  have c0 : W1.cell? ⟨w.heap.size, 0, none⟩ = some (.string key) := (blk_cell hbk 0).trans rfl
  have c1 : W1.cell? ⟨w.heap.size, 1, none⟩ = some (.string op) := (blk_cell hbk 1).trans rfl
  have c2 : W1.cell? ⟨w.heap.size, 2, none⟩ = some (.slice A n c) := (blk_cell hbk 2).trans rfl
  have hbk2 := blk_alloc hbk (.cells #[] 9)
  have d0 : (W1.alloc (.cells #[] 9)).cell? ⟨w.heap.size, 0, none⟩ = some (.string key) := (blk_cell hbk2 0).trans rfl
  have d1 : (W1.alloc (.cells #[] 9)).cell? ⟨w.heap.size, 1, none⟩ = some (.string op) := (blk_cell hbk2 1).trans rfl
  have d2 : (W1.alloc (.cells #[] 9)).cell? ⟨w.heap.size, 2, none⟩ = some (.slice A n c) := (blk_cell hbk2 2).trans rfl
  have HBK := Aside0.mk hbk
  clear hbk2
  have HC := Aside0.mk (Kd.C_below hC HB.out)
  clear hbk hW1 hC
  have HR0 := Aside0.mk (R_empty W1 w.heap.size HB.out.size)
  have HB2 := Aside0.mk (below_alloc HB.out (.cells #[] 9))
  have HC2 := Aside0.mk (Kd.C_below HC.out (below_alloc (Below.refl _ _) (.cells #[] 9)))
  have HLV : Aside0 (([] ++ vs : List ByteArray).length = n) := ⟨by rw [List.nil_append]; exact HLN.out⟩
  cases fr
  · go_region_held_law (fun w' => w'.cell? ⟨w.heap.size, 0, none⟩ = some (.string key) ∧ w'.cell? ⟨w.heap.size, 1, none⟩ = some (.string op) ∧ w'.cell? ⟨w.heap.size, 2, none⟩ = some (.slice A n c)) (first | exact ⟨c0, c1, c2⟩ | exact ⟨d0, d1, d2⟩ | exact ⟨f0, f1, f2⟩ | exact ⟨k0, k1, k2⟩ | go_keep) (first | (refine Kd.R_append_rows_step Kd.string (w0 := w) w.heap.size (by rfl) (.tmp 21) (.tmp 23) 29 9 (.string ⟨#[]⟩) 16 rfl Tryz.underlying29 infoLS rfl (by decide) (by decide) (.slice (some ⟨W1.heap.size, 0, none⟩) 0 0) [] vs A n c (fun _ => True) (fun _ => False) rfl rfl ?aO ?aR (fun _ _ h => h) (fun _ h => h.elim) (fun _ _ => trivial) ?aB ?aS ?aL ?_; (case aO => first | exact HR0.out | exact Kd.R_drew HR0.out | exact Kd.R_drewN HR0.out _); (case aR => first | exact HC2.out | exact Kd.C_drew HC2.out | exact Kd.C_drewN HC2.out _); (case aB => first | exact HB2.out | exact below_drew1 HB2.out | exact pw_below_drewN HB2.out _); (case aS => first | exact below_size HB2.out | exact below_size (below_drew1 HB2.out) | exact below_size (pw_below_drewN HB2.out _)); (case aL => simp only [List.length_nil]; omega); intro v1 w1 ho hb hg hat; obtain ⟨A2, c2, hv1⟩ := Kd.R_slice ho; rw [HLV.out] at hv1; subst hv1; have HCP := Aside0.mk (Kd.R_reads' ho).2.1; have HRV := Aside0.mk (Kd.R_reads' ho).2.2; rw [HLV.out] at HRV; have HB3 := Aside0.mk hb; have hbk3 := blk_grown (blk_drew (blk_alloc HBK.out (.cells #[] 9))) hg (fun e => by have h9 := blk_lt HBK.out; simp [Value.ownBlock] at e; omega); have f0 : w1.cell? ⟨w.heap.size, 0, none⟩ = some (.string key) := (blk_cell hbk3 0).trans rfl; have f1 : w1.cell? ⟨w.heap.size, 1, none⟩ = some (.string op) := (blk_cell hbk3 1).trans rfl; have f2 : w1.cell? ⟨w.heap.size, 2, none⟩ = some (.slice A n c) := (blk_cell hbk3 2).trans rfl; have HLT := Aside0.mk (blk_lt hbk3); clear ho hb hg hat hbk3) | (refine goes_ (N := some 25) Tryz.func81 (by kernel_rfl) rfl #[.string key, .string op, .slice A2 n c2] (by rfl) rfl rfl (by (try simp only [List.map_toArray, List.map_cons, List.map_nil]); first | done | rfl) ?_; refine (HN.out A2 c2 _ (by rw [List.nil_append] at HRV; exact HRV.out) (HT.out.below HB3.out)).mono ?_; rintro e w4 ⟨hcp, hb⟩; obtain ⟨g, rfl⟩ := hcp.2 rfl; have HB4 := Aside0.mk (below_step HB3.out hb); have k0 := (hb.cell HLT.out).trans f0; have k1 := (hb.cell HLT.out).trans f1; have k2 := (hb.cell HLT.out).trans f2; clear hb hcp; refine ⟨_, rfl, ?_⟩))
    go_wp2
    go_ret2
    exact ⟨condP_f rfl rfl, HB4.out⟩
  · go_region_held_law (fun w' => w'.cell? ⟨w.heap.size, 0, none⟩ = some (.string key) ∧ w'.cell? ⟨w.heap.size, 1, none⟩ = some (.string op) ∧ w'.cell? ⟨w.heap.size, 2, none⟩ = some (.slice A n c)) (first | exact ⟨c0, c1, c2⟩ | exact ⟨d0, d1, d2⟩ | exact ⟨f0, f1, f2⟩ | exact ⟨k0, k1, k2⟩ | go_keep) (first | (refine Kd.R_append_rows_step Kd.string (w0 := w) w.heap.size (by rfl) (.tmp 21) (.tmp 23) 29 9 (.string ⟨#[]⟩) 16 rfl Tryz.underlying29 infoLS rfl (by decide) (by decide) (.slice (some ⟨W1.heap.size, 0, none⟩) 0 0) [] vs A n c (fun _ => True) (fun _ => False) rfl rfl ?aO ?aR (fun _ _ h => h) (fun _ h => h.elim) (fun _ _ => trivial) ?aB ?aS ?aL ?_; (case aO => first | exact HR0.out | exact Kd.R_drew HR0.out | exact Kd.R_drewN HR0.out _); (case aR => first | exact HC2.out | exact Kd.C_drew HC2.out | exact Kd.C_drewN HC2.out _); (case aB => first | exact HB2.out | exact below_drew1 HB2.out | exact pw_below_drewN HB2.out _); (case aS => first | exact below_size HB2.out | exact below_size (below_drew1 HB2.out) | exact below_size (pw_below_drewN HB2.out _)); (case aL => simp only [List.length_nil]; omega); intro v1 w1 ho hb hg hat; obtain ⟨A2, c2, hv1⟩ := Kd.R_slice ho; rw [HLV.out] at hv1; subst hv1; have HCP := Aside0.mk (Kd.R_reads' ho).2.1; have HRV := Aside0.mk (Kd.R_reads' ho).2.2; rw [HLV.out] at HRV; have HB3 := Aside0.mk hb; have hbk3 := blk_grown (blk_drew (blk_alloc HBK.out (.cells #[] 9))) hg (fun e => by have h9 := blk_lt HBK.out; simp [Value.ownBlock] at e; omega); have f0 : w1.cell? ⟨w.heap.size, 0, none⟩ = some (.string key) := (blk_cell hbk3 0).trans rfl; have f1 : w1.cell? ⟨w.heap.size, 1, none⟩ = some (.string op) := (blk_cell hbk3 1).trans rfl; have f2 : w1.cell? ⟨w.heap.size, 2, none⟩ = some (.slice A n c) := (blk_cell hbk3 2).trans rfl; have HLT := Aside0.mk (blk_lt hbk3); clear ho hb hg hat hbk3) | (refine goes_ (N := some 25) Tryz.func81 (by kernel_rfl) rfl #[.string key, .string op, .slice A2 n c2] (by rfl) rfl rfl (by (try simp only [List.map_toArray, List.map_cons, List.map_nil]); first | done | rfl) ?_; refine (HN.out A2 c2 _ (by rw [List.nil_append] at HRV; exact HRV.out) (HT.out.below HB3.out)).mono ?_; rintro e w4 ⟨hcp, hb⟩; obtain ⟨b, rfl, hbb, hbl⟩ := hcp.1 rfl; have HBL := Aside0.mk hbl; have HCE := Aside0.mk (Kd.C_below HRV.out hb); clear hbb hbl; have HB4 := Aside0.mk (below_step HB3.out hb); have k0 := (hb.cell HLT.out).trans f0; have k1 := (hb.cell HLT.out).trans f1; have k2 := (hb.cell HLT.out).trans f2; clear hb hcp; refine ⟨_, rfl, ?_⟩))
    go_wp2
    go_ret2
    exact ⟨condP_t rfl ⟨_, _, _, rfl, HBL.out, (by have := HCE.out; rw [List.nil_append] at this; exact this), HCP.out⟩, HB4.out⟩
end Go.Proofs.YteigfmchnblkgaaGreatDoor.Hand
