import Derived.Test.YteigfmchnblkgaaGreatDoorLabNew
import Derived.RegionTactic
import Derived.Deep.RegionLaw
import Derived.Deep.RegionWith
import Derived.Deep.RegionHeldLaw
/- impl.requirement. -/
namespace Go.Proofs.YteigfmchnblkgaaGreatDoor.Hand
open Go.RowKit Go.Maps Go.Proofs.YteigfmchnblkgaaGreatDoorW.PrintWords Go.Proofs.YteigfmchnblkgaaGreatDoorW.PrintLast Go.Proofs.YteigfmchnblkgaaGreatDoorW.PrintMore Go.Proofs.YteigfmchnblkgaaGreatDoor.Base
set_option linter.unusedVariables false
set_option linter.unusedSimpArgs false
set_option maxRecDepth 100000
theorem infoLS : (Tryz.prog.info? 9).map (fun i => (i.zero, i.size, i.bytes)) = some (some (.string ⟨#[]⟩), 1, 16) := by kernel_rfl
theorem R_empty (W : World) (base : Nat) (hb : base ≤ W.heap.size) : Kd.R Kd.string 9 (W.alloc (.cells #[] 9)) base (fun _ => True) (.slice (some ⟨W.heap.size, 0, none⟩) 0 0) ([] : List ByteArray) := by
  have h2 := World.ownsRow_lit (base := base) (e := 9) (size := 1) W #[] 0 hb (by unfold maxLen; omega) rfl
  exact Kd.R_of_own h2 (fun _ _ => trivial)
set_option maxHeartbeats 8000000 in
theorem requirement_calls (key op : ByteArray) (hk : key.size ≤ 2000) (A : Option Addr) (c n : Nat) (vs : List ByteArray) (hn : vs.length = n) (hn2 : n ≤ 200) (hz : ∀ p ∈ vs, p.size ≤ 100000000) (w : World) (hC : Kd.C Kd.string w A n vs) (hT : TV w) :
    Calls Tryz.prog 58 #[.agg #[.string key, .string op, .slice A n c]] w fun e w' => CondP (fairR key.data.toList op.data.toList (vL vs)) (∃ (b c' : Nat) (A' : Option Addr), e = .returned (.tuple #[.pointer (some ⟨b, 0, none⟩), .int .i64 0]) ∧ w'.heap[b]? = some (.cells #[.string key, .string op, .slice A' n c'] 128 (0, 0)) ∧ Kd.C Kd.string w' A' n vs) (e = .returned (.tuple #[.pointer none, .int .i64 1])) ∧ Below w.heap.size w w' := by
  have h1 : ((key.size : Int) ≤ 2000) = True := eq_true (by omega)
  have h2 : (2000 < (key.size : Int)) = False := eq_false (by omega)
  have h3 : ((n : Int) ≤ 200) = True := eq_true (by omega)
  have h4 : (200 < (n : Int)) = False := eq_false (by omega)
  have HN := Aside0.mk (fun (A' : Option Addr) (c' : Nat) (W : World) (hC : Kd.C Kd.string W A' n vs) (hT : TV W) => NewReq_calls key op (by omega) A' c' n vs hn (by omega) hz W hC hT)
  have HT := Aside0.mk hT
  have HLN := Aside0.mk hn
  clear hT hn hz
  obtain ⟨fr, hfr⟩ : ∃ fr, fairR key.data.toList op.data.toList (vL vs) = fr := ⟨_, rfl⟩
  rw [hfr] at HN ⊢
  clear hfr
  go_enter Tryz.func58, Tryz.ntmps58
  go_upto_region 3 with (fail)
  have hbk := heap_alloc_new w (.cells #[.string key, .string op, .slice A n c] 31)
  have HB := Aside0.mk (below_alloc (Below.refl w.heap.size w) (.cells #[.string key, .string op, .slice A n c] 31))
  obtain ⟨W1, hW1⟩ : ∃ W1, w.alloc (.cells #[.string key, .string op, .slice A n c] 31) = W1 := ⟨_, rfl⟩
  rw [hW1] at hbk HB ⊢
  have c0 : W1.cell? ⟨w.heap.size, 0, none⟩ = some (.string key) := (blk_cell hbk 0).trans rfl
  have c1 : W1.cell? ⟨w.heap.size, 1, none⟩ = some (.string op) := (blk_cell hbk 1).trans rfl
  have c2 : W1.cell? ⟨w.heap.size, 2, none⟩ = some (.slice A n c) := (blk_cell hbk 2).trans rfl
  have hbk2 := blk_alloc hbk (.cells #[] 9)
  have d0 : (W1.alloc (.cells #[] 9)).cell? ⟨w.heap.size, 0, none⟩ = some (.string key) := (blk_cell hbk2 0).trans rfl
  have d1 : (W1.alloc (.cells #[] 9)).cell? ⟨w.heap.size, 1, none⟩ = some (.string op) := (blk_cell hbk2 1).trans rfl
  have d2 : (W1.alloc (.cells #[] 9)).cell? ⟨w.heap.size, 2, none⟩ = some (.slice A n c) := (blk_cell hbk2 2).trans rfl
  have HBK := Aside0.mk hbk
  clear hbk2
  have HC := Aside0.mk (Kd.C_below hC HB.out)
  clear hbk hW1 hC
  have HR0 := Aside0.mk (R_empty W1 w.heap.size HB.out.size)
  have HB2 := Aside0.mk (below_alloc HB.out (.cells #[] 9))
  have HC2 := Aside0.mk (Kd.C_below HC.out (below_alloc (Below.refl _ _) (.cells #[] 9)))
  have HLV : Aside0 (([] ++ vs : List ByteArray).length = n) := ⟨by rw [List.nil_append]; exact HLN.out⟩
  cases fr
  · go_region_held_law (fun w' => w'.cell? ⟨w.heap.size, 0, none⟩ = some (.string key) ∧ w'.cell? ⟨w.heap.size, 1, none⟩ = some (.string op) ∧ w'.cell? ⟨w.heap.size, 2, none⟩ = some (.slice A n c)) (first | exact ⟨c0, c1, c2⟩ | exact ⟨d0, d1, d2⟩ | exact ⟨f0, f1, f2⟩ | exact ⟨k0, k1, k2⟩ | go_keep) (first | (refine Kd.R_append_rows_step Kd.string (w0 := w) w.heap.size (by rfl) (.tmp 21) (.tmp 23) 29 9 (.string ⟨#[]⟩) 16 rfl Tryz.underlying29 infoLS rfl (by decide) (by decide) (.slice (some ⟨W1.heap.size, 0, none⟩) 0 0) [] vs A n c (fun _ => True) (fun _ => False) rfl rfl ?aO ?aR (fun _ _ h => h) (fun _ h => h.elim) (fun _ _ => trivial) ?aB ?aS ?aL ?_; (case aO => first | exact HR0.out | exact Kd.R_drew HR0.out | exact Kd.R_drewN HR0.out _); (case aR => first | exact HC2.out | exact Kd.C_drew HC2.out | exact Kd.C_drewN HC2.out _); (case aB => first | exact HB2.out | exact below_drew1 HB2.out | exact pw_below_drewN HB2.out _); (case aS => first | exact below_size HB2.out | exact below_size (below_drew1 HB2.out) | exact below_size (pw_below_drewN HB2.out _)); (case aL => simp only [List.length_nil]; omega); intro v1 w1 ho hb hg hat; obtain ⟨A2, c2, hv1⟩ := Kd.R_slice ho; rw [HLV.out] at hv1; subst hv1; have HRV := Aside0.mk (Kd.R_reads' ho).2.2; rw [HLV.out] at HRV; have HB3 := Aside0.mk hb; have hbk3 := blk_grown (blk_drew (blk_alloc HBK.out (.cells #[] 9))) hg (fun e => by have h9 := blk_lt HBK.out; simp [Value.ownBlock] at e; omega); have f0 : w1.cell? ⟨w.heap.size, 0, none⟩ = some (.string key) := (blk_cell hbk3 0).trans rfl; have f1 : w1.cell? ⟨w.heap.size, 1, none⟩ = some (.string op) := (blk_cell hbk3 1).trans rfl; have f2 : w1.cell? ⟨w.heap.size, 2, none⟩ = some (.slice A n c) := (blk_cell hbk3 2).trans rfl; have HLT := Aside0.mk (blk_lt hbk3); clear ho hb hg hat hbk3) | (refine goes_ (N := some 25) Tryz.func81 (by kernel_rfl) rfl #[.string key, .string op, .slice A2 n c2] (by rfl) rfl rfl (by (try simp only [List.map_toArray, List.map_cons, List.map_nil]); first | done | rfl) ?_; refine (HN.out A2 c2 _ (by rw [List.nil_append] at HRV; exact HRV.out) (HT.out.below HB3.out)).mono ?_; rintro e w4 ⟨hcp, hb⟩; obtain ⟨g, rfl⟩ := hcp.2 rfl; have HB4 := Aside0.mk (below_step HB3.out hb); have k0 := (hb.cell HLT.out).trans f0; have k1 := (hb.cell HLT.out).trans f1; have k2 := (hb.cell HLT.out).trans f2; clear hb hcp; refine ⟨_, rfl, ?_⟩))
    go_wp2
    go_ret2
    exact ⟨condP_f rfl rfl, HB4.out⟩
  · go_region_held_law (fun w' => w'.cell? ⟨w.heap.size, 0, none⟩ = some (.string key) ∧ w'.cell? ⟨w.heap.size, 1, none⟩ = some (.string op) ∧ w'.cell? ⟨w.heap.size, 2, none⟩ = some (.slice A n c)) (first | exact ⟨c0, c1, c2⟩ | exact ⟨d0, d1, d2⟩ | exact ⟨f0, f1, f2⟩ | exact ⟨k0, k1, k2⟩ | go_keep) (first | (refine Kd.R_append_rows_step Kd.string (w0 := w) w.heap.size (by rfl) (.tmp 21) (.tmp 23) 29 9 (.string ⟨#[]⟩) 16 rfl Tryz.underlying29 infoLS rfl (by decide) (by decide) (.slice (some ⟨W1.heap.size, 0, none⟩) 0 0) [] vs A n c (fun _ => True) (fun _ => False) rfl rfl ?aO ?aR (fun _ _ h => h) (fun _ h => h.elim) (fun _ _ => trivial) ?aB ?aS ?aL ?_; (case aO => first | exact HR0.out | exact Kd.R_drew HR0.out | exact Kd.R_drewN HR0.out _); (case aR => first | exact HC2.out | exact Kd.C_drew HC2.out | exact Kd.C_drewN HC2.out _); (case aB => first | exact HB2.out | exact below_drew1 HB2.out | exact pw_below_drewN HB2.out _); (case aS => first | exact below_size HB2.out | exact below_size (below_drew1 HB2.out) | exact below_size (pw_below_drewN HB2.out _)); (case aL => simp only [List.length_nil]; omega); intro v1 w1 ho hb hg hat; obtain ⟨A2, c2, hv1⟩ := Kd.R_slice ho; rw [HLV.out] at hv1; subst hv1; have HRV := Aside0.mk (Kd.R_reads' ho).2.2; rw [HLV.out] at HRV; have HB3 := Aside0.mk hb; have hbk3 := blk_grown (blk_drew (blk_alloc HBK.out (.cells #[] 9))) hg (fun e => by have h9 := blk_lt HBK.out; simp [Value.ownBlock] at e; omega); have f0 : w1.cell? ⟨w.heap.size, 0, none⟩ = some (.string key) := (blk_cell hbk3 0).trans rfl; have f1 : w1.cell? ⟨w.heap.size, 1, none⟩ = some (.string op) := (blk_cell hbk3 1).trans rfl; have f2 : w1.cell? ⟨w.heap.size, 2, none⟩ = some (.slice A n c) := (blk_cell hbk3 2).trans rfl; have HLT := Aside0.mk (blk_lt hbk3); clear ho hb hg hat hbk3) | (refine goes_ (N := some 25) Tryz.func81 (by kernel_rfl) rfl #[.string key, .string op, .slice A2 n c2] (by rfl) rfl rfl (by (try simp only [List.map_toArray, List.map_cons, List.map_nil]); first | done | rfl) ?_; refine (HN.out A2 c2 _ (by rw [List.nil_append] at HRV; exact HRV.out) (HT.out.below HB3.out)).mono ?_; rintro e w4 ⟨hcp, hb⟩; obtain ⟨b, rfl, hbb, hbl⟩ := hcp.1 rfl; have HBL := Aside0.mk hbl; have HCE := Aside0.mk (Kd.C_below HRV.out hb); clear hbb hbl; have HB4 := Aside0.mk (below_step HB3.out hb); have k0 := (hb.cell HLT.out).trans f0; have k1 := (hb.cell HLT.out).trans f1; have k2 := (hb.cell HLT.out).trans f2; clear hb hcp; refine ⟨_, rfl, ?_⟩))
    go_wp2
    go_ret2
    exact ⟨condP_t rfl ⟨_, _, _, rfl, HBL.out, by have := HCE.out; rw [List.nil_append] at this; exact this⟩, HB4.out⟩
end Go.Proofs.YteigfmchnblkgaaGreatDoor.Hand

/- hasValue. -/
namespace Go.Proofs.YteigfmchnblkgaaGreatDoor.Hand
open Go.RowKit Go.Maps Go.Proofs.YteigfmchnblkgaaGreatDoorW.PrintWords Go.Proofs.YteigfmchnblkgaaGreatDoorW.PrintLast Go.Proofs.YteigfmchnblkgaaGreatDoorW.PrintMore Go.Proofs.YteigfmchnblkgaaGreatDoor.Base
set_option linter.unusedVariables false
set_option linter.unusedSimpArgs false
set_option maxRecDepth 100000
theorem has_take {vs : List ByteArray} {j : Nat} {p : ByteArray} {v : L} (hp : vs[j]? = some p) (h : (vL (vs.take j)).contains v = false) (h2 : p.data.toList ≠ v) : (vL (vs.take (j + 1))).contains v = false := by
  rw [List.take_add_one, hp, vL, List.map_append]
  simp at h ⊢
  exact ⟨h, fun e => h2 e.symm⟩
theorem hasValue_calls (A : Option Addr) (c n b o : Nat) (vs : List ByteArray) (hn : vs.length = n) (hn2 : n ≤ 1000000) (v : ByteArray) (w : World) (c2 : w.cell? ⟨b, o + 2, none⟩ = some (.slice A n c)) (hC : Kd.C Kd.string w A n vs) :
    Calls Tryz.prog 82 #[.pointer (some ⟨b, o, none⟩), .string v] w fun e w' => e = .returned (.bool ((vL vs).contains v.data.toList)) ∧ Below w.heap.size w w' := by
  have HLT := Aside0.mk (show b < w.heap.size from World.block_lt_of_cell? w _ c2)
  have HC := Aside0.mk hC
  have HLN := Aside0.mk hn
  have HC2 := Aside0.mk c2
  clear hC hn
  go_enter Tryz.func82, Tryz.ntmps82
  go_wp2
  clear c2
  go_loopg [11] (n) (fun k v11 w' => ∃ j : Nat, v11 = .int .i64 j ∧ Aside0 (k + j = n) ∧ Aside0 ((vL (vs.take j)).contains v.data.toList = false) ∧ Aside0 (Below w.heap.size w w'))
  case atStart => exact ⟨0, rfl, ⟨by omega⟩, ⟨rfl⟩, ⟨Below.refl _ _⟩⟩
  case round =>
    obtain ⟨j, rfl, HJ, HA, HB⟩ := hrel
    by_cases hjl : j < n
    · obtain ⟨ad, rfl, hk0⟩ := Kd.at_string (Kd.C_below HC.out HB.out) (j : Int) (by omega) (by omega)
      rw [Int.toNat_natCast] at hk0
      obtain ⟨p, hp⟩ : ∃ p, vs[j]? = some p := ⟨_, List.getElem?_eq_getElem (by rw [HLN.out]; exact hjl)⟩
      have hg : rdOf ByteArray.empty vs (j : Int) = p := by unfold rdOf; rw [Int.toNat_natCast, List.getD_eq_getElem?_getD, hp]; rfl
      rw [hg] at hk0
      have c3 : wr.cell? ⟨b, o + 2, none⟩ = some (.slice (some ad) n c) := (HB.out.cell HLT.out).trans HC2.out
      by_cases hpv : p.data.toList = v.data.toList
      · have hq : (p.toList == v.toList) = true := by rw [toList_eq, toList_eq, hpv]; simp
        have HF : Aside0 ((vL vs).contains v.data.toList = true) := ⟨by simp only [List.contains_iff_mem, vL]; exact List.mem_map.2 ⟨p, List.mem_of_getElem? hp, hpv⟩⟩
        clear hp hg hpv
        go_wp2
        go_ret
        exact ⟨by rw [HF.out]; rfl, HB.out⟩
      · have hq : (p.toList == v.toList) = false := by rw [toList_eq, toList_eq]; simpa using hpv
        have HA2 := Aside0.mk (has_take hp HA.out hpv)
        clear hp hg hpv
        go_wp2
        go_roundg (n - (j + 1))
        case measure => have := HJ.out; omega
        case rel => exact ⟨j + 1, by go_num, ⟨by omega⟩, HA2, HB⟩
    · have hje : j = n := by have := HJ.out; omega
      have HF : Aside0 ((vL vs).contains v.data.toList = false) := ⟨by have := HA.out; rwa [List.take_of_length_le (by rw [HLN.out, hje]; exact Nat.le_refl _)] at this⟩
      subst hje
      go_wp2
      go_ret
      exact ⟨by rw [HF.out]; rfl, HB.out⟩
end Go.Proofs.YteigfmchnblkgaaGreatDoor.Hand
