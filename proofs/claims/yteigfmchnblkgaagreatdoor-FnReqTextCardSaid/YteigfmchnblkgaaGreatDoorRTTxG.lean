/- impl.RequirementText. -/
import Derived.Test.YteigfmchnblkgaaGreatDoorRTTxF
import Derived.Test.YteigfmchnblkgaaGreatDoorRTLabReqC
import Derived.Tactics
import Derived.Tactics2
import Derived.Defers
import Derived.Recover
import Derived.Laws.Pointers
namespace Go.Proofs.YteigfmchnblkgaaGreatDoor.Hand
open Go.RowKit Go.Proofs.YteigfmchnblkgaaGreatDoorW.PrintWords Go.Proofs.YteigfmchnblkgaaGreatDoorW.PrintLast Go.Proofs.YteigfmchnblkgaaGreatDoorW.PrintMore Go.Proofs.YteigfmchnblkgaaGreatDoor.Base
set_option linter.unusedVariables false
set_option linter.unusedSimpArgs false
set_option maxRecDepth 100000
theorem RT_idle (p q : Addr) (w : World) :
    CallsD Tryz.prog 69 #[.pointer (some p), .pointer (some q)] .returning w fun e u' w' => e = .returned (.tuple #[]) ∧ u' = .returning ∧ w' = w := by
  refine callsD_of_wpS Tryz.func69 rfl fun c₀ cs hu => ?_
  apply wpS_seq
  apply wpS_region
  simp [wpOpsS, go_sem, recoverD, hu, Tryz.ntmps69, Exit.thenS]
  refine wpS_cond (t := false) (by simp [Act.eval, Array.replicate]) ?_
  simp only [Bool.false_eq_true, if_false]
  refine wpS_of_wp (wp_skip ?_)
  cases c₀
  simp_all [bodyPostS, results, Tryz.results69]
theorem out2s {w1 : World} {p q : Nat} {b0 i0 : Value} (hpq : p ≠ q) (HP : w1.heap[p]? = some (.cells #[b0] 9 (0, 0))) (HQ : w1.heap[q]? = some (.cells #[i0] 3 (0, 0))) (v u : Value) :
    w1.cell? ⟨p, 0, none⟩ = some b0 ∧ w1.frozen? ⟨p, 0, none⟩ = false ∧ (w1.setCell ⟨p, 0, none⟩ v).cell? ⟨q, 0, none⟩ = some i0 ∧ (w1.setCell ⟨p, 0, none⟩ v).frozen? ⟨q, 0, none⟩ = false ∧ ((w1.setCell ⟨p, 0, none⟩ v).setCell ⟨q, 0, none⟩ u).cell? ⟨p, 0, none⟩ = some v ∧ ((w1.setCell ⟨p, 0, none⟩ v).setCell ⟨q, 0, none⟩ u).cell? ⟨q, 0, none⟩ = some u := by
  have hQ4 := blk_far HQ (p := ⟨p, 0, none⟩) (show q ≠ p by omega) v
  have hP4 := blk_put HP 0 v (cs' := #[v]) rfl
  have HP5 := blk_far hP4 (p := ⟨q, 0, none⟩) (show p ≠ q by omega) u
  have HQ5 := blk_put hQ4 0 u (cs' := #[u]) rfl
  exact ⟨(blk_cell HP 0).trans rfl, blk_frozen HP 0, (blk_cell hQ4 0).trans rfl, blk_frozen hQ4 0, (blk_cell HP5 0).trans rfl, (blk_cell HQ5 0).trans rfl⟩
set_option maxHeartbeats 8000000 in
theorem RT_calls (key op : ByteArray) (hk : key.size ≤ 2000) (A : Option Addr) (c n : Nat) (vs : List ByteArray) (hn : vs.length = n) (hn2 : n ≤ 200) (hz : ∀ p ∈ vs, p.size ≤ 10000) (w : World)
    (hC : Kd.C Kd.string w A n vs) (hT : TV w) :
    Calls Tryz.prog 38 #[.agg #[.string key, .string op, .slice A n c]] w fun e w' => CondP (fairR key.data.toList op.data.toList (vL vs)) (∃ us : List L, us.Perm (vL vs) ∧ Asc us ∧ e = .returned (.tuple #[.string (textM op.data.toList key (joinB ⟨#[44]⟩ (us.map mk))), .int .i64 0])) (e = .returned (.tuple #[.string ⟨#[]⟩, .int .i64 1])) ∧ Below w.heap.size w w' := by
  have hmf : ∀ (fn : Fn) (first cap : Array Value) (w : World), (Instr.makeFunc fn first cap).run Tryz.prog w = .ok (.func fn first cap) w := fun _ _ _ _ => rfl
  have HREQ := Aside0.mk (fun (W : World) (hb : Below w.heap.size w W) => requirement2_calls key op hk A c n vs hn hn2 (fun p hp => by have := hz p hp; omega) W (Kd.C_below hC hb) (hT.below hb))
  obtain ⟨fr, hfr⟩ : ∃ fr, fairR key.data.toList op.data.toList (vL vs) = fr := ⟨_, rfl⟩
  have HSTR : Aside0 (fr = true → ∀ (A' : Option Addr) (c' b : Nat) (W : World), _ → _ → _ → _) := ⟨fun hf A' c' b W hbk hC' hc' => Str_calls key op hk b c' n vs hn (by omega) hc' hz A' W hbk hC' (by rw [hf] at hfr; unfold fairR at hfr; simp only [Bool.and_eq_true] at hfr; exact hfr.1)⟩
  rw [hfr] at HREQ ⊢
  obtain ⟨W3, hW3⟩ : ∃ W3, ((w.alloc (.cells #[.string key, .string op, .slice A n c] 31)).alloc (.cells #[.string ⟨#[]⟩] 9)).alloc (.cells #[.int .i64 0] 3) = W3 := ⟨_, rfl⟩
  have HB3 : Aside0 (Below w.heap.size w W3) := ⟨by rw [← hW3]; exact below_alloc (below_alloc (below_alloc (Below.refl _ _) _) _) _⟩
  have HP3 : Aside0 (W3.heap[w.heap.size + 1]? = some (.cells #[.string ⟨#[]⟩] 9 (0, 0))) := ⟨by
    have := blk_alloc (heap_alloc_new (w.alloc (.cells #[.string key, .string op, .slice A n c] 31)) (.cells #[.string ⟨#[]⟩] 9)) (.cells #[.int .i64 0] 3)
    rw [hW3] at this; simpa using this⟩
  have HQ3 : Aside0 (W3.heap[w.heap.size + 1 + 1]? = some (.cells #[.int .i64 0] 3 (0, 0))) := ⟨by
    have := heap_alloc_new ((w.alloc (.cells #[.string key, .string op, .slice A n c] 31)).alloc (.cells #[.string ⟨#[]⟩] 9)) (.cells #[.int .i64 0] 3)
    rw [hW3] at this; simpa using this⟩
  have HA3 : Aside0 (W3.heap[w.heap.size]? = some (.cells #[.string key, .string op, .slice A n c] 31 (0, 0))) := ⟨by
    have := blk_alloc (blk_alloc (heap_alloc_new w (.cells #[.string key, .string op, .slice A n c] 31)) (.cells #[.string ⟨#[]⟩] 9)) (.cells #[.int .i64 0] 3)
    rw [hW3] at this; exact this⟩
  have a0 : W3.cell? ⟨w.heap.size, 0, none⟩ = some (.string key) := (blk_cell HA3.out 0).trans rfl
  have a1 : W3.cell? ⟨w.heap.size, 1, none⟩ = some (.string op) := (blk_cell HA3.out 1).trans rfl
  have a2 : W3.cell? ⟨w.heap.size, 2, none⟩ = some (.slice A n c) := (blk_cell HA3.out 2).trans rfl
  have HS3 : Aside0 (W3.heap.size = w.heap.size + 3) := ⟨by rw [← hW3]; simp⟩
  clear hT hC hfr
  cases fr
  · clear HSTR
    go_enter_defers Tryz.func38, Tryz.ntmps38
    go_upto_region 3 with (first | ((with_reducible refine (HREQ.out _ HB3.out).mono ?_); rintro e w1 ⟨hcp, hb⟩; obtain rfl := hcp.2 rfl; have HB1 := Aside0.mk hb; clear hb hcp HREQ))
    have HB := below_step HB3.out HB1.out
    have HPE := (HB1.out.block (w.heap.size + 1) (by rw [HS3.out]; omega)).trans HP3.out
    have HQE := (HB1.out.block (w.heap.size + 1 + 1) (by rw [HS3.out]; omega)).trans HQ3.out
    obtain ⟨o1, o2, o3, o4, o5, o6⟩ := out2s (by omega) HPE HQE (.string ⟨#[]⟩) (.int .i64 1)
    have HBE := Aside0.mk (below_set (below_set HB (show w.heap.size ≤ w.heap.size + 1 by omega) (j := 0) (v := .string ⟨#[]⟩)) (show w.heap.size ≤ w.heap.size + 1 + 1 by omega) (j := 0) (v := .int .i64 1))
    clear HPE HQE HB
    go_wp2
    refine leaves_cons (f := 69) (args := #[.pointer (some ⟨w.heap.size + 1, 0, none⟩), .pointer (some ⟨w.heap.size + 1 + 1, 0, none⟩)]) (by simp) (by simp [go_sem]) ?_
    refine (RT_idle ⟨w.heap.size + 1, 0, none⟩ ⟨w.heap.size + 1 + 1, 0, none⟩ _).mono ?_
    rintro e u' w'' ⟨rfl, rfl, rfl⟩
    simp [Leaves, settle, results, Tryz.results38, go_sem, o5, o6, Result.andThen]
    exact ⟨condP_f rfl (by first | trivial | rfl), HBE.out⟩
  · go_enter_defers Tryz.func38, Tryz.ntmps38
    go_upto_region 3 with (first | ((with_reducible refine (HREQ.out _ HB3.out).mono ?_); rintro e w1 ⟨hcp, hb⟩; obtain ⟨b, c', A', rfl, hbk, hC', hc'⟩ := hcp.1 rfl; have HB1 := Aside0.mk hb; have HCS := Aside0.mk (HSTR.out rfl A' c' b w1 hbk hC' hc'); clear hb hcp hbk hC' hc' HREQ))
    have HB := below_step HB3.out HB1.out
    have HPE := Aside0.mk ((HB1.out.block (w.heap.size + 1) (by rw [HS3.out]; omega)).trans HP3.out)
    have HQE := Aside0.mk ((HB1.out.block (w.heap.size + 1 + 1) (by rw [HS3.out]; omega)).trans HQ3.out)
    have HBA := Aside0.mk HB
    have HLP := Aside0.mk (blk_lt HPE.out)
    have HLQ := Aside0.mk (blk_lt HQE.out)
    clear HB a0 a1 a2 hW3
    go_wp2_with (first | ((with_reducible refine (HCS.out).mono ?_); rintro e w4 ⟨us, hu1, hu2, rfl, hb⟩; have HU1 := Aside0.mk hu1; have HU2 := Aside0.mk hu2; have HB4 := Aside0.mk hb; clear hb hu1 hu2 HCS; obtain ⟨txt, htx⟩ : ∃ txt, textM op.data.toList key (joinB ⟨#[44]⟩ (us.map mk)) = txt := ⟨_, rfl⟩; rw [htx]; have HTX := Aside0.mk htx; clear htx; have HB := below_step HBA.out HB4.out; obtain ⟨o1, o2, o3, o4, o5, o6⟩ := out2s (by omega) ((HB4.out.block _ HLP.out).trans HPE.out) ((HB4.out.block _ HLQ.out).trans HQE.out) (.string txt) (.int .i64 0); have HBE := Aside0.mk (below_set (below_set HB (show w.heap.size ≤ w.heap.size + 1 by omega) (j := 0) (v := .string txt)) (show w.heap.size ≤ w.heap.size + 1 + 1 by omega) (j := 0) (v := .int .i64 0)); clear HB))
    refine leaves_cons (f := 69) (args := #[.pointer (some ⟨w.heap.size + 1, 0, none⟩), .pointer (some ⟨w.heap.size + 1 + 1, 0, none⟩)]) (by simp) (by simp [go_sem]) ?_
    refine (RT_idle ⟨w.heap.size + 1, 0, none⟩ ⟨w.heap.size + 1 + 1, 0, none⟩ _).mono ?_
    rintro e u' w'' ⟨rfl, rfl, rfl⟩
    simp [Leaves, settle, results, Tryz.results38, go_sem, o5, o6, Result.andThen]
    exact ⟨condP_t rfl ⟨us, HU1.out, HU2.out, by rw [HTX.out]⟩, HBE.out⟩
end Go.Proofs.YteigfmchnblkgaaGreatDoor.Hand
