/- impl.RequirementMatches. -/
import Derived.Test.YteigfmchnblkgaaDoorLabReq
import Derived.Test.YteigfmchnblkgaaDoorLabMeet
import Derived.Tactics
import Derived.Tactics2
import Derived.Defers
import Derived.Recover
import Derived.Laws.Pointers
namespace Go.Proofs.YteigfmchnblkgaaDoor.Hand
open Go.RowKit Go.Maps Go.Proofs.YteigfmchnblkgaaDoorW.PrintWords Go.Proofs.YteigfmchnblkgaaDoorW.PrintLast Go.Proofs.YteigfmchnblkgaaDoorW.PrintMore Go.Proofs.YteigfmchnblkgaaDoor.Base
set_option linter.unusedVariables false
set_option linter.unusedSimpArgs false
set_option maxRecDepth 100000

theorem RM_idle (p q : Addr) (w : World) :
    CallsD Tryd.prog 13 #[.pointer (some p), .pointer (some q)] .returning w fun e u' w' => e = .returned (.tuple #[]) ∧ u' = .returning ∧ w' = w := by
  refine callsD_of_wpS Tryd.func13 rfl fun c₀ cs hu => ?_
  apply wpS_seq
  apply wpS_region
  simp [wpOpsS, go_sem, recoverD, hu, Tryd.ntmps13, Exit.thenS]
  refine wpS_cond (t := false) (by simp [Act.eval, Array.replicate]) ?_
  simp only [Bool.false_eq_true, if_false]
  refine wpS_of_wp (wp_skip ?_)
  cases c₀
  simp_all [bodyPostS, results, Tryd.results13]
theorem mget_size {ls : List (ByteArray × ByteArray)} {M : Nat} (hz : ∀ p ∈ ls, p.1.size ≤ M ∧ p.2.size ≤ M) (k v : L) (h : mget (labRev ls) k = some v) : v.length ≤ M := by
  unfold mget at h
  cases e : (labRev ls).find? (fun p => p.1 == k) with
  | none => rw [e] at h; cases h
  | some p =>
    rw [e] at h
    have hm := List.mem_of_find?_eq_some e
    unfold labRev at hm
    rw [List.mem_reverse, List.mem_map] at hm
    obtain ⟨q, hq, rfl⟩ := hm
    simp only [Option.map_some, Option.some.injEq] at h
    subst h
    have := (hz q hq).2
    exact (show q.2.data.toList.length = q.2.size by rw [ByteArray.size, Array.length_toList]) ▸ this
theorem out2 {w1 : World} {p q : Nat} {b0 i0 : Value} (hpq : p ≠ q) (HP : w1.heap[p]? = some (.cells #[b0] 4 (0, 0))) (HQ : w1.heap[q]? = some (.cells #[i0] 3 (0, 0))) (v u : Value) :
    w1.cell? ⟨p, 0, none⟩ = some b0 ∧ w1.frozen? ⟨p, 0, none⟩ = false ∧ (w1.setCell ⟨p, 0, none⟩ v).cell? ⟨q, 0, none⟩ = some i0 ∧ (w1.setCell ⟨p, 0, none⟩ v).frozen? ⟨q, 0, none⟩ = false ∧ ((w1.setCell ⟨p, 0, none⟩ v).setCell ⟨q, 0, none⟩ u).cell? ⟨p, 0, none⟩ = some v ∧ ((w1.setCell ⟨p, 0, none⟩ v).setCell ⟨q, 0, none⟩ u).cell? ⟨q, 0, none⟩ = some u := by
  have hQ4 := blk_far HQ (p := ⟨p, 0, none⟩) (show q ≠ p by omega) v
  have hP4 := blk_put HP 0 v (cs' := #[v]) rfl
  have HP5 := blk_far hP4 (p := ⟨q, 0, none⟩) (show p ≠ q by omega) u
  have HQ5 := blk_put hQ4 0 u (cs' := #[u]) rfl
  exact ⟨(blk_cell HP 0).trans rfl, blk_frozen HP 0, (blk_cell hQ4 0).trans rfl, blk_frozen hQ4 0, (blk_cell HP5 0).trans rfl, (blk_cell HQ5 0).trans rfl⟩
set_option maxHeartbeats 8000000 in
theorem RM_calls (key op : ByteArray) (hk : key.size ≤ 2000) (A : Option Addr) (c n : Nat) (vs : List ByteArray) (hn : vs.length = n) (hn2 : n ≤ 200) (hz : ∀ p ∈ vs, p.size ≤ 100000000)
    (AL : Option Addr) (cl nl : Nat) (ls : List (ByteArray × ByteArray)) (hnl : ls.length = nl) (hnl2 : nl ≤ 1000) (hlz : ∀ p ∈ ls, p.1.size ≤ 100000 ∧ p.2.size ≤ 100000) (w : World)
    (hC : Kd.C Kd.string w A n vs) (hP : PK.C w AL nl ls) (hT : TV w) :
    Calls Tryd.prog 8 #[.agg #[.string key, .string op, .slice A n c], .slice AL nl cl] w fun e w' => e = .returned (.tuple #[.bool (fairR key.data.toList op.data.toList (vL vs) && meetsR op.data.toList (vL vs) (mget (labRev ls) key.data.toList)), .int .i64 (bif fairR key.data.toList op.data.toList (vL vs) then 0 else 1)]) ∧ Below w.heap.size w w' := by
  have hmf : ∀ (fn : Fn) (first cap : Array Value) (w : World), (Instr.makeFunc fn first cap).run Tryd.prog w = .ok (.func fn first cap) w := fun _ _ _ _ => rfl
  have HREQ := Aside0.mk (fun (W : World) (hb : Below w.heap.size w W) => requirement_calls key op hk A c n vs hn hn2 hz W (Kd.C_below hC hb) (hT.below hb))
  have HSO := Aside0.mk (fun (W : World) (hb : Below w.heap.size w W) => setOf_calls AL cl ls (by omega) (fun p hp => ⟨by have := (hlz p hp).1; omega, by have := (hlz p hp).2; omega⟩) W (by rw [hnl]; exact Kd.C_below hP hb))
  have HME := Aside0.mk (fun (A' : Option Addr) (c' b bm : Nat) (W : World) (hb : Below w.heap.size w W) (hbk : W.heap[b]? = some (.cells #[.string key, .string op, .slice A' n c'] 58 (0, 0))) hC' hM => Matches_calls key op (by omega) A' c' n b 0 vs hn (by omega) hz bm nl (labRev ls) (fun v hv => by have := mget_size (fun p hp => hlz p hp) _ v hv; omega) W ((blk_cell hbk 0).trans rfl) ((blk_cell hbk 1).trans rfl) ((blk_cell hbk 2).trans rfl) hC' hM (hT.below hb))
  rw [hnl] at HSO
  obtain ⟨fr, hfr⟩ : ∃ fr, fairR key.data.toList op.data.toList (vL vs) = fr := ⟨_, rfl⟩
  obtain ⟨me, hme⟩ : ∃ me, meetsR op.data.toList (vL vs) (mget (labRev ls) key.data.toList) = me := ⟨_, rfl⟩
  rw [hfr] at HREQ ⊢
  rw [hme] at HME ⊢
  obtain ⟨lr, hlr⟩ : ∃ lr, labRev ls = lr := ⟨_, rfl⟩
  rw [hlr] at HSO HME
  obtain ⟨W3, hW3⟩ : ∃ W3, ((w.alloc (.cells #[.string key, .string op, .slice A n c] 24)).alloc (.cells #[.bool false] 4)).alloc (.cells #[.int .i64 0] 3) = W3 := ⟨_, rfl⟩
  have HB3 : Aside0 (Below w.heap.size w W3) := ⟨by rw [← hW3]; exact below_alloc (below_alloc (below_alloc (Below.refl _ _) _) _) _⟩
  have HP3 : Aside0 (W3.heap[w.heap.size + 1]? = some (.cells #[.bool false] 4 (0, 0))) := ⟨by
    have := blk_alloc (heap_alloc_new (w.alloc (.cells #[.string key, .string op, .slice A n c] 24)) (.cells #[.bool false] 4)) (.cells #[.int .i64 0] 3)
    rw [hW3] at this; simpa using this⟩
  have HQ3 : Aside0 (W3.heap[w.heap.size + 1 + 1]? = some (.cells #[.int .i64 0] 3 (0, 0))) := ⟨by
    have := heap_alloc_new ((w.alloc (.cells #[.string key, .string op, .slice A n c] 24)).alloc (.cells #[.bool false] 4)) (.cells #[.int .i64 0] 3)
    rw [hW3] at this; simpa using this⟩
  have HA3 : Aside0 (W3.heap[w.heap.size]? = some (.cells #[.string key, .string op, .slice A n c] 24 (0, 0))) := ⟨by
    have := blk_alloc (blk_alloc (heap_alloc_new w (.cells #[.string key, .string op, .slice A n c] 24)) (.cells #[.bool false] 4)) (.cells #[.int .i64 0] 3)
    rw [hW3] at this; exact this⟩
  have a0 : W3.cell? ⟨w.heap.size, 0, none⟩ = some (.string key) := (blk_cell HA3.out 0).trans rfl
  have a1 : W3.cell? ⟨w.heap.size, 1, none⟩ = some (.string op) := (blk_cell HA3.out 1).trans rfl
  have a2 : W3.cell? ⟨w.heap.size, 2, none⟩ = some (.slice A n c) := (blk_cell HA3.out 2).trans rfl
  have HS3 : Aside0 (W3.heap.size = w.heap.size + 3) := ⟨by rw [← hW3]; simp⟩
  clear hT hC hP hn hfr hme hlr hz hlz hnl hk
  cases fr
  · clear HME HSO
    go_enter_defers Tryd.func8, Tryd.ntmps8
    go_upto_region 3 with (first | ((with_reducible refine (HREQ.out _ HB3.out).mono ?_); rintro e w1 ⟨hcp, hb⟩; obtain rfl := hcp.2 rfl; have HB1 := Aside0.mk hb; clear hb hcp HREQ))
    have HB := below_step HB3.out HB1.out
    have HPE := (HB1.out.block (w.heap.size + 1) (by rw [HS3.out]; omega)).trans HP3.out
    have HQE := (HB1.out.block (w.heap.size + 1 + 1) (by rw [HS3.out]; omega)).trans HQ3.out
    obtain ⟨o1, o2, o3, o4, o5, o6⟩ := out2 (by omega) HPE HQE (.bool false) (.int .i64 1)
    have HBE := Aside0.mk (below_set (below_set HB (show w.heap.size ≤ w.heap.size + 1 by omega) (j := 0) (v := .bool false)) (show w.heap.size ≤ w.heap.size + 1 + 1 by omega) (j := 0) (v := .int .i64 1))
    clear HPE HQE HB
    go_wp2
    refine leaves_cons (f := 13) (args := #[.pointer (some ⟨w.heap.size + 1, 0, none⟩), .pointer (some ⟨w.heap.size + 1 + 1, 0, none⟩)]) (by simp) (by simp [go_sem]) ?_
    refine (RM_idle ⟨w.heap.size + 1, 0, none⟩ ⟨w.heap.size + 1 + 1, 0, none⟩ _).mono ?_
    rintro e u' w'' ⟨rfl, rfl, rfl⟩
    simp [Leaves, settle, results, Tryd.results8, go_sem, o5, o6, Result.andThen]
    exact HBE.out
  · go_enter_defers Tryd.func8, Tryd.ntmps8
    go_upto_region 3 with (first | ((with_reducible refine (HREQ.out _ HB3.out).mono ?_); rintro e w1 ⟨hcp, hb⟩; obtain ⟨b, c', A', rfl, hbk, hC'⟩ := hcp.1 rfl; have HB1 := Aside0.mk hb; have HBK := Aside0.mk hbk; have HCC := Aside0.mk hC'; clear hb hcp hbk hC' HREQ))
    have HB := below_step HB3.out HB1.out
    have HPE := Aside0.mk ((HB1.out.block (w.heap.size + 1) (by rw [HS3.out]; omega)).trans HP3.out)
    have HQE := Aside0.mk ((HB1.out.block (w.heap.size + 1 + 1) (by rw [HS3.out]; omega)).trans HQ3.out)
    have HBA := Aside0.mk HB
    have HLB := Aside0.mk (blk_lt HBK.out)
    have HLP := Aside0.mk (blk_lt HPE.out)
    have HLQ := Aside0.mk (blk_lt HQE.out)
    clear HB a0 a1 a2 hW3
    go_wp2_with (first | ((with_reducible refine (HSO.out _ HBA.out).mono ?_); rintro e w2 ⟨rfl, hM, hb⟩; have HB2 := Aside0.mk hb; have HM := Aside0.mk hM; clear hb hM HSO) | ((with_reducible refine (HME.out A' c' b _ _ (below_step HBA.out HB2.out) ((HB2.out.block b HLB.out).trans HBK.out) (Kd.C_below HCC.out HB2.out) HM.out).mono ?_); rintro e w4 ⟨rfl, hb⟩; have HB4 := Aside0.mk (below_step HB2.out hb); clear hb HME HM; have HB := below_step HBA.out HB4.out; obtain ⟨o1, o2, o3, o4, o5, o6⟩ := out2 (by omega) ((HB4.out.block _ HLP.out).trans HPE.out) ((HB4.out.block _ HLQ.out).trans HQE.out) (.bool me) (.int .i64 0); have HBE := Aside0.mk (below_set (below_set HB (show w.heap.size ≤ w.heap.size + 1 by omega) (j := 0) (v := .bool me)) (show w.heap.size ≤ w.heap.size + 1 + 1 by omega) (j := 0) (v := .int .i64 0)); clear HB))
    refine leaves_cons (f := 13) (args := #[.pointer (some ⟨w.heap.size + 1, 0, none⟩), .pointer (some ⟨w.heap.size + 1 + 1, 0, none⟩)]) (by simp) (by simp [go_sem]) ?_
    refine (RM_idle ⟨w.heap.size + 1, 0, none⟩ ⟨w.heap.size + 1 + 1, 0, none⟩ _).mono ?_
    rintro e u' w'' ⟨rfl, rfl, rfl⟩
    simp [Leaves, settle, results, Tryd.results8, go_sem, o5, o6, Result.andThen]
    exact HBE.out
end Go.Proofs.YteigfmchnblkgaaDoor.Hand
