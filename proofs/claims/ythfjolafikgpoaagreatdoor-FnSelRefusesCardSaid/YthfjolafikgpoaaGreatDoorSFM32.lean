/- impl.ParseSelector. (Printed by pars.py.) -/
import Derived.Test.YthfjolafikgpoaaGreatDoorSFM31
import Derived.Test.YthfjolafikgpoaaGreatDoorSFM23
import Derived.Test.YthfjolafikgpoaaGreatDoorSFM29
import Derived.Test.YthfjolafikgpoaaGreatDoorSFWrAll
import Derived.Test.YthfjolafikgpoaaGreatDoorSFSpWords
namespace Go.Proofs.YthfjolafikgpoaaGreatDoor.Hand
open Go.RowKit Go.Maps Go.Proofs.YthfjolafikgpoaaGreatDoorW.PrintWords Go.Proofs.YthfjolafikgpoaaGreatDoorW.PrintLast Go.Proofs.YthfjolafikgpoaaGreatDoorW.PrintMore Go.Proofs.YthfjolafikgpoaaGreatDoor.Base
set_option linter.unusedVariables false
set_option linter.unusedSimpArgs false
set_option maxRecDepth 100000
theorem pValue_lenS {x : L} (h : pValue x = true) : x.length ≤ 63 := by
 unfold pValue most at h
 rw [Bool.and_eq_true, decide_eq_true_eq] at h
 exact h.1
theorem fair_parts {key op : L} {vs : List L} (h : fairR key op vs = true) : key.length ≤ 400 ∧ ∀ v ∈ vs, v.length ≤ 63 := by
 unfold fairR at h
 rw [Bool.and_eq_true, Bool.and_eq_true, List.all_eq_true] at h
 exact ⟨pQ_len h.2.2, fun v hv => pValue_lenS (h.2.1 v hv)⟩
theorem pReq_g {ts ts' : List Tk} {r : Rq} (hm : ∀ t ∈ ts, t.2.length ≤ 1000000) (hl : ts.length ≤ 900) (h : pReq ts = some (r, ts')) : RqG r := by
 have hf := pReq_fair h
 obtain ⟨h1, h2⟩ := fair_parts hf
 have h3 : r.2.2.length ≤ 900 ∧ Up r.2.2 := by
  unfold pReq at h
  split at h
  · cases h
  · rename_i key op ts1 e1
    obtain ⟨p, _, q1⟩ := pKey_tail e1
    split at h
    · split at h
      · cases h
      · rename_i op2 ts2 e2
        obtain ⟨p2, _, q2⟩ := pOp_tail e2
        have hm2 : ∀ t ∈ ts2, t.2.length ≤ 1000000 := fun t ht => by
         rw [q2, q1, List.drop_drop] at ht
         exact hm t (List.mem_of_mem_drop ht)
        have hl2 : ts2.length ≤ 900 := by rw [q2, q1, List.drop_drop, List.length_drop]; omega
        split at h
        · cases h
        · rename_i ks ts3 e3
          have h4 : ks.length ≤ 900 := by
           split at e3
           · exact (pVals_sm hm2 hl2 e3).2
           · exact (pOne_sm hm2 e3).2
          split at h
          · simp only [Option.some.injEq, Prod.mk.injEq] at h
            rw [← h.1]
            exact ⟨Nat.le_trans (setL_len ks) h4, setL_up ks⟩
          · cases h
    · split at h
      · simp only [Option.some.injEq, Prod.mk.injEq] at h
        rw [← h.1]
        exact ⟨Nat.zero_le _, List.Pairwise.nil⟩
      · cases h
 exact ⟨h1, h3.1, h2, hf, h3.2⟩
theorem pAll_g : ∀ (m : Nat) (ts : List Tk) (l : List Rq), (∀ t ∈ ts, t.2.length ≤ 1000000) → ts.length ≤ 900 → pAll m ts = some l → ∀ r ∈ l, RqG r
 | 0, _, _, _, _, h => by cases h
 | m + 1, [], _, _, _, h => by cases h
 | m + 1, (k, s) :: ts, l, hm, hl, h => by
   unfold pAll at h
   split at h
   · cases hr : pReq ((k, s) :: ts) with
     | none => rw [hr] at h; cases h
     | some r2 =>
       obtain ⟨r, ts'⟩ := r2
       have hf := pReq_g hm hl hr
       obtain ⟨p, _, hp⟩ := pReq_tail hr
       rw [hr] at h
       cases ts' with
       | nil => cases h
       | cons t1 ts1 =>
         obtain ⟨k1, s1⟩ := t1
         have hm1 : ∀ t ∈ ts1, t.2.length ≤ 1000000 := fun t ht => hm t (List.mem_of_mem_drop (by rw [← hp]; exact List.mem_cons_of_mem _ ht))
         have hl1 : ts1.length ≤ 900 := by have := congrArg List.length hp; rw [List.length_drop, List.length_cons] at this; omega
         simp only at h
         split at h
         · simp only [Option.some.injEq] at h
           subst h
           intro x hx
           obtain rfl : x = r := by simpa using hx
           exact hf
         · split at h
           · cases ts1 with
             | nil => cases h
             | cons t2 ts2 =>
               simp only at h
               split at h
               · cases hq : pAll m (t2 :: ts2) with
                 | none => rw [hq] at h; cases h
                 | some l2 =>
                   rw [hq] at h
                   simp only [Option.map_some, Option.some.injEq] at h
                   subst h
                   intro x hx
                   rcases List.mem_cons.1 hx with rfl | hx
                   · exact hf
                   · exact pAll_g m _ _ hm1 hl1 hq x hx
               · cases h
           · cases h
   · split at h
     · simp only [Option.some.injEq] at h
       subst h
       intro x hx; cases hx
     · cases h
structure E3P (w W : World) (p : Nat) (v b i : Value) : Prop where
 be : Below w.heap.size w W
 hp : w.heap.size ≤ p
 b0 : W.heap[p]? = some (.cells #[v] 22 (0, 0))
 b1 : W.heap[p + 1]? = some (.cells #[b] 9 (0, 0))
 b2 : W.heap[p + 2]? = some (.cells #[i] 3 (0, 0))
section
variable {w W W' : World} {p : Nat} {v b i : Value}
theorem E3P.sv (h : E3P w W p v b i) (u : Value) : E3P w (W.setCell ⟨p, 0, none⟩ u) p u b i :=
 ⟨below_set h.be h.hp, h.hp, blk_put h.b0 0 u (cs' := #[u]) rfl, blk_far h.b1 (p := ⟨p, 0, none⟩) (show p + 1 ≠ p by omega) u, blk_far h.b2 (p := ⟨p, 0, none⟩) (show p + 2 ≠ p by omega) u⟩
theorem E3P.sb (h : E3P w W p v b i) (u : Value) : E3P w (W.setCell ⟨p + 1, 0, none⟩ u) p v u i :=
 ⟨below_set h.be (by have := h.hp; omega), h.hp, blk_far h.b0 (p := ⟨p + 1, 0, none⟩) (show p ≠ p + 1 by omega) u, blk_put h.b1 0 u (cs' := #[u]) rfl, blk_far h.b2 (p := ⟨p + 1, 0, none⟩) (show p + 2 ≠ p + 1 by omega) u⟩
theorem E3P.si (h : E3P w W p v b i) (u : Value) : E3P w (W.setCell ⟨p + 2, 0, none⟩ u) p v b u :=
 ⟨below_set h.be (by have := h.hp; omega), h.hp, blk_far h.b0 (p := ⟨p + 2, 0, none⟩) (show p ≠ p + 2 by omega) u, blk_far h.b1 (p := ⟨p + 2, 0, none⟩) (show p + 1 ≠ p + 2 by omega) u, blk_put h.b2 0 u (cs' := #[u]) rfl⟩
theorem E3P.mv (h : E3P w W p v b i) (hb : Below W.heap.size W W') : E3P w W' p v b i :=
 ⟨below_step h.be hb, h.hp, (hb.block _ (blk_lt h.b0)).trans h.b0, (hb.block _ (blk_lt h.b1)).trans h.b1, (hb.block _ (blk_lt h.b2)).trans h.b2⟩
theorem E3P.c0 (h : E3P w W p v b i) : W.cell? ⟨p, 0, none⟩ = some v := (blk_cell h.b0 0).trans rfl
theorem E3P.c1 (h : E3P w W p v b i) : W.cell? ⟨p + 1, 0, none⟩ = some b := (blk_cell h.b1 0).trans rfl
theorem E3P.c2 (h : E3P w W p v b i) : W.cell? ⟨p + 2, 0, none⟩ = some i := (blk_cell h.b2 0).trans rfl
theorem E3P.f0 (h : E3P w W p v b i) : W.frozen? ⟨p, 0, none⟩ = false := blk_frozen h.b0 0
theorem E3P.f1 (h : E3P w W p v b i) : W.frozen? ⟨p + 1, 0, none⟩ = false := blk_frozen h.b1 0
theorem E3P.f2 (h : E3P w W p v b i) : W.frozen? ⟨p + 2, 0, none⟩ = false := blk_frozen h.b2 0
end
theorem E3P.init (w : World) (v b i : Value) : E3P w (((w.alloc (.cells #[v] 22)).alloc (.cells #[b] 9)).alloc (.cells #[i] 3)) w.heap.size v b i := by
 have e1 : (w.alloc (.cells #[v] 22)).heap.size = w.heap.size + 1 := Array.size_push ..
 have e2 : ((w.alloc (.cells #[v] 22)).alloc (.cells #[b] 9)).heap.size = w.heap.size + 1 + 1 := by rw [← e1]; exact Array.size_push ..
 have h0 := blk_alloc (blk_alloc (heap_alloc_new w (.cells #[v] 22)) (.cells #[b] 9)) (.cells #[i] 3)
 have h1 := blk_alloc (heap_alloc_new (w.alloc (.cells #[v] 22)) (.cells #[b] 9)) (.cells #[i] 3)
 have h2 := heap_alloc_new ((w.alloc (.cells #[v] 22)).alloc (.cells #[b] 9)) (.cells #[i] 3)
 rw [e1] at h1
 rw [e2] at h2
 exact ⟨below_alloc (below_alloc (below_alloc (Below.refl _ _) _) _) _, Nat.le_refl _, h0, h1, h2⟩
theorem PSel_idle (p q r : Addr) (w : World) :
   CallsD Tryz.prog 43 #[.pointer (some p), .pointer (some q), .pointer (some r)] .returning w fun e u' w' => e = .returned (.tuple #[]) ∧ u' = .returning ∧ w' = w := by
 refine callsD_of_wpS Tryz.func43 rfl fun c₀ cs hu => ?_
 apply wpS_seq
 apply wpS_region
 simp [wpOpsS, go_sem, recoverD, hu, Tryz.ntmps43, Exit.thenS]
 refine wpS_cond (t := false) (by simp [Act.eval, Array.replicate]) ?_
 simp only [Bool.false_eq_true, if_false]
 refine wpS_of_wp (wp_skip ?_)
 cases c₀
 simp_all [bodyPostS, results, Tryz.results43]
def PsR (R : Option (List Rq)) (w0 : World) (e : Ending) (w' : World) : Prop := Below w0.heap.size w0 w' ∧ (match R with
 | some l => ∃ (v : Value) (l' : List Rq), l'.Perm l ∧ KAsc l' ∧ e = .returned (.tuple #[v, .string (joinB ⟨#[44]⟩ (l'.map txtV)), .int .i64 0]) ∧ KQ.R 53 w' w0.heap.size (fun _ => True) v (rqV l')
 | none => e = .returned (.tuple #[.slice none 0 0, .string ⟨#[]⟩, .int .i64 1]))
set_option maxHeartbeats 16000000 in
theorem PSel_calls (x : L) (hx : x.length ≤ 2000) (h0 : ∀ b ∈ x, b ≠ 0) (T : List Tk) (hTx : tokensL x = T) (hT : T.length ≤ 900) (hS : ∀ l, pAll T.length T = some l → SortOK l) (w : World) (hT0 : TV w) :
   Calls Tryz.prog 13 #[.string (mk x)] w fun e w' => PsR (pAll T.length T) w e w' := by
 have hmf : ∀ (fn : Fn) (first cap : Array Value) (w : World), (Instr.makeFunc fn first cap).run Tryz.prog w = .ok (.func fn first cap) w := fun _ _ _ _ => rfl
 have hE : EndsT T := by rw [← hTx]; exact tokens_ends x.length x (Nat.le_refl _)
 have hz : ∀ t ∈ T, t.2.length ≤ 1000000 := by rw [← hTx]; intro t ht; have := tokens_lit x.length x (Nat.le_refl _) t ht; omega
 have HPA := Aside0.mk (fun (W : World) (hb : Below w.heap.size w W) => Parse_calls x (by omega) h0 T hTx hT hS W (hT0.below hb))
 have HGG := Aside0.mk (fun (l l' : List Rq) (hr : pAll T.length T = some l) (hp : l'.Perm l) => (show l'.length ≤ 900 ∧ ∀ r ∈ l', RqG r from ⟨by
  have h1 := (pAll_sm hE hT hz T.length 0 l (by rw [List.drop_zero]; exact hr)).1; rw [hp.length_eq]; omega, fun r hm => pAll_g T.length T l hz hT hr r (hp.mem_iff.1 hm)⟩))
 have hxs : (((mk x).size : Nat) : Int) ≤ 2000 := by rw [mk_size]; omega
 have g1 : (2000 < (((mk x).size : Nat) : Int)) = False := eq_false (by omega)
 have HE0 := Aside0.mk (E3P.init w (.slice none 0 0) (.string ⟨#[]⟩) (.int .i64 0))
 obtain ⟨W3, hW3⟩ : ∃ W3, ((w.alloc (.cells #[.slice none 0 0] 22)).alloc (.cells #[.string ⟨#[]⟩] 9)).alloc (.cells #[.int .i64 0] 3) = W3 := ⟨_, rfl⟩
 rw [hW3] at HE0
 obtain ⟨sv, hsv⟩ : ∃ sv, mk x = sv := ⟨_, rfl⟩
 rw [hsv] at HPA hxs g1 ⊢
 clear hT0 hx h0 hTx hsv hE hz hS
 cases hR : pAll T.length T with
 | none =>
   rw [hR] at HPA
   clear HGG hR
   go_enter_defers Tryz.func13, Tryz.ntmps13
   go_upto_region 6 with (first | ((with_reducible refine (HPA.out _ HE0.out.be).mono ?_); rintro e w1 ⟨⟨v, rfl, gv, rfl⟩, hb⟩; have HE1 := Aside0.mk (HE0.out.mv hb); clear hb HPA))
   have HE2 := Aside0.mk (HE1.out.sv (.slice none 0 0))
   have HE3 := Aside0.mk (HE2.out.sb (.string ⟨#[]⟩))
   have HE4 := Aside0.mk (HE3.out.si (.int .i64 1))
   have a1 := HE1.out.c0
   have a2 := HE1.out.f0
   have a3 := HE2.out.c1
   have a4 := HE2.out.f1
   have a5 := HE3.out.c2
   have a6 := HE3.out.f2
   have a7 := HE4.out.c0
   have a8 := HE4.out.c1
   have a9 := HE4.out.c2
   go_wp2
   refine leaves_cons (f := 43) (args := #[.pointer (some ⟨w.heap.size, 0, none⟩), .pointer (some ⟨w.heap.size + 1, 0, none⟩), .pointer (some ⟨w.heap.size + 2, 0, none⟩)]) (by simp) (by simp [go_sem]) ?_
   refine (PSel_idle ⟨w.heap.size, 0, none⟩ ⟨w.heap.size + 1, 0, none⟩ ⟨w.heap.size + 2, 0, none⟩ _).mono ?_
   rintro e u' w'' ⟨rfl, rfl, rfl⟩
   simp [Leaves, settle, results, Tryz.results13, go_sem, a7, a8, a9, Result.andThen]
   exact ⟨HE4.out.be, rfl⟩
 | some l =>
   rw [hR] at HPA
   have HG2 := Aside0.mk (HGG.out l · hR)
   clear hR HGG
   go_enter_defers Tryz.func13, Tryz.ntmps13
   go_upto_region 7 with (first | ((with_reducible refine (HPA.out _ HE0.out.be).mono ?_); rintro e w1 ⟨⟨v, l', rfl, hp, ha, hR⟩, hb⟩; obtain ⟨A, c, rfl, hsp, hC⟩ := kq_slice hR; have HE5 := Aside0.mk (HE0.out.mv hb); have HC := Aside0.mk hC; have HSP := Aside0.mk hsp; have HPM := Aside0.mk hp; have HAS := Aside0.mk ha; clear hb hp ha hR hC hsp HPA))
   obtain ⟨hl9, hgg⟩ := HG2.out l' HPM.out
   have HRQ := Aside0.mk (Reqs_calls l' l'.length rfl hl9 (fun r hr => (hgg r hr).n) A c w1 HC.out)
   have HST := Aside0.mk (fun (W : World) (hb : Below w1.heap.size w1 W) => SelStr_calls l' l'.length rfl hl9 hgg A c W HSP.out (Kd.C_below HC.out hb))
   obtain ⟨tx, htx⟩ : ∃ tx, joinB ⟨#[44]⟩ (l'.map txtV) = tx := ⟨_, rfl⟩
   rw [htx] at HST
   have HTX := Aside0.mk htx
   have HP3 : Aside0 (w.heap.size + 2 < w1.heap.size) := ⟨blk_lt HE5.out.b2⟩
   obtain ⟨n, hn⟩ : ∃ n, l'.length = n := ⟨_, rfl⟩
   rw [hn] at HRQ HST ⊢
   clear hn hgg hl9 htx HG2
   have na1 : ∀ w : World, (nilAhead 390 121 (.slice A n c) "String").run Tryz.prog w = .ok (some false) w := fun _ => by kernel_rfl
   have me1 : ∀ w : World, (method 390 121 (.slice A n c) "String").run Tryz.prog w = .ok (249, .slice A n c) w := fun _ => by kernel_rfl
   go_wp2_with (first | ((with_reducible refine (HRQ.out).mono ?_); rintro e w2 ⟨v, rfl, hR2, hb⟩; have HE6 := Aside0.mk (HE5.out.mv hb); obtain ⟨AV, cV, eV⟩ := Kd.R_slice hR2; obtain ⟨nV, hnV⟩ : ∃ n, (rqV l').length = n := ⟨_, rfl⟩; rw [hnV] at eV; clear hnV; subst eV; have HR2 := Aside0.mk hR2; have HB2 := Aside0.mk hb; clear hR2 hb HRQ) | ((with_reducible refine (HST.out _ HB2.out).mono ?_); rintro e w3 ⟨rfl, hb⟩; have HE1 := Aside0.mk (HE6.out.mv hb); have HR3 := Aside0.mk (Kd.R_below HR2.out hb); clear hb HST HE6 HE5; have HE2 := Aside0.mk (HE1.out.sv (.slice AV nV cV)); have HE3 := Aside0.mk (HE2.out.sb (.string tx)); have HE4 := Aside0.mk (HE3.out.si (.int .i64 0)); have a1 := HE1.out.c0; have a2 := HE1.out.f0; have a3 := HE2.out.c1; have a4 := HE2.out.f1; have a5 := HE3.out.c2; have a6 := HE3.out.f2; have a7 := HE4.out.c0; have a8 := HE4.out.c1; have a9 := HE4.out.c2))
   refine leaves_cons (f := 43) (args := #[.pointer (some ⟨w.heap.size, 0, none⟩), .pointer (some ⟨w.heap.size + 1, 0, none⟩), .pointer (some ⟨w.heap.size + 2, 0, none⟩)]) (by simp) (by simp [go_sem]) ?_
   refine (PSel_idle ⟨w.heap.size, 0, none⟩ ⟨w.heap.size + 1, 0, none⟩ ⟨w.heap.size + 2, 0, none⟩ _).mono ?_
   rintro e u' w'' ⟨rfl, rfl, rfl⟩
   simp [Leaves, settle, results, Tryz.results13, go_sem, a7, a8, a9, Result.andThen]
   refine ⟨HE4.out.be, .slice AV nV cV, l', HPM.out, HAS.out, by rw [HTX.out], ?_⟩
   have h3 := Kd.R_mono (ok' := fun k => w1.heap.size ≤ k) (Kd.R_bound HR3.out) (fun k hk => hk.2.1)
   have h4 := Kd.R_far (p := ⟨w.heap.size, 0, none⟩) h3 (fun k hk e => by have := HP3.out; have h5 : k = w.heap.size := e; omega) (.slice AV nV cV)
   have h5 := Kd.R_far (p := ⟨w.heap.size + 1, 0, none⟩) h4 (fun k hk e => by have := HP3.out; have h5 : k = w.heap.size + 1 := e; omega) (.string tx)
   have h6 := Kd.R_far (p := ⟨w.heap.size + 2, 0, none⟩) h5 (fun k hk e => by have := HP3.out; have h5 : k = w.heap.size + 2 := e; omega) (.int .i64 0)
   exact Kd.R_mono (Kd.R_lower h6 (by have := HP3.out; omega)) (fun _ _ => trivial)
end Go.Proofs.YthfjolafikgpoaaGreatDoor.Hand
namespace Go.Proofs.YthfjolafikgpoaaGreatDoor.Hand
open Go.RowKit Go.Maps Go.Proofs.YthfjolafikgpoaaGreatDoor.Base
open Go.Sort (ltStr)
set_option linter.unusedVariables false
set_option linter.unusedSimpArgs false
set_option maxRecDepth 100000
end Go.Proofs.YthfjolafikgpoaaGreatDoor.Hand
namespace Go.Proofs.YthfjolafikgpoaaGreatDoor.Hand
open Go.RowKit Go.Maps Go.Proofs.YthfjolafikgpoaaGreatDoorW.PrintWords Go.Proofs.YthfjolafikgpoaaGreatDoorW.PrintLast Go.Proofs.YthfjolafikgpoaaGreatDoorW.PrintMore Go.Proofs.YthfjolafikgpoaaGreatDoor.Base
set_option linter.unusedVariables false
set_option linter.unusedSimpArgs false
set_option maxRecDepth 100000
def fitR (r : Rq) : Bool := fits4 (mk r.1) (mk r.2.1) (r.2.2.map mk)
def fits3 (l : List Rq) : Bool := decide (l.length ≤ 2147483647) && l.all fitR
theorem fits3_t {l : List Rq} (h : fits3 l = true) : l.length ≤ 2147483647 ∧ ∀ r ∈ l, r.1.length ≤ 2147483647 ∧ r.2.2.length ≤ 2147483647 ∧ ∀ v ∈ r.2.2, v.length ≤ 2147483647 := by
 unfold fits3 at h
 simp only [Bool.and_eq_true, decide_eq_true_eq] at h
 refine ⟨h.1, fun r hr => ?_⟩
 obtain ⟨h1, _, h3, h4⟩ := fits4_t (List.all_eq_true.1 h.2 r hr)
 exact ⟨h1, by simpa using h3, fun v hv => h4 (mk v) (List.mem_map.2 ⟨v, hv, rfl⟩)⟩
set_option maxHeartbeats 8000000 in
theorem Fits3_calls (A : Option Addr) (c n : Nat) (ls : List Rq) (hn : ls.length = n) (w : World) (hC : KQ.C w A n (rqV ls)) :
   Calls Tryz.prog 11 #[.slice A n c] w fun e w' => e = .returned (.bool (fits3 ls)) ∧ Below w.heap.size w w' := by
 have HC := Aside0.mk hC
 have HLN := Aside0.mk hn
 have HW : Aside0 (fits3 ls = (decide (n ≤ 2147483647) && ls.all (fitR))) := ⟨by unfold fits3; rw [hn]⟩
 obtain ⟨q, hq⟩ : ∃ q, fits3 ls = q := ⟨_, rfl⟩
 rw [hq] at HW ⊢
 have HB0 := Aside0.mk (Below.refl w.heap.size w)
 clear hC hn hq
 by_cases hb : n ≤ 2147483647
 rotate_left
 · have HX : Aside0 (q = false) := ⟨by rw [HW.out, show decide (n ≤ 2147483647) = false from decide_eq_false hb]; rfl⟩
   have b0 : decide ((2147483647 : Int) < (n : Int)) = true := decide_eq_true (by omega)
   have b1 : decide (2147483647 < n) = true := decide_eq_true (by omega)
   go_enter Tryz.func11, Tryz.ntmps11
   go_wp2
   go_ret
   exact ⟨by rw [HX.out]; try rfl, HB0.out⟩
 have HW2 : Aside0 (q = ls.all (fitR)) := ⟨by rw [HW.out, show decide (n ≤ 2147483647) = true from decide_eq_true hb]; rfl⟩
 have b0 : decide ((2147483647 : Int) < (n : Int)) = false := decide_eq_false (by omega)
 have b1 : decide (2147483647 < n) = false := decide_eq_false (by omega)
 go_enter Tryz.func11, Tryz.ntmps11
 go_wp2
 go_loopg [10] (n) (fun k v10 w' => ∃ i : Nat, v10 = .int .i64 i ∧ Aside0 (k + i = n) ∧ Aside0 ((ls.take i).all (fitR) = true) ∧ Aside0 (Below w.heap.size w w'))
 case atStart => exact ⟨0, rfl, ⟨by omega⟩, ⟨rfl⟩, HB0⟩
 case round =>
  obtain ⟨i, rfl, HI, HA, HB⟩ := hrel
  by_cases hil : i < n
  · obtain ⟨r, hr⟩ : ∃ r, ls[i]? = some r := ⟨_, List.getElem?_eq_getElem (by rw [HLN.out]; exact hil)⟩
    obtain ⟨ad, AV, cv, rfl, hk0, hk1, hk2, hcc, hCV⟩ := kq_at2 (Kd.C_below HC.out HB.out) i hil r hr
    obtain ⟨nv, hnv⟩ : ∃ nv, r.2.2.length = nv := ⟨_, rfl⟩
    rw [hnv] at hk2 hCV
    have hbk := heap_alloc_new wr (.cells #[.string (mk r.1), .string (mk r.2.1), .slice AV nv cv] 53)
    have HB1 := Aside0.mk (below_alloc HB.out (.cells #[.string (mk r.1), .string (mk r.2.1), .slice AV nv cv] 53))
    have d0 := (blk_cell hbk 0).trans (show _ = some (Value.string (mk r.1)) from rfl)
    have d1 := (blk_cell hbk 1).trans (show _ = some (Value.string (mk r.2.1)) from rfl)
    have d2 := (blk_cell hbk 2).trans (show _ = some (Value.slice AV nv cv) from rfl)
    have H2 := Aside0.mk (fun (W : World) (hb : Below wr.heap.size wr W) => Fits4_calls (mk r.1) (mk r.2.1) AV cv nv (r.2.2.map mk) (by rw [List.length_map, hnv]) W (Kd.C_below hCV hb))
    have HBA := Aside0.mk (below_alloc (Below.refl wr.heap.size wr) (.cells #[.string (mk r.1), .string (mk r.2.1), .slice AV nv cv] 53))
    obtain ⟨f, hf⟩ : ∃ f, fitR r = f := ⟨_, rfl⟩
    rw [show fits4 (mk r.1) (mk r.2.1) (r.2.2.map mk) = f from hf] at H2
    cases f
    · have HX : Aside0 (q = false) := ⟨by rw [HW2.out]; exact all_not hr hf⟩
      clear hr hf hbk hCV hcc hnv
      go_wp2_with (first | ((with_reducible refine (H2.out _ HBA.out).mono ?_); rintro e w2 ⟨rfl, hb⟩; have HB2 := Aside0.mk (below_step HB1.out hb); clear hb))
      go_ret
      exact ⟨by rw [HX.out]; try rfl, HB2.out⟩
    · have HA2 := Aside0.mk (all_snoc hr HA.out hf)
      clear hr hf hbk hCV hcc hnv
      go_wp2_with (first | ((with_reducible refine (H2.out _ HBA.out).mono ?_); rintro e w2 ⟨rfl, hb⟩; have HB2 := Aside0.mk (below_step HB1.out hb); clear hb))
      go_roundg (n - (i + 1))
      case measure => have := HI.out; omega
      case rel => exact ⟨i + 1, by go_num, ⟨by omega⟩, HA2, HB2⟩
  · have HX : Aside0 (q = true) := ⟨by have h1 := HI.out; have := HA.out; rw [List.take_of_length_le (by rw [HLN.out]; omega)] at this; rw [HW2.out]; exact this⟩
    go_wp2
    go_ret
    exact ⟨by rw [HX.out]; try rfl, HB.out⟩
end Go.Proofs.YthfjolafikgpoaaGreatDoor.Hand
