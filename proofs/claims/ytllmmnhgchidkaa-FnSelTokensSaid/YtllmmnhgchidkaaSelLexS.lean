/- impl.LexSelector. -/
import Derived.Test.YtllmmnhgchidkaaSelToks
import Derived.Tactics
import Derived.Tactics2
import Derived.Defers
import Derived.Recover
import Derived.Laws.Pointers
namespace Go.Proofs.Ytllmmnhgchidkaa.Hand
open Go.RowKit Go.Proofs.Ytllmmnhgchidkaa.PFnSelTokens Go.Proofs.YtllmmnhgchidkaaW.PrintWords Go.Proofs.YtllmmnhgchidkaaW.PrintLast Go.Proofs.YtllmmnhgchidkaaW.PrintMore Go.Proofs.Ytllmmnhgchidkaa.Base
set_option linter.unusedVariables false
set_option linter.unusedSimpArgs false
set_option maxRecDepth 100000

theorem infoIT : (Try.prog.info? 60).map (fun i => (i.zero, i.size, i.bytes)) = some (some (.agg #[.int .i64 0, .string ⟨#[]⟩]), 2, 24) := by kernel_rfl
theorem LexS_idle (p q : Addr) (w : World) :
    CallsD Try.prog 65 #[.pointer (some p), .pointer (some q)] .returning w fun e u' w' => e = .returned (.tuple #[]) ∧ u' = .returning ∧ w' = w := by
  refine callsD_of_wpS Try.func65 rfl fun c₀ cs hu => ?_
  apply wpS_seq
  apply wpS_region
  simp [wpOpsS, go_sem, recoverD, hu, Try.ntmps65, Exit.thenS]
  refine wpS_cond (t := false) (by simp [Act.eval, Array.replicate]) ?_
  simp only [Bool.false_eq_true, if_false]
  refine wpS_of_wp (wp_skip ?_)
  cases c₀
  simp_all [bodyPostS, results, Try.results65]
set_option maxHeartbeats 4000000 in
theorem LexSelector_calls (x : L) (hx : x.length ≤ 2000) (hz : ∀ b ∈ x, b ≠ 0) (w : World) :
    Calls Try.prog 42 #[.string (mk x)] w fun e w' => ∃ v, e = .returned (.tuple #[v, .int .i64 0]) ∧ KT.R 60 w' w.heap.size (fun _ => True) v (toksV (tokensL x)) ∧ Below w.heap.size w w' := by
  have hmf : ∀ (fn : Fn) (first cap : Array Value) (w : World), (Instr.makeFunc fn first cap).run Try.prog w = .ok (.func fn first cap) w := fun _ _ _ _ => rfl
  have HZ := Aside0.mk (fun W => ZzTokens_calls x (by omega) hz W)
  have hsz2 : ¬ 2000 < (mk x).size := by rw [mk_size]; omega
  have hlen : (tokensL x).length ≤ 2001 := by have := tokens_len x.length x (Nat.le_refl _); omega
  obtain ⟨l, hl⟩ : ∃ l, tokensL x = l := ⟨_, rfl⟩
  rw [hl] at HZ hlen ⊢
  clear hl
  go_enter_defers Try.func42, Try.ntmps42
  go_wp2_with (first | ((with_reducible refine (HZ.out _).mono ?_); rintro e wS ⟨vS, rfl, hRS, hBS⟩; obtain ⟨AS, cS, hvS⟩ := Kd.R_slice hRS; rw [show (toksV l).length = l.length from by simp [toksV]] at hvS; subst hvS; have HRS := Aside0.mk hRS; have HBS0 := Aside0.mk hBS; clear hRS hBS HZ))
  obtain ⟨W2, hW2⟩ : ∃ W2, (w.alloc (.cells #[.slice none 0 0] 55)).alloc (.cells #[.int .i64 0] 3) = W2 := ⟨_, rfl⟩
  rw [hW2] at HRS HBS0
  have hs2 : W2.heap.size = w.heap.size + 2 := by rw [← hW2]; simp
  have hp2 : W2.heap[w.heap.size]? = some (.cells #[.slice none 0 0] 55 (0, 0)) := by
    rw [← hW2]; exact blk_alloc (heap_alloc_new w _) _
  have hq2 : W2.heap[w.heap.size + 1]? = some (.cells #[.int .i64 0] 3 (0, 0)) := by
    have := heap_alloc_new (w.alloc (.cells #[.slice none 0 0] 55)) (.cells #[.int .i64 0] 3)
    rw [hW2] at this
    simpa using this
  have HP : Aside0 (wS.heap[w.heap.size]? = some (.cells #[.slice none 0 0] 55 (0, 0))) := ⟨by rw [HBS0.out.block _ (by omega)]; exact hp2⟩
  have HQ : Aside0 (wS.heap[w.heap.size + 1]? = some (.cells #[.int .i64 0] 3 (0, 0))) := ⟨by rw [HBS0.out.block _ (by omega)]; exact hq2⟩
  have hbw : Below w.heap.size w wS := below_step (by rw [← hW2]; exact below_alloc (below_alloc (Below.refl _ _) _) _) HBS0.out
  have HBS := Aside0.mk (And.intro hbw (And.intro (show w.heap.size + 2 ≤ wS.heap.size by have := HBS0.out.size; omega) hs2))
  have HSR := Aside0.mk (Kd.R_mono (ok' := fun k => W2.heap.size ≤ k ∧ k < wS.heap.size) (Kd.R_bound HRS.out) (fun k hk => ⟨hk.2.1, hk.2.2.1⟩))
  clear hp2 hq2 hbw HRS hW2
  go_loopg [13] (l.length) (fun k v13 w' => ∃ (j : Nat) (v : Value), v13 = .int .i64 j ∧ Aside0 (k + j = l.length) ∧ Aside0 (w'.heap[w.heap.size]? = some (.cells #[v] 55 (0, 0))) ∧ Aside0 (w'.heap[w.heap.size + 1]? = some (.cells #[.int .i64 0] 3 (0, 0))) ∧ Aside0 (KeepBut wS w' w.heap.size none) ∧ Aside0 (Below w.heap.size w w') ∧ Aside0 (KT.R 60 w' w.heap.size (fun k => wS.heap.size ≤ k) v (toksV (l.take j))) ∧ Aside0 (KT.R 82 w' W2.heap.size (fun k => W2.heap.size ≤ k ∧ k < wS.heap.size) (.slice AS l.length cS) (toksV l)))
  case atStart => exact ⟨0, _, rfl, ⟨by omega⟩, HP, HQ, ⟨KeepBut.refl _ _ _⟩, ⟨HBS.out.1⟩, ⟨Kd.R_nil _ _ _ _ _⟩, HSR⟩
  case round =>
    clear HP HQ HSR HBS0
    obtain ⟨j, v, rfl, HJ, HP, HQ, HK, HB, HR, HSR⟩ := hrel
    by_cases hjl : j < l.length
    · have hC := (Kd.R_reads' HSR.out).2.2
      rw [show (toksV l).length = l.length from by simp [toksV]] at hC
      obtain ⟨ad, rfl, hk0, hk1⟩ := kt_at hC j hjl
      obtain ⟨kk, lit, hkl⟩ : ∃ (kk : Nat) (lit : L), l[j]? = some (kk, lit) := ⟨_, _, List.getElem?_eq_getElem hjl⟩
      have hg : (toksV l).getD j (0, ⟨#[]⟩) = ((kk : Int), mk lit) := by
        rw [List.getD_eq_getElem?_getD, List.getElem?_map, hkl]; rfl
      rw [hg] at hk0 hk1
      have HNEW : Aside0 (toksV (l.take j) ++ [((kk : Int), mk lit)] = toksV (l.take (j + 1))) := ⟨by rw [List.take_add_one, hkl]; simp [toksV]⟩
      have hk2 : wr.cell? ⟨(ad.add (j * 2)).block, (ad.add (j * 2)).off + 1, none⟩ = some (.string (mk lit)) := by
        show wr.cell? ((ad.add (j * 2)).add 1) = _
        rw [add_add]; exact hk1
      obtain ⟨AV, cV, hvV⟩ := Kd.R_slice HR.out
      obtain ⟨qV, hqV⟩ : ∃ q, (toksV (l.take j)).length = q := ⟨_, rfl⟩
      rw [hqV] at hvV
      subst hvV
      have hcv : wr.cell? ⟨w.heap.size, 0, none⟩ = some (.slice AV qV cV) := (blk_cell HP.out 0).trans rfl
      have hbl : w.heap.size < wr.heap.size := blk_lt HP.out
      clear hkl hg hqV hC
      go_wp2_with (first | ((with_reducible refine gate_builtin (b := .append) (xs := #[.tmp 17, .tmp 23]) rfl ?_); (try (refine gate_guard (by rfl) ?_; dsimp only)); at_builtin; refine Kd.R_append (KT) (w0 := w) (w.heap.size) rfl (.tmp 17) (.tmp 23) 55 60 (.agg #[.int .i64 0, .string ⟨#[]⟩]) 24 rfl Try.underlying55 infoIT rfl (by decide) (by decide) (.slice AV qV cV) (toksV (l.take j)) (((kk : Int), mk lit)) [.int .i64 (kk : Int), .string (mk lit)] (fun k => wS.heap.size ≤ k) (fun _ => False) rfl (by first | rfl | (simp [Act.eval]; done)) ?aP (fun _ hk => hk.elim) ?aF ?aO ?aB ?aS ?aL ?_; (case aP => exact ⟨[_], [_], rfl, rfl, rfl⟩); (case aF => exact (fun k hk => by have h1 := HK.out.1; simp at hk; show wS.heap.size ≤ k; omega)); (case aO => exact Kd.R_alloc HR.out _); (case aB => exact below_alloc HB.out _); (case aS => exact below_size (below_alloc HB.out _)); (case aL => simp only [toksV, List.length_map, List.length_take]; omega); intro vN wN ho hb hg hat; rw [HNEW.out] at ho; have HR2 := Aside0.mk ho; have HB2 := Aside0.mk hb; have HP2 := Aside0.mk (blk_grown (blk_alloc HP.out _) hg (fun e => by have := HR.out.1 _ e.symm; have := HBS.out.2.1; omega)); have HQ2 := Aside0.mk (blk_grown (blk_alloc HQ.out _) hg (fun e => by have := HR.out.1 _ e.symm; have := HBS.out.2.1; omega)); have HSR2 := Aside0.mk (Kd.R_grown (Kd.R_alloc HSR.out _) hg (fun k hk e => by have := HR.out.1 _ e.symm; omega)); have HK2 := Aside0.mk (KeepBut.trans (keep_alloc HK.out _) (KeepBut.of_grown hg w.heap.size) (by cases e : (Value.slice AV qV cV).ownBlock; exact .inl rfl; exact .inr ⟨_, rfl, HR.out.1 _ e⟩)); clear ho hb hg hat; obtain ⟨AN, cN, hvN⟩ := Kd.R_slice HR2.out; obtain ⟨qN, hqN⟩ : ∃ q, (toksV (l.take (j + 1))).length = q := ⟨_, rfl⟩; rw [hqN] at hvN; clear hqN; subst hvN; have hc2 : wN.cell? ⟨w.heap.size, 0, none⟩ = some (.slice AV qV cV) := (blk_cell HP2.out 0).trans rfl; have hf2 : wN.frozen? ⟨w.heap.size, 0, none⟩ = false := blk_frozen HP2.out 0))
      have HP3 := Aside0.mk (blk_put HP2.out 0 (.slice AN qN cN) (cs' := #[.slice AN qN cN]) rfl)
      have HQ3 := Aside0.mk (blk_far HQ2.out (p := ⟨w.heap.size, 0, none⟩) (show w.heap.size + 1 ≠ w.heap.size by omega) (.slice AN qN cN))
      have HB3 := Aside0.mk (below_set HB2.out (Nat.le_refl _) (j := 0) (v := .slice AN qN cN))
      have HK3 := Aside0.mk (KeepBut.set_ HK2.out 0 (.slice AN qN cN))
      have HR3 := Aside0.mk (Kd.R_far HR2.out (p := ⟨w.heap.size, 0, none⟩) (fun k hk => by have := HBS.out.2.1; show k ≠ w.heap.size; omega) (.slice AN qN cN))
      have HSR3 := Aside0.mk (Kd.R_far HSR2.out (p := ⟨w.heap.size, 0, none⟩) (fun k hk => by have := HBS.out.2.2; show k ≠ w.heap.size; omega) (.slice AN qN cN))
      go_wp2
      go_roundg (l.length - (j + 1))
      case measure => have := HJ.out; omega
      case rel => exact ⟨j + 1, _, by go_num, ⟨by omega⟩, HP3, HQ3, HK3, HB3, HR3, HSR3⟩
    · have hje : j = l.length := by have := HJ.out; omega
      have HTK : Aside0 (l.take j = l) := ⟨by rw [hje, List.take_length]⟩
      subst hje
      rw [HTK.out] at HR
      obtain ⟨AV, cV, rfl⟩ := Kd.R_slice HR.out
      obtain ⟨qV, hqV⟩ : ∃ q, (toksV l).length = q := ⟨_, rfl⟩
      rw [hqV] at HR HP
      clear hqV
      have hcv : wr.cell? ⟨w.heap.size, 0, none⟩ = some (.slice AV qV cV) := (blk_cell HP.out 0).trans rfl
      have hfv : wr.frozen? ⟨w.heap.size, 0, none⟩ = false := blk_frozen HP.out 0
      have hP4 := blk_put HP.out 0 (.slice AV qV cV) (cs' := #[.slice AV qV cV]) rfl
      have hQ4 := blk_far HQ.out (p := ⟨w.heap.size, 0, none⟩) (show w.heap.size + 1 ≠ w.heap.size by omega) (.slice AV qV cV)
      have hcq : (wr.setCell ⟨w.heap.size, 0, none⟩ (.slice AV qV cV)).cell? ⟨w.heap.size + 1, 0, none⟩ = some (.int .i64 0) := (blk_cell hQ4 0).trans rfl
      have hfq : (wr.setCell ⟨w.heap.size, 0, none⟩ (.slice AV qV cV)).frozen? ⟨w.heap.size + 1, 0, none⟩ = false := blk_frozen hQ4 0
      have HP5 := Aside0.mk (blk_far hP4 (p := ⟨w.heap.size + 1, 0, none⟩) (show w.heap.size ≠ w.heap.size + 1 by omega) (.int .i64 0))
      have HQ5 := Aside0.mk (blk_put hQ4 0 (.int .i64 0) (cs' := #[.int .i64 0]) rfl)
      have hc4 := (blk_cell hP4 0)
      clear hP4 hQ4
      have HBE := Aside0.mk (below_set (below_set HB.out (Nat.le_refl _) (j := 0) (v := .slice AV qV cV)) (show w.heap.size ≤ w.heap.size + 1 by omega) (j := 0) (v := .int .i64 0))
      have HRE := Aside0.mk (Kd.R_far (Kd.R_far HR.out (p := ⟨w.heap.size, 0, none⟩) (fun k hk => by have := HBS.out.2.1; show k ≠ w.heap.size; omega) (.slice AV qV cV)) (p := ⟨w.heap.size + 1, 0, none⟩) (fun k hk => by have := HBS.out.2.1; show k ≠ w.heap.size + 1; omega) (.int .i64 0))
      go_wp2
      refine leaves_cons (f := 65) (args := #[.pointer (some ⟨w.heap.size, 0, none⟩), .pointer (some ⟨w.heap.size + 1, 0, none⟩)]) (by simp) (by simp [go_sem]) ?_
      refine (LexS_idle ⟨w.heap.size, 0, none⟩ ⟨w.heap.size + 1, 0, none⟩ _).mono ?_
      rintro e u' w'' ⟨rfl, rfl, rfl⟩
      have hc5 := (blk_cell HP5.out 0)
      have hc6 := (blk_cell HQ5.out 0)
      simp [Leaves, settle, results, Try.results42, go_sem, hc4, hc5, hc6, Result.andThen]
      exact ⟨Kd.R_mono HRE.out (fun _ _ => trivial), HBE.out⟩
end Go.Proofs.Ytllmmnhgchidkaa.Hand
