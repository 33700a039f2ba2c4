/- IsEnvVarName: an expression, and what hasChDirPrefix says. -/
import Derived.Test.YtdledchhpjkilaaDoorNmErrs
namespace Go.Proofs.YtdledchhpjkilaaDoor.Hand
open Go.RowKit Go.Proofs.YtdledchhpjkilaaDoorW.PrintWords Go.Proofs.YtdledchhpjkilaaDoorW.PrintLast Go.Proofs.YtdledchhpjkilaaDoorW.PrintMore Go.Proofs.YtdledchhpjkilaaDoor.Base
set_option linter.unusedVariables false
set_option linter.unusedSimpArgs false
set_option maxRecDepth 100000

set_option maxHeartbeats 4000000 in
theorem errs61 (s : ByteArray) (hs : s.size ≤ 140737488351232) (w : World) :
    Calls Tryd.prog 61 #[.string s] w fun e w' => Errs (pEnv s.data.toList) w e w' := by
  have h1 : ∀ w, Calls Tryd.prog 86 #[.string s] w fun e w' => e = .returned (.bool (env s.data.toList)) ∧ w = w' := fun w => zzEnv_calls s hs w
  obtain ⟨r, hr1, hr2, hr3, hr4⟩ := chdir_f s
  have H2 : Aside0 (∀ w, Calls Tryd.prog 87 #[.string s] w fun e w' => ∃ v0_ : Value, e = .returned (v0_) ∧ Kd.R Kd.string 9 w' w.heap.size (fun _ => True) v0_ r ∧ Below w.heap.size w w') := ⟨fun w => PFnNameConfigKey.validation_hasChDirPrefix.calls s r w hr1⟩
  clear hr1
  have HB := Aside0.mk (Below.refl w.heap.size w)
  have HEX : Aside0 (∀ p ∈ ([⟨#[109, 121, 46, 101, 110, 118, 45, 110, 97, 109, 101]⟩, ⟨#[77, 89, 95, 69, 78, 86, 46, 78, 65, 77, 69]⟩, ⟨#[77, 121, 69, 110, 118, 78, 97, 109, 101, 49]⟩] : List ByteArray), p.size ≤ 100) := ⟨by decide⟩
  obtain ⟨y, hy⟩ : ∃ y : List ByteArray, y = [⟨#[109, 121, 46, 101, 110, 118, 45, 110, 97, 109, 101]⟩, ⟨#[77, 89, 95, 69, 78, 86, 46, 78, 65, 77, 69]⟩, ⟨#[77, 121, 69, 110, 118, 78, 97, 109, 101, 49]⟩] := ⟨_, rfl⟩
  have hyl : y.length ≤ 3 := by rw [hy]; decide
  have HY := Aside0.mk hy
  clear hy
  have hpe : pEnv s.data.toList = (env s.data.toList && (r == [])) := by unfold pEnv; rw [hr2]
  obtain ⟨z, hz⟩ : ∃ z, (env s.data.toList) = z := ⟨_, rfl⟩
  rw [hz] at h1 hpe
  rw [hpe]
  clear hz hpe hr2
  have HR : Aside0 (Kd.R Kd.string 9 w w.heap.size (fun _ => True) (.slice none 0 0) ([] : List ByteArray)) := ⟨Kd.R_nil _ _ _ _ _⟩
  have HR4 := Aside0.mk hr4
  have H1 := Aside0.mk h1
  clear h1 hr4
  cases z with
  | true =>
    have HLEN : Aside0 (([] : List ByteArray).length + r.length ≤ 20) := ⟨by simp; omega⟩
    have HNEW : Aside0 (([] : List ByteArray) ++ r = r) := ⟨rfl⟩
    go_enter Tryd.func61, Tryd.ntmps61
    go_upto_region 1 with (fail)
    go_cut [3] (fun v3 wc => Aside0 (Kd.R Kd.string 9 wc w.heap.size (fun _ => True) v3 ([] : List ByteArray)) ∧ w = wc)
    case first =>
      go_wp2
      go_meet
      case rel => exact ⟨HR, rfl⟩
    case rest =>
      clear HR
      obtain ⟨HD, rfl⟩ := hcut
      go_wp2_with (first | ((with_reducible refine (H1.out _).mono ?_); rintro e w' ⟨rfl, rfl⟩) | ((with_reducible refine (H2.out _).mono ?_); rintro e w' ⟨v14, rfl, ho0, hb⟩; have nq_ := Aside0.mk (Kd.R_lower ho0 (below_size (by repeat (first | (with_reducible first | exact HB.out | apply below_alloc | apply pw_below_drewN | apply below_drew1) | exact HB.out)))); have nd_ := Aside0.mk (Kd.R_below (by (with_reducible repeat (first | apply Kd.R_alloc | apply Kd.R_drewN | apply Kd.R_drew)); exact HD.out) hb); have nb_ := Aside0.mk (below_step (by repeat (first | (with_reducible first | exact HB.out | apply below_alloc | apply pw_below_drewN | apply below_drew1) | exact HB.out)) hb); clear HB; have HB := nb_; clear nb_; (try clear hb); have HQ := nq_; clear HD; have HD := nd_; clear nq_ nd_ ho0; (obtain ⟨AQ, cQ, eQ⟩ := Kd.R_slice HQ.out); subst eQ) | ((with_reducible refine gate_builtin (b := .append) (xs := #[.tmp 12, .tmp 14]) rfl ?_); (try (refine gate_guard (by rfl) ?_; dsimp only)); at_builtin; refine Kd.R_append_rows Kd.string (w0 := w) w.heap.size rfl (.tmp 12) (.tmp 14) 22 9 (.string ⟨#[]⟩) 16 rfl Tryd.underlying22 infoS rfl (by decide) (by omega) (u3) (([] : List ByteArray)) (r) _ _ _ (fun _ => True) (fun _ => False) rfl rfl ?aO ?aR (fun _ _ h => h) (fun _ h => h.elim) ?aF ?aB ?aS ?aL ?_; (case aR => repeat (first | exact (Kd.R_reads' HQ.out).2.2 | (with_reducible refine Kd.C_alloc ?_ _) | (with_reducible refine Kd.C_drewN ?_ _) | (with_reducible refine Kd.C_drew ?_))); (case aB => exact (by repeat (first | (with_reducible first | exact HB.out | apply below_alloc | apply pw_below_drewN | apply below_drew1) | exact HB.out))); (case aF => exact (fun _ _ => trivial)); (case aO => exact (by (with_reducible repeat (first | apply Kd.R_alloc | apply Kd.R_drewN | apply Kd.R_drew)); exact HD.out)); (case aS => exact (below_size (by repeat (first | (with_reducible first | exact HB.out | apply below_alloc | apply pw_below_drewN | apply below_drew1) | exact HB.out)))); (case aL => have := HLEN.out; (try simp only [List.length_map]); omega); intro vN wN ho hb hg hat; rw [HNEW.out] at ho; clear HB; clear HD; have HB := Aside0.mk hb; have HD := Aside0.mk ho; clear ho hb hg hat))
      go_ret
      exact ⟨_, r, rfl, by (with_reducible repeat (first | apply Kd.R_alloc | apply Kd.R_drewN | apply Kd.R_drew)); exact HD.out, by simp, by omega, fun p hp => by have := HR4.out p hp; omega, (by repeat (first | (with_reducible first | exact HB.out | apply below_alloc | apply pw_below_drewN | apply below_drew1) | exact HB.out))⟩
  | false =>
    go_enter Tryd.func61, Tryd.ntmps61
    go_upto_region 1 with (fail)
    go_cut [3] (fun v3 wc => Aside0 (Kd.R Kd.string 9 wc w.heap.size (fun _ => True) v3 ([] : List ByteArray)) ∧ w = wc)
    case first =>
      go_wp2
      go_meet
      case rel => exact ⟨HR, rfl⟩
    case rest =>
      clear HR
      obtain ⟨HR, rfl⟩ := hcut
      have HLEN : Aside0 (([] : List ByteArray).length ≤ 20) := ⟨by decide⟩
      go_wp2_with (first | ((with_reducible refine (H1.out _).mono ?_); rintro e w' ⟨rfl, rfl⟩) | ((with_reducible refine gate_dst (N := 8) rfl ?_); (try (refine gate_guard (by rfl) ?_; dsimp only)); refine Kd.R_lit Kd.string _ 9 ?hg (N := 8) ?hd (xs := ([⟨#[109, 121, 46, 101, 110, 118, 45, 110, 97, 109, 101]⟩, ⟨#[77, 89, 95, 69, 78, 86, 46, 78, 65, 77, 69]⟩, ⟨#[77, 121, 69, 110, 118, 78, 97, 109, 101, 49]⟩] : List ByteArray)) (inner := [.string ⟨#[109, 121, 46, 101, 110, 118, 45, 110, 97, 109, 101]⟩, .string ⟨#[77, 89, 95, 69, 78, 86, 46, 78, 65, 77, 69]⟩, .string ⟨#[77, 121, 69, 110, 118, 78, 97, 109, 101, 49]⟩]) (ok := fun _ => True) (okp := fun _ => True) ?hr ?hp (fun _ hk => hk) trivial (Below.refl _ _) (Nat.le_refl _) (by simp) ?_; (case hd => rfl); (case hg => rfl); (case hr => first | (go_simp; done) | (go_simp; rfl)); (case hp => exact (Reps.one (show Kd.M Kd.string _ _ _ ⟨#[109, 121, 46, 101, 110, 118, 45, 110, 97, 109, 101]⟩ [.string ⟨#[109, 121, 46, 101, 110, 118, 45, 110, 97, 109, 101]⟩] from rfl) (Reps.one (show Kd.M Kd.string _ _ _ ⟨#[77, 89, 95, 69, 78, 86, 46, 78, 65, 77, 69]⟩ [.string ⟨#[77, 89, 95, 69, 78, 86, 46, 78, 65, 77, 69]⟩] from rfl) (Reps.one (show Kd.M Kd.string _ _ _ ⟨#[77, 121, 69, 110, 118, 78, 97, 109, 101, 49]⟩ [.string ⟨#[77, 121, 69, 110, 118, 78, 97, 109, 101, 49]⟩] from rfl) (Reps.none _ _))))); intro vN wN hoL hb hg_ hnew_; clear hg_ hnew_; (first | rw [← HY.out] at hoL | (simp only [Int.reduceToNat] at hoL; rw [← HY.out] at hoL)); have nc_ := Aside0.mk (Kd.R_below (by (with_reducible repeat (first | apply Kd.R_alloc | apply Kd.R_drewN | apply Kd.R_drew)); exact HR.out) hb); clear HR; have HR := nc_; clear nc_; have nl_ := Aside0.mk (Kd.R_lower hoL (below_size (by repeat (first | (with_reducible first | exact HB.out | apply below_alloc | apply pw_below_drewN | apply below_drew1) | exact HB.out)))); have nb_ := Aside0.mk (below_step (by repeat (first | (with_reducible first | exact HB.out | apply below_alloc | apply pw_below_drewN | apply below_drew1) | exact HB.out)) hb); clear HB; have HLL := nl_; have HB := nb_; clear nl_ nb_; clear hb hoL; obtain ⟨ALL, cLL, eLL⟩ := Kd.R_slice HLL.out; subst eLL) | ((with_reducible refine (RegexError_calls _ _ ?ha ?hf ALL cLL y _ hyl (by rw [HY.out]; exact HEX.out) (Kd.R_reads' HLL.out).2.2 (Kd.R_reads' HLL.out).2.1).mono ?_); (case ha => decide +kernel); (case hf => decide +kernel); rintro e w' ⟨m, rfl, hm, rfl⟩; have HM := Aside0.mk hm; clear hm; obtain ⟨ys, hys⟩ : ∃ ys, ([] : List ByteArray) ++ [m] = ys := ⟨_, rfl⟩; have HNEW := Aside0.mk hys; have HYS := Aside0.mk hys.symm; clear hys) | ((with_reducible refine gate_builtin (b := .append) (xs := #[.tmp 7, .tmp 10]) rfl ?_); (try (refine gate_guard (by rfl) ?_; dsimp only)); at_builtin; refine Kd.R_append Kd.string (w0 := w) w.heap.size rfl (.tmp 7) (.tmp 10) 22 9 (.string ⟨#[]⟩) 16 rfl Tryd.underlying22 infoS rfl (by decide) (by omega) u3 (([] : List ByteArray)) (m) [.string (m)] (fun _ => True) (fun _ => False) rfl rfl ?aP (fun _ hk => hk.elim) ?aF ?aO ?aB ?aS ?aL ?_; (case aP => exact rfl); (case aB => exact (by repeat (first | (with_reducible first | exact HB.out | apply below_alloc | apply pw_below_drewN | apply below_drew1) | exact HB.out))); (case aF => exact (fun _ _ => trivial)); (case aO => exact (by (with_reducible repeat (first | apply Kd.R_alloc | apply Kd.R_drewN | apply Kd.R_drew)); exact HR.out)); (case aS => exact (below_size (by repeat (first | (with_reducible first | exact HB.out | apply below_alloc | apply pw_below_drewN | apply below_drew1) | exact HB.out)))); (case aL => have := HLEN.out; (try simp only [List.length_map, List.length_nil] at *); omega); intro vN wN ho hb hg hat; rw [HNEW.out] at ho; clear HB; clear HR; have HB := Aside0.mk hb; have HR := Aside0.mk ho; clear ho hb hg hat) | ((with_reducible refine (H2.out _).mono ?_); rintro e w' ⟨v14, rfl, ho0, hb⟩; have nq_ := Aside0.mk (Kd.R_lower ho0 (below_size (by repeat (first | (with_reducible first | exact HB.out | apply below_alloc | apply pw_below_drewN | apply below_drew1) | exact HB.out)))); have nd_ := Aside0.mk (Kd.R_below (by (with_reducible repeat (first | apply Kd.R_alloc | apply Kd.R_drewN | apply Kd.R_drew)); exact HR.out) hb); have nb_ := Aside0.mk (below_step (by repeat (first | (with_reducible first | exact HB.out | apply below_alloc | apply pw_below_drewN | apply below_drew1) | exact HB.out)) hb); clear HB; have HB := nb_; clear nb_; (try clear hb); have HQ := nq_; clear HR; have HD := nd_; clear nq_ nd_ ho0; (obtain ⟨AQ, cQ, eQ⟩ := Kd.R_slice HQ.out); subst eQ; clear HNEW HLEN; (have HLEN : Aside0 (ys.length + r.length ≤ 20) := ⟨by rw [HYS.out]; simp; omega⟩); obtain ⟨zs, hzs⟩ : ∃ zs, ys ++ r = zs := ⟨_, rfl⟩; have HNEW := Aside0.mk hzs; clear hzs; obtain ⟨vK, hvK⟩ : ∃ vK, vN = vK := ⟨_, rfl⟩; subst hvK) | ((with_reducible refine gate_builtin (b := .append) (xs := #[.tmp 12, .tmp 14]) rfl ?_); (try (refine gate_guard (by rfl) ?_; dsimp only)); at_builtin; refine Kd.R_append_rows Kd.string (w0 := w) w.heap.size rfl (.tmp 12) (.tmp 14) 22 9 (.string ⟨#[]⟩) 16 rfl Tryd.underlying22 infoS rfl (by decide) (by omega) (vN) (ys) (r) _ _ _ (fun _ => True) (fun _ => False) rfl rfl ?aO ?aR (fun _ _ h => h) (fun _ h => h.elim) ?aF ?aB ?aS ?aL ?_; (case aR => repeat (first | exact (Kd.R_reads' HQ.out).2.2 | (with_reducible refine Kd.C_alloc ?_ _) | (with_reducible refine Kd.C_drewN ?_ _) | (with_reducible refine Kd.C_drew ?_))); (case aB => exact (by repeat (first | (with_reducible first | exact HB.out | apply below_alloc | apply pw_below_drewN | apply below_drew1) | exact HB.out))); (case aF => exact (fun _ _ => trivial)); (case aO => exact (by (with_reducible repeat (first | apply Kd.R_alloc | apply Kd.R_drewN | apply Kd.R_drew)); exact HD.out)); (case aS => exact (below_size (by repeat (first | (with_reducible first | exact HB.out | apply below_alloc | apply pw_below_drewN | apply below_drew1) | exact HB.out)))); (case aL => have := HLEN.out; (try simp only [List.length_map]); omega); intro vN wN ho hb hg hat; rw [HNEW.out] at ho; clear HB; clear HD; have HB := Aside0.mk hb; have HD := Aside0.mk ho; clear ho hb hg hat))
      go_ret
      exact ⟨_, zs, rfl, by (with_reducible repeat (first | apply Kd.R_alloc | apply Kd.R_drewN | apply Kd.R_drew)); exact HD.out, by rw [← HNEW.out, HYS.out]; simp, by rw [← HNEW.out, HYS.out]; simp; omega, fun p hp => by rw [← HNEW.out, HYS.out] at hp; simp at hp; have := HM.out; rcases hp with rfl | hp <;> first | omega | (have := HR4.out p hp; omega), (by repeat (first | (with_reducible first | exact HB.out | apply below_alloc | apply pw_below_drewN | apply below_drew1) | exact HB.out))⟩
end Go.Proofs.YtdledchhpjkilaaDoor.Hand
