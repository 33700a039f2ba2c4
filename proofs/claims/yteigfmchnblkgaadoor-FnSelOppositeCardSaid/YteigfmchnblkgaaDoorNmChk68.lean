/- A check of a length and of an expression: function 68. -/
import Derived.Test.YteigfmchnblkgaaDoorNmErrT
import Derived.Test.YteigfmchnblkgaaDoorNmWild
namespace Go.Proofs.YteigfmchnblkgaaDoor.Hand
open Go.RowKit Go.Proofs.YteigfmchnblkgaaDoorW.PrintWords Go.Proofs.YteigfmchnblkgaaDoorW.PrintLast Go.Proofs.YteigfmchnblkgaaDoorW.PrintMore Go.Proofs.YteigfmchnblkgaaDoor.Base
set_option linter.unusedVariables false
set_option linter.unusedSimpArgs false
set_option maxRecDepth 100000

set_option maxHeartbeats 4000000 in
theorem errs68 (s : ByteArray) (hs : s.size ≤ 100000000) (w : World) (hT : Tab w) :
    Calls Tryd.prog 46 #[.string s] w fun e w' => Errs (most 253 s.data.toList && sub s.data.toList) w e w' := by
  obtain ⟨x, hx, hxs⟩ : ∃ x : L, s = mk x ∧ s.size = x.length := exists_mk s
  have h1 : ∀ w, Calls Tryd.prog 53 #[.string s] w fun e w' => e = .returned (.bool (sub s.data.toList)) ∧ Below w.heap.size w w' := fun w => zzSub_calls s (by omega) w
  rw [show s.data.toList = x by rw [hx]; rfl] at h1 ⊢
  have hm : most 253 x = decide (s.size ≤ 253) := by unfold most; rw [hxs]
  have HB := Aside0.mk (Below.refl w.heap.size w)
  have HR : Aside0 (Kd.R Kd.string 9 w w.heap.size (fun _ => True) (.slice none 0 0) ([] : List ByteArray)) := ⟨Kd.R_nil _ _ _ _ _⟩
  have HLEN : Aside0 (([] : List ByteArray).length ≤ 20) := ⟨by decide⟩
  have HM1 : Aside0 (∀ w', Below w.heap.size w w' → Calls Tryd.prog 49 #[.int .i64 253] w' fun e w2 => ∃ m, e = .returned (.string m) ∧ m.size ≤ 4000 ∧ Below w'.heap.size w' w2) := ⟨fun w' hb => MaxLen_tab w' (hT.below hb)⟩
  have HEX : Aside0 (∀ p ∈ ([⟨#[101, 120, 97, 109, 112, 108, 101, 46, 99, 111, 109]⟩] : List ByteArray), p.size ≤ 100) := ⟨by decide⟩
  obtain ⟨y, hy⟩ : ∃ y : List ByteArray, y = [⟨#[101, 120, 97, 109, 112, 108, 101, 46, 99, 111, 109]⟩] := ⟨_, rfl⟩
  have hyl : y.length ≤ 3 := by rw [hy]; decide
  have HY := Aside0.mk hy
  clear hx hxs hy
  obtain ⟨z, hz⟩ : ∃ z, sub x = z := ⟨_, rfl⟩
  rw [hz] at h1 ⊢
  rw [hm]
  clear hz hm
  have H1 := Aside0.mk h1
  clear h1
  by_cases hl : s.size ≤ 253
  · rw [decide_eq_true hl]
    cases z with
    | true =>
      go_enter Tryd.func46, Tryd.ntmps46
      go_upto_region 1 with (fail)
      go_cut [3] (fun v3 wc => Aside0 (Kd.R Kd.string 9 wc w.heap.size (fun _ => True) v3 ([] : List ByteArray)) ∧ w = wc)
      case first =>
        go_wp2
        go_meet
        case rel => exact ⟨HR, rfl⟩
      case rest =>
        clear HR
        obtain ⟨HR, rfl⟩ := hcut
        go_wp2_with (first | ((with_reducible refine (H1.out _).mono ?_); rintro e w' ⟨rfl, hb⟩; have nr_ := Aside0.mk (Kd.R_below (by (with_reducible repeat (first | apply Kd.R_alloc | apply Kd.R_drewN | apply Kd.R_drew)); exact HR.out) hb); clear HR; have HR := nr_; clear nr_; have nb_ := Aside0.mk (below_step (by repeat (first | (with_reducible first | exact HB.out | apply below_alloc | apply pw_below_drewN | apply below_drew1) | exact HB.out)) hb); clear HB; have HB := nb_; clear nb_; (try clear hb)))
        go_ret
        exact ⟨_, _, rfl, (by (with_reducible repeat (first | apply Kd.R_alloc | apply Kd.R_drewN | apply Kd.R_drew)); exact HR.out), rfl, by decide, fun p hp => by simp at hp, (by repeat (first | (with_reducible first | exact HB.out | apply below_alloc | apply pw_below_drewN | apply below_drew1) | exact HB.out))⟩
    | false =>
      go_enter Tryd.func46, Tryd.ntmps46
      go_upto_region 1 with (fail)
      go_cut [3] (fun v3 wc => Aside0 (Kd.R Kd.string 9 wc w.heap.size (fun _ => True) v3 ([] : List ByteArray)) ∧ w = wc)
      case first =>
        go_wp2
        go_meet
        case rel => exact ⟨HR, rfl⟩
      case rest =>
        clear HR
        obtain ⟨HR, rfl⟩ := hcut
        go_wp2_with (first | ((with_reducible refine (H1.out _).mono ?_); rintro e w' ⟨rfl, hb⟩; have nr_ := Aside0.mk (Kd.R_below (by (with_reducible repeat (first | apply Kd.R_alloc | apply Kd.R_drewN | apply Kd.R_drew)); exact HR.out) hb); clear HR; have HR := nr_; clear nr_; have nb_ := Aside0.mk (below_step (by repeat (first | (with_reducible first | exact HB.out | apply below_alloc | apply pw_below_drewN | apply below_drew1) | exact HB.out)) hb); clear HB; have HB := nb_; clear nb_; (try clear hb)) | ((with_reducible refine gate_dst (N := 15) rfl ?_); (try (refine gate_guard (by rfl) ?_; dsimp only)); refine Kd.R_lit Kd.string _ 9 ?hg (N := 15) ?hd (xs := ([⟨#[101, 120, 97, 109, 112, 108, 101, 46, 99, 111, 109]⟩] : List ByteArray)) (inner := [.string ⟨#[101, 120, 97, 109, 112, 108, 101, 46, 99, 111, 109]⟩]) (ok := fun _ => True) (okp := fun _ => True) ?hr ?hp (fun _ hk => hk) trivial (Below.refl _ _) (Nat.le_refl _) (by simp) ?_; (case hd => rfl); (case hg => rfl); (case hr => first | (go_simp; done) | (go_simp; rfl)); (case hp => exact (Reps.one (show Kd.M Kd.string _ _ _ ⟨#[101, 120, 97, 109, 112, 108, 101, 46, 99, 111, 109]⟩ [.string ⟨#[101, 120, 97, 109, 112, 108, 101, 46, 99, 111, 109]⟩] from rfl) (Reps.none _ _))); intro vN wN hoL hb hg_ hnew_; clear hg_ hnew_; (first | rw [← HY.out] at hoL | (simp only [Int.reduceToNat] at hoL; rw [← HY.out] at hoL)); have nc_ := Aside0.mk (Kd.R_below (by (with_reducible repeat (first | apply Kd.R_alloc | apply Kd.R_drewN | apply Kd.R_drew)); exact HR.out) hb); clear HR; have HR := nc_; clear nc_; have nl_ := Aside0.mk (Kd.R_lower hoL (below_size (by repeat (first | (with_reducible first | exact HB.out | apply below_alloc | apply pw_below_drewN | apply below_drew1) | exact HB.out)))); have nb_ := Aside0.mk (below_step (by repeat (first | (with_reducible first | exact HB.out | apply below_alloc | apply pw_below_drewN | apply below_drew1) | exact HB.out)) hb); clear HB; have HLL := nl_; have HB := nb_; clear nl_ nb_; clear hb hoL; obtain ⟨ALL, cLL, eLL⟩ := Kd.R_slice HLL.out; subst eLL) | ((with_reducible refine (RegexError_calls _ _ ?ha ?hf ALL cLL y _ hyl (by rw [HY.out]; exact HEX.out) (Kd.R_reads' HLL.out).2.2 (Kd.R_reads' HLL.out).2.1).mono ?_); (case ha => decide +kernel); (case hf => decide +kernel); rintro e w' ⟨m, rfl, hm, rfl⟩; have HM := Aside0.mk hm; clear hm; obtain ⟨ys, hys⟩ : ∃ ys, ([] : List ByteArray) ++ [m] = ys := ⟨_, rfl⟩; have HNEW := Aside0.mk hys; clear hys) | ((with_reducible refine gate_builtin (b := .append) (xs := #[.tmp 14, .tmp 17]) rfl ?_); (try (refine gate_guard (by rfl) ?_; dsimp only)); at_builtin; refine Kd.R_append Kd.string (w0 := w) w.heap.size rfl (.tmp 14) (.tmp 17) 22 9 (.string ⟨#[]⟩) 16 rfl Tryd.underlying22 infoS rfl (by decide) (by omega) u3 (([] : List ByteArray)) (m) [.string (m)] (fun _ => True) (fun _ => False) rfl rfl ?aP (fun _ hk => hk.elim) ?aF ?aO ?aB ?aS ?aL ?_; (case aP => exact rfl); (case aB => exact (by repeat (first | (with_reducible first | exact HB.out | apply below_alloc | apply pw_below_drewN | apply below_drew1) | exact HB.out))); (case aF => exact (fun _ _ => trivial)); (case aO => exact (by (with_reducible repeat (first | apply Kd.R_alloc | apply Kd.R_drewN | apply Kd.R_drew)); exact HR.out)); (case aS => exact (below_size (by repeat (first | (with_reducible first | exact HB.out | apply below_alloc | apply pw_below_drewN | apply below_drew1) | exact HB.out)))); (case aL => have := HLEN.out; (try simp only [List.length_map, List.length_nil] at *); omega); intro vN wN ho hb hg hat; rw [HNEW.out] at ho; clear HB; clear HR; have HB := Aside0.mk hb; have HR := Aside0.mk ho; clear ho hb hg hat))
        go_ret
        exact ⟨_, ys, rfl, (by (with_reducible repeat (first | apply Kd.R_alloc | apply Kd.R_drewN | apply Kd.R_drew)); exact HR.out), Errs.snoc HNEW.out, by rw [← HNEW.out]; simp, fun p hp => by rw [← HNEW.out] at hp; simp at hp; subst hp; have := HM.out; omega, (by repeat (first | (with_reducible first | exact HB.out | apply below_alloc | apply pw_below_drewN | apply below_drew1) | exact HB.out))⟩
  · rw [decide_eq_false hl]
    cases z with
    | true =>
      go_enter Tryd.func46, Tryd.ntmps46
      go_upto_region 1 with (fail)
      go_cut [3] (fun v3 wc => Aside0 (Kd.R Kd.string 9 wc w.heap.size (fun _ => True) v3 ([] : List ByteArray)) ∧ w = wc)
      case first =>
        go_wp2
        go_meet
        case rel => exact ⟨HR, rfl⟩
      case rest =>
        clear HR
        obtain ⟨HR, rfl⟩ := hcut
        go_wp2_with (first | ((with_reducible refine (H1.out _).mono ?_); rintro e w' ⟨rfl, hb⟩; have nr_ := Aside0.mk (Kd.R_below (by (with_reducible repeat (first | apply Kd.R_alloc | apply Kd.R_drewN | apply Kd.R_drew)); exact HR.out) hb); clear HR; have HR := nr_; clear nr_; have nb_ := Aside0.mk (below_step (by repeat (first | (with_reducible first | exact HB.out | apply below_alloc | apply pw_below_drewN | apply below_drew1) | exact HB.out)) hb); clear HB; have HB := nb_; clear nb_; (try clear hb)) | ((with_reducible refine (HM1.out _ (by repeat (first | (with_reducible first | exact HB.out | apply below_alloc | apply pw_below_drewN | apply below_drew1) | exact HB.out))).mono ?_); rintro e w' ⟨m, rfl, hm, hb⟩; have nr_ := Aside0.mk (Kd.R_below (by (with_reducible repeat (first | apply Kd.R_alloc | apply Kd.R_drewN | apply Kd.R_drew)); exact HR.out) hb); clear HR; have HR := nr_; clear nr_; have nb_ := Aside0.mk (below_step (by repeat (first | (with_reducible first | exact HB.out | apply below_alloc | apply pw_below_drewN | apply below_drew1) | exact HB.out)) hb); clear HB; have HB := nb_; clear nb_; (try clear hb); have HM := Aside0.mk hm; clear hm; obtain ⟨ys, hys⟩ : ∃ ys, ([] : List ByteArray) ++ [m] = ys := ⟨_, rfl⟩; have HNEW := Aside0.mk hys; clear hys) | ((with_reducible refine gate_builtin (b := .append) (xs := #[.tmp 7, .tmp 9]) rfl ?_); (try (refine gate_guard (by rfl) ?_; dsimp only)); at_builtin; refine Kd.R_append Kd.string (w0 := w) w.heap.size rfl (.tmp 7) (.tmp 9) 22 9 (.string ⟨#[]⟩) 16 rfl Tryd.underlying22 infoS rfl (by decide) (by omega) u3 (([] : List ByteArray)) (m) [.string (m)] (fun _ => True) (fun _ => False) rfl rfl ?aP (fun _ hk => hk.elim) ?aF ?aO ?aB ?aS ?aL ?_; (case aP => exact rfl); (case aB => exact (by repeat (first | (with_reducible first | exact HB.out | apply below_alloc | apply pw_below_drewN | apply below_drew1) | exact HB.out))); (case aF => exact (fun _ _ => trivial)); (case aO => exact (by (with_reducible repeat (first | apply Kd.R_alloc | apply Kd.R_drewN | apply Kd.R_drew)); exact HR.out)); (case aS => exact (below_size (by repeat (first | (with_reducible first | exact HB.out | apply below_alloc | apply pw_below_drewN | apply below_drew1) | exact HB.out)))); (case aL => have := HLEN.out; (try simp only [List.length_map, List.length_nil] at *); omega); intro vN wN ho hb hg hat; rw [HNEW.out] at ho; clear HB; clear HR; have HB := Aside0.mk hb; have HR := Aside0.mk ho; clear ho hb hg hat))
        go_ret
        exact ⟨_, ys, rfl, (by (with_reducible repeat (first | apply Kd.R_alloc | apply Kd.R_drewN | apply Kd.R_drew)); exact HR.out), Errs.snoc HNEW.out, by rw [← HNEW.out]; simp, fun p hp => by rw [← HNEW.out] at hp; simp at hp; subst hp; have := HM.out; omega, (by repeat (first | (with_reducible first | exact HB.out | apply below_alloc | apply pw_below_drewN | apply below_drew1) | exact HB.out))⟩
    | false =>
      go_enter Tryd.func46, Tryd.ntmps46
      go_upto_region 1 with (fail)
      go_cut [3] (fun v3 wc => Aside0 (Kd.R Kd.string 9 wc w.heap.size (fun _ => True) v3 ([] : List ByteArray)) ∧ w = wc)
      case first =>
        go_wp2
        go_meet
        case rel => exact ⟨HR, rfl⟩
      case rest =>
        clear HR
        obtain ⟨HR, rfl⟩ := hcut
        go_wp2_with (first | ((with_reducible refine (H1.out _).mono ?_); rintro e w' ⟨rfl, hb⟩; have nr_ := Aside0.mk (Kd.R_below (by (with_reducible repeat (first | apply Kd.R_alloc | apply Kd.R_drewN | apply Kd.R_drew)); exact HR.out) hb); clear HR; have HR := nr_; clear nr_; have nb_ := Aside0.mk (below_step (by repeat (first | (with_reducible first | exact HB.out | apply below_alloc | apply pw_below_drewN | apply below_drew1) | exact HB.out)) hb); clear HB; have HB := nb_; clear nb_; (try clear hb)) | ((with_reducible refine (HM1.out _ (by repeat (first | (with_reducible first | exact HB.out | apply below_alloc | apply pw_below_drewN | apply below_drew1) | exact HB.out))).mono ?_); rintro e w' ⟨m, rfl, hm, hb⟩; have nr_ := Aside0.mk (Kd.R_below (by (with_reducible repeat (first | apply Kd.R_alloc | apply Kd.R_drewN | apply Kd.R_drew)); exact HR.out) hb); clear HR; have HR := nr_; clear nr_; have nb_ := Aside0.mk (below_step (by repeat (first | (with_reducible first | exact HB.out | apply below_alloc | apply pw_below_drewN | apply below_drew1) | exact HB.out)) hb); clear HB; have HB := nb_; clear nb_; (try clear hb); have HM := Aside0.mk hm; clear hm; obtain ⟨ys, hys⟩ : ∃ ys, ([] : List ByteArray) ++ [m] = ys := ⟨_, rfl⟩; have HNEW := Aside0.mk hys; have HYS := Aside0.mk hys.symm; clear hys) | ((with_reducible refine gate_builtin (b := .append) (xs := #[.tmp 7, .tmp 9]) rfl ?_); (try (refine gate_guard (by rfl) ?_; dsimp only)); at_builtin; refine Kd.R_append Kd.string (w0 := w) w.heap.size rfl (.tmp 7) (.tmp 9) 22 9 (.string ⟨#[]⟩) 16 rfl Tryd.underlying22 infoS rfl (by decide) (by omega) u3 (([] : List ByteArray)) (m) [.string (m)] (fun _ => True) (fun _ => False) rfl rfl ?aP (fun _ hk => hk.elim) ?aF ?aO ?aB ?aS ?aL ?_; (case aP => exact rfl); (case aB => exact (by repeat (first | (with_reducible first | exact HB.out | apply below_alloc | apply pw_below_drewN | apply below_drew1) | exact HB.out))); (case aF => exact (fun _ _ => trivial)); (case aO => exact (by (with_reducible repeat (first | apply Kd.R_alloc | apply Kd.R_drewN | apply Kd.R_drew)); exact HR.out)); (case aS => exact (below_size (by repeat (first | (with_reducible first | exact HB.out | apply below_alloc | apply pw_below_drewN | apply below_drew1) | exact HB.out)))); (case aL => have := HLEN.out; (try simp only [List.length_map, List.length_nil] at *); omega); intro vN wN ho hb hg hat; rw [HNEW.out] at ho; clear HB; clear HR; have HB := Aside0.mk hb; have HR := Aside0.mk ho; clear ho hb hg hat) | ((with_reducible refine gate_dst (N := 15) rfl ?_); (try (refine gate_guard (by rfl) ?_; dsimp only)); refine Kd.R_lit Kd.string _ 9 ?hg (N := 15) ?hd (xs := ([⟨#[101, 120, 97, 109, 112, 108, 101, 46, 99, 111, 109]⟩] : List ByteArray)) (inner := [.string ⟨#[101, 120, 97, 109, 112, 108, 101, 46, 99, 111, 109]⟩]) (ok := fun _ => True) (okp := fun _ => True) ?hr ?hp (fun _ hk => hk) trivial (Below.refl _ _) (Nat.le_refl _) (by simp) ?_; (case hd => rfl); (case hg => rfl); (case hr => first | (go_simp; done) | (go_simp; rfl)); (case hp => exact (Reps.one (show Kd.M Kd.string _ _ _ ⟨#[101, 120, 97, 109, 112, 108, 101, 46, 99, 111, 109]⟩ [.string ⟨#[101, 120, 97, 109, 112, 108, 101, 46, 99, 111, 109]⟩] from rfl) (Reps.none _ _))); intro vN wN hoL hb hg_ hnew_; clear hg_ hnew_; (first | rw [← HY.out] at hoL | (simp only [Int.reduceToNat] at hoL; rw [← HY.out] at hoL)); have nc_ := Aside0.mk (Kd.R_below (by (with_reducible repeat (first | apply Kd.R_alloc | apply Kd.R_drewN | apply Kd.R_drew)); exact HR.out) hb); clear HR; have HR := nc_; clear nc_; have nl_ := Aside0.mk (Kd.R_lower hoL (below_size (by repeat (first | (with_reducible first | exact HB.out | apply below_alloc | apply pw_below_drewN | apply below_drew1) | exact HB.out)))); have nb_ := Aside0.mk (below_step (by repeat (first | (with_reducible first | exact HB.out | apply below_alloc | apply pw_below_drewN | apply below_drew1) | exact HB.out)) hb); clear HB; have HLL := nl_; have HB := nb_; clear nl_ nb_; clear hb hoL; obtain ⟨ALL, cLL, eLL⟩ := Kd.R_slice HLL.out; subst eLL) | ((with_reducible refine (RegexError_calls _ _ ?ha ?hf ALL cLL y _ hyl (by rw [HY.out]; exact HEX.out) (Kd.R_reads' HLL.out).2.2 (Kd.R_reads' HLL.out).2.1).mono ?_); (case ha => decide +kernel); (case hf => decide +kernel); rintro e w' ⟨m2, rfl, hm, rfl⟩; have HM2 := Aside0.mk hm; clear hm; clear HNEW HLEN; have HLEN : Aside0 (ys.length ≤ 20) := ⟨by rw [HYS.out]; simp⟩; obtain ⟨zs, hzs⟩ : ∃ zs, ys ++ [m2] = zs := ⟨_, rfl⟩; have HNEW := Aside0.mk hzs; clear hzs) | ((with_reducible refine gate_builtin (b := .append) (xs := #[.tmp 14, .tmp 17]) rfl ?_); (try (refine gate_guard (by rfl) ?_; dsimp only)); at_builtin; refine Kd.R_append Kd.string (w0 := w) w.heap.size rfl (.tmp 14) (.tmp 17) 22 9 (.string ⟨#[]⟩) 16 rfl Tryd.underlying22 infoS rfl (by decide) (by omega) vN (ys) (m2) [.string (m2)] (fun _ => True) (fun _ => False) rfl rfl ?aP (fun _ hk => hk.elim) ?aF ?aO ?aB ?aS ?aL ?_; (case aP => exact rfl); (case aB => exact (by repeat (first | (with_reducible first | exact HB.out | apply below_alloc | apply pw_below_drewN | apply below_drew1) | exact HB.out))); (case aF => exact (fun _ _ => trivial)); (case aO => exact (by (with_reducible repeat (first | apply Kd.R_alloc | apply Kd.R_drewN | apply Kd.R_drew)); exact HR.out)); (case aS => exact (below_size (by repeat (first | (with_reducible first | exact HB.out | apply below_alloc | apply pw_below_drewN | apply below_drew1) | exact HB.out)))); (case aL => have := HLEN.out; (try simp only [List.length_map, List.length_nil] at *); omega); intro vN wN ho hb hg hat; rw [HNEW.out] at ho; clear HB; clear HR; have HB := Aside0.mk hb; have HR := Aside0.mk ho; clear ho hb hg hat))
        go_ret
        exact ⟨_, zs, rfl, (by (with_reducible repeat (first | apply Kd.R_alloc | apply Kd.R_drewN | apply Kd.R_drew)); exact HR.out), Errs.snoc HNEW.out, by rw [← HNEW.out, HYS.out]; simp, fun p hp => by rw [← HNEW.out, HYS.out] at hp; simp at hp; have := HM.out; have := HM2.out; rcases hp with rfl | rfl <;> omega, (by repeat (first | (with_reducible first | exact HB.out | apply below_alloc | apply pw_below_drewN | apply below_drew1) | exact HB.out))⟩
end Go.Proofs.YteigfmchnblkgaaDoor.Hand
