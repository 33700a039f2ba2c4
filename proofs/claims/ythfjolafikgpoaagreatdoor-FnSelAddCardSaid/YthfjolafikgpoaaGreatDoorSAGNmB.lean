/- A check of a length and of an expression: function 68. -/
import Derived.Test.YthfjolafikgpoaaGreatDoorSAGNmA
import Derived.Test.YthfjolafikgpoaaGreatDoorSAGPk
namespace Go.Proofs.YthfjolafikgpoaaGreatDoor.Hand
open Go.RowKit Go.Proofs.YthfjolafikgpoaaGreatDoorW.PrintWords Go.Proofs.YthfjolafikgpoaaGreatDoorW.PrintLast Go.Proofs.YthfjolafikgpoaaGreatDoorW.PrintMore Go.Proofs.YthfjolafikgpoaaGreatDoor.Base
set_option linter.unusedVariables false
set_option linter.unusedSimpArgs false
set_option maxRecDepth 100000
set_option maxHeartbeats 4000000 in
theorem errs68 (s : ByteArray) (hs : s.size ≤ 100000000) (w : World) (hT : Tab w) :
   Calls Tryz.prog 128 #[.string s] w fun e w' => Errs (most 253 s.data.toList && sub s.data.toList) w e w' := by
 obtain ⟨x, hx, hxs⟩ : ∃ x : L, s = mk x ∧ s.size = x.length := exists_mk s
 have h1 : ∀ w, Calls Tryz.prog 159 #[.string s] w fun e w' => e = .returned (.bool (sub s.data.toList)) ∧ Below w.heap.size w w' := fun w => zzSub_calls s (by omega) w
 rw [show s.data.toList = x by rw [hx]; rfl] at h1 ⊢
 have hm : most 253 x = decide (s.size ≤ 253) := by unfold most; rw [hxs]
 have HB := Aside0.mk (Below.refl w.heap.size w)
 have HR : Aside0 (Kd.R Kd.string 9 w w.heap.size (fun _ => True) (.slice none 0 0) ([] : List ByteArray)) := ⟨Kd.R_nil _ _ _ _ _⟩
 have HLEN : Aside0 (([] : List ByteArray).length ≤ 20) := ⟨by decide⟩
 have HM1 : Aside0 (∀ w', Below w.heap.size w w' → Calls Tryz.prog 131 #[.int .i64 253] w' fun e w2 => ∃ m, e = .returned (.string m) ∧ m.size ≤ 4000 ∧ Below w'.heap.size w' w2) := ⟨fun w' hb => MaxLen_tab w' (hT.below hb)⟩
 have HEX : Aside0 (∀ p ∈ ([⟨#[101, 120, 97, 109, 112, 108, 101, 46, 99, 111, 109]⟩] : List ByteArray), p.size ≤ 100) := ⟨by decide⟩
 obtain ⟨y, hy⟩ : ∃ y : List ByteArray, y = [⟨#[101, 120, 97, 109, 112, 108, 101, 46, 99, 111, 109]⟩] := ⟨_, rfl⟩
 have hyl : y.length ≤ 3 := by rw [hy]; decide
 have HY := Aside0.mk hy
 clear hx hxs hy
 obtain ⟨z, hz⟩ : ∃ z, sub x = z := ⟨_, rfl⟩
 rw [hz] at h1 ⊢
 rw [hm]
 clear hz hm
 have H1 := Aside0.mk h1
 clear h1
 by_cases hl : s.size ≤ 253
 · rw [decide_eq_true hl]
   cases z with
   | true =>
     go_enter Tryz.func128, Tryz.ntmps128
     go_upto_region 1 with (fail)
     go_cut [3] (fun v3 wc => Aside0 (Kd.R Kd.string 9 wc w.heap.size (fun _ => True) v3 ([] : List ByteArray)) ∧ w = wc)
     case first =>
      go_wp2
      go_meet
      case rel => exact ⟨HR, rfl⟩
     case rest =>
      clear HR
      obtain ⟨HR, rfl⟩ := hcut
      go_wp2_with (first | ((with_reducible refine (H1.out _).mono ?_); rintro e w' ⟨rfl, hb⟩; have nr_ := Aside0.mk (Kd.R_below (by (with_reducible repeat (first | apply Kd.R_alloc | apply Kd.R_drewN | apply Kd.R_drew)); exact HR.out) hb); clear HR; have HR := nr_; clear nr_; have nb_ := Aside0.mk (below_step (by repeat (first | (with_reducible first | exact HB.out | apply below_alloc | apply pw_below_drewN | apply below_drew1) | exact HB.out)) hb); clear HB; have HB := nb_; clear nb_; (try clear hb)))
      go_ret
      exact ⟨_, _, rfl, (by (with_reducible repeat (first | apply Kd.R_alloc | apply Kd.R_drewN | apply Kd.R_drew)); exact HR.out), rfl, by decide, fun p hp => by simp at hp, (by repeat (first | (with_reducible first | exact HB.out | apply below_alloc | apply pw_below_drewN | apply below_drew1) | exact HB.out))⟩
   | false =>
     go_enter Tryz.func128, Tryz.ntmps128
     go_upto_region 1 with (fail)
     go_cut [3] (fun v3 wc => Aside0 (Kd.R Kd.string 9 wc w.heap.size (fun _ => True) v3 ([] : List ByteArray)) ∧ w = wc)
     case first =>
      go_wp2
      go_meet
      case rel => exact ⟨HR, rfl⟩
     case rest =>
      clear HR
      obtain ⟨HR, rfl⟩ := hcut
      go_wp2_with (first | ((with_reducible refine (H1.out _).mono ?_); rintro e w' ⟨rfl, hb⟩; have nr_ := Aside0.mk (Kd.R_below (by (with_reducible repeat (first | apply Kd.R_alloc | apply Kd.R_drewN | apply Kd.R_drew)); exact HR.out) hb); clear HR; have HR := nr_; clear nr_; have nb_ := Aside0.mk (below_step (by repeat (first | (with_reducible first | exact HB.out | apply below_alloc | apply pw_below_drewN | apply below_drew1) | exact HB.out)) hb); clear HB; have HB := nb_; clear nb_; (try clear hb)) | ((with_reducible refine gate_dst (N := 15) rfl ?_); (try (refine gate_guard (by rfl) ?_; dsimp only)); refine Kd.R_lit Kd.string _ 9 ?hg (N := 15) ?hd (xs := ([⟨#[101, 120, 97, 109, 112, 108, 101, 46, 99, 111, 109]⟩] : List ByteArray)) (inner := [.string ⟨#[101, 120, 97, 109, 112, 108, 101, 46, 99, 111, 109]⟩]) (ok := fun _ => True) (okp := fun _ => True) ?hr ?hp (fun _ hk => hk) trivial (Below.refl _ _) (Nat.le_refl _) (by simp) ?_; (case hd => rfl); (case hg => rfl); (case hr => first | (go_simp; done) | (go_simp; rfl)); (case hp => exact (Reps.one (show Kd.M Kd.string _ _ _ ⟨#[101, 120, 97, 109, 112, 108, 101, 46, 99, 111, 109]⟩ [.string ⟨#[101, 120, 97, 109, 112, 108, 101, 46, 99, 111, 109]⟩] from rfl) (Reps.none _ _))); intro vN wN hoL hb hg_ hnew_; clear hg_ hnew_; (first | rw [← HY.out] at hoL | (simp only [Int.reduceToNat] at hoL; rw [← HY.out] at hoL)); have nc_ := Aside0.mk (Kd.R_below (by (with_reducible repeat (first | apply Kd.R_alloc | apply Kd.R_drewN | apply Kd.R_drew)); exact HR.out) hb); clear HR; have HR := nc_; clear nc_; have nl_ := Aside0.mk (Kd.R_lower hoL (below_size (by repeat (first | (with_reducible first | exact HB.out | apply below_alloc | apply pw_below_drewN | apply below_drew1) | exact HB.out)))); have nb_ := Aside0.mk (below_step (by repeat (first | (with_reducible first | exact HB.out | apply below_alloc | apply pw_below_drewN | apply below_drew1) | exact HB.out)) hb); clear HB; have HLL := nl_; have HB := nb_; clear nl_ nb_; clear hb hoL; obtain ⟨ALL, cLL, eLL⟩ := Kd.R_slice HLL.out; subst eLL) | ((with_reducible refine (RegexError_calls _ _ ?ha ?hf ALL cLL y _ hyl (by rw [HY.out]; exact HEX.out) (Kd.R_reads' HLL.out).2.2 (Kd.R_reads' HLL.out).2.1).mono ?_); (case ha => decide +kernel); (case hf => decide +kernel); rintro e w' ⟨m, rfl, hm, rfl⟩; have HM := Aside0.mk hm; clear hm; obtain ⟨ys, hys⟩ : ∃ ys, ([] : List ByteArray) ++ [m] = ys := ⟨_, rfl⟩; have HNEW := Aside0.mk hys; clear hys) | ((with_reducible refine gate_builtin (b := .append) (xs := #[.tmp 14, .tmp 17]) rfl ?_); (try (refine gate_guard (by rfl) ?_; dsimp only)); at_builtin; refine Kd.R_append Kd.string (w0 := w) w.heap.size rfl (.tmp 14) (.tmp 17) 51 9 (.string ⟨#[]⟩) 16 rfl Tryz.underlying51 infoS rfl (by decide) (by omega) u3 (([] : List ByteArray)) (m) [.string (m)] (fun _ => True) (fun _ => False) rfl rfl ?aP (fun _ hk => hk.elim) ?aF ?aO ?aB ?aS ?aL ?_; (case aP => exact rfl); (case aB => exact (by repeat (first | (with_reducible first | exact HB.out | apply below_alloc | apply pw_below_drewN | apply below_drew1) | exact HB.out))); (case aF => exact (fun _ _ => trivial)); (case aO => exact (by (with_reducible repeat (first | apply Kd.R_alloc | apply Kd.R_drewN | apply Kd.R_drew)); exact HR.out)); (case aS => exact (below_size (by repeat (first | (with_reducible first | exact HB.out | apply below_alloc | apply pw_below_drewN | apply below_drew1) | exact HB.out)))); (case aL => have := HLEN.out; (try simp only [List.length_map, List.length_nil] at *); omega); intro vN wN ho hb hg hat; rw [HNEW.out] at ho; clear HB; clear HR; have HB := Aside0.mk hb; have HR := Aside0.mk ho; clear ho hb hg hat))
      go_ret
      exact ⟨_, ys, rfl, (by (with_reducible repeat (first | apply Kd.R_alloc | apply Kd.R_drewN | apply Kd.R_drew)); exact HR.out), Errs.snoc HNEW.out, by rw [← HNEW.out]; simp, fun p hp => by rw [← HNEW.out] at hp; simp at hp; subst hp; have := HM.out; omega, (by repeat (first | (with_reducible first | exact HB.out | apply below_alloc | apply pw_below_drewN | apply below_drew1) | exact HB.out))⟩
 · rw [decide_eq_false hl]
   cases z with
   | true =>
     go_enter Tryz.func128, Tryz.ntmps128
     go_upto_region 1 with (fail)
     go_cut [3] (fun v3 wc => Aside0 (Kd.R Kd.string 9 wc w.heap.size (fun _ => True) v3 ([] : List ByteArray)) ∧ w = wc)
     case first =>
      go_wp2
      go_meet
      case rel => exact ⟨HR, rfl⟩
     case rest =>
      clear HR
      obtain ⟨HR, rfl⟩ := hcut
      go_wp2_with (first | ((with_reducible refine (H1.out _).mono ?_); rintro e w' ⟨rfl, hb⟩; have nr_ := Aside0.mk (Kd.R_below (by (with_reducible repeat (first | apply Kd.R_alloc | apply Kd.R_drewN | apply Kd.R_drew)); exact HR.out) hb); clear HR; have HR := nr_; clear nr_; have nb_ := Aside0.mk (below_step (by repeat (first | (with_reducible first | exact HB.out | apply below_alloc | apply pw_below_drewN | apply below_drew1) | exact HB.out)) hb); clear HB; have HB := nb_; clear nb_; (try clear hb)) | ((with_reducible refine (HM1.out _ (by repeat (first | (with_reducible first | exact HB.out | apply below_alloc | apply pw_below_drewN | apply below_drew1) | exact HB.out))).mono ?_); rintro e w' ⟨m, rfl, hm, hb⟩; have nr_ := Aside0.mk (Kd.R_below (by (with_reducible repeat (first | apply Kd.R_alloc | apply Kd.R_drewN | apply Kd.R_drew)); exact HR.out) hb); clear HR; have HR := nr_; clear nr_; have nb_ := Aside0.mk (below_step (by repeat (first | (with_reducible first | exact HB.out | apply below_alloc | apply pw_below_drewN | apply below_drew1) | exact HB.out)) hb); clear HB; have HB := nb_; clear nb_; (try clear hb); have HM := Aside0.mk hm; clear hm; obtain ⟨ys, hys⟩ : ∃ ys, ([] : List ByteArray) ++ [m] = ys := ⟨_, rfl⟩; have HNEW := Aside0.mk hys; clear hys) | ((with_reducible refine gate_builtin (b := .append) (xs := #[.tmp 7, .tmp 9]) rfl ?_); (try (refine gate_guard (by rfl) ?_; dsimp only)); at_builtin; refine Kd.R_append Kd.string (w0 := w) w.heap.size rfl (.tmp 7) (.tmp 9) 51 9 (.string ⟨#[]⟩) 16 rfl Tryz.underlying51 infoS rfl (by decide) (by omega) u3 (([] : List ByteArray)) (m) [.string (m)] (fun _ => True) (fun _ => False) rfl rfl ?aP (fun _ hk => hk.elim) ?aF ?aO ?aB ?aS ?aL ?_; (case aP => exact rfl); (case aB => exact (by repeat (first | (with_reducible first | exact HB.out | apply below_alloc | apply pw_below_drewN | apply below_drew1) | exact HB.out))); (case aF => exact (fun _ _ => trivial)); (case aO => exact (by (with_reducible repeat (first | apply Kd.R_alloc | apply Kd.R_drewN | apply Kd.R_drew)); exact HR.out)); (case aS => exact (below_size (by repeat (first | (with_reducible first | exact HB.out | apply below_alloc | apply pw_below_drewN | apply below_drew1) | exact HB.out)))); (case aL => have := HLEN.out; (try simp only [List.length_map, List.length_nil] at *); omega); intro vN wN ho hb hg hat; rw [HNEW.out] at ho; clear HB; clear HR; have HB := Aside0.mk hb; have HR := Aside0.mk ho; clear ho hb hg hat))
      go_ret
      exact ⟨_, ys, rfl, (by (with_reducible repeat (first | apply Kd.R_alloc | apply Kd.R_drewN | apply Kd.R_drew)); exact HR.out), Errs.snoc HNEW.out, by rw [← HNEW.out]; simp, fun p hp => by rw [← HNEW.out] at hp; simp at hp; subst hp; have := HM.out; omega, (by repeat (first | (with_reducible first | exact HB.out | apply below_alloc | apply pw_below_drewN | apply below_drew1) | exact HB.out))⟩
   | false =>
     go_enter Tryz.func128, Tryz.ntmps128
     go_upto_region 1 with (fail)
     go_cut [3] (fun v3 wc => Aside0 (Kd.R Kd.string 9 wc w.heap.size (fun _ => True) v3 ([] : List ByteArray)) ∧ w = wc)
     case first =>
      go_wp2
      go_meet
      case rel => exact ⟨HR, rfl⟩
     case rest =>
      clear HR
      obtain ⟨HR, rfl⟩ := hcut
      go_wp2_with (first | ((with_reducible refine (H1.out _).mono ?_); rintro e w' ⟨rfl, hb⟩; have nr_ := Aside0.mk (Kd.R_below (by (with_reducible repeat (first | apply Kd.R_alloc | apply Kd.R_drewN | apply Kd.R_drew)); exact HR.out) hb); clear HR; have HR := nr_; clear nr_; have nb_ := Aside0.mk (below_step (by repeat (first | (with_reducible first | exact HB.out | apply below_alloc | apply pw_below_drewN | apply below_drew1) | exact HB.out)) hb); clear HB; have HB := nb_; clear nb_; (try clear hb)) | ((with_reducible refine (HM1.out _ (by repeat (first | (with_reducible first | exact HB.out | apply below_alloc | apply pw_below_drewN | apply below_drew1) | exact HB.out))).mono ?_); rintro e w' ⟨m, rfl, hm, hb⟩; have nr_ := Aside0.mk (Kd.R_below (by (with_reducible repeat (first | apply Kd.R_alloc | apply Kd.R_drewN | apply Kd.R_drew)); exact HR.out) hb); clear HR; have HR := nr_; clear nr_; have nb_ := Aside0.mk (below_step (by repeat (first | (with_reducible first | exact HB.out | apply below_alloc | apply pw_below_drewN | apply below_drew1) | exact HB.out)) hb); clear HB; have HB := nb_; clear nb_; (try clear hb); have HM := Aside0.mk hm; clear hm; obtain ⟨ys, hys⟩ : ∃ ys, ([] : List ByteArray) ++ [m] = ys := ⟨_, rfl⟩; have HNEW := Aside0.mk hys; have HYS := Aside0.mk hys.symm; clear hys) | ((with_reducible refine gate_builtin (b := .append) (xs := #[.tmp 7, .tmp 9]) rfl ?_); (try (refine gate_guard (by rfl) ?_; dsimp only)); at_builtin; refine Kd.R_append Kd.string (w0 := w) w.heap.size rfl (.tmp 7) (.tmp 9) 51 9 (.string ⟨#[]⟩) 16 rfl Tryz.underlying51 infoS rfl (by decide) (by omega) u3 (([] : List ByteArray)) (m) [.string (m)] (fun _ => True) (fun _ => False) rfl rfl ?aP (fun _ hk => hk.elim) ?aF ?aO ?aB ?aS ?aL ?_; (case aP => exact rfl); (case aB => exact (by repeat (first | (with_reducible first | exact HB.out | apply below_alloc | apply pw_below_drewN | apply below_drew1) | exact HB.out))); (case aF => exact (fun _ _ => trivial)); (case aO => exact (by (with_reducible repeat (first | apply Kd.R_alloc | apply Kd.R_drewN | apply Kd.R_drew)); exact HR.out)); (case aS => exact (below_size (by repeat (first | (with_reducible first | exact HB.out | apply below_alloc | apply pw_below_drewN | apply below_drew1) | exact HB.out)))); (case aL => have := HLEN.out; (try simp only [List.length_map, List.length_nil] at *); omega); intro vN wN ho hb hg hat; rw [HNEW.out] at ho; clear HB; clear HR; have HB := Aside0.mk hb; have HR := Aside0.mk ho; clear ho hb hg hat) | ((with_reducible refine gate_dst (N := 15) rfl ?_); (try (refine gate_guard (by rfl) ?_; dsimp only)); refine Kd.R_lit Kd.string _ 9 ?hg (N := 15) ?hd (xs := ([⟨#[101, 120, 97, 109, 112, 108, 101, 46, 99, 111, 109]⟩] : List ByteArray)) (inner := [.string ⟨#[101, 120, 97, 109, 112, 108, 101, 46, 99, 111, 109]⟩]) (ok := fun _ => True) (okp := fun _ => True) ?hr ?hp (fun _ hk => hk) trivial (Below.refl _ _) (Nat.le_refl _) (by simp) ?_; (case hd => rfl); (case hg => rfl); (case hr => first | (go_simp; done) | (go_simp; rfl)); (case hp => exact (Reps.one (show Kd.M Kd.string _ _ _ ⟨#[101, 120, 97, 109, 112, 108, 101, 46, 99, 111, 109]⟩ [.string ⟨#[101, 120, 97, 109, 112, 108, 101, 46, 99, 111, 109]⟩] from rfl) (Reps.none _ _))); intro vN wN hoL hb hg_ hnew_; clear hg_ hnew_; (first | rw [← HY.out] at hoL | (simp only [Int.reduceToNat] at hoL; rw [← HY.out] at hoL)); have nc_ := Aside0.mk (Kd.R_below (by (with_reducible repeat (first | apply Kd.R_alloc | apply Kd.R_drewN | apply Kd.R_drew)); exact HR.out) hb); clear HR; have HR := nc_; clear nc_; have nl_ := Aside0.mk (Kd.R_lower hoL (below_size (by repeat (first | (with_reducible first | exact HB.out | apply below_alloc | apply pw_below_drewN | apply below_drew1) | exact HB.out)))); have nb_ := Aside0.mk (below_step (by repeat (first | (with_reducible first | exact HB.out | apply below_alloc | apply pw_below_drewN | apply below_drew1) | exact HB.out)) hb); clear HB; have HLL := nl_; have HB := nb_; clear nl_ nb_; clear hb hoL; obtain ⟨ALL, cLL, eLL⟩ := Kd.R_slice HLL.out; subst eLL) | ((with_reducible refine (RegexError_calls _ _ ?ha ?hf ALL cLL y _ hyl (by rw [HY.out]; exact HEX.out) (Kd.R_reads' HLL.out).2.2 (Kd.R_reads' HLL.out).2.1).mono ?_); (case ha => decide +kernel); (case hf => decide +kernel); rintro e w' ⟨m2, rfl, hm, rfl⟩; have HM2 := Aside0.mk hm; clear hm; clear HNEW HLEN; have HLEN : Aside0 (ys.length ≤ 20) := ⟨by rw [HYS.out]; simp⟩; obtain ⟨zs, hzs⟩ : ∃ zs, ys ++ [m2] = zs := ⟨_, rfl⟩; have HNEW := Aside0.mk hzs; clear hzs) | ((with_reducible refine gate_builtin (b := .append) (xs := #[.tmp 14, .tmp 17]) rfl ?_); (try (refine gate_guard (by rfl) ?_; dsimp only)); at_builtin; refine Kd.R_append Kd.string (w0 := w) w.heap.size rfl (.tmp 14) (.tmp 17) 51 9 (.string ⟨#[]⟩) 16 rfl Tryz.underlying51 infoS rfl (by decide) (by omega) vN (ys) (m2) [.string (m2)] (fun _ => True) (fun _ => False) rfl rfl ?aP (fun _ hk => hk.elim) ?aF ?aO ?aB ?aS ?aL ?_; (case aP => exact rfl); (case aB => exact (by repeat (first | (with_reducible first | exact HB.out | apply below_alloc | apply pw_below_drewN | apply below_drew1) | exact HB.out))); (case aF => exact (fun _ _ => trivial)); (case aO => exact (by (with_reducible repeat (first | apply Kd.R_alloc | apply Kd.R_drewN | apply Kd.R_drew)); exact HR.out)); (case aS => exact (below_size (by repeat (first | (with_reducible first | exact HB.out | apply below_alloc | apply pw_below_drewN | apply below_drew1) | exact HB.out)))); (case aL => have := HLEN.out; (try simp only [List.length_map, List.length_nil] at *); omega); intro vN wN ho hb hg hat; rw [HNEW.out] at ho; clear HB; clear HR; have HB := Aside0.mk hb; have HR := Aside0.mk ho; clear ho hb hg hat))
      go_ret
      exact ⟨_, zs, rfl, (by (with_reducible repeat (first | apply Kd.R_alloc | apply Kd.R_drewN | apply Kd.R_drew)); exact HR.out), Errs.snoc HNEW.out, by rw [← HNEW.out, HYS.out]; simp, fun p hp => by rw [← HNEW.out, HYS.out] at hp; simp at hp; have := HM.out; have := HM2.out; rcases hp with rfl | rfl <;> omega, (by repeat (first | (with_reducible first | exact HB.out | apply below_alloc | apply pw_below_drewN | apply below_drew1) | exact HB.out))⟩
def pName (n : L) : Bool := !(n == []) && pValue n
def pQ (x : L) : Bool := match pieces 47 x with
 | [n] => pName n
 | [p, n] => (most 253 p && sub p) && pName n
 | _ => false
theorem one_cell {w : World} {A : Option Addr} {n : Nat} {a : ByteArray} (h : Kd.C Kd.string w A n [a]) : ∃ ad, A = some ad ∧ w.cell? ad = some (.string a) := by
 have hn := Kd.C_len h
 obtain ⟨ad, e, h0⟩ := Kd.at_string h 0 (by omega) (by simp at hn; omega)
 rw [show (0 : Int).toNat = 0 from rfl, add0] at h0
 exact ⟨ad, e, h0⟩
set_option maxHeartbeats 4000000 in
theorem Qualified_calls (s : ByteArray) (hs : s.size ≤ 2147483647) (w : World) :
   Calls Tryz.prog 23 #[.string s] w fun e w' => e = .returned (.bool (pQ s.data.toList)) ∧ Below w.heap.size w w' := by
 obtain ⟨x, hx, hxs⟩ : ∃ x : L, s = mk x ∧ s.size = x.length := exists_mk s
 have HB := Aside0.mk (Below.refl w.heap.size w)
 have h2 : ∀ w, Calls Tryz.prog 53 #[.string s, .int .u8 47] w fun e w' => ∃ v0_ : Value, e = .returned (v0_) ∧ Kd.R Kd.string 9 w' w.heap.size (fun _ => True) v0_ ((pieces 47 s.data.toList).map mk) ∧ Below w.heap.size w w' := fun w => Pieces_calls 47 s (by omega) w
 rw [show s.data.toList = x by rw [hx]; rfl] at h2 ⊢
 have hne := pieces_ne 47 x
 have hle := pieces_le 47 x
 have hlen := pieces_len 47 x
 have hP : ∀ ps, pieces 47 x = ps → pQ x = match ps with
   | [n] => pName n
   | [p, n] => (most 253 p && sub p) && pName n
   | _ => false := by intro ps h; unfold pQ; rw [h]
 obtain ⟨ps, hps⟩ : ∃ ps, pieces 47 x = ps := ⟨_, rfl⟩
 rw [hP ps hps]
 rw [hps] at h2 hne hle hlen
 clear hP hps hx
 match ps, hne, hle, hlen, h2 with
 | [], hne, _, _, _ => exact absurd rfl hne
 | [n], _, hle, _, h2 =>
   have hnl : n.length ≤ x.length := hle n (by simp)
   obtain ⟨nn, hnn⟩ : ∃ nn, mk n = nn := ⟨_, rfl⟩
   have hnz : nn.size ≤ 2147483647 := by rw [← hnn, mk_size]; omega
   have hnd : nn.data.toList = n := by rw [← hnn]; rfl
   simp only [List.map_cons, List.map_nil, hnn] at h2
   have h3 : ∀ w, Calls Tryz.prog 24 #[.string nn] w fun e w' => e = .returned (.bool (pValue n)) ∧ w = w' := fun w => by
    have := LabelText_calls nn (by omega) w; rw [hnd] at this; exact this
   have H2 := Aside0.mk h2; have H3 := Aside0.mk h3
   have hnt : nn.toList = n := by rw [← hnn, mk_toList]
   clear h2 h3 hle hnl hxs hnd
   show Calls _ _ _ _ fun e w' => e = .returned (.bool (pName n)) ∧ _
   by_cases h0 : n = []
   · have HN : Aside0 (pName n = false) := ⟨by rw [h0]; rfl⟩
     have t0 : (nn.toList == ([] : List UInt8)) = true := by rw [hnt, h0]; rfl
     have t1 : (nn.toList != ([] : List UInt8)) = false := by rw [bne, t0]; rfl
     rw [HN.out]
     clear h0 hnt hnn
     go_enter Tryz.func23, Tryz.ntmps23
     go_wp2_with (first | ((with_reducible refine (H2.out _).mono ?_); rintro e w' ⟨v0, rfl, g1, hb⟩; (obtain ⟨A1, c1, e1⟩ := Kd.R_slice g1); (simp only [List.length_cons, List.length_nil, Nat.zero_add, Nat.reduceAdd] at e1); subst e1; (obtain ⟨ad, eA, k0⟩ := one_cell (Kd.R_reads' g1).2.2); subst eA; clear g1; have nb_ := Aside0.mk (below_step (by repeat (first | (with_reducible first | exact HB.out | apply below_alloc | apply pw_below_drewN | apply below_drew1) | exact HB.out)) hb); clear HB; have HB := nb_; clear nb_; (try clear hb)))
     go_ret
     exact ⟨rfl, (by repeat (first | (with_reducible first | exact HB.out | apply below_alloc | apply pw_below_drewN | apply below_drew1) | exact HB.out))⟩
   · have HN : Aside0 (pName n = pValue n) := ⟨by unfold pName; rw [show (n == []) = false from beq_eq_false_iff_ne.2 h0]; rfl⟩
     have t0 : (nn.toList == ([] : List UInt8)) = false := by rw [hnt]; exact beq_eq_false_iff_ne.2 h0
     have t1 : (nn.toList != ([] : List UInt8)) = true := by rw [bne, t0]; rfl
     rw [HN.out]
     obtain ⟨q, hq⟩ : ∃ q, pValue n = q := ⟨_, rfl⟩
     rw [hq] at H3 ⊢
     clear h0 hnt hnn hq HN
     go_enter Tryz.func23, Tryz.ntmps23
     go_wp2_with (first | ((with_reducible refine (H2.out _).mono ?_); rintro e w' ⟨v0, rfl, g1, hb⟩; (obtain ⟨A1, c1, e1⟩ := Kd.R_slice g1); (simp only [List.length_cons, List.length_nil, Nat.zero_add, Nat.reduceAdd] at e1); subst e1; (obtain ⟨ad, eA, k0⟩ := one_cell (Kd.R_reads' g1).2.2); subst eA; clear g1; have nb_ := Aside0.mk (below_step (by repeat (first | (with_reducible first | exact HB.out | apply below_alloc | apply pw_below_drewN | apply below_drew1) | exact HB.out)) hb); clear HB; have HB := nb_; clear nb_; (try clear hb)) | ((with_reducible refine (H3.out _).mono ?_); rintro e w' ⟨rfl, rfl⟩))
     go_ret
     exact ⟨rfl, (by repeat (first | (with_reducible first | exact HB.out | apply below_alloc | apply pw_below_drewN | apply below_drew1) | exact HB.out))⟩
 | [p, n], _, hle, _, h2 =>
   have hnl : n.length ≤ x.length := hle n (by simp)
   have hpl : p.length ≤ x.length := hle p (by simp)
   obtain ⟨nn, hnn⟩ : ∃ nn, mk n = nn := ⟨_, rfl⟩
   have hnz : nn.size ≤ 2147483647 := by rw [← hnn, mk_size]; omega
   have hnd : nn.data.toList = n := by rw [← hnn]; rfl
   obtain ⟨pp, hpp⟩ : ∃ pp, mk p = pp := ⟨_, rfl⟩
   have hpz : pp.size ≤ 2147483647 := by rw [← hpp, mk_size]; omega
   have hpd : pp.data.toList = p := by rw [← hpp]; rfl
   simp only [List.map_cons, List.map_nil, hnn, hpp] at h2
   have h3 : ∀ w, Calls Tryz.prog 24 #[.string nn] w fun e w' => e = .returned (.bool (pValue n)) ∧ w = w' := fun w => by
    have := LabelText_calls nn (by omega) w; rw [hnd] at this; exact this
   have h4 : ∀ w, Calls Tryz.prog 54 #[.string pp] w fun e w' => e = .returned (.bool (most 253 p && sub p)) ∧ Below w.heap.size w w' := fun w => by
    have := pSub_calls pp (by omega) w; rw [hpd] at this; exact this
   show Calls _ _ _ _ fun e w' => e = .returned (.bool ((most 253 p && sub p) && pName n)) ∧ _
   obtain ⟨z, hz⟩ : ∃ z, (most 253 p && sub p) = z := ⟨_, rfl⟩
   rw [hz] at h4 ⊢
   have H2 := Aside0.mk h2; have H3 := Aside0.mk h3; have H4 := Aside0.mk h4
   have hnt : nn.toList = n := by rw [← hnn, mk_toList]
   clear h2 h3 h4 hle hnl hpl hxs hnd hpd hz hpp
   have FIRST : True := trivial
   cases z with
   | false =>
     clear hnt hnn
     go_enter Tryz.func23, Tryz.ntmps23
     go_wp2_with (first | ((with_reducible refine (H2.out _).mono ?_); rintro e w' ⟨v0, rfl, g1, hb⟩; (obtain ⟨A1, c1, e1⟩ := Kd.R_slice g1); (simp only [List.length_cons, List.length_nil, Nat.zero_add, Nat.reduceAdd] at e1); subst e1; (obtain ⟨ad, eA, k0, k1⟩ := two_cells (Kd.R_reads' g1).2.2); subst eA; clear g1; have nb_ := Aside0.mk (below_step (by repeat (first | (with_reducible first | exact HB.out | apply below_alloc | apply pw_below_drewN | apply below_drew1) | exact HB.out)) hb); clear HB; have HB := nb_; clear nb_; (try clear hb)) | ((with_reducible refine (H4.out _).mono ?_); rintro e w' ⟨rfl, hb⟩; clear k0 k1; have nb_ := Aside0.mk (below_step (by repeat (first | (with_reducible first | exact HB.out | apply below_alloc | apply pw_below_drewN | apply below_drew1) | exact HB.out)) hb); clear HB; have HB := nb_; clear nb_; (try clear hb)))
     go_ret
     exact ⟨rfl, (by repeat (first | (with_reducible first | exact HB.out | apply below_alloc | apply pw_below_drewN | apply below_drew1) | exact HB.out))⟩
   | true =>
     by_cases h0 : n = []
     · have HN : Aside0 ((true && pName n) = false) := ⟨by rw [h0]; rfl⟩
       have t0 : (nn.toList == ([] : List UInt8)) = true := by rw [hnt, h0]; rfl
       have t1 : (nn.toList != ([] : List UInt8)) = false := by rw [bne, t0]; rfl
       rw [HN.out]
       clear h0 hnt hnn
       go_enter Tryz.func23, Tryz.ntmps23
       go_wp2_with (first | ((with_reducible refine (H2.out _).mono ?_); rintro e w' ⟨v0, rfl, g1, hb⟩; (obtain ⟨A1, c1, e1⟩ := Kd.R_slice g1); (simp only [List.length_cons, List.length_nil, Nat.zero_add, Nat.reduceAdd] at e1); subst e1; (obtain ⟨ad, eA, k0, k1⟩ := two_cells (Kd.R_reads' g1).2.2); subst eA; clear g1; have nb_ := Aside0.mk (below_step (by repeat (first | (with_reducible first | exact HB.out | apply below_alloc | apply pw_below_drewN | apply below_drew1) | exact HB.out)) hb); clear HB; have HB := nb_; clear nb_; (try clear hb)) | ((with_reducible refine (H4.out _).mono ?_); rintro e w' ⟨rfl, hb⟩; replace k0 := pw_cell_below hb k0; replace k1 := pw_cell_below hb k1; have nb_ := Aside0.mk (below_step (by repeat (first | (with_reducible first | exact HB.out | apply below_alloc | apply pw_below_drewN | apply below_drew1) | exact HB.out)) hb); clear HB; have HB := nb_; clear nb_; (try clear hb)))
       go_ret
       exact ⟨rfl, (by repeat (first | (with_reducible first | exact HB.out | apply below_alloc | apply pw_below_drewN | apply below_drew1) | exact HB.out))⟩
     · have HN : Aside0 ((true && pName n) = pValue n) := ⟨by unfold pName; rw [show (n == []) = false from beq_eq_false_iff_ne.2 h0]; rfl⟩
       have t0 : (nn.toList == ([] : List UInt8)) = false := by rw [hnt]; exact beq_eq_false_iff_ne.2 h0
       have t1 : (nn.toList != ([] : List UInt8)) = true := by rw [bne, t0]; rfl
       rw [HN.out]
       obtain ⟨q, hq⟩ : ∃ q, pValue n = q := ⟨_, rfl⟩
       rw [hq] at H3 ⊢
       clear h0 hnt hnn hq HN
       go_enter Tryz.func23, Tryz.ntmps23
       go_wp2_with (first | ((with_reducible refine (H2.out _).mono ?_); rintro e w' ⟨v0, rfl, g1, hb⟩; (obtain ⟨A1, c1, e1⟩ := Kd.R_slice g1); (simp only [List.length_cons, List.length_nil, Nat.zero_add, Nat.reduceAdd] at e1); subst e1; (obtain ⟨ad, eA, k0, k1⟩ := two_cells (Kd.R_reads' g1).2.2); subst eA; clear g1; have nb_ := Aside0.mk (below_step (by repeat (first | (with_reducible first | exact HB.out | apply below_alloc | apply pw_below_drewN | apply below_drew1) | exact HB.out)) hb); clear HB; have HB := nb_; clear nb_; (try clear hb)) | ((with_reducible refine (H4.out _).mono ?_); rintro e w' ⟨rfl, hb⟩; replace k0 := pw_cell_below hb k0; replace k1 := pw_cell_below hb k1; have nb_ := Aside0.mk (below_step (by repeat (first | (with_reducible first | exact HB.out | apply below_alloc | apply pw_below_drewN | apply below_drew1) | exact HB.out)) hb); clear HB; have HB := nb_; clear nb_; (try clear hb)) | ((with_reducible refine (H3.out _).mono ?_); rintro e w' ⟨rfl, rfl⟩))
       go_ret
       exact ⟨rfl, (by repeat (first | (with_reducible first | exact HB.out | apply below_alloc | apply pw_below_drewN | apply below_drew1) | exact HB.out))⟩
 | a :: b :: c :: d, _, hle, hlen, h2 =>
   show Calls _ _ _ _ fun e w' => e = .returned (.bool false) ∧ _
   obtain ⟨l, hl⟩ : ∃ l, (a :: b :: c :: d).map mk = l := ⟨_, rfl⟩
   have hll : 3 ≤ l.length := by rw [← hl]; simp
   have hlm : l.length ≤ 2147483648 := by rw [← hl, List.length_map]; omega
   rw [hl] at h2
   have H2 := Aside0.mk h2
   clear h2 hl hle hlen hxs
   go_enter Tryz.func23, Tryz.ntmps23
   go_wp2_with (first | ((with_reducible refine (H2.out _).mono ?_); rintro e w' ⟨v0, rfl, g1, hb⟩; (obtain ⟨A1, c1, e1⟩ := Kd.R_slice g1); subst e1; clear g1; have nb_ := Aside0.mk (below_step (by repeat (first | (with_reducible first | exact HB.out | apply below_alloc | apply pw_below_drewN | apply below_drew1) | exact HB.out)) hb); clear HB; have HB := nb_; clear nb_; (try clear hb)))
   go_ret
   exact ⟨rfl, (by repeat (first | (with_reducible first | exact HB.out | apply below_alloc | apply pw_below_drewN | apply below_drew1) | exact HB.out))⟩
end Go.Proofs.YthfjolafikgpoaaGreatDoor.Hand
namespace Go.Proofs.YthfjolafikgpoaaGreatDoor.Hand
open Go.RowKit Go.Proofs.YthfjolafikgpoaaGreatDoor.PFnSelDecidesLabels Go.Proofs.YthfjolafikgpoaaGreatDoorW.PrintWords Go.Proofs.YthfjolafikgpoaaGreatDoorW.PrintLast Go.Proofs.YthfjolafikgpoaaGreatDoorW.PrintMore Go.Proofs.YthfjolafikgpoaaGreatDoor.Base
set_option linter.unusedVariables false
set_option linter.unusedSimpArgs false
set_option maxRecDepth 100000
theorem each_l0 (a : ByteArray) (ha : a.size ≤ 100) : ∀ (d i : Nat) (ys : List ByteArray), i + d = ys.length → ys.length ≤ 10 → (∀ p ∈ ys.drop i, p.size ≤ 6000) →
   Ev (fun k => validation_prefixEach.l0 k ys a (ys.length : Int) i) (ys.take i ++ (ys.drop i).map (a ++ ·))
 | 0, i, ys, hi, _, _ => by
   refine Ev.step (f := fun _ => some (ys.take i ++ (ys.drop i).map (a ++ ·))) (fun k => ?_) (Ev.now _)
   simp only [validation_prefixEach.l0]
   rw [if_neg (by omega), List.take_of_length_le (by omega), List.drop_eq_nil_of_le (by omega)]
   simp
 | d + 1, i, ys, hi, hn, hy => by
   have hlt : i < ys.length := by omega
   have hp : rdOf ByteArray.empty ys (i : Int) = ys[i] := by unfold rdOf; rw [Int.toNat_natCast, getD_of _ _ hlt]
   have hd := List.drop_eq_getElem_cons hlt
   have hz : ys[i].size ≤ 6000 := hy _ (by rw [hd]; exact List.mem_cons_self)
   have es : ys.set i (a ++ ys[i]) = ys.take i ++ (a ++ ys[i]) :: ys.drop (i + 1) := by rw [List.set_eq_take_append_cons_drop, if_pos hlt]
   have el : (ys.set i (a ++ ys[i])).length = ys.length := by simp
   have et : (ys.set i (a ++ ys[i])).take (i + 1) = ys.take i ++ [a ++ ys[i]] := by
    rw [es, List.take_append]
    rw [List.take_take, Nat.min_eq_right (by omega)]
    simp [Nat.min_eq_left (Nat.le_of_lt hlt)]
   have ed : (ys.set i (a ++ ys[i])).drop (i + 1) = ys.drop (i + 1) := by
    rw [List.drop_set_of_lt (by omega)]
   have h := each_l0 a ha d (i + 1) (ys.set i (a ++ ys[i])) (by omega) (by omega) (by rw [ed]; exact fun p hp => hy p (by rw [hd]; exact List.mem_cons_of_mem _ hp))
   rw [et, ed, el] at h
   rw [show ys.take i ++ (ys.drop i).map (a ++ ·) = ys.take i ++ [a ++ ys[i]] ++ (ys.drop (i + 1)).map (a ++ ·) by rw [hd, List.map_cons, List.append_assoc]; rfl]
   refine Ev.step (fun k => ?_) h
   simp only [validation_prefixEach.l0]
   rw [if_pos (by omega), if_pos (by omega), if_pos (by omega), hp, if_pos (by omega), wrap_id (by omega) (by omega), Int.toNat_natCast]
   rfl
theorem Each_calls (xs : List ByteArray) (hn : xs.length ≤ 10) (hx : ∀ p ∈ xs, p.size ≤ 5000) (w0 w : World) (hB : Below w0.heap.size w0 w) (v : Value) (h : Kd.R Kd.string 9 w w0.heap.size (fun _ => True) v xs) :
   Calls Tryz.prog 129 #[v, .string (⟨#[112, 114, 101, 102, 105, 120, 32, 112, 97, 114, 116, 32]⟩ : ByteArray)] w fun e w' => ∃ v0 : Value, e = .returned v0 ∧ Kd.R Kd.string 9 w' w0.heap.size (fun _ => True) v0 (xs.map ((⟨#[112, 114, 101, 102, 105, 120, 32, 112, 97, 114, 116, 32]⟩ : ByteArray) ++ ·)) ∧ Below w0.heap.size w0 w' := by
 have he := each_l0 (⟨#[112, 114, 101, 102, 105, 120, 32, 112, 97, 114, 116, 32]⟩ : ByteArray) (by decide) xs.length 0 xs (by omega) hn (fun p hp => by have := hx p (by simpa using hp); omega)
 simp only [List.take_zero, List.drop_zero, List.nil_append] at he
 obtain ⟨k, hk⟩ := he.rounds
 refine (validation_prefixEach.calls k (fun _ => True) v xs (⟨#[112, 114, 101, 102, 105, 120, 32, 112, 97, 114, 116, 32]⟩ : ByteArray) _ w0 w hB h hk).mono ?_
 rintro e w' ⟨v0, rfl, g1, g2, _⟩
 exact ⟨v0, rfl, Kd.R_mono g1 (fun _ _ => trivial), g2⟩
theorem Empty_calls : ∃ em : ByteArray, em.size ≤ 100 ∧ ∀ w, Calls Tryz.prog 127 #[] w fun e w' => e = .returned (.string em) ∧ Drawn0 w w' :=
 ⟨(⟨#[109, 117, 115, 116, 32, 98, 101, 32, 110, 111, 110, 45, 101, 109, 112, 116, 121]⟩ : ByteArray), by decide, fun w => validation_EmptyError.calls _ w rfl⟩
theorem pName_eq (n : L) : pName n = ((!(n == []) && most 63 n) && qual n) := by
 unfold pName pValue labelValue
 cases h : n == [] with
 | true => rfl
 | false => simp
theorem name_cases (x : L) : (∃ ps : List L, pieces 47 x = ps ∧ 3 ≤ ps.length ∧ ps.length ≤ x.length + 1 ∧ pQ x = false) ∨ (∃ n : L, n.length ≤ x.length ∧ ((pieces 47 x = [n] ∧ pQ x = pName n) ∨ ∃ p : L, p.length ≤ x.length ∧ pieces 47 x = [p, n] ∧ pQ x = ((most 253 p && sub p) && pName n))) := by
 have hne := pieces_ne 47 x
 have hle := pieces_le 47 x
 have hlen := pieces_len 47 x
 unfold pQ
 match h : pieces 47 x with
 | [] => exact absurd h hne
 | [n] => rw [h] at hle; exact .inr ⟨n, hle n (by simp), .inl ⟨rfl, rfl⟩⟩
 | [p, n] => rw [h] at hle; exact .inr ⟨n, hle n (by simp), .inr ⟨p, hle p (by simp), rfl, rfl⟩⟩
 | a :: b :: c :: d => rw [h] at hlen; exact .inl ⟨_, rfl, by simp, hlen, rfl⟩
set_option maxHeartbeats 8000000 in
theorem errs76_more (s : ByteArray) (hs : s.size ≤ 100000000) (w : World) (l : List ByteArray) (hl : 3 ≤ l.length) (hlm : l.length ≤ 100000001)
   (h2 : ∀ w, Calls Tryz.prog 126 #[.string s, .string ⟨#[47]⟩] w fun e w' => ∃ v0_ : Value, e = .returned (v0_) ∧ Kd.R Kd.string 9 w' w.heap.size (fun _ => True) v0_ l ∧ Below w.heap.size w w') :
   Calls Tryz.prog 110 #[.string s] w fun e w' => Errs2 false w e w' := by
 have HB := Aside0.mk (Below.refl w.heap.size w)
 have HR : Aside0 (Kd.R Kd.string 9 w w.heap.size (fun _ => True) (.slice none 0 0) ([] : List ByteArray)) := ⟨Kd.R_nil _ _ _ _ _⟩
 have HLEN : Aside0 (([] : List ByteArray).length ≤ 20) := ⟨by decide⟩
 have H2 := Aside0.mk h2
 have HEX : Aside0 (∀ p ∈ ([⟨#[77, 121, 78, 97, 109, 101]⟩, ⟨#[109, 121, 46, 110, 97, 109, 101]⟩, ⟨#[49, 50, 51, 45, 97, 98, 99]⟩] : List ByteArray), p.size ≤ 100) := ⟨by decide⟩
 obtain ⟨y, hy⟩ : ∃ y : List ByteArray, y = [⟨#[77, 121, 78, 97, 109, 101]⟩, ⟨#[109, 121, 46, 110, 97, 109, 101]⟩, ⟨#[49, 50, 51, 45, 97, 98, 99]⟩] := ⟨_, rfl⟩
 have hyl : y.length ≤ 3 := by rw [hy]; decide
 have HY := Aside0.mk hy
 clear h2 hy
 have g1_ : (((l.length : Nat) : Int) == 1) = false := by rw [beq_eq_false_iff_ne]; omega
 have g2_ : (((l.length : Nat) : Int) == 2) = false := by rw [beq_eq_false_iff_ne]; omega
 go_enter Tryz.func110, Tryz.ntmps110
 go_upto_region 1 with (fail)
 go_cut [3] (fun v3 wc => Aside0 (Kd.R Kd.string 9 wc w.heap.size (fun _ => True) v3 ([] : List ByteArray)) ∧ w = wc)
 case first =>
  go_wp2
  go_meet
  case rel => exact ⟨HR, rfl⟩
 case rest =>
 clear HR
 obtain ⟨HR, rfl⟩ := hcut
 go_wp2_with (first | ((with_reducible refine (H2.out _).mono ?_); rintro e w' ⟨v0, rfl, g1, hb⟩; have nr_ := Aside0.mk (Kd.R_below (by (with_reducible repeat (first | apply Kd.R_alloc | apply Kd.R_drewN | apply Kd.R_drew)); exact HR.out) hb); clear HR; have HR := nr_; clear nr_; (obtain ⟨A1, c1, e1⟩ := Kd.R_slice g1); subst e1; have HQ := Aside0.mk (Kd.R_reads' g1); clear g1; have nb_ := Aside0.mk (below_step (by repeat (first | (with_reducible first | exact HB.out | apply below_alloc | apply pw_below_drewN | apply below_drew1) | exact HB.out)) hb); clear HB; have HB := nb_; clear nb_; (try clear hb)) | ((with_reducible refine gate_dst (N := 13) rfl ?_); (try (refine gate_guard (by rfl) ?_; dsimp only)); refine Kd.R_lit Kd.string _ 9 ?hg (N := 13) ?hd (xs := ([⟨#[77, 121, 78, 97, 109, 101]⟩, ⟨#[109, 121, 46, 110, 97, 109, 101]⟩, ⟨#[49, 50, 51, 45, 97, 98, 99]⟩] : List ByteArray)) (inner := [.string ⟨#[77, 121, 78, 97, 109, 101]⟩, .string ⟨#[109, 121, 46, 110, 97, 109, 101]⟩, .string ⟨#[49, 50, 51, 45, 97, 98, 99]⟩]) (ok := fun _ => True) (okp := fun _ => True) ?hr ?hp (fun _ hk => hk) trivial (Below.refl _ _) (Nat.le_refl _) (by simp) ?_; (case hd => rfl); (case hg => rfl); (case hr => first | (go_simp; done) | (go_simp; rfl)); (case hp => exact (Reps.one (show Kd.M Kd.string _ _ _ ⟨#[77, 121, 78, 97, 109, 101]⟩ [.string ⟨#[77, 121, 78, 97, 109, 101]⟩] from rfl) (Reps.one (show Kd.M Kd.string _ _ _ ⟨#[109, 121, 46, 110, 97, 109, 101]⟩ [.string ⟨#[109, 121, 46, 110, 97, 109, 101]⟩] from rfl) (Reps.one (show Kd.M Kd.string _ _ _ ⟨#[49, 50, 51, 45, 97, 98, 99]⟩ [.string ⟨#[49, 50, 51, 45, 97, 98, 99]⟩] from rfl) (Reps.none _ _))))); intro vN wN hoL hb hg_ hnew_; clear hg_ hnew_; (first | rw [← HY.out] at hoL | (simp only [Int.reduceToNat] at hoL; rw [← HY.out] at hoL)); have nc_ := Aside0.mk (Kd.R_below (by (with_reducible repeat (first | apply Kd.R_alloc | apply Kd.R_drewN | apply Kd.R_drew)); exact HR.out) hb); clear HR; have HR := nc_; clear nc_; have nl_ := Aside0.mk (Kd.R_lower hoL (below_size (by repeat (first | (with_reducible first | exact HB.out | apply below_alloc | apply pw_below_drewN | apply below_drew1) | exact HB.out)))); have nb_ := Aside0.mk (below_step (by repeat (first | (with_reducible first | exact HB.out | apply below_alloc | apply pw_below_drewN | apply below_drew1) | exact HB.out)) hb); clear HB; have HLL := nl_; have HB := nb_; clear nl_ nb_; clear hb hoL; obtain ⟨ALL, cLL, eLL⟩ := Kd.R_slice HLL.out; subst eLL) | ((with_reducible refine (RegexError_calls _ _ ?ha ?hf ALL cLL y _ hyl (by rw [HY.out]; exact HEX.out) (Kd.R_reads' HLL.out).2.2 (Kd.R_reads' HLL.out).2.1).mono ?_); (case ha => decide +kernel); (case hf => decide +kernel); rintro e w' ⟨m, rfl, hm, rfl⟩; have HM := Aside0.mk hm; have b1 := eq_true (show 17 + m.size ≤ 9223372036854775807 by omega); have b2 := eq_false (show ¬ (9223372036854775807 < 17 + m.size) by omega); have b3 := eq_true (show 17 + m.size + 74 ≤ 9223372036854775807 by omega); have b4 := eq_false (show ¬ (9223372036854775807 < 17 + m.size + 74) by omega); clear hm; obtain ⟨ys, hys⟩ : ∃ ys, ([] : List ByteArray) ++ [(⟨#[97, 32, 113, 117, 97, 108, 105, 102, 105, 101, 100, 32, 110, 97, 109, 101, 32]⟩ : ByteArray) ++ m ++ (⟨#[32, 119, 105, 116, 104, 32, 97, 110, 32, 111, 112, 116, 105, 111, 110, 97, 108, 32, 68, 78, 83, 32, 115, 117, 98, 100, 111, 109, 97, 105, 110, 32, 112, 114, 101, 102, 105, 120, 32, 97, 110, 100, 32, 39, 47, 39, 32, 40, 101, 46, 103, 46, 32, 39, 101, 120, 97, 109, 112, 108, 101, 46, 99, 111, 109, 47, 77, 121, 78, 97, 109, 101, 39, 41]⟩ : ByteArray)] = ys := ⟨_, rfl⟩; have HNEW := Aside0.mk hys; have HYS := Aside0.mk hys.symm; clear hys) | ((with_reducible refine gate_builtin (b := .append) (xs := #[.tmp 12, .tmp 17]) rfl ?_); (try (refine gate_guard (by rfl) ?_; dsimp only)); at_builtin; refine Kd.R_append Kd.string (w0 := w) w.heap.size rfl (.tmp 12) (.tmp 17) 51 9 (.string ⟨#[]⟩) 16 rfl Tryz.underlying51 infoS rfl (by decide) (by omega) u3 (([] : List ByteArray)) ((⟨#[97, 32, 113, 117, 97, 108, 105, 102, 105, 101, 100, 32, 110, 97, 109, 101, 32]⟩ : ByteArray) ++ m ++ (⟨#[32, 119, 105, 116, 104, 32, 97, 110, 32, 111, 112, 116, 105, 111, 110, 97, 108, 32, 68, 78, 83, 32, 115, 117, 98, 100, 111, 109, 97, 105, 110, 32, 112, 114, 101, 102, 105, 120, 32, 97, 110, 100, 32, 39, 47, 39, 32, 40, 101, 46, 103, 46, 32, 39, 101, 120, 97, 109, 112, 108, 101, 46, 99, 111, 109, 47, 77, 121, 78, 97, 109, 101, 39, 41]⟩ : ByteArray)) [.string ((⟨#[97, 32, 113, 117, 97, 108, 105, 102, 105, 101, 100, 32, 110, 97, 109, 101, 32]⟩ : ByteArray) ++ m ++ (⟨#[32, 119, 105, 116, 104, 32, 97, 110, 32, 111, 112, 116, 105, 111, 110, 97, 108, 32, 68, 78, 83, 32, 115, 117, 98, 100, 111, 109, 97, 105, 110, 32, 112, 114, 101, 102, 105, 120, 32, 97, 110, 100, 32, 39, 47, 39, 32, 40, 101, 46, 103, 46, 32, 39, 101, 120, 97, 109, 112, 108, 101, 46, 99, 111, 109, 47, 77, 121, 78, 97, 109, 101, 39, 41]⟩ : ByteArray))] (fun _ => True) (fun _ => False) rfl rfl ?aP (fun _ hk => hk.elim) ?aF ?aO ?aB ?aS ?aL ?_; (case aP => exact rfl); (case aB => exact (by repeat (first | (with_reducible first | exact HB.out | apply below_alloc | apply pw_below_drewN | apply below_drew1) | exact HB.out))); (case aF => exact (fun _ _ => trivial)); (case aO => exact (by (with_reducible repeat (first | apply Kd.R_alloc | apply Kd.R_drewN | apply Kd.R_drew)); exact HR.out)); (case aS => exact (below_size (by repeat (first | (with_reducible first | exact HB.out | apply below_alloc | apply pw_below_drewN | apply below_drew1) | exact HB.out)))); (case aL => have := HLEN.out; (try simp only [List.length_map, List.length_nil] at *); omega); intro vN wN ho hb hg hat; rw [HNEW.out] at ho; clear HB; clear HR; have HB := Aside0.mk hb; have HR := Aside0.mk ho; clear ho hb hg hat))
 go_ret
 exact ⟨_, ys, rfl, (by (with_reducible repeat (first | apply Kd.R_alloc | apply Kd.R_drewN | apply Kd.R_drew)); exact HR.out), Errs.snoc HYS.out.symm, by rw [HYS.out]; simp, fun p hp => by rw [HYS.out] at hp; simp at hp; subst hp; have := HM.out; simp only [app_size]; have z1 : ∀ d : Array UInt8, (ByteArray.mk d).size = d.size := fun _ => rfl; simp only [z1]; simp; omega, (by repeat (first | (with_reducible first | exact HB.out | apply below_alloc | apply pw_below_drewN | apply below_drew1) | exact HB.out))⟩
def Sgs (pre : Bool) (segs : List ByteArray) (nn : ByteArray) : Prop := (segs = [nn] ∧ pre = true) ∨ ∃ pp : ByteArray, segs = [pp, nn] ∧ pp.size ≤ 100000000 ∧ pre = (most 253 pp.data.toList && sub pp.data.toList)
set_option maxHeartbeats 16000000 in
theorem errs76_few (s nn : ByteArray) (pre : Bool) (segs : List ByteArray) (hg : Sgs pre segs nn) (hnz : nn.size ≤ 100000000) (w : World) (hT : Tab w)
   (h2 : ∀ w, Calls Tryz.prog 126 #[.string s, .string ⟨#[47]⟩] w fun e w' => ∃ v0_ : Value, e = .returned (v0_) ∧ Kd.R Kd.string 9 w' w.heap.size (fun _ => True) v0_ segs ∧ Below w.heap.size w w') :
   Calls Tryz.prog 110 #[.string s] w fun e w' => Errs2 (pre && pName nn.data.toList) w e w' := by
 have HB := Aside0.mk (Below.refl w.heap.size w)
 have HR : Aside0 (Kd.R Kd.string 9 w w.heap.size (fun _ => True) (.slice none 0 0) ([] : List ByteArray)) := ⟨Kd.R_nil _ _ _ _ _⟩
 have H2 := Aside0.mk h2
 have HG := Aside0.mk hg
 have HT : Aside0 (Tab w) := ⟨hT⟩
 clear h2 hg hT
 go_enter Tryz.func110, Tryz.ntmps110
 go_upto_region 1 with (fail)
 go_cut [3] (fun v3 wc => Aside0 (Kd.R Kd.string 9 wc w.heap.size (fun _ => True) v3 ([] : List ByteArray)) ∧ w = wc)
 case first =>
  go_wp2
  go_meet
  case rel => exact ⟨HR, rfl⟩
 case rest =>
 clear HR
 obtain ⟨HR, rfl⟩ := hcut
 go_upto_block 0 with (first | ((with_reducible refine (H2.out _).mono ?_); rintro e w1 ⟨v0, rfl, g1, hb⟩; have nr_ := Aside0.mk (Kd.R_below (by (with_reducible repeat (first | apply Kd.R_alloc | apply Kd.R_drewN | apply Kd.R_drew)); exact HR.out) hb); clear HR; have HR := nr_; clear nr_; (obtain ⟨A1, c1, e1⟩ := Kd.R_slice g1); subst e1; have HQ := Aside0.mk g1; clear g1; have nb_ := Aside0.mk (below_step (by repeat (first | (with_reducible first | exact HB.out | apply below_alloc | apply pw_below_drewN | apply below_drew1) | exact HB.out)) hb); clear HB; have HB := nb_; clear nb_; (try clear hb)))
 clear H2
 go_cut [3, 5] (fun v3 v5 wc => v5 = .string nn ∧ ∃ xs : List ByteArray, Aside0 (Kd.R Kd.string 9 wc w.heap.size (fun _ => True) v3 xs) ∧ Aside0 ((xs == []) = pre) ∧ Aside0 (xs.length ≤ 11 ∧ ∀ p ∈ xs, p.size ≤ 6000) ∧ Aside0 (Below w.heap.size w wc))
 case first =>
  rcases HG.out with ⟨rfl, rfl⟩ | ⟨pp, rfl, hpz, hpre⟩
  · have HQ2 := HQ.out
    clear HQ; have HQ := Aside0.mk HQ2; clear HQ2
    (obtain ⟨ad, eA, k0⟩ := one_cell (Kd.R_reads' HQ.out).2.2); subst eA
    go_wp2
    go_meet
    case rel => exact ⟨rfl, [], HR, ⟨rfl⟩, ⟨by decide, fun p hp => by simp at hp⟩, HB⟩
  · have HQ2 := HQ.out
    clear HQ; have HQ := Aside0.mk HQ2; clear HQ2
    (obtain ⟨ad, eA, k0, k1⟩ := two_cells (Kd.R_reads' HQ.out).2.2); subst eA
    have HPRE := Aside0.mk hpre
    clear hpre
    by_cases hp0 : pp.size = 0
    · have e1 : (((pp.size : Nat) : Int) == 0) = true := by rw [beq_iff_eq]; omega
      have HP : Aside0 (pre = false) := ⟨by rw [HPRE.out, show pp.data.toList = [] from List.eq_nil_of_length_eq_zero (by have := Lib.size_eq pp; omega)]; exact sub_nil⟩
      obtain ⟨em, hem, h97⟩ := Empty_calls
      have H97 := Aside0.mk h97
      clear h97 hp0
      have HLEN : Aside0 (([] : List ByteArray).length ≤ 20) := ⟨by decide⟩
      have b1 := eq_true (show 12 + em.size ≤ 9223372036854775807 by omega)
      have b2 := eq_false (show ¬ (9223372036854775807 < 12 + em.size) by omega)
      obtain ⟨ys, hys⟩ : ∃ ys, ([] : List ByteArray) ++ [(⟨#[112, 114, 101, 102, 105, 120, 32, 112, 97, 114, 116, 32]⟩ : ByteArray) ++ em] = ys := ⟨_, rfl⟩
      have HNEW := Aside0.mk hys
      have HYS := Aside0.mk hys.symm
      clear hys
      go_wp2
      go_quiet (fail)
      go_wp2_with (first | ((with_reducible refine (H97.out _).mono ?_); rintro e w' ⟨rfl, ⟨nd, rfl⟩⟩) | ((with_reducible refine gate_builtin (b := .append) (xs := #[.tmp 35, .tmp 38]) rfl ?_); (try (refine gate_guard (by rfl) ?_; dsimp only)); at_builtin; refine Kd.R_append Kd.string (w0 := w) w.heap.size rfl (.tmp 35) (.tmp 38) 51 9 (.string ⟨#[]⟩) 16 rfl Tryz.underlying51 infoS rfl (by decide) (by omega) u3 (([] : List ByteArray)) ((⟨#[112, 114, 101, 102, 105, 120, 32, 112, 97, 114, 116, 32]⟩ : ByteArray) ++ em) [.string ((⟨#[112, 114, 101, 102, 105, 120, 32, 112, 97, 114, 116, 32]⟩ : ByteArray) ++ em)] (fun _ => True) (fun _ => False) rfl rfl ?aP (fun _ hk => hk.elim) ?aF ?aO ?aB ?aS ?aL ?_; (case aP => exact rfl); (case aB => exact (by repeat (first | (with_reducible first | exact HB.out | apply below_alloc | apply pw_below_drewN | apply below_drew1) | exact HB.out))); (case aF => exact (fun _ _ => trivial)); (case aO => exact (by (with_reducible repeat (first | apply Kd.R_alloc | apply Kd.R_drewN | apply Kd.R_drew)); exact HR.out)); (case aS => exact (below_size (by repeat (first | (with_reducible first | exact HB.out | apply below_alloc | apply pw_below_drewN | apply below_drew1) | exact HB.out)))); (case aL => have := HLEN.out; (try simp only [List.length_map, List.length_nil] at *); omega); intro vN wN ho hb hg hat; rw [HNEW.out] at ho; clear HB; clear HR; have HB := Aside0.mk hb; have HR := Aside0.mk ho; clear ho hb hg hat))
      go_meet
      case rel => exact ⟨rfl, ys, HR, ⟨by rw [HP.out]; exact Errs.snoc HYS.out.symm⟩, ⟨by rw [HYS.out]; simp, fun p hp => by rw [HYS.out] at hp; simp at hp; subst hp; simp only [app_size]; have z1 : ∀ d : Array UInt8, (ByteArray.mk d).size = d.size := fun _ => rfl; simp only [z1]; simp; omega⟩, HB⟩
    · have e1 : (((pp.size : Nat) : Int) == 0) = false := by rw [beq_eq_false_iff_ne]; omega
      have h1 : ∀ w', Below w.heap.size w w' → Calls Tryz.prog 128 #[.string pp] w' fun e w2 => Errs pre w' e w2 := fun w' hb => by rw [HPRE.out]; exact errs68 pp (by omega) w' (HT.out.below hb)
      have H1 := Aside0.mk h1
      clear h1 hp0 HPRE HG
      cases pre with
      | true =>
        go_wp2
        go_quiet (fail)
        go_wp2_with (first | ((with_reducible refine (H1.out _ (by repeat (first | (with_reducible first | exact HB.out | apply below_alloc | apply pw_below_drewN | apply below_drew1) | exact HB.out))).mono ?_); rintro e w' ⟨v0, xs, rfl, g1, g2, g3, g4, hb⟩; have nr_ := Aside0.mk (Kd.R_below (by (with_reducible repeat (first | apply Kd.R_alloc | apply Kd.R_drewN | apply Kd.R_drew)); exact HR.out) hb); clear HR; have HR := nr_; clear nr_; (obtain ⟨A2, c2, e2⟩ := Kd.R_slice g1); subst e2; (obtain rfl : xs = [] := (by cases xs with | nil => rfl | cons a b => simp at g2)); clear g1 g2 g3 g4; have nb_ := Aside0.mk (below_step (by repeat (first | (with_reducible first | exact HB.out | apply below_alloc | apply pw_below_drewN | apply below_drew1) | exact HB.out)) hb); clear HB; have HB := nb_; clear nb_; (try clear hb)))
        go_meet
        case rel => exact ⟨rfl, [], ⟨(by (with_reducible repeat (first | apply Kd.R_alloc | apply Kd.R_drewN | apply Kd.R_drew)); exact HR.out)⟩, ⟨rfl⟩, ⟨by decide, fun p hp => by simp at hp⟩, ⟨(by repeat (first | (with_reducible first | exact HB.out | apply below_alloc | apply pw_below_drewN | apply below_drew1) | exact HB.out))⟩⟩
      | false =>
        go_wp2
        go_quiet (fail)
        go_wp2_with (first | ((with_reducible refine (H1.out _ (by repeat (first | (with_reducible first | exact HB.out | apply below_alloc | apply pw_below_drewN | apply below_drew1) | exact HB.out))).mono ?_); rintro e w2 ⟨v0, xs, rfl, g1, g2, g3, g4, hb⟩; have hz : 0 < xs.length := (by cases xs with | nil => simp at g2 | cons a b => simp); have H98 := Aside0.mk (Each_calls xs g3 g4 _ _ hb v0 g1); (obtain ⟨A2, c2, e2⟩ := Kd.R_slice g1); subst e2; have nz_ := eq_false (show ¬ (xs.length = 0) by omega); have nq_ : (((xs.length : Nat) : Int) == 0) = false := (by rw [beq_eq_false_iff_ne]; omega); have HG4 := Aside0.mk (And.intro g3 g4); clear g1 g2 g3 g4 hb) | ((with_reducible refine (H98.out).mono ?_); rintro e w3 ⟨v0, rfl, gz, hb⟩; clear H98; have HZS := Aside0.mk (Kd.R_lower gz (below_size (by repeat (first | (with_reducible first | exact HB.out | apply below_alloc | apply pw_below_drewN | apply below_drew1) | exact HB.out)))); clear gz; have nr_ := Aside0.mk (Kd.R_below (by (with_reducible repeat (first | apply Kd.R_alloc | apply Kd.R_drewN | apply Kd.R_drew)); exact HR.out) hb); clear HR; have HR := nr_; clear nr_; have nb_ := Aside0.mk (below_step (by repeat (first | (with_reducible first | exact HB.out | apply below_alloc | apply pw_below_drewN | apply below_drew1) | exact HB.out)) hb); clear HB; have HB := nb_; clear nb_; (try clear hb); (obtain ⟨zs, hzs⟩ : ∃ zs, xs.map ((⟨#[112, 114, 101, 102, 105, 120, 32, 112, 97, 114, 116, 32]⟩ : ByteArray) ++ ·) = zs := ⟨_, rfl⟩); rw [hzs] at HZS; have HMAP := Aside0.mk hzs; clear hzs; (obtain ⟨A3, c3, e3⟩ := Kd.R_slice HZS.out); subst e3; (obtain ⟨ys, hys⟩ : ∃ ys, ([] : List ByteArray) ++ zs = ys := ⟨_, rfl⟩); have HNEW := Aside0.mk hys; have HYS := Aside0.mk hys.symm; clear hys; have HLEN : Aside0 (([] : List ByteArray).length + zs.length ≤ 20) := ⟨by rw [← HMAP.out, List.length_map]; have := HG4.out.1; simp; omega⟩) | ((with_reducible refine gate_builtin (b := .append) (xs := #[.tmp 45, .tmp 47]) rfl ?_); (try (refine gate_guard (by rfl) ?_; dsimp only)); at_builtin; refine Kd.R_append_rows Kd.string (w0 := w) w.heap.size rfl (.tmp 45) (.tmp 47) 51 9 (.string ⟨#[]⟩) 16 rfl Tryz.underlying51 infoS rfl (by decide) (by omega) (u3) (([] : List ByteArray)) (zs) _ _ _ (fun _ => True) (fun _ => False) rfl rfl ?aO ?aR (fun _ _ h => h) (fun _ h => h.elim) ?aF ?aB ?aS ?aL ?_; (case aR => repeat (first | exact (Kd.R_reads' HZS.out).2.2 | (with_reducible refine Kd.C_alloc ?_ _) | (with_reducible refine Kd.C_drewN ?_ _) | (with_reducible refine Kd.C_drew ?_))); (case aB => exact (by repeat (first | (with_reducible first | exact HB.out | apply below_alloc | apply pw_below_drewN | apply below_drew1) | exact HB.out))); (case aF => exact (fun _ _ => trivial)); (case aO => exact (by (with_reducible repeat (first | apply Kd.R_alloc | apply Kd.R_drewN | apply Kd.R_drew)); exact HR.out)); (case aS => exact (below_size (by repeat (first | (with_reducible first | exact HB.out | apply below_alloc | apply pw_below_drewN | apply below_drew1) | exact HB.out)))); (case aL => have := HLEN.out; (try simp only [List.length_map]); omega); intro vN wN ho hb hg hat; rw [HNEW.out] at ho; clear HB; clear HR; have HB := Aside0.mk hb; have HR := Aside0.mk ho; clear ho hb hg hat))
        go_meet
        case rel => exact ⟨rfl, ys, HR, ⟨by rw [HYS.out, ← HMAP.out]; cases xs with | nil => simp at hz | cons a b => rfl⟩, ⟨by rw [HYS.out, ← HMAP.out]; have := HG4.out.1; simp; omega, fun p hp => by rw [HYS.out, ← HMAP.out] at hp; simp at hp; obtain ⟨a, ha, rfl⟩ := hp; have := HG4.out.2 a ha; simp only [app_size]; have z1 : ∀ d : Array UInt8, (ByteArray.mk d).size = d.size := fun _ => rfl; simp only [z1]; simp; omega⟩, HB⟩
 case rest =>
 clear HR HB HG HT
 obtain ⟨rfl, xs, HR, HZ, HL, HB⟩ := hcut
 obtain ⟨n, hn⟩ : ∃ n : L, nn.data.toList = n := ⟨_, rfl⟩
 have hns : nn.size = n.length := by rw [← hn]; exact Lib.size_eq nn
 have h99 : ∀ w, Calls Tryz.prog 132 #[.string nn] w fun e w' => e = .returned (.bool (qual n)) ∧ w = w' := fun w => by have := zzQualified_calls nn (by omega) w; rw [hn] at this; exact this
 have HFIN : Aside0 ((pre && pName nn.data.toList) = ((pre && (!(n == []) && most 63 n)) && qual n)) := ⟨by rw [hn, pName_eq]; cases pre <;> simp⟩
 obtain ⟨q, hq⟩ : ∃ q, qual n = q := ⟨_, rfl⟩
 rw [hq] at h99 HFIN
 have H99 := Aside0.mk h99
 have HNS := Aside0.mk hns
 clear h99 hq hn hns
 go_upto_if 51 with (fail)
 go_cut [3] (fun v3 wc => ∃ ys : List ByteArray, Aside0 (Kd.R Kd.string 9 wc w.heap.size (fun _ => True) v3 ys) ∧ Aside0 ((ys == []) = (pre && (!(n == []) && most 63 n))) ∧ Aside0 (ys.length ≤ 12 ∧ ∀ p ∈ ys, p.size ≤ 6000) ∧ Aside0 (Below w.heap.size w wc))
 case first =>
  have HLEN : Aside0 (xs.length ≤ 20) := ⟨by have := HL.out.1; omega⟩
  by_cases h0 : nn.size = 0
  · have e1 : (((nn.size : Nat) : Int) == 0) = true := by rw [beq_iff_eq]; omega
    have HN : Aside0 ((pre && (!(n == []) && most 63 n)) = false) := ⟨by rw [show n = [] from List.eq_nil_of_length_eq_zero (by have := HNS.out; omega)]; cases pre <;> rfl⟩
    obtain ⟨em, hem, h97⟩ := Empty_calls
    have H97 := Aside0.mk h97
    have b1 := eq_true (show 10 + em.size ≤ 9223372036854775807 by omega)
    have b2 := eq_false (show ¬ (9223372036854775807 < 10 + em.size) by omega)
    obtain ⟨ys, hys⟩ : ∃ ys, xs ++ [(⟨#[110, 97, 109, 101, 32, 112, 97, 114, 116, 32]⟩ : ByteArray) ++ em] = ys := ⟨_, rfl⟩
    have HNEW := Aside0.mk hys
    have HYS := Aside0.mk hys.symm
    clear hys h97 h0
    go_wp2_with (first | ((with_reducible refine (H97.out _).mono ?_); rintro e w' ⟨rfl, ⟨nd, rfl⟩⟩) | ((with_reducible refine gate_builtin (b := .append) (xs := #[.tmp 52, .tmp 55]) rfl ?_); (try (refine gate_guard (by rfl) ?_; dsimp only)); at_builtin; refine Kd.R_append Kd.string (w0 := w) w.heap.size rfl (.tmp 52) (.tmp 55) 51 9 (.string ⟨#[]⟩) 16 rfl Tryz.underlying51 infoS rfl (by decide) (by omega) u3 (xs) ((⟨#[110, 97, 109, 101, 32, 112, 97, 114, 116, 32]⟩ : ByteArray) ++ em) [.string ((⟨#[110, 97, 109, 101, 32, 112, 97, 114, 116, 32]⟩ : ByteArray) ++ em)] (fun _ => True) (fun _ => False) rfl rfl ?aP (fun _ hk => hk.elim) ?aF ?aO ?aB ?aS ?aL ?_; (case aP => exact rfl); (case aB => exact (by repeat (first | (with_reducible first | exact HB.out | apply below_alloc | apply pw_below_drewN | apply below_drew1) | exact HB.out))); (case aF => exact (fun _ _ => trivial)); (case aO => exact (by (with_reducible repeat (first | apply Kd.R_alloc | apply Kd.R_drewN | apply Kd.R_drew)); exact HR.out)); (case aS => exact (below_size (by repeat (first | (with_reducible first | exact HB.out | apply below_alloc | apply pw_below_drewN | apply below_drew1) | exact HB.out)))); (case aL => have := HLEN.out; (try simp only [List.length_map, List.length_nil] at *); omega); intro vN wN ho hb hg hat; rw [HNEW.out] at ho; clear HB; clear HR; have HB := Aside0.mk hb; have HR := Aside0.mk ho; clear ho hb hg hat))
    go_meet
    case rel => exact ⟨ys, HR, ⟨by rw [HN.out]; exact Errs.snoc HYS.out.symm⟩, ⟨by rw [HYS.out]; have := HL.out.1; simp; omega, fun p hp => by rw [HYS.out] at hp; simp at hp; rcases hp with hp | rfl <;> first | exact HL.out.2 p hp | (simp only [app_size]; have z1 : ∀ d : Array UInt8, (ByteArray.mk d).size = d.size := fun _ => rfl; simp only [z1]; simp; omega)⟩, HB⟩
  · have e1 : (((nn.size : Nat) : Int) == 0) = false := by rw [beq_eq_false_iff_ne]; omega
    have hne : (n == []) = false := by cases n with | nil => exact absurd HNS.out h0 | cons a b => rfl
    by_cases h63 : nn.size ≤ 63
    · have HN : Aside0 ((xs == []) = (pre && (!(n == []) && most 63 n))) := ⟨by rw [HZ.out, hne, show most 63 n = true by unfold most; have := HNS.out; simp; omega]; simp⟩
      clear hne h0
      go_wp2
      go_meet
      case rel => exact ⟨xs, HR, HN, ⟨by have := HL.out.1; omega, HL.out.2⟩, HB⟩
    · have HN : Aside0 ((pre && (!(n == []) && most 63 n)) = false) := ⟨by rw [show most 63 n = false by unfold most; have := HNS.out; simp; omega]; simp⟩
      have h77 : ∀ w, Calls Tryz.prog 131 #[.int .i64 63] w fun e w' => ∃ m, e = .returned (.string m) ∧ m.size ≤ 4000 ∧ w = w' := fun w => MaxLen_small 63 (by decide) w
      have H77 := Aside0.mk h77
      clear hne h0 h77
      go_wp2_with (first | ((with_reducible refine (H77.out _).mono ?_); rintro e w' ⟨m, rfl, hm, rfl⟩; have HM := Aside0.mk hm; have b1 := eq_true (show 10 + m.size ≤ 9223372036854775807 by omega); have b2 := eq_false (show ¬ (9223372036854775807 < 10 + m.size) by omega); clear hm; (obtain ⟨ys, hys⟩ : ∃ ys, xs ++ [(⟨#[110, 97, 109, 101, 32, 112, 97, 114, 116, 32]⟩ : ByteArray) ++ m] = ys := ⟨_, rfl⟩); have HNEW := Aside0.mk hys; have HYS := Aside0.mk hys.symm; clear hys) | ((with_reducible refine gate_builtin (b := .append) (xs := #[.tmp 60, .tmp 63]) rfl ?_); (try (refine gate_guard (by rfl) ?_; dsimp only)); at_builtin; refine Kd.R_append Kd.string (w0 := w) w.heap.size rfl (.tmp 60) (.tmp 63) 51 9 (.string ⟨#[]⟩) 16 rfl Tryz.underlying51 infoS rfl (by decide) (by omega) u3 (xs) ((⟨#[110, 97, 109, 101, 32, 112, 97, 114, 116, 32]⟩ : ByteArray) ++ m) [.string ((⟨#[110, 97, 109, 101, 32, 112, 97, 114, 116, 32]⟩ : ByteArray) ++ m)] (fun _ => True) (fun _ => False) rfl rfl ?aP (fun _ hk => hk.elim) ?aF ?aO ?aB ?aS ?aL ?_; (case aP => exact rfl); (case aB => exact (by repeat (first | (with_reducible first | exact HB.out | apply below_alloc | apply pw_below_drewN | apply below_drew1) | exact HB.out))); (case aF => exact (fun _ _ => trivial)); (case aO => exact (by (with_reducible repeat (first | apply Kd.R_alloc | apply Kd.R_drewN | apply Kd.R_drew)); exact HR.out)); (case aS => exact (below_size (by repeat (first | (with_reducible first | exact HB.out | apply below_alloc | apply pw_below_drewN | apply below_drew1) | exact HB.out)))); (case aL => have := HLEN.out; (try simp only [List.length_map, List.length_nil] at *); omega); intro vN wN ho hb hg hat; rw [HNEW.out] at ho; clear HB; clear HR; have HB := Aside0.mk hb; have HR := Aside0.mk ho; clear ho hb hg hat))
      go_meet
      case rel => exact ⟨ys, HR, ⟨by rw [HN.out]; exact Errs.snoc HYS.out.symm⟩, ⟨by rw [HYS.out]; have := HL.out.1; simp; omega, fun p hp => by rw [HYS.out] at hp; simp at hp; rcases hp with hp | rfl <;> first | exact HL.out.2 p hp | (simp only [app_size]; have z1 : ∀ d : Array UInt8, (ByteArray.mk d).size = d.size := fun _ => rfl; simp only [z1]; simp; have := HM.out; omega)⟩, HB⟩
 case rest =>
 clear HR HB HZ HL
 obtain ⟨xs, HR, HZ, HL, HB⟩ := hcut
 cases q with
 | true =>
   go_wp2_with (first | ((with_reducible refine (H99.out _).mono ?_); rintro e w' ⟨rfl, rfl⟩))
   go_ret
   exact ⟨_, xs, rfl, (by (with_reducible repeat (first | apply Kd.R_alloc | apply Kd.R_drewN | apply Kd.R_drew)); exact HR.out), by rw [HFIN.out, HZ.out, Bool.and_true], by have := HL.out.1; omega, fun p hp => by have := HL.out.2 p hp; omega, (by repeat (first | (with_reducible first | exact HB.out | apply below_alloc | apply pw_below_drewN | apply below_drew1) | exact HB.out))⟩
 | false =>
   have HLEN : Aside0 (xs.length ≤ 20) := ⟨by have := HL.out.1; omega⟩
   have HEX : Aside0 (∀ p ∈ ([⟨#[77, 121, 78, 97, 109, 101]⟩, ⟨#[109, 121, 46, 110, 97, 109, 101]⟩, ⟨#[49, 50, 51, 45, 97, 98, 99]⟩] : List ByteArray), p.size ≤ 100) := ⟨by decide⟩
   obtain ⟨y, hy⟩ : ∃ y : List ByteArray, y = [⟨#[77, 121, 78, 97, 109, 101]⟩, ⟨#[109, 121, 46, 110, 97, 109, 101]⟩, ⟨#[49, 50, 51, 45, 97, 98, 99]⟩] := ⟨_, rfl⟩
   have hyl : y.length ≤ 3 := by rw [hy]; decide
   have HY := Aside0.mk hy
   clear hy
   go_wp2_with (first | ((with_reducible refine (H99.out _).mono ?_); rintro e w' ⟨rfl, rfl⟩) | ((with_reducible refine gate_dst (N := 69) rfl ?_); (try (refine gate_guard (by rfl) ?_; dsimp only)); refine Kd.R_lit Kd.string _ 9 ?hg (N := 69) ?hd (xs := ([⟨#[77, 121, 78, 97, 109, 101]⟩, ⟨#[109, 121, 46, 110, 97, 109, 101]⟩, ⟨#[49, 50, 51, 45, 97, 98, 99]⟩] : List ByteArray)) (inner := [.string ⟨#[77, 121, 78, 97, 109, 101]⟩, .string ⟨#[109, 121, 46, 110, 97, 109, 101]⟩, .string ⟨#[49, 50, 51, 45, 97, 98, 99]⟩]) (ok := fun _ => True) (okp := fun _ => True) ?hr ?hp (fun _ hk => hk) trivial (Below.refl _ _) (Nat.le_refl _) (by simp) ?_; (case hd => rfl); (case hg => rfl); (case hr => first | (go_simp; done) | (go_simp; rfl)); (case hp => exact (Reps.one (show Kd.M Kd.string _ _ _ ⟨#[77, 121, 78, 97, 109, 101]⟩ [.string ⟨#[77, 121, 78, 97, 109, 101]⟩] from rfl) (Reps.one (show Kd.M Kd.string _ _ _ ⟨#[109, 121, 46, 110, 97, 109, 101]⟩ [.string ⟨#[109, 121, 46, 110, 97, 109, 101]⟩] from rfl) (Reps.one (show Kd.M Kd.string _ _ _ ⟨#[49, 50, 51, 45, 97, 98, 99]⟩ [.string ⟨#[49, 50, 51, 45, 97, 98, 99]⟩] from rfl) (Reps.none _ _))))); intro vN wN hoL hb hg_ hnew_; clear hg_ hnew_; (first | rw [← HY.out] at hoL | (simp only [Int.reduceToNat] at hoL; rw [← HY.out] at hoL)); have nc_ := Aside0.mk (Kd.R_below (by (with_reducible repeat (first | apply Kd.R_alloc | apply Kd.R_drewN | apply Kd.R_drew)); exact HR.out) hb); clear HR; have HR := nc_; clear nc_; have nl_ := Aside0.mk (Kd.R_lower hoL (below_size (by repeat (first | (with_reducible first | exact HB.out | apply below_alloc | apply pw_below_drewN | apply below_drew1) | exact HB.out)))); have nb_ := Aside0.mk (below_step (by repeat (first | (with_reducible first | exact HB.out | apply below_alloc | apply pw_below_drewN | apply below_drew1) | exact HB.out)) hb); clear HB; have HLL := nl_; have HB := nb_; clear nl_ nb_; clear hb hoL; obtain ⟨ALL, cLL, eLL⟩ := Kd.R_slice HLL.out; subst eLL) | ((with_reducible refine (RegexError_calls _ _ ?ha ?hf ALL cLL y _ hyl (by rw [HY.out]; exact HEX.out) (Kd.R_reads' HLL.out).2.2 (Kd.R_reads' HLL.out).2.1).mono ?_); (case ha => decide +kernel); (case hf => decide +kernel); rintro e w' ⟨m, rfl, hm, rfl⟩; have HM := Aside0.mk hm; have b1 := eq_true (show 10 + m.size ≤ 9223372036854775807 by omega); have b2 := eq_false (show ¬ (9223372036854775807 < 10 + m.size) by omega); clear hm; (obtain ⟨ys, hys⟩ : ∃ ys, xs ++ [(⟨#[110, 97, 109, 101, 32, 112, 97, 114, 116, 32]⟩ : ByteArray) ++ m] = ys := ⟨_, rfl⟩); have HNEW := Aside0.mk hys; have HYS := Aside0.mk hys.symm; clear hys) | ((with_reducible refine gate_builtin (b := .append) (xs := #[.tmp 68, .tmp 72]) rfl ?_); (try (refine gate_guard (by rfl) ?_; dsimp only)); at_builtin; refine Kd.R_append Kd.string (w0 := w) w.heap.size rfl (.tmp 68) (.tmp 72) 51 9 (.string ⟨#[]⟩) 16 rfl Tryz.underlying51 infoS rfl (by decide) (by omega) u3 (xs) ((⟨#[110, 97, 109, 101, 32, 112, 97, 114, 116, 32]⟩ : ByteArray) ++ m) [.string ((⟨#[110, 97, 109, 101, 32, 112, 97, 114, 116, 32]⟩ : ByteArray) ++ m)] (fun _ => True) (fun _ => False) rfl rfl ?aP (fun _ hk => hk.elim) ?aF ?aO ?aB ?aS ?aL ?_; (case aP => exact rfl); (case aB => exact (by repeat (first | (with_reducible first | exact HB.out | apply below_alloc | apply pw_below_drewN | apply below_drew1) | exact HB.out))); (case aF => exact (fun _ _ => trivial)); (case aO => exact (by (with_reducible repeat (first | apply Kd.R_alloc | apply Kd.R_drewN | apply Kd.R_drew)); exact HR.out)); (case aS => exact (below_size (by repeat (first | (with_reducible first | exact HB.out | apply below_alloc | apply pw_below_drewN | apply below_drew1) | exact HB.out)))); (case aL => have := HLEN.out; (try simp only [List.length_map, List.length_nil] at *); omega); intro vN wN ho hb hg hat; rw [HNEW.out] at ho; clear HB; clear HR; have HB := Aside0.mk hb; have HR := Aside0.mk ho; clear ho hb hg hat))
   go_ret
   exact ⟨_, ys, rfl, (by (with_reducible repeat (first | apply Kd.R_alloc | apply Kd.R_drewN | apply Kd.R_drew)); exact HR.out), by rw [HFIN.out, Bool.and_false]; exact Errs.snoc HYS.out.symm, by rw [HYS.out]; have := HL.out.1; simp; omega, fun p hp => by rw [HYS.out] at hp; simp at hp; rcases hp with hp | rfl <;> first | (have := HL.out.2 p hp; omega) | (simp only [app_size]; have z1 : ∀ d : Array UInt8, (ByteArray.mk d).size = d.size := fun _ => rfl; simp only [z1]; simp; have := HM.out; omega), (by repeat (first | (with_reducible first | exact HB.out | apply below_alloc | apply pw_below_drewN | apply below_drew1) | exact HB.out))⟩
theorem errs76 (s : ByteArray) (hs : s.size ≤ 100000000) (w : World) (hT : Tab w) :
   Calls Tryz.prog 110 #[.string s] w fun e w' => Errs2 (pQ s.data.toList) w e w' := by
 obtain ⟨x, hx, hxs⟩ : ∃ x : L, s = mk x ∧ s.size = x.length := exists_mk s
 have h2 : ∀ w, Calls Tryz.prog 126 #[.string s, .string ⟨#[47]⟩] w fun e w' => ∃ v0_ : Value, e = .returned (v0_) ∧ Kd.R Kd.string 9 w' w.heap.size (fun _ => True) v0_ ((pieces 47 s.data.toList).map mk) ∧ Below w.heap.size w w' := fun w => Split_calls 47 s (by omega) w
 rw [show s.data.toList = x by rw [hx]; rfl] at h2 ⊢
 rcases name_cases x with ⟨ps, hps, h3, hle, hQ⟩ | ⟨n, hn, ⟨hps, hQ⟩ | ⟨p, hp, hps, hQ⟩⟩
 · rw [hQ]; rw [hps] at h2
   exact errs76_more s hs w (ps.map mk) (by rw [List.length_map]; exact h3) (by rw [List.length_map]; omega) h2
 · rw [hQ]; rw [hps] at h2
   exact errs76_few s (mk n) true [mk n] (.inl ⟨rfl, rfl⟩) (by rw [mk_size]; omega) w hT h2
 · rw [hQ]; rw [hps] at h2
   exact errs76_few s (mk n) _ [mk p, mk n] (.inr ⟨mk p, rfl, by rw [mk_size]; omega, rfl⟩) (by rw [mk_size]; omega) w hT h2
end Go.Proofs.YthfjolafikgpoaaGreatDoor.Hand
namespace Go.Proofs.YthfjolafikgpoaaGreatDoor.Hand
open Go.RowKit Go.Proofs.YthfjolafikgpoaaGreatDoorW.PrintWords Go.Proofs.YthfjolafikgpoaaGreatDoorW.PrintLast Go.Proofs.YthfjolafikgpoaaGreatDoorW.PrintMore Go.Proofs.YthfjolafikgpoaaGreatDoor.Base
set_option linter.unusedVariables false
set_option linter.unusedSimpArgs false
set_option maxRecDepth 100000
set_option maxHeartbeats 4000000 in
theorem errs60 (s : ByteArray) (hs : s.size ≤ 140737488351232) (w : World) :
   Calls Tryz.prog 111 #[.string s] w fun e w' => Errs (most 63 s.data.toList && labelValue s.data.toList) w e w' := by
 obtain ⟨x, hx, hxs⟩ : ∃ x : L, s = mk x ∧ s.size = x.length := exists_mk s
 have h1 : ∀ w, Calls Tryz.prog 133 #[.string s] w fun e w' => e = .returned (.bool (labelValue s.data.toList)) ∧ w = w' := fun w => zzLabelValue_calls s hs w
 rw [show s.data.toList = x by rw [hx]; rfl] at h1 ⊢
 have hm : most 63 x = decide (s.size ≤ 63) := by unfold most; rw [hxs]
 have HB := Aside0.mk (Below.refl w.heap.size w)
 have HR : Aside0 (Kd.R Kd.string 9 w w.heap.size (fun _ => True) (.slice none 0 0) ([] : List ByteArray)) := ⟨Kd.R_nil _ _ _ _ _⟩
 have HLEN : Aside0 (([] : List ByteArray).length ≤ 20) := ⟨by decide⟩
 have HM1 : Aside0 (∀ w, Calls Tryz.prog 131 #[.int .i64 63] w fun e w' => ∃ m, e = .returned (.string m) ∧ m.size ≤ 4000 ∧ w = w') := ⟨fun w => MaxLen_small 63 (by decide) w⟩
 have HEX : Aside0 (∀ p ∈ ([⟨#[77, 121, 86, 97, 108, 117, 101]⟩, ⟨#[109, 121, 95, 118, 97, 108, 117, 101]⟩, ⟨#[49, 50, 51, 52, 53]⟩] : List ByteArray), p.size ≤ 100) := ⟨by decide⟩
 obtain ⟨y, hy⟩ : ∃ y : List ByteArray, y = [⟨#[77, 121, 86, 97, 108, 117, 101]⟩, ⟨#[109, 121, 95, 118, 97, 108, 117, 101]⟩, ⟨#[49, 50, 51, 52, 53]⟩] := ⟨_, rfl⟩
 have hyl : y.length ≤ 3 := by rw [hy]; decide
 have HY := Aside0.mk hy
 clear hx hxs hy
 obtain ⟨z, hz⟩ : ∃ z, labelValue x = z := ⟨_, rfl⟩
 rw [hz] at h1 ⊢
 rw [hm]
 clear hz hm
 have H1 := Aside0.mk h1
 clear h1
 by_cases hl : s.size ≤ 63
 · rw [decide_eq_true hl]
   cases z with
   | true =>
     go_enter Tryz.func111, Tryz.ntmps111
     go_upto_region 1 with (fail)
     go_cut [3] (fun v3 wc => Aside0 (Kd.R Kd.string 9 wc w.heap.size (fun _ => True) v3 ([] : List ByteArray)) ∧ w = wc)
     case first =>
      go_wp2
      go_meet
      case rel => exact ⟨HR, rfl⟩
     case rest =>
      clear HR
      obtain ⟨HR, rfl⟩ := hcut
      go_wp2_with (first | ((with_reducible refine (H1.out _).mono ?_); rintro e w' ⟨rfl, rfl⟩))
      go_ret
      exact ⟨_, _, rfl, (by (with_reducible repeat (first | apply Kd.R_alloc | apply Kd.R_drewN | apply Kd.R_drew)); exact HR.out), rfl, by decide, fun p hp => by simp at hp, (by repeat (first | (with_reducible first | exact HB.out | apply below_alloc | apply pw_below_drewN | apply below_drew1) | exact HB.out))⟩
   | false =>
     go_enter Tryz.func111, Tryz.ntmps111
     go_upto_region 1 with (fail)
     go_cut [3] (fun v3 wc => Aside0 (Kd.R Kd.string 9 wc w.heap.size (fun _ => True) v3 ([] : List ByteArray)) ∧ w = wc)
     case first =>
      go_wp2
      go_meet
      case rel => exact ⟨HR, rfl⟩
     case rest =>
      clear HR
      obtain ⟨HR, rfl⟩ := hcut
      go_wp2_with (first | ((with_reducible refine (H1.out _).mono ?_); rintro e w' ⟨rfl, rfl⟩) | ((with_reducible refine gate_dst (N := 15) rfl ?_); (try (refine gate_guard (by rfl) ?_; dsimp only)); refine Kd.R_lit Kd.string _ 9 ?hg (N := 15) ?hd (xs := ([⟨#[77, 121, 86, 97, 108, 117, 101]⟩, ⟨#[109, 121, 95, 118, 97, 108, 117, 101]⟩, ⟨#[49, 50, 51, 52, 53]⟩] : List ByteArray)) (inner := [.string ⟨#[77, 121, 86, 97, 108, 117, 101]⟩, .string ⟨#[109, 121, 95, 118, 97, 108, 117, 101]⟩, .string ⟨#[49, 50, 51, 52, 53]⟩]) (ok := fun _ => True) (okp := fun _ => True) ?hr ?hp (fun _ hk => hk) trivial (Below.refl _ _) (Nat.le_refl _) (by simp) ?_; (case hd => rfl); (case hg => rfl); (case hr => first | (go_simp; done) | (go_simp; rfl)); (case hp => exact (Reps.one (show Kd.M Kd.string _ _ _ ⟨#[77, 121, 86, 97, 108, 117, 101]⟩ [.string ⟨#[77, 121, 86, 97, 108, 117, 101]⟩] from rfl) (Reps.one (show Kd.M Kd.string _ _ _ ⟨#[109, 121, 95, 118, 97, 108, 117, 101]⟩ [.string ⟨#[109, 121, 95, 118, 97, 108, 117, 101]⟩] from rfl) (Reps.one (show Kd.M Kd.string _ _ _ ⟨#[49, 50, 51, 52, 53]⟩ [.string ⟨#[49, 50, 51, 52, 53]⟩] from rfl) (Reps.none _ _))))); intro vN wN hoL hb hg_ hnew_; clear hg_ hnew_; (first | rw [← HY.out] at hoL | (simp only [Int.reduceToNat] at hoL; rw [← HY.out] at hoL)); have nc_ := Aside0.mk (Kd.R_below (by (with_reducible repeat (first | apply Kd.R_alloc | apply Kd.R_drewN | apply Kd.R_drew)); exact HR.out) hb); clear HR; have HR := nc_; clear nc_; have nl_ := Aside0.mk (Kd.R_lower hoL (below_size (by repeat (first | (with_reducible first | exact HB.out | apply below_alloc | apply pw_below_drewN | apply below_drew1) | exact HB.out)))); have nb_ := Aside0.mk (below_step (by repeat (first | (with_reducible first | exact HB.out | apply below_alloc | apply pw_below_drewN | apply below_drew1) | exact HB.out)) hb); clear HB; have HLL := nl_; have HB := nb_; clear nl_ nb_; clear hb hoL; obtain ⟨ALL, cLL, eLL⟩ := Kd.R_slice HLL.out; subst eLL) | ((with_reducible refine (RegexError_calls _ _ ?ha ?hf ALL cLL y _ hyl (by rw [HY.out]; exact HEX.out) (Kd.R_reads' HLL.out).2.2 (Kd.R_reads' HLL.out).2.1).mono ?_); (case ha => decide +kernel); (case hf => decide +kernel); rintro e w' ⟨m, rfl, hm, rfl⟩; have HM := Aside0.mk hm; clear hm; obtain ⟨ys, hys⟩ : ∃ ys, ([] : List ByteArray) ++ [m] = ys := ⟨_, rfl⟩; have HNEW := Aside0.mk hys; clear hys) | ((with_reducible refine gate_builtin (b := .append) (xs := #[.tmp 14, .tmp 17]) rfl ?_); (try (refine gate_guard (by rfl) ?_; dsimp only)); at_builtin; refine Kd.R_append Kd.string (w0 := w) w.heap.size rfl (.tmp 14) (.tmp 17) 51 9 (.string ⟨#[]⟩) 16 rfl Tryz.underlying51 infoS rfl (by decide) (by omega) u3 (([] : List ByteArray)) (m) [.string (m)] (fun _ => True) (fun _ => False) rfl rfl ?aP (fun _ hk => hk.elim) ?aF ?aO ?aB ?aS ?aL ?_; (case aP => exact rfl); (case aB => exact (by repeat (first | (with_reducible first | exact HB.out | apply below_alloc | apply pw_below_drewN | apply below_drew1) | exact HB.out))); (case aF => exact (fun _ _ => trivial)); (case aO => exact (by (with_reducible repeat (first | apply Kd.R_alloc | apply Kd.R_drewN | apply Kd.R_drew)); exact HR.out)); (case aS => exact (below_size (by repeat (first | (with_reducible first | exact HB.out | apply below_alloc | apply pw_below_drewN | apply below_drew1) | exact HB.out)))); (case aL => have := HLEN.out; (try simp only [List.length_map, List.length_nil] at *); omega); intro vN wN ho hb hg hat; rw [HNEW.out] at ho; clear HB; clear HR; have HB := Aside0.mk hb; have HR := Aside0.mk ho; clear ho hb hg hat))
      go_ret
      exact ⟨_, ys, rfl, (by (with_reducible repeat (first | apply Kd.R_alloc | apply Kd.R_drewN | apply Kd.R_drew)); exact HR.out), Errs.snoc HNEW.out, by rw [← HNEW.out]; simp, fun p hp => by rw [← HNEW.out] at hp; simp at hp; subst hp; have := HM.out; omega, (by repeat (first | (with_reducible first | exact HB.out | apply below_alloc | apply pw_below_drewN | apply below_drew1) | exact HB.out))⟩
 · rw [decide_eq_false hl]
   cases z with
   | true =>
     go_enter Tryz.func111, Tryz.ntmps111
     go_upto_region 1 with (fail)
     go_cut [3] (fun v3 wc => Aside0 (Kd.R Kd.string 9 wc w.heap.size (fun _ => True) v3 ([] : List ByteArray)) ∧ w = wc)
     case first =>
      go_wp2
      go_meet
      case rel => exact ⟨HR, rfl⟩
     case rest =>
      clear HR
      obtain ⟨HR, rfl⟩ := hcut
      go_wp2_with (first | ((with_reducible refine (H1.out _).mono ?_); rintro e w' ⟨rfl, rfl⟩) | ((with_reducible refine (HM1.out _).mono ?_); rintro e w' ⟨m, rfl, hm, rfl⟩; have HM := Aside0.mk hm; clear hm; obtain ⟨ys, hys⟩ : ∃ ys, ([] : List ByteArray) ++ [m] = ys := ⟨_, rfl⟩; have HNEW := Aside0.mk hys; clear hys) | ((with_reducible refine gate_builtin (b := .append) (xs := #[.tmp 7, .tmp 9]) rfl ?_); (try (refine gate_guard (by rfl) ?_; dsimp only)); at_builtin; refine Kd.R_append Kd.string (w0 := w) w.heap.size rfl (.tmp 7) (.tmp 9) 51 9 (.string ⟨#[]⟩) 16 rfl Tryz.underlying51 infoS rfl (by decide) (by omega) u3 (([] : List ByteArray)) (m) [.string (m)] (fun _ => True) (fun _ => False) rfl rfl ?aP (fun _ hk => hk.elim) ?aF ?aO ?aB ?aS ?aL ?_; (case aP => exact rfl); (case aB => exact (by repeat (first | (with_reducible first | exact HB.out | apply below_alloc | apply pw_below_drewN | apply below_drew1) | exact HB.out))); (case aF => exact (fun _ _ => trivial)); (case aO => exact (by (with_reducible repeat (first | apply Kd.R_alloc | apply Kd.R_drewN | apply Kd.R_drew)); exact HR.out)); (case aS => exact (below_size (by repeat (first | (with_reducible first | exact HB.out | apply below_alloc | apply pw_below_drewN | apply below_drew1) | exact HB.out)))); (case aL => have := HLEN.out; (try simp only [List.length_map, List.length_nil] at *); omega); intro vN wN ho hb hg hat; rw [HNEW.out] at ho; clear HB; clear HR; have HB := Aside0.mk hb; have HR := Aside0.mk ho; clear ho hb hg hat))
      go_ret
      exact ⟨_, ys, rfl, (by (with_reducible repeat (first | apply Kd.R_alloc | apply Kd.R_drewN | apply Kd.R_drew)); exact HR.out), Errs.snoc HNEW.out, by rw [← HNEW.out]; simp, fun p hp => by rw [← HNEW.out] at hp; simp at hp; subst hp; have := HM.out; omega, (by repeat (first | (with_reducible first | exact HB.out | apply below_alloc | apply pw_below_drewN | apply below_drew1) | exact HB.out))⟩
   | false =>
     go_enter Tryz.func111, Tryz.ntmps111
     go_upto_region 1 with (fail)
     go_cut [3] (fun v3 wc => Aside0 (Kd.R Kd.string 9 wc w.heap.size (fun _ => True) v3 ([] : List ByteArray)) ∧ w = wc)
     case first =>
      go_wp2
      go_meet
      case rel => exact ⟨HR, rfl⟩
     case rest =>
      clear HR
      obtain ⟨HR, rfl⟩ := hcut
      go_wp2_with (first | ((with_reducible refine (H1.out _).mono ?_); rintro e w' ⟨rfl, rfl⟩) | ((with_reducible refine (HM1.out _).mono ?_); rintro e w' ⟨m, rfl, hm, rfl⟩; have HM := Aside0.mk hm; clear hm; obtain ⟨ys, hys⟩ : ∃ ys, ([] : List ByteArray) ++ [m] = ys := ⟨_, rfl⟩; have HNEW := Aside0.mk hys; have HYS := Aside0.mk hys.symm; clear hys) | ((with_reducible refine gate_builtin (b := .append) (xs := #[.tmp 7, .tmp 9]) rfl ?_); (try (refine gate_guard (by rfl) ?_; dsimp only)); at_builtin; refine Kd.R_append Kd.string (w0 := w) w.heap.size rfl (.tmp 7) (.tmp 9) 51 9 (.string ⟨#[]⟩) 16 rfl Tryz.underlying51 infoS rfl (by decide) (by omega) u3 (([] : List ByteArray)) (m) [.string (m)] (fun _ => True) (fun _ => False) rfl rfl ?aP (fun _ hk => hk.elim) ?aF ?aO ?aB ?aS ?aL ?_; (case aP => exact rfl); (case aB => exact (by repeat (first | (with_reducible first | exact HB.out | apply below_alloc | apply pw_below_drewN | apply below_drew1) | exact HB.out))); (case aF => exact (fun _ _ => trivial)); (case aO => exact (by (with_reducible repeat (first | apply Kd.R_alloc | apply Kd.R_drewN | apply Kd.R_drew)); exact HR.out)); (case aS => exact (below_size (by repeat (first | (with_reducible first | exact HB.out | apply below_alloc | apply pw_below_drewN | apply below_drew1) | exact HB.out)))); (case aL => have := HLEN.out; (try simp only [List.length_map, List.length_nil] at *); omega); intro vN wN ho hb hg hat; rw [HNEW.out] at ho; clear HB; clear HR; have HB := Aside0.mk hb; have HR := Aside0.mk ho; clear ho hb hg hat) | ((with_reducible refine gate_dst (N := 15) rfl ?_); (try (refine gate_guard (by rfl) ?_; dsimp only)); refine Kd.R_lit Kd.string _ 9 ?hg (N := 15) ?hd (xs := ([⟨#[77, 121, 86, 97, 108, 117, 101]⟩, ⟨#[109, 121, 95, 118, 97, 108, 117, 101]⟩, ⟨#[49, 50, 51, 52, 53]⟩] : List ByteArray)) (inner := [.string ⟨#[77, 121, 86, 97, 108, 117, 101]⟩, .string ⟨#[109, 121, 95, 118, 97, 108, 117, 101]⟩, .string ⟨#[49, 50, 51, 52, 53]⟩]) (ok := fun _ => True) (okp := fun _ => True) ?hr ?hp (fun _ hk => hk) trivial (Below.refl _ _) (Nat.le_refl _) (by simp) ?_; (case hd => rfl); (case hg => rfl); (case hr => first | (go_simp; done) | (go_simp; rfl)); (case hp => exact (Reps.one (show Kd.M Kd.string _ _ _ ⟨#[77, 121, 86, 97, 108, 117, 101]⟩ [.string ⟨#[77, 121, 86, 97, 108, 117, 101]⟩] from rfl) (Reps.one (show Kd.M Kd.string _ _ _ ⟨#[109, 121, 95, 118, 97, 108, 117, 101]⟩ [.string ⟨#[109, 121, 95, 118, 97, 108, 117, 101]⟩] from rfl) (Reps.one (show Kd.M Kd.string _ _ _ ⟨#[49, 50, 51, 52, 53]⟩ [.string ⟨#[49, 50, 51, 52, 53]⟩] from rfl) (Reps.none _ _))))); intro vN wN hoL hb hg_ hnew_; clear hg_ hnew_; (first | rw [← HY.out] at hoL | (simp only [Int.reduceToNat] at hoL; rw [← HY.out] at hoL)); have nc_ := Aside0.mk (Kd.R_below (by (with_reducible repeat (first | apply Kd.R_alloc | apply Kd.R_drewN | apply Kd.R_drew)); exact HR.out) hb); clear HR; have HR := nc_; clear nc_; have nl_ := Aside0.mk (Kd.R_lower hoL (below_size (by repeat (first | (with_reducible first | exact HB.out | apply below_alloc | apply pw_below_drewN | apply below_drew1) | exact HB.out)))); have nb_ := Aside0.mk (below_step (by repeat (first | (with_reducible first | exact HB.out | apply below_alloc | apply pw_below_drewN | apply below_drew1) | exact HB.out)) hb); clear HB; have HLL := nl_; have HB := nb_; clear nl_ nb_; clear hb hoL; obtain ⟨ALL, cLL, eLL⟩ := Kd.R_slice HLL.out; subst eLL) | ((with_reducible refine (RegexError_calls _ _ ?ha ?hf ALL cLL y _ hyl (by rw [HY.out]; exact HEX.out) (Kd.R_reads' HLL.out).2.2 (Kd.R_reads' HLL.out).2.1).mono ?_); (case ha => decide +kernel); (case hf => decide +kernel); rintro e w' ⟨m2, rfl, hm, rfl⟩; have HM2 := Aside0.mk hm; clear hm; clear HNEW HLEN; have HLEN : Aside0 (ys.length ≤ 20) := ⟨by rw [HYS.out]; simp⟩; obtain ⟨zs, hzs⟩ : ∃ zs, ys ++ [m2] = zs := ⟨_, rfl⟩; have HNEW := Aside0.mk hzs; clear hzs) | ((with_reducible refine gate_builtin (b := .append) (xs := #[.tmp 14, .tmp 17]) rfl ?_); (try (refine gate_guard (by rfl) ?_; dsimp only)); at_builtin; refine Kd.R_append Kd.string (w0 := w) w.heap.size rfl (.tmp 14) (.tmp 17) 51 9 (.string ⟨#[]⟩) 16 rfl Tryz.underlying51 infoS rfl (by decide) (by omega) vN (ys) (m2) [.string (m2)] (fun _ => True) (fun _ => False) rfl rfl ?aP (fun _ hk => hk.elim) ?aF ?aO ?aB ?aS ?aL ?_; (case aP => exact rfl); (case aB => exact (by repeat (first | (with_reducible first | exact HB.out | apply below_alloc | apply pw_below_drewN | apply below_drew1) | exact HB.out))); (case aF => exact (fun _ _ => trivial)); (case aO => exact (by (with_reducible repeat (first | apply Kd.R_alloc | apply Kd.R_drewN | apply Kd.R_drew)); exact HR.out)); (case aS => exact (below_size (by repeat (first | (with_reducible first | exact HB.out | apply below_alloc | apply pw_below_drewN | apply below_drew1) | exact HB.out)))); (case aL => have := HLEN.out; (try simp only [List.length_map, List.length_nil] at *); omega); intro vN wN ho hb hg hat; rw [HNEW.out] at ho; clear HB; clear HR; have HB := Aside0.mk hb; have HR := Aside0.mk ho; clear ho hb hg hat))
      go_ret
      exact ⟨_, zs, rfl, (by (with_reducible repeat (first | apply Kd.R_alloc | apply Kd.R_drewN | apply Kd.R_drew)); exact HR.out), Errs.snoc HNEW.out, by rw [← HNEW.out, HYS.out]; simp, fun p hp => by rw [← HNEW.out, HYS.out] at hp; simp at hp; have := HM.out; have := HM2.out; rcases hp with rfl | rfl <;> omega, (by repeat (first | (with_reducible first | exact HB.out | apply below_alloc | apply pw_below_drewN | apply below_drew1) | exact HB.out))⟩
end Go.Proofs.YthfjolafikgpoaaGreatDoor.Hand
