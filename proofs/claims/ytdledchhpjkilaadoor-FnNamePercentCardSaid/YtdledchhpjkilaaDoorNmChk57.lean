/- A check of an expression alone: function 57. -/
import Derived.Test.YtdledchhpjkilaaDoorNmErrs
namespace Go.Proofs.YtdledchhpjkilaaDoor.Hand
open Go.RowKit Go.Proofs.YtdledchhpjkilaaDoorW.PrintWords Go.Proofs.YtdledchhpjkilaaDoorW.PrintLast Go.Proofs.YtdledchhpjkilaaDoorW.PrintMore Go.Proofs.YtdledchhpjkilaaDoor.Base
set_option linter.unusedVariables false
set_option linter.unusedSimpArgs false
set_option maxRecDepth 100000

set_option maxHeartbeats 4000000 in
theorem errs57 (s : ByteArray) (hs : s.size ≤ 140737488351232) (w : World) :
    Calls Tryd.prog 57 #[.string s] w fun e w' => Errs (pct s.data.toList) w e w' := by
  have h1 : ∀ w, Calls Tryd.prog 83 #[.string s] w fun e w' => e = .returned (.bool (pct s.data.toList)) ∧ w = w' := fun w => zzPercent_calls s hs w
  have HB := Aside0.mk (Below.refl w.heap.size w)
  have HEX : Aside0 (∀ p ∈ ([⟨#[49, 37]⟩, ⟨#[57, 51, 37]⟩] : List ByteArray), p.size ≤ 100) := ⟨by decide⟩
  obtain ⟨y, hy⟩ : ∃ y : List ByteArray, y = [⟨#[49, 37]⟩, ⟨#[57, 51, 37]⟩] := ⟨_, rfl⟩
  have hyl : y.length ≤ 3 := by rw [hy]; decide
  have HY := Aside0.mk hy
  clear hy
  obtain ⟨z, hz⟩ : ∃ z, (pct s.data.toList) = z := ⟨_, rfl⟩
  rw [hz] at h1 ⊢
  clear hz
  have H1 := Aside0.mk h1
  clear h1
  cases z with
  | true =>
    go_enter Tryd.func57, Tryd.ntmps57
    go_wp2_with (first | ((with_reducible refine (H1.out _).mono ?_); rintro e w' ⟨rfl, rfl⟩))
    go_ret
    exact ⟨_, [], rfl, Kd.R_nil _ _ _ _ _, rfl, by decide, fun p hp => by simp at hp, (by repeat (first | (with_reducible first | exact HB.out | apply below_alloc | apply pw_below_drewN | apply below_drew1) | exact HB.out))⟩
  | false =>
    go_enter Tryd.func57, Tryd.ntmps57
    go_wp2_with (first | ((with_reducible refine (H1.out _).mono ?_); rintro e w' ⟨rfl, rfl⟩) | ((with_reducible refine gate_dst (N := 6) rfl ?_); (try (refine gate_guard (by rfl) ?_; dsimp only)); refine Kd.R_lit Kd.string _ 9 ?hg (N := 6) ?hd (xs := ([⟨#[49, 37]⟩, ⟨#[57, 51, 37]⟩] : List ByteArray)) (inner := [.string ⟨#[49, 37]⟩, .string ⟨#[57, 51, 37]⟩]) (ok := fun _ => True) (okp := fun _ => True) ?hr ?hp (fun _ hk => hk) trivial (Below.refl _ _) (Nat.le_refl _) (by simp) ?_; (case hd => rfl); (case hg => rfl); (case hr => first | (go_simp; done) | (go_simp; rfl)); (case hp => exact (Reps.one (show Kd.M Kd.string _ _ _ ⟨#[49, 37]⟩ [.string ⟨#[49, 37]⟩] from rfl) (Reps.one (show Kd.M Kd.string _ _ _ ⟨#[57, 51, 37]⟩ [.string ⟨#[57, 51, 37]⟩] from rfl) (Reps.none _ _)))); intro vN wN hoL hb hg_ hnew_; clear hg_ hnew_; (first | rw [← HY.out] at hoL | (simp only [Int.reduceToNat] at hoL; rw [← HY.out] at hoL)); have nl_ := Aside0.mk (Kd.R_lower hoL (below_size (by repeat (first | (with_reducible first | exact HB.out | apply below_alloc | apply pw_below_drewN | apply below_drew1) | exact HB.out)))); have nb_ := Aside0.mk (below_step (by repeat (first | (with_reducible first | exact HB.out | apply below_alloc | apply pw_below_drewN | apply below_drew1) | exact HB.out)) hb); clear HB; have HLL := nl_; have HB := nb_; clear nl_ nb_; clear hb hoL; obtain ⟨ALL, cLL, eLL⟩ := Kd.R_slice HLL.out; subst eLL) | ((with_reducible refine (RegexError_calls _ _ ?ha ?hf ALL cLL y _ hyl (by rw [HY.out]; exact HEX.out) (Kd.R_reads' HLL.out).2.2 (Kd.R_reads' HLL.out).2.1).mono ?_); (case ha => decide +kernel); (case hf => decide +kernel); rintro e w' ⟨m, rfl, hm, rfl⟩; have HM := Aside0.mk hm; clear hm; obtain ⟨z, hz⟩ : ∃ z : List ByteArray, z = [m] := ⟨_, rfl⟩; have HZ := Aside0.mk hz; clear hz) | ((with_reducible refine gate_dst (N := 8) rfl ?_); (try (refine gate_guard (by rfl) ?_; dsimp only)); refine Kd.R_lit Kd.string _ 9 ?hg (N := 8) ?hd (xs := ([m] : List ByteArray)) (inner := [.string m]) (ok := fun _ => True) (okp := fun _ => True) ?hr ?hp (fun _ hk => hk) trivial (Below.refl _ _) (Nat.le_refl _) (by simp) ?_; (case hd => rfl); (case hg => rfl); (case hr => first | (go_simp; done) | (go_simp; rfl)); (case hp => exact (Reps.one (show Kd.M Kd.string _ _ _ m [.string m] from rfl) (Reps.none _ _))); intro vN wN hoL hb hg_ hnew_; clear hg_ hnew_; (first | rw [← HZ.out] at hoL | (simp only [Int.reduceToNat] at hoL; rw [← HZ.out] at hoL)); have nl_ := Aside0.mk (Kd.R_lower hoL (below_size (by repeat (first | (with_reducible first | exact HB.out | apply below_alloc | apply pw_below_drewN | apply below_drew1) | exact HB.out)))); have nb_ := Aside0.mk (below_step (by repeat (first | (with_reducible first | exact HB.out | apply below_alloc | apply pw_below_drewN | apply below_drew1) | exact HB.out)) hb); clear HB; have HRR := nl_; have HB := nb_; clear nl_ nb_; clear hb hoL; obtain ⟨ARR, cRR, eRR⟩ := Kd.R_slice HRR.out; subst eRR))
    go_ret
    exact ⟨_, z, rfl, by (with_reducible repeat (first | apply Kd.R_alloc | apply Kd.R_drewN | apply Kd.R_drew)); exact HRR.out, by rw [HZ.out]; rfl, by rw [HZ.out]; simp, fun p hp => by rw [HZ.out] at hp; simp at hp; subst hp; have := HM.out; omega, (by repeat (first | (with_reducible first | exact HB.out | apply below_alloc | apply pw_below_drewN | apply below_drew1) | exact HB.out))⟩
end Go.Proofs.YtdledchhpjkilaaDoor.Hand
