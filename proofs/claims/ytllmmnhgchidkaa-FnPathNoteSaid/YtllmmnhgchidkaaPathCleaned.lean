/- FnPathCleaned and the functions beneath it, by hand. -/
import Derived.Test.YtllmmnhgchidkaaSpecClean
namespace Go.Proofs.Ytllmmnhgchidkaa.Hand
open Go.RowKit Go.Proofs.YtllmmnhgchidkaaW.PrintWords Go.Proofs.YtllmmnhgchidkaaW.PrintLast Go.Proofs.YtllmmnhgchidkaaW.PrintMore Go.Proofs.Ytllmmnhgchidkaa.Base Go.Proofs.Ytllmmnhgchidkaa.PFnPathParts
set_option linter.unusedVariables false
set_option linter.unusedSimpArgs false
set_option maxRecDepth 100000

theorem ZzC_calls (s : ByteArray) (hs : s.size ≤ 100000) (w : World) :
    Calls Try.prog 48 #[.string s] w fun e w' => e = .returned (.string (mk (clean s.data.toList))) ∧ Below w.heap.size w w' := by
  have HB := Aside0.mk (Below.refl w.heap.size w)
  go_enter Try.func48, Try.ntmps48
  go_wp2_with (first | ((with_reducible refine gate_callee (f := 69) rfl ?_); (try (refine gate_guard (by rfl) ?_; dsimp only)); refine goesL_ (some 4) rfl rfl Try.func69 (by kernel_rfl) rfl #[.string s] rfl (by (try simp only [List.map_toArray, List.map_cons, List.map_nil]); first | done | rfl) ?_; (with_reducible refine (zzClean_calls s hs _).mono ?_); rintro e wN ⟨rfl, hb⟩; refine ⟨_, rfl, ?_⟩; have nb_ := Aside0.mk (below_step (by repeat (first | (with_reducible first | exact HB.out | apply below_alloc | apply pw_below_drewN | apply below_drew1) | exact HB.out)) hb); clear HB; have HB := nb_; clear nb_; (try clear hb)))
  go_ret
  exact ⟨rfl, (by repeat (first | (with_reducible first | exact HB.out | apply below_alloc | apply pw_below_drewN | apply below_drew1) | exact HB.out))⟩
theorem Cleaned_calls (s : ByteArray) (hs : s.size ≤ 100000) (w : World) :
    Calls Try.prog 20 #[.string s] w fun e w' => e = .returned (.string (mk (clean s.data.toList))) ∧ Below w.heap.size w w' := by
  have HB := Aside0.mk (Below.refl w.heap.size w)
  go_enter Try.func20, Try.ntmps20
  go_wp2_with (first | ((with_reducible refine gate_callee (f := 48) rfl ?_); (try (refine gate_guard (by rfl) ?_; dsimp only)); refine goesL_ (some 4) rfl rfl Try.func48 (by kernel_rfl) rfl #[.string s] rfl (by (try simp only [List.map_toArray, List.map_cons, List.map_nil]); first | done | rfl) ?_; (with_reducible refine (ZzC_calls s hs _).mono ?_); rintro e wN ⟨rfl, hb⟩; refine ⟨_, rfl, ?_⟩; have nb_ := Aside0.mk (below_step (by repeat (first | (with_reducible first | exact HB.out | apply below_alloc | apply pw_below_drewN | apply below_drew1) | exact HB.out)) hb); clear HB; have HB := nb_; clear nb_; (try clear hb)))
  go_ret
  exact ⟨rfl, (by repeat (first | (with_reducible first | exact HB.out | apply below_alloc | apply pw_below_drewN | apply below_drew1) | exact HB.out))⟩
theorem epCleans_calls (w : World) : Calls Try.prog 22 #[] w fun e w' => e = .returned (.bool true) ∧ Below w.heap.size w w' := by
  have HB := Aside0.mk (Below.refl w.heap.size w)
  have e0 : clean [97, 47, 46, 47, 98] = [97, 47, 98] := by decide
  have h0 : ∀ w, Calls Try.prog 20 #[.string ⟨#[97, 47, 46, 47, 98]⟩] w fun e w' => e = .returned (.string (mk [97, 47, 98])) ∧ Below w.heap.size w w' := by
    intro w
    have h := Cleaned_calls ⟨#[97, 47, 46, 47, 98]⟩ (by decide) w
    rw [show ((⟨#[97, 47, 46, 47, 98]⟩ : ByteArray).data.toList) = [97, 47, 46, 47, 98] from rfl, e0] at h
    exact h
  clear e0
  have t0 : ((mk [97, 47, 98]).toList == ([97, 47, 98] : List UInt8)) = true := by rw [mk_toList]; rfl
  have H0 := Aside0.mk h0; clear h0
  go_enter Try.func22, Try.ntmps22
  go_wp2_with (first | ((with_reducible refine gate_callee (f := 20) rfl ?_); (try (refine gate_guard (by rfl) ?_; dsimp only)); refine goesL_ (some 1) rfl rfl Try.func20 (by kernel_rfl) rfl #[.string ⟨#[97, 47, 46, 47, 98]⟩] rfl (by (try simp only [List.map_toArray, List.map_cons, List.map_nil]); first | done | rfl) ?_; (with_reducible refine (H0.out _).mono ?_); rintro e wN ⟨rfl, hb⟩; refine ⟨_, rfl, ?_⟩; have nb_ := Aside0.mk (below_step (by repeat (first | (with_reducible first | exact HB.out | apply below_alloc | apply pw_below_drewN | apply below_drew1) | exact HB.out)) hb); clear HB; have HB := nb_; clear nb_; (try clear hb)))
  go_ret
  exact ⟨rfl, (by repeat (first | (with_reducible first | exact HB.out | apply below_alloc | apply pw_below_drewN | apply below_drew1) | exact HB.out))⟩

theorem FnPathCleaned_calls (s : ByteArray) (hs : s.size ≤ 140737488351232) (w : World) :
    Calls Try.prog 4 #[.string s] w fun e w' => e = .returned (.bool true) ∧ Below w.heap.size w w' := by
  obtain ⟨x, hx, hxs⟩ : ∃ x : L, s = mk x ∧ s.size = x.length := exists_mk s
  have HB := Aside0.mk (Below.refl w.heap.size w)
  by_cases h1 : s.size > 2147483647
  · clear hx hxs
    go_enter Try.func4, Try.ntmps4
    go_wp2
    go_ret
    exact ⟨rfl, (by repeat (first | (with_reducible first | exact HB.out | apply below_alloc | apply pw_below_drewN | apply below_drew1) | exact HB.out))⟩
  · obtain ⟨k, hk⟩ := (epPath_ev [x] (by simp) (by simp; omega)).rounds
    obtain ⟨y, hy⟩ : ∃ y : List ByteArray, y = [s] := ⟨_, rfl⟩
    rw [show ([x] : List L).map mk = y by rw [hy, hx]; rfl] at hk
    have KP := Aside0.mk hk; have HY := Aside0.mk hy; clear hk hy
    by_cases h2 : epOk [x] = true
    · have hs2 : s.size ≤ 100000 := by
        unfold epOk strOk at h2
        simp at h2
        omega
      rw [h2] at KP
      clear hx hxs h2
      go_enter Try.func4, Try.ntmps4
      go_wp2_with (first | ((with_reducible refine gate_dst (N := 7) rfl ?_); (try (refine gate_guard (by rfl) ?_; dsimp only)); refine Kd.R_lit Kd.string _ 9 ?hg (N := 7) ?hd (xs := ([s] : List ByteArray)) (inner := [.string s]) (ok := fun _ => True) (okp := fun _ => True) ?hr ?hp (fun _ hk => hk) trivial (Below.refl _ _) (Nat.le_refl _) (by simp) ?_; (case hd => rfl); (case hg => rfl); (case hr => first | (go_simp; done) | (go_simp; rfl)); (case hp => exact (Reps.one (show Kd.M Kd.string _ _ _ s [.string s] from rfl) (Reps.none _ _))); intro vN wN hoL hb hg_ hnew_; clear hg_ hnew_; (first | rw [← HY.out] at hoL | (simp only [Int.reduceToNat] at hoL; rw [← HY.out] at hoL)); have nl_ := Aside0.mk (Kd.R_lower hoL (below_size (by repeat (first | (with_reducible first | exact HB.out | apply below_alloc | apply pw_below_drewN | apply below_drew1) | exact HB.out)))); have nb_ := Aside0.mk (below_step (by repeat (first | (with_reducible first | exact HB.out | apply below_alloc | apply pw_below_drewN | apply below_drew1) | exact HB.out)) hb); clear HB; have HL1 := nl_; have HB := nb_; clear nl_ nb_; clear hb hoL; obtain ⟨AL1, cL1, eL1⟩ := Kd.R_slice HL1.out; subst eL1) | ((with_reducible refine gate_callee (f := 19) rfl ?_); (try (refine gate_guard (by rfl) ?_; dsimp only)); refine goesL_ (some 8) rfl rfl Try.func19 (by kernel_rfl) rfl #[.slice AL1 y.length cL1] rfl (by (try simp only [List.map_toArray, List.map_cons, List.map_nil]); first | done | rfl) ?_; (with_reducible refine (laws_epPath.calls k _ _ y true _ ?side1 ?side2 KP.out).mono ?_); (case side1 => repeat (first | exact (Kd.R_reads' HL1.out).2.2 | (with_reducible refine Kd.C_alloc ?_ _) | (with_reducible refine Kd.C_drewN ?_ _) | (with_reducible refine Kd.C_drew ?_))); (case side2 => exact (Kd.R_reads' HL1.out).2.1); rintro e wN ⟨rfl, ⟨nd, rfl⟩⟩; refine ⟨_, rfl, ?_⟩; skip) | ((with_reducible refine gate_callee (f := 20) rfl ?_); (try (refine gate_guard (by rfl) ?_; dsimp only)); refine goesL_ (some 11) rfl rfl Try.func20 (by kernel_rfl) rfl #[.string s] rfl (by (try simp only [List.map_toArray, List.map_cons, List.map_nil]); first | done | rfl) ?_; (with_reducible refine (Cleaned_calls s hs2 _).mono ?_); rintro e wN ⟨rfl, hb⟩; refine ⟨_, rfl, ?_⟩; have nb_ := Aside0.mk (below_step (by repeat (first | (with_reducible first | exact HB.out | apply below_alloc | apply pw_below_drewN | apply below_drew1) | exact HB.out)) hb); clear HB; have HB := nb_; clear nb_; (try clear hb)) | ((with_reducible refine gate_callee (f := 21) rfl ?_); (try (refine gate_guard (by rfl) ?_; dsimp only)); refine goesL_ (some 13) rfl rfl Try.func21 (by kernel_rfl) rfl #[.string s] rfl (by (try simp only [List.map_toArray, List.map_cons, List.map_nil]); first | done | rfl) ?_; (with_reducible refine (Clean_calls s hs2 _).mono ?_); rintro e wN ⟨rfl, hb⟩; refine ⟨_, rfl, ?_⟩; have nb_ := Aside0.mk (below_step (by repeat (first | (with_reducible first | exact HB.out | apply below_alloc | apply pw_below_drewN | apply below_drew1) | exact HB.out)) hb); clear HB; have HB := nb_; clear nb_; (try clear hb)) | ((with_reducible refine gate_callee (f := 22) rfl ?_); (try (refine gate_guard (by rfl) ?_; dsimp only)); refine goesL_ (some 16) rfl rfl Try.func22 (by kernel_rfl) rfl #[] rfl (by (try simp only [List.map_toArray, List.map_cons, List.map_nil]); first | done | rfl) ?_; (with_reducible refine (epCleans_calls _).mono ?_); rintro e wN ⟨rfl, hb⟩; refine ⟨_, rfl, ?_⟩; have nb_ := Aside0.mk (below_step (by repeat (first | (with_reducible first | exact HB.out | apply below_alloc | apply pw_below_drewN | apply below_drew1) | exact HB.out)) hb); clear HB; have HB := nb_; clear nb_; (try clear hb)))
      go_ret
      exact ⟨rfl, (by repeat (first | (with_reducible first | exact HB.out | apply below_alloc | apply pw_below_drewN | apply below_drew1) | exact HB.out))⟩
    · have h3 := Bool.eq_false_iff.mpr h2
      rw [h3] at KP
      clear hx hxs h2 h3
      go_enter Try.func4, Try.ntmps4
      go_wp2_with (first | ((with_reducible refine gate_dst (N := 7) rfl ?_); (try (refine gate_guard (by rfl) ?_; dsimp only)); refine Kd.R_lit Kd.string _ 9 ?hg (N := 7) ?hd (xs := ([s] : List ByteArray)) (inner := [.string s]) (ok := fun _ => True) (okp := fun _ => True) ?hr ?hp (fun _ hk => hk) trivial (Below.refl _ _) (Nat.le_refl _) (by simp) ?_; (case hd => rfl); (case hg => rfl); (case hr => first | (go_simp; done) | (go_simp; rfl)); (case hp => exact (Reps.one (show Kd.M Kd.string _ _ _ s [.string s] from rfl) (Reps.none _ _))); intro vN wN hoL hb hg_ hnew_; clear hg_ hnew_; (first | rw [← HY.out] at hoL | (simp only [Int.reduceToNat] at hoL; rw [← HY.out] at hoL)); have nl_ := Aside0.mk (Kd.R_lower hoL (below_size (by repeat (first | (with_reducible first | exact HB.out | apply below_alloc | apply pw_below_drewN | apply below_drew1) | exact HB.out)))); have nb_ := Aside0.mk (below_step (by repeat (first | (with_reducible first | exact HB.out | apply below_alloc | apply pw_below_drewN | apply below_drew1) | exact HB.out)) hb); clear HB; have HL1 := nl_; have HB := nb_; clear nl_ nb_; clear hb hoL; obtain ⟨AL1, cL1, eL1⟩ := Kd.R_slice HL1.out; subst eL1) | ((with_reducible refine gate_callee (f := 19) rfl ?_); (try (refine gate_guard (by rfl) ?_; dsimp only)); refine goesL_ (some 8) rfl rfl Try.func19 (by kernel_rfl) rfl #[.slice AL1 y.length cL1] rfl (by (try simp only [List.map_toArray, List.map_cons, List.map_nil]); first | done | rfl) ?_; (with_reducible refine (laws_epPath.calls k _ _ y false _ ?side1 ?side2 KP.out).mono ?_); (case side1 => repeat (first | exact (Kd.R_reads' HL1.out).2.2 | (with_reducible refine Kd.C_alloc ?_ _) | (with_reducible refine Kd.C_drewN ?_ _) | (with_reducible refine Kd.C_drew ?_))); (case side2 => exact (Kd.R_reads' HL1.out).2.1); rintro e wN ⟨rfl, ⟨nd, rfl⟩⟩; refine ⟨_, rfl, ?_⟩; skip))
      go_ret
      exact ⟨rfl, (by repeat (first | (with_reducible first | exact HB.out | apply below_alloc | apply pw_below_drewN | apply below_drew1) | exact HB.out))⟩
end Go.Proofs.Ytllmmnhgchidkaa.Hand
