/- Numbers in a range: InclusiveRangeError, the four checks, impl.Numbers, and the law. -/
import Derived.Test.YtdledchhpjkilaaDoorNmImp19
import Derived.Test.YtdledchhpjkilaaDoorNmMsg
import Derived.Lib.ItoaLen
namespace Go.Proofs.YtdledchhpjkilaaDoor.Hand
open Go.RowKit Go.Proofs.YtdledchhpjkilaaDoorW.PrintWords Go.Proofs.YtdledchhpjkilaaDoorW.PrintLast Go.Proofs.YtdledchhpjkilaaDoorW.PrintMore Go.Proofs.YtdledchhpjkilaaDoor.Base
set_option linter.unusedVariables false
set_option linter.unusedSimpArgs false
set_option maxRecDepth 100000

def I64 (n : Int) : Prop := -9223372036854775808 ≤ n ∧ n ≤ 9223372036854775807
theorem Itoa_some (n : Int) (hn : I64 n) : ∃ d : ByteArray, d.size ≤ 21 ∧ ∀ w', Tab w' → Calls Tryd.prog 100 #[.int .i64 n] w' fun e w2 => e = .returned (.string d) ∧ Below w'.heap.size w' w2 := by
  refine ⟨⟨(Lib.itoa n).toArray⟩, ?_, fun w' hT' => ?_⟩
  · have := Lib.itoa_length_le n hn.1 hn.2
    simpa [ByteArray.size] using this
  · exact (Tryd.strconv_Itoa n hn.1 hn.2 w' hT').mono fun e w2 ⟨h1, k, os, h2⟩ => ⟨h1, by rw [h2]; exact Lib.below_grow _ _ (Nat.le_refl _) k os⟩

theorem Range_calls (lo hi : Int) (hlo : I64 lo) (hhi : I64 hi) (w : World) (hT : Tab w) :
    Calls Tryd.prog 88 #[.int .i64 lo, .int .i64 hi] w fun e w' => ∃ m, e = .returned (.string m) ∧ m.size ≤ 4000 ∧ Below w.heap.size w w' := by
  have HB := Aside0.mk (Below.refl w.heap.size w)
  obtain ⟨d1, hd1, h1⟩ := Itoa_some lo hlo
  obtain ⟨d2, hd2, h2⟩ := Itoa_some hi hhi
  have H1 := Aside0.mk h1; have H2 := Aside0.mk h2
  have HT := Aside0.mk hT
  clear h1 h2 hT hlo hhi
  have c1 := eq_true (show 16 + d1.size ≤ 9223372036854775807 by omega)
  have c2 := eq_false (show ¬ (9223372036854775807 < 16 + d1.size) by omega)
  have c3 := eq_true (show 16 + d1.size + 5 ≤ 9223372036854775807 by omega)
  have c4 := eq_false (show ¬ (9223372036854775807 < 16 + d1.size + 5) by omega)
  have c5 := eq_true (show 16 + d1.size + 5 + d2.size ≤ 9223372036854775807 by omega)
  have c6 := eq_false (show ¬ (9223372036854775807 < 16 + d1.size + 5 + d2.size) by omega)
  have c7 := eq_true (show 16 + d1.size + 5 + d2.size + 11 ≤ 9223372036854775807 by omega)
  have c8 := eq_false (show ¬ (9223372036854775807 < 16 + d1.size + 5 + d2.size + 11) by omega)
  go_enter Tryd.func88, Tryd.ntmps88
  go_wp2_with (first | ((with_reducible refine (H1.out _ (HT.out.below (by repeat (first | (with_reducible first | exact HB.out | apply below_alloc | apply pw_below_drewN | apply below_drew1) | exact HB.out)))).mono ?_); rintro e w' ⟨rfl, hb⟩; clear H1; have nb_ := Aside0.mk (below_step (by repeat (first | (with_reducible first | exact HB.out | apply below_alloc | apply pw_below_drewN | apply below_drew1) | exact HB.out)) hb); clear HB; have HB := nb_; clear nb_; (try clear hb)) | ((with_reducible refine (H2.out _ (HT.out.below (by repeat (first | (with_reducible first | exact HB.out | apply below_alloc | apply pw_below_drewN | apply below_drew1) | exact HB.out)))).mono ?_); rintro e w' ⟨rfl, hb⟩; clear H2; have nb_ := Aside0.mk (below_step (by repeat (first | (with_reducible first | exact HB.out | apply below_alloc | apply pw_below_drewN | apply below_drew1) | exact HB.out)) hb); clear HB; have HB := nb_; clear nb_; (try clear hb)))
  go_ret
  refine ⟨_, rfl, ?_, (by repeat (first | (with_reducible first | exact HB.out | apply below_alloc | apply pw_below_drewN | apply below_drew1) | exact HB.out))⟩
  have z1 : ∀ d : Array UInt8, (ByteArray.mk d).size = d.size := fun _ => rfl
  simp only [app_size, z1]
  simp
  omega

theorem errs64 (n : Int) (w : World) (hT : Tab w) :
    Calls Tryd.prog 64 #[.int .i64 n] w fun e w' => Errs (decide (1 ≤ n ∧ n ≤ 65535)) w e w' := by
  have HB := Aside0.mk (Below.refl w.heap.size w)
  have HR : Aside0 (∀ w', Below w.heap.size w w' → Calls Tryd.prog 88 #[.int .i64 (1), .int .i64 (65535)] w' fun e w2 => ∃ m, e = .returned (.string m) ∧ m.size ≤ 4000 ∧ Below w'.heap.size w' w2) := ⟨fun w' hb => Range_calls _ _ ⟨by omega, by omega⟩ ⟨by omega, by omega⟩ w' (hT.below hb)⟩
  clear hT
  rcases (show (1 ≤ n ∧ n ≤ 65535) ∨ n < 1 ∨ (1 ≤ n ∧ 65535 < n) by omega) with ⟨h1, h2⟩ | h1 | ⟨h1, h2⟩
  · have HD : Aside0 (decide (1 ≤ n ∧ n ≤ 65535) = true) := ⟨by simp; omega⟩
    go_enter Tryd.func64, Tryd.ntmps64
    go_wp2
    go_ret
    exact ⟨_, [], rfl, Kd.R_nil _ _ _ _ _, by rw [HD.out]; rfl, by decide, fun p hp => by simp at hp, (by repeat (first | (with_reducible first | exact HB.out | apply below_alloc | apply pw_below_drewN | apply below_drew1) | exact HB.out))⟩
  all_goals
    have HD : Aside0 (decide (1 ≤ n ∧ n ≤ 65535) = false) := ⟨by simp; omega⟩
    go_enter Tryd.func64, Tryd.ntmps64
    go_wp2_with (first | ((with_reducible refine (HR.out _ (by repeat (first | (with_reducible first | exact HB.out | apply below_alloc | apply pw_below_drewN | apply below_drew1) | exact HB.out))).mono ?_); rintro e w' ⟨m, rfl, hm, hb⟩; have HM := Aside0.mk hm; clear hm; have nb_ := Aside0.mk (below_step (by repeat (first | (with_reducible first | exact HB.out | apply below_alloc | apply pw_below_drewN | apply below_drew1) | exact HB.out)) hb); clear HB; have HB := nb_; clear nb_; (try clear hb); (obtain ⟨z, hz⟩ : ∃ z : List ByteArray, z = [m] := ⟨_, rfl⟩); have HZ := Aside0.mk hz; clear hz) | ((with_reducible refine gate_dst (N := 10) rfl ?_); (try (refine gate_guard (by rfl) ?_; dsimp only)); refine Kd.R_lit Kd.string _ 9 ?hg (N := 10) ?hd (xs := ([m] : List ByteArray)) (inner := [.string m]) (ok := fun _ => True) (okp := fun _ => True) ?hr ?hp (fun _ hk => hk) trivial (Below.refl _ _) (Nat.le_refl _) (by simp) ?_; (case hd => rfl); (case hg => rfl); (case hr => first | (go_simp; done) | (go_simp; rfl)); (case hp => exact (Reps.one (show Kd.M Kd.string _ _ _ m [.string m] from rfl) (Reps.none _ _))); intro vN wN hoL hb hg_ hnew_; clear hg_ hnew_; (first | rw [← HZ.out] at hoL | (simp only [Int.reduceToNat] at hoL; rw [← HZ.out] at hoL)); have nl_ := Aside0.mk (Kd.R_lower hoL (below_size (by repeat (first | (with_reducible first | exact HB.out | apply below_alloc | apply pw_below_drewN | apply below_drew1) | exact HB.out)))); have nb_ := Aside0.mk (below_step (by repeat (first | (with_reducible first | exact HB.out | apply below_alloc | apply pw_below_drewN | apply below_drew1) | exact HB.out)) hb); clear HB; have HRR := nl_; have HB := nb_; clear nl_ nb_; clear hb hoL; obtain ⟨ARR, cRR, eRR⟩ := Kd.R_slice HRR.out; subst eRR))
    go_ret
    exact ⟨_, z, rfl, by (with_reducible repeat (first | apply Kd.R_alloc | apply Kd.R_drewN | apply Kd.R_drew)); exact HRR.out, by rw [HZ.out, HD.out]; rfl, by rw [HZ.out]; simp, fun p hp => by rw [HZ.out] at hp; simp at hp; subst hp; have := HM.out; omega, (by repeat (first | (with_reducible first | exact HB.out | apply below_alloc | apply pw_below_drewN | apply below_drew1) | exact HB.out))⟩

theorem errs65 (n : Int) (w : World) (hT : Tab w) :
    Calls Tryd.prog 65 #[.int .i64 n] w fun e w' => Errs (decide (0 ≤ n ∧ n ≤ 2147483647)) w e w' := by
  have HB := Aside0.mk (Below.refl w.heap.size w)
  have HR : Aside0 (∀ w', Below w.heap.size w w' → Calls Tryd.prog 88 #[.int .i64 (0), .int .i64 (2147483647)] w' fun e w2 => ∃ m, e = .returned (.string m) ∧ m.size ≤ 4000 ∧ Below w'.heap.size w' w2) := ⟨fun w' hb => Range_calls _ _ ⟨by omega, by omega⟩ ⟨by omega, by omega⟩ w' (hT.below hb)⟩
  clear hT
  rcases (show (0 ≤ n ∧ n ≤ 2147483647) ∨ n < 0 ∨ (0 ≤ n ∧ 2147483647 < n) by omega) with ⟨h1, h2⟩ | h1 | ⟨h1, h2⟩
  · have HD : Aside0 (decide (0 ≤ n ∧ n ≤ 2147483647) = true) := ⟨by simp; omega⟩
    go_enter Tryd.func65, Tryd.ntmps65
    go_wp2
    go_ret
    exact ⟨_, [], rfl, Kd.R_nil _ _ _ _ _, by rw [HD.out]; rfl, by decide, fun p hp => by simp at hp, (by repeat (first | (with_reducible first | exact HB.out | apply below_alloc | apply pw_below_drewN | apply below_drew1) | exact HB.out))⟩
  all_goals
    have HD : Aside0 (decide (0 ≤ n ∧ n ≤ 2147483647) = false) := ⟨by simp; omega⟩
    go_enter Tryd.func65, Tryd.ntmps65
    go_wp2_with (first | ((with_reducible refine (HR.out _ (by repeat (first | (with_reducible first | exact HB.out | apply below_alloc | apply pw_below_drewN | apply below_drew1) | exact HB.out))).mono ?_); rintro e w' ⟨m, rfl, hm, hb⟩; have HM := Aside0.mk hm; clear hm; have nb_ := Aside0.mk (below_step (by repeat (first | (with_reducible first | exact HB.out | apply below_alloc | apply pw_below_drewN | apply below_drew1) | exact HB.out)) hb); clear HB; have HB := nb_; clear nb_; (try clear hb); (obtain ⟨z, hz⟩ : ∃ z : List ByteArray, z = [m] := ⟨_, rfl⟩); have HZ := Aside0.mk hz; clear hz) | ((with_reducible refine gate_dst (N := 10) rfl ?_); (try (refine gate_guard (by rfl) ?_; dsimp only)); refine Kd.R_lit Kd.string _ 9 ?hg (N := 10) ?hd (xs := ([m] : List ByteArray)) (inner := [.string m]) (ok := fun _ => True) (okp := fun _ => True) ?hr ?hp (fun _ hk => hk) trivial (Below.refl _ _) (Nat.le_refl _) (by simp) ?_; (case hd => rfl); (case hg => rfl); (case hr => first | (go_simp; done) | (go_simp; rfl)); (case hp => exact (Reps.one (show Kd.M Kd.string _ _ _ m [.string m] from rfl) (Reps.none _ _))); intro vN wN hoL hb hg_ hnew_; clear hg_ hnew_; (first | rw [← HZ.out] at hoL | (simp only [Int.reduceToNat] at hoL; rw [← HZ.out] at hoL)); have nl_ := Aside0.mk (Kd.R_lower hoL (below_size (by repeat (first | (with_reducible first | exact HB.out | apply below_alloc | apply pw_below_drewN | apply below_drew1) | exact HB.out)))); have nb_ := Aside0.mk (below_step (by repeat (first | (with_reducible first | exact HB.out | apply below_alloc | apply pw_below_drewN | apply below_drew1) | exact HB.out)) hb); clear HB; have HRR := nl_; have HB := nb_; clear nl_ nb_; clear hb hoL; obtain ⟨ARR, cRR, eRR⟩ := Kd.R_slice HRR.out; subst eRR))
    go_ret
    exact ⟨_, z, rfl, by (with_reducible repeat (first | apply Kd.R_alloc | apply Kd.R_drewN | apply Kd.R_drew)); exact HRR.out, by rw [HZ.out, HD.out]; rfl, by rw [HZ.out]; simp, fun p hp => by rw [HZ.out] at hp; simp at hp; subst hp; have := HM.out; omega, (by repeat (first | (with_reducible first | exact HB.out | apply below_alloc | apply pw_below_drewN | apply below_drew1) | exact HB.out))⟩

theorem errs66 (n : Int) (w : World) (hT : Tab w) :
    Calls Tryd.prog 66 #[.int .i64 n] w fun e w' => Errs (decide (0 ≤ n ∧ n ≤ 2147483647)) w e w' := by
  have HB := Aside0.mk (Below.refl w.heap.size w)
  have HR : Aside0 (∀ w', Below w.heap.size w w' → Calls Tryd.prog 88 #[.int .i64 (0), .int .i64 (2147483647)] w' fun e w2 => ∃ m, e = .returned (.string m) ∧ m.size ≤ 4000 ∧ Below w'.heap.size w' w2) := ⟨fun w' hb => Range_calls _ _ ⟨by omega, by omega⟩ ⟨by omega, by omega⟩ w' (hT.below hb)⟩
  clear hT
  rcases (show (0 ≤ n ∧ n ≤ 2147483647) ∨ n < 0 ∨ (0 ≤ n ∧ 2147483647 < n) by omega) with ⟨h1, h2⟩ | h1 | ⟨h1, h2⟩
  · have HD : Aside0 (decide (0 ≤ n ∧ n ≤ 2147483647) = true) := ⟨by simp; omega⟩
    go_enter Tryd.func66, Tryd.ntmps66
    go_wp2
    go_ret
    exact ⟨_, [], rfl, Kd.R_nil _ _ _ _ _, by rw [HD.out]; rfl, by decide, fun p hp => by simp at hp, (by repeat (first | (with_reducible first | exact HB.out | apply below_alloc | apply pw_below_drewN | apply below_drew1) | exact HB.out))⟩
  all_goals
    have HD : Aside0 (decide (0 ≤ n ∧ n ≤ 2147483647) = false) := ⟨by simp; omega⟩
    go_enter Tryd.func66, Tryd.ntmps66
    go_wp2_with (first | ((with_reducible refine (HR.out _ (by repeat (first | (with_reducible first | exact HB.out | apply below_alloc | apply pw_below_drewN | apply below_drew1) | exact HB.out))).mono ?_); rintro e w' ⟨m, rfl, hm, hb⟩; have HM := Aside0.mk hm; clear hm; have nb_ := Aside0.mk (below_step (by repeat (first | (with_reducible first | exact HB.out | apply below_alloc | apply pw_below_drewN | apply below_drew1) | exact HB.out)) hb); clear HB; have HB := nb_; clear nb_; (try clear hb); (obtain ⟨z, hz⟩ : ∃ z : List ByteArray, z = [m] := ⟨_, rfl⟩); have HZ := Aside0.mk hz; clear hz) | ((with_reducible refine gate_dst (N := 10) rfl ?_); (try (refine gate_guard (by rfl) ?_; dsimp only)); refine Kd.R_lit Kd.string _ 9 ?hg (N := 10) ?hd (xs := ([m] : List ByteArray)) (inner := [.string m]) (ok := fun _ => True) (okp := fun _ => True) ?hr ?hp (fun _ hk => hk) trivial (Below.refl _ _) (Nat.le_refl _) (by simp) ?_; (case hd => rfl); (case hg => rfl); (case hr => first | (go_simp; done) | (go_simp; rfl)); (case hp => exact (Reps.one (show Kd.M Kd.string _ _ _ m [.string m] from rfl) (Reps.none _ _))); intro vN wN hoL hb hg_ hnew_; clear hg_ hnew_; (first | rw [← HZ.out] at hoL | (simp only [Int.reduceToNat] at hoL; rw [← HZ.out] at hoL)); have nl_ := Aside0.mk (Kd.R_lower hoL (below_size (by repeat (first | (with_reducible first | exact HB.out | apply below_alloc | apply pw_below_drewN | apply below_drew1) | exact HB.out)))); have nb_ := Aside0.mk (below_step (by repeat (first | (with_reducible first | exact HB.out | apply below_alloc | apply pw_below_drewN | apply below_drew1) | exact HB.out)) hb); clear HB; have HRR := nl_; have HB := nb_; clear nl_ nb_; clear hb hoL; obtain ⟨ARR, cRR, eRR⟩ := Kd.R_slice HRR.out; subst eRR))
    go_ret
    exact ⟨_, z, rfl, by (with_reducible repeat (first | apply Kd.R_alloc | apply Kd.R_drewN | apply Kd.R_drew)); exact HRR.out, by rw [HZ.out, HD.out]; rfl, by rw [HZ.out]; simp, fun p hp => by rw [HZ.out] at hp; simp at hp; subst hp; have := HM.out; omega, (by repeat (first | (with_reducible first | exact HB.out | apply below_alloc | apply pw_below_drewN | apply below_drew1) | exact HB.out))⟩

theorem errs67 (n lo hi : Int) (hlo : I64 lo) (hhi : I64 hi) (w : World) (hT : Tab w) :
    Calls Tryd.prog 67 #[.int .i64 n, .int .i64 lo, .int .i64 hi] w fun e w' => Errs (decide (lo ≤ n ∧ n ≤ hi)) w e w' := by
  have HB := Aside0.mk (Below.refl w.heap.size w)
  have HR : Aside0 (∀ w', Below w.heap.size w w' → Calls Tryd.prog 88 #[.int .i64 (lo), .int .i64 (hi)] w' fun e w2 => ∃ m, e = .returned (.string m) ∧ m.size ≤ 4000 ∧ Below w'.heap.size w' w2) := ⟨fun w' hb => Range_calls _ _ hlo hhi w' (hT.below hb)⟩
  clear hT
  rcases (show (lo ≤ n ∧ n ≤ hi) ∨ n < lo ∨ (lo ≤ n ∧ hi < n) by omega) with ⟨h1, h2⟩ | h1 | ⟨h1, h2⟩
  · have HD : Aside0 (decide (lo ≤ n ∧ n ≤ hi) = true) := ⟨by simp; omega⟩
    go_enter Tryd.func67, Tryd.ntmps67
    go_wp2
    go_ret
    exact ⟨_, [], rfl, Kd.R_nil _ _ _ _ _, by rw [HD.out]; rfl, by decide, fun p hp => by simp at hp, (by repeat (first | (with_reducible first | exact HB.out | apply below_alloc | apply pw_below_drewN | apply below_drew1) | exact HB.out))⟩
  all_goals
    have HD : Aside0 (decide (lo ≤ n ∧ n ≤ hi) = false) := ⟨by simp; omega⟩
    go_enter Tryd.func67, Tryd.ntmps67
    go_wp2_with (first | ((with_reducible refine (HR.out _ (by repeat (first | (with_reducible first | exact HB.out | apply below_alloc | apply pw_below_drewN | apply below_drew1) | exact HB.out))).mono ?_); rintro e w' ⟨m, rfl, hm, hb⟩; have HM := Aside0.mk hm; clear hm; have nb_ := Aside0.mk (below_step (by repeat (first | (with_reducible first | exact HB.out | apply below_alloc | apply pw_below_drewN | apply below_drew1) | exact HB.out)) hb); clear HB; have HB := nb_; clear nb_; (try clear hb); (obtain ⟨z, hz⟩ : ∃ z : List ByteArray, z = [m] := ⟨_, rfl⟩); have HZ := Aside0.mk hz; clear hz) | ((with_reducible refine gate_dst (N := 18) rfl ?_); (try (refine gate_guard (by rfl) ?_; dsimp only)); refine Kd.R_lit Kd.string _ 9 ?hg (N := 18) ?hd (xs := ([m] : List ByteArray)) (inner := [.string m]) (ok := fun _ => True) (okp := fun _ => True) ?hr ?hp (fun _ hk => hk) trivial (Below.refl _ _) (Nat.le_refl _) (by simp) ?_; (case hd => rfl); (case hg => rfl); (case hr => first | (go_simp; done) | (go_simp; rfl)); (case hp => exact (Reps.one (show Kd.M Kd.string _ _ _ m [.string m] from rfl) (Reps.none _ _))); intro vN wN hoL hb hg_ hnew_; clear hg_ hnew_; (first | rw [← HZ.out] at hoL | (simp only [Int.reduceToNat] at hoL; rw [← HZ.out] at hoL)); have nl_ := Aside0.mk (Kd.R_lower hoL (below_size (by repeat (first | (with_reducible first | exact HB.out | apply below_alloc | apply pw_below_drewN | apply below_drew1) | exact HB.out)))); have nb_ := Aside0.mk (below_step (by repeat (first | (with_reducible first | exact HB.out | apply below_alloc | apply pw_below_drewN | apply below_drew1) | exact HB.out)) hb); clear HB; have HRR := nl_; have HB := nb_; clear nl_ nb_; clear hb hoL; obtain ⟨ARR, cRR, eRR⟩ := Kd.R_slice HRR.out; subst eRR))
    go_ret
    exact ⟨_, z, rfl, by (with_reducible repeat (first | apply Kd.R_alloc | apply Kd.R_drewN | apply Kd.R_drew)); exact HRR.out, by rw [HZ.out, HD.out]; rfl, by rw [HZ.out]; simp, fun p hp => by rw [HZ.out] at hp; simp at hp; subst hp; have := HM.out; omega, (by repeat (first | (with_reducible first | exact HB.out | apply below_alloc | apply pw_below_drewN | apply below_drew1) | exact HB.out))⟩

theorem impl35 (n lo hi : Int) (hlo : I64 lo) (hhi : I64 hi) (w : World) (hT : Tab w) :
    Calls Tryd.prog 35 #[.int .i64 n, .int .i64 lo, .int .i64 hi] w fun e w' => ∃ (A0 A1 A2 A3 : Option Addr) (c0 c1 c2 c3 n0 n1 n2 n3 : Nat), e = .returned (.tuple #[.slice A0 n0 c0, .slice A1 n1 c1, .slice A2 n2 c2, .slice A3 n3 c3]) ∧
      Aside0 ((((n0 : Nat) : Int) == 0) = decide (1 ≤ n ∧ n ≤ 65535)) ∧ Aside0 ((((n1 : Nat) : Int) == 0) = decide (0 ≤ n ∧ n ≤ 2147483647)) ∧ Aside0 ((((n2 : Nat) : Int) == 0) = decide (0 ≤ n ∧ n ≤ 2147483647)) ∧ Aside0 ((((n3 : Nat) : Int) == 0) = decide (lo ≤ n ∧ n ≤ hi)) ∧ Below w.heap.size w w' := by
  have HB := Aside0.mk (Below.refl w.heap.size w)
  have H64 : Aside0 (∀ w', Below w.heap.size w w' → Calls Tryd.prog 64 #[.int .i64 n] w' fun e w2 => Errs (decide (1 ≤ n ∧ n ≤ 65535)) w' e w2) := ⟨fun w' hb => errs64 n w' (hT.below hb)⟩
  have H65 : Aside0 (∀ w', Below w.heap.size w w' → Calls Tryd.prog 65 #[.int .i64 n] w' fun e w2 => Errs (decide (0 ≤ n ∧ n ≤ 2147483647)) w' e w2) := ⟨fun w' hb => errs65 n w' (hT.below hb)⟩
  have H66 : Aside0 (∀ w', Below w.heap.size w w' → Calls Tryd.prog 66 #[.int .i64 n] w' fun e w2 => Errs (decide (0 ≤ n ∧ n ≤ 2147483647)) w' e w2) := ⟨fun w' hb => errs66 n w' (hT.below hb)⟩
  have H67 : Aside0 (∀ w', Below w.heap.size w w' → Calls Tryd.prog 67 #[.int .i64 n, .int .i64 lo, .int .i64 hi] w' fun e w2 => Errs (decide (lo ≤ n ∧ n ≤ hi)) w' e w2) := ⟨fun w' hb => errs67 n lo hi hlo hhi w' (hT.below hb)⟩
  clear hT hlo hhi
  have HE : Aside0 (∀ (xs : List ByteArray) (P : Bool), (xs == []) = P → (((xs.length : Nat) : Int) == 0) = P) := ⟨fun xs P h => by cases xs with | nil => exact h | cons a b => rw [← h]; rw [beq_eq_false_iff_ne.2 (by simp; omega)]; rfl⟩
  go_enter Tryd.func35, Tryd.ntmps35
  go_wp2_with (first | ((with_reducible refine (H64.out _ (by repeat (first | (with_reducible first | exact HB.out | apply below_alloc | apply pw_below_drewN | apply below_drew1) | exact HB.out))).mono ?_); rintro e w' ⟨v0, xs0, rfl, g1, g2, g3, g4, hb⟩; (obtain ⟨A0, c0, e0⟩ := Kd.R_slice g1); subst e0; have HZ0 := Aside0.mk g2; clear g1 g2 g3 g4; clear H64; have nb_ := Aside0.mk (below_step (by repeat (first | (with_reducible first | exact HB.out | apply below_alloc | apply pw_below_drewN | apply below_drew1) | exact HB.out)) hb); clear HB; have HB := nb_; clear nb_; (try clear hb)) | ((with_reducible refine (H65.out _ (by repeat (first | (with_reducible first | exact HB.out | apply below_alloc | apply pw_below_drewN | apply below_drew1) | exact HB.out))).mono ?_); rintro e w' ⟨v1, xs1, rfl, g1, g2, g3, g4, hb⟩; (obtain ⟨A1, c1, e1⟩ := Kd.R_slice g1); subst e1; have HZ1 := Aside0.mk g2; clear g1 g2 g3 g4; clear H65; have nb_ := Aside0.mk (below_step (by repeat (first | (with_reducible first | exact HB.out | apply below_alloc | apply pw_below_drewN | apply below_drew1) | exact HB.out)) hb); clear HB; have HB := nb_; clear nb_; (try clear hb)) | ((with_reducible refine (H66.out _ (by repeat (first | (with_reducible first | exact HB.out | apply below_alloc | apply pw_below_drewN | apply below_drew1) | exact HB.out))).mono ?_); rintro e w' ⟨v2, xs2, rfl, g1, g2, g3, g4, hb⟩; (obtain ⟨A2, c2, e2⟩ := Kd.R_slice g1); subst e2; have HZ2 := Aside0.mk g2; clear g1 g2 g3 g4; clear H66; have nb_ := Aside0.mk (below_step (by repeat (first | (with_reducible first | exact HB.out | apply below_alloc | apply pw_below_drewN | apply below_drew1) | exact HB.out)) hb); clear HB; have HB := nb_; clear nb_; (try clear hb)) | ((with_reducible refine (H67.out _ (by repeat (first | (with_reducible first | exact HB.out | apply below_alloc | apply pw_below_drewN | apply below_drew1) | exact HB.out))).mono ?_); rintro e w' ⟨v3, xs3, rfl, g1, g2, g3, g4, hb⟩; (obtain ⟨A3, c3, e3⟩ := Kd.R_slice g1); subst e3; have HZ3 := Aside0.mk g2; clear g1 g2 g3 g4; clear H67; have nb_ := Aside0.mk (below_step (by repeat (first | (with_reducible first | exact HB.out | apply below_alloc | apply pw_below_drewN | apply below_drew1) | exact HB.out)) hb); clear HB; have HB := nb_; clear nb_; (try clear hb)))
  refine bodyPost_ret (v := .tuple #[.slice A0 xs0.length c0, .slice A1 xs1.length c1, .slice A2 xs2.length c2, .slice A3 xs3.length c3]) (by simp [results, Tryd.results35, go_sem]) rfl ?_
  exact ⟨A0, A1, A2, A3, c0, c1, c2, c3, _, _, _, _, rfl, ⟨HE.out _ _ HZ0.out⟩, ⟨HE.out _ _ HZ1.out⟩, ⟨HE.out _ _ HZ2.out⟩, ⟨HE.out _ _ HZ3.out⟩, (by repeat (first | (with_reducible first | exact HB.out | apply below_alloc | apply pw_below_drewN | apply below_drew1) | exact HB.out))⟩

set_option maxHeartbeats 8000000 in
theorem law11 (n lo hi : Int) (hn : I64 n) (hlo : I64 lo) (hhi : I64 hi) (w : World) (hT : Tab w) :
    Calls Tryd.prog 11 #[.int .i64 n, .int .i64 lo, .int .i64 hi] w fun e w' => e = .returned (.bool true) ∧ Below w.heap.size w w' := by
  have HB := Aside0.mk (Below.refl w.heap.size w)
  have H1 := Aside0.mk (impl35 n lo hi hlo hhi w hT)
  have H3 : Aside0 (∀ w, Calls Tryd.prog 19 #[.string ⟨#[45]⟩] w fun e w' => Errs false w e w') := ⟨fun w => errs19 ⟨#[45]⟩ (by decide) w⟩
  clear hT hlo hhi hn
  rcases (show (n < 0) ∨ (0 ≤ n ∧ n < 1) ∨ (1 ≤ n ∧ n ≤ 65535) ∨ (65535 < n ∧ n ≤ 2147483647) ∨ 2147483647 < n by omega) with h1 | ⟨h1, h2⟩ | ⟨h1, h2⟩ | ⟨h1, h2⟩ | h1 <;> rcases (show (lo ≤ n ∧ n ≤ hi) ∨ n < lo ∨ (lo ≤ n ∧ hi < n) by omega) with ⟨k1, k2⟩ | k1 | ⟨k1, k2⟩
  all_goals
    go_enter Tryd.func11, Tryd.ntmps11
    go_wp2_with (first | ((with_reducible refine (H1.out).mono ?_); rintro e w' ⟨A0, A1, A2, A3, c0, c1, c2, c3, n0, n1, n2, n3, rfl, E0, E1, E2, E3, hb⟩; (have z0 := E0.out); (have z1 := E1.out); (have z2 := E2.out); (have z3 := E3.out); (first | rw [decide_eq_true (show 1 ≤ n ∧ n ≤ 65535 by omega)] at z0 | rw [decide_eq_false (show ¬ (1 ≤ n ∧ n ≤ 65535) by omega)] at z0); (first | rw [decide_eq_true (show 0 ≤ n ∧ n ≤ 2147483647 by omega)] at z1 z2 | rw [decide_eq_false (show ¬ (0 ≤ n ∧ n ≤ 2147483647) by omega)] at z1 z2); (first | rw [decide_eq_true (show lo ≤ n ∧ n ≤ hi by omega)] at z3 | rw [decide_eq_false (show ¬ (lo ≤ n ∧ n ≤ hi) by omega)] at z3); clear E0 E1 E2 E3; have nb_ := Aside0.mk (below_step (by repeat (first | (with_reducible first | exact HB.out | apply below_alloc | apply pw_below_drewN | apply below_drew1) | exact HB.out)) hb); clear HB; have HB := nb_; clear nb_; (try clear hb)) | ((with_reducible refine (H3.out _).mono ?_); rintro e w' ⟨v1, ys, rfl, g1, g2, g5, g4, hb⟩; (obtain ⟨AY, cY, eY⟩ := Kd.R_slice g1); subst eY; have hy : 0 < ys.length := (by cases ys with | nil => simp at g2 | cons a b => simp); clear g1 g2 g4; have nb_ := Aside0.mk (below_step (by repeat (first | (with_reducible first | exact HB.out | apply below_alloc | apply pw_below_drewN | apply below_drew1) | exact HB.out)) hb); clear HB; have HB := nb_; clear nb_; (try clear hb)))
    go_ret
    exact ⟨by first | rfl | exact congrArg (fun b : Bool => Ending.returned (Value.bool b)) (by first | (simp; done) | (simp; omega)), (by repeat (first | (with_reducible first | exact HB.out | apply below_alloc | apply pw_below_drewN | apply below_drew1) | exact HB.out))⟩
end Go.Proofs.YtdledchhpjkilaaDoor.Hand
