/- The law 18: what the check answers against the reference. -/
import Derived.Test.YtdledchhpjkilaaDoorNmImp48
import Derived.Test.YtdledchhpjkilaaDoorNmImp19

namespace Go.Proofs.YtdledchhpjkilaaDoor.Hand
open Go.RowKit Go.Proofs.YtdledchhpjkilaaDoorW.PrintWords Go.Proofs.YtdledchhpjkilaaDoorW.PrintLast Go.Proofs.YtdledchhpjkilaaDoorW.PrintMore Go.Proofs.YtdledchhpjkilaaDoor.Base
set_option linter.unusedVariables false
set_option linter.unusedSimpArgs false
set_option maxRecDepth 100000

set_option maxHeartbeats 4000000 in
theorem law18 (s : ByteArray) (w : World) (hT : Tab w) :
    Calls Tryd.prog 18 #[.string s] w fun e w' => e = .returned (.bool true) ∧ Below w.heap.size w w' := by
  have HB := Aside0.mk (Below.refl w.heap.size w)
  by_cases h0 : s.size > 2147483647
  · go_enter Tryd.func18, Tryd.ntmps18
    go_wp2
    go_ret
    exact ⟨rfl, (by repeat (first | (with_reducible first | exact HB.out | apply below_alloc | apply pw_below_drewN | apply below_drew1) | exact HB.out))⟩
  by_cases h1 : s.size > 600
  · have h00 : s.size ≤ 2147483647 := by omega
    clear h0
    go_enter Tryd.func18, Tryd.ntmps18
    go_wp2
    go_ret
    exact ⟨rfl, (by repeat (first | (with_reducible first | exact HB.out | apply below_alloc | apply pw_below_drewN | apply below_drew1) | exact HB.out))⟩
  have hs : s.size ≤ 600 := by omega
  clear h0 h1
  have h1 : ∀ w', Below w.heap.size w w' → Calls Tryd.prog 48 #[.string s] w' fun e w2 => Errs2 (pQ s.data.toList) w' e w2 := fun w' hb => errs48 s (by omega) w' (hT.below hb)
  have h2 : ∀ w, Calls Tryd.prog 49 #[.string s] w fun e w' => e = .returned (.bool (pQ s.data.toList)) ∧ Below w.heap.size w w' := fun w => (Qualified_calls s (by omega) w).mono fun e w' ⟨g1, g2⟩ => ⟨g1, g2⟩
  have h3 : ∀ w, Calls Tryd.prog 19 #[.string ⟨#[45]⟩] w fun e w' => Errs false w e w' := fun w => errs19 ⟨#[45]⟩ (by decide) w
  obtain ⟨p, hp⟩ : ∃ p, (pQ s.data.toList) = p := ⟨_, rfl⟩
  rw [hp] at h1 h2
  clear hp
  have H1 := Aside0.mk h1; have H2 := Aside0.mk h2; have H3 := Aside0.mk h3
  clear h1 h2 h3
  cases p with
  | true =>
    go_enter Tryd.func18, Tryd.ntmps18
    go_wp2_with (first | ((with_reducible refine (H1.out _ (by repeat (first | (with_reducible first | exact HB.out | apply below_alloc | apply pw_below_drewN | apply below_drew1) | exact HB.out))).mono ?_); rintro e w' ⟨v0, xs, rfl, g1, g2, g3, g4, hb⟩; (obtain ⟨A1, c1, e1⟩ := Kd.R_slice g1); subst e1; have hz : (((xs.length : Nat) : Int) == 0) = true := (by cases xs with | nil => rfl | cons a b => simp at g2); clear g1 g2 g4; have nb_ := Aside0.mk (below_step (by repeat (first | (with_reducible first | exact HB.out | apply below_alloc | apply pw_below_drewN | apply below_drew1) | exact HB.out)) hb); clear HB; have HB := nb_; clear nb_; (try clear hb)) | ((with_reducible refine (H2.out _).mono ?_); rintro e w' ⟨rfl, hb⟩; have nb_ := Aside0.mk (below_step (by repeat (first | (with_reducible first | exact HB.out | apply below_alloc | apply pw_below_drewN | apply below_drew1) | exact HB.out)) hb); clear HB; have HB := nb_; clear nb_; (try clear hb)) | ((with_reducible refine (H3.out _).mono ?_); rintro e w' ⟨v1, ys, rfl, g1, g2, g5, g4, hb⟩; (obtain ⟨A2, c2, e2⟩ := Kd.R_slice g1); subst e2; have hy : 0 < ys.length := (by cases ys with | nil => simp at g2 | cons a b => simp); clear g1 g2 g4; have nb_ := Aside0.mk (below_step (by repeat (first | (with_reducible first | exact HB.out | apply below_alloc | apply pw_below_drewN | apply below_drew1) | exact HB.out)) hb); clear HB; have HB := nb_; clear nb_; (try clear hb)))
    go_ret
    exact ⟨rfl, (by repeat (first | (with_reducible first | exact HB.out | apply below_alloc | apply pw_below_drewN | apply below_drew1) | exact HB.out))⟩
  | false =>
    go_enter Tryd.func18, Tryd.ntmps18
    go_wp2_with (first | ((with_reducible refine (H1.out _ (by repeat (first | (with_reducible first | exact HB.out | apply below_alloc | apply pw_below_drewN | apply below_drew1) | exact HB.out))).mono ?_); rintro e w' ⟨v0, xs, rfl, g1, g2, g3, g4, hb⟩; (obtain ⟨A1, c1, e1⟩ := Kd.R_slice g1); subst e1; have hz : (((xs.length : Nat) : Int) == 0) = false := (by cases xs with | nil => simp at g2 | cons a b => rw [beq_eq_false_iff_ne]; simp; omega); clear g1 g2 g4; have nb_ := Aside0.mk (below_step (by repeat (first | (with_reducible first | exact HB.out | apply below_alloc | apply pw_below_drewN | apply below_drew1) | exact HB.out)) hb); clear HB; have HB := nb_; clear nb_; (try clear hb)) | ((with_reducible refine (H2.out _).mono ?_); rintro e w' ⟨rfl, hb⟩; have nb_ := Aside0.mk (below_step (by repeat (first | (with_reducible first | exact HB.out | apply below_alloc | apply pw_below_drewN | apply below_drew1) | exact HB.out)) hb); clear HB; have HB := nb_; clear nb_; (try clear hb)) | ((with_reducible refine (H3.out _).mono ?_); rintro e w' ⟨v1, ys, rfl, g1, g2, g5, g4, hb⟩; (obtain ⟨A2, c2, e2⟩ := Kd.R_slice g1); subst e2; have hy : 0 < ys.length := (by cases ys with | nil => simp at g2 | cons a b => simp); clear g1 g2 g4; have nb_ := Aside0.mk (below_step (by repeat (first | (with_reducible first | exact HB.out | apply below_alloc | apply pw_below_drewN | apply below_drew1) | exact HB.out)) hb); clear HB; have HB := nb_; clear nb_; (try clear hb)))
    go_ret
    exact ⟨rfl, (by repeat (first | (with_reducible first | exact HB.out | apply below_alloc | apply pw_below_drewN | apply below_drew1) | exact HB.out))⟩
end Go.Proofs.YtdledchhpjkilaaDoor.Hand
