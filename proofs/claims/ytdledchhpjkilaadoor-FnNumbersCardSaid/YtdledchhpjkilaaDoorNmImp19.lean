/- The thin package over function 50. -/
import Derived.Test.YtdledchhpjkilaaDoorNmChk50
namespace Go.Proofs.YtdledchhpjkilaaDoor.Hand
open Go.RowKit Go.Proofs.YtdledchhpjkilaaDoorW.PrintWords Go.Proofs.YtdledchhpjkilaaDoorW.PrintLast Go.Proofs.YtdledchhpjkilaaDoorW.PrintMore Go.Proofs.YtdledchhpjkilaaDoor.Base
set_option linter.unusedVariables false
set_option linter.unusedSimpArgs false
set_option maxRecDepth 100000

theorem errs19 (s : ByteArray) (hs : s.size ≤ 100000000) (w : World) :
    Calls Tryd.prog 19 #[.string s] w fun e w' => Errs (most 63 s.data.toList && label s.data.toList) w e w' := by
  have HB := Aside0.mk (Below.refl w.heap.size w)
  have H1 : Aside0 (Calls Tryd.prog 50 #[.string s] w fun e w' => Errs (most 63 s.data.toList && label s.data.toList) w e w') := ⟨errs50 s (by omega) w⟩
  go_enter Tryd.func19, Tryd.ntmps19
  go_wp2_with (first | ((with_reducible refine (H1.out).mono ?_); rintro e w' ⟨v0, xs, rfl, g1, g2, g3, g4, hb⟩; have HZ := Aside0.mk g2; have HL := Aside0.mk (And.intro g3 g4); have HR := Aside0.mk g1; clear g1 g2 g3 g4; have nb_ := Aside0.mk (below_step (by repeat (first | (with_reducible first | exact HB.out | apply below_alloc | apply pw_below_drewN | apply below_drew1) | exact HB.out)) hb); clear HB; have HB := nb_; clear nb_; (try clear hb)))
  go_ret
  exact ⟨_, xs, rfl, (by (with_reducible repeat (first | apply Kd.R_alloc | apply Kd.R_drewN | apply Kd.R_drew)); exact HR.out), HZ.out, HL.out.1, HL.out.2, (by repeat (first | (with_reducible first | exact HB.out | apply below_alloc | apply pw_below_drewN | apply below_drew1) | exact HB.out))⟩
end Go.Proofs.YtdledchhpjkilaaDoor.Hand
