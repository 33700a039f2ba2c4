-- PRINTED BY print.sh 35421559b90ae4d0a3588c463048766b98c2df88dd9212a6774a882060cdf62d: not written by this session
import Derived.Test.YtdledchhpjkilaaDoorPFnNameConfigKeyx0
namespace Go.Proofs.YtdledchhpjkilaaDoor.PFnNameConfigKey
open Go.RowKit Go.Proofs.YtdledchhpjkilaaDoorW.PrintWords Go.Proofs.YtdledchhpjkilaaDoorW.PrintLast Go.Proofs.YtdledchhpjkilaaDoorW.PrintMore
attribute [local go_sem] max2_int min2_int max_two min_two max_three min_three max_four min_four   -- for this text's walks alone
set_option linter.unusedVariables false
set_option linter.unusedSimpArgs false

/-! ### validation_hasChDirPrefix: function 87 -/
def validation_hasChDirPrefix.f (a0 : ByteArray) : Option (List ByteArray) := if a0.toList = ([46] : List UInt8) then (if ([] : List ByteArray).length < 8796093022208 then (some (([] : List ByteArray) ++ [(⟨#[109, 117, 115, 116, 32, 110, 111, 116, 32, 98, 101, 32, 39, 46, 39]⟩ : ByteArray)])) else (none)) else (if a0.toList = ([46, 46] : List UInt8) then (if ([] : List ByteArray).length < 8796093022208 then (some (([] : List ByteArray) ++ [(⟨#[109, 117, 115, 116, 32, 110, 111, 116, 32, 98, 101, 32, 39, 46, 46, 39]⟩ : ByteArray)])) else (none)) else (if (a0.size : Int) ≥ 2 then (if 0 ≤ 2 then (if 2 ≤ (a0.size : Int) then (if (a0.extract 0 2).toList = ([46, 46] : List UInt8) then (if ([] : List ByteArray).length < 8796093022208 then (some (([] : List ByteArray) ++ [(⟨#[109, 117, 115, 116, 32, 110, 111, 116, 32, 115, 116, 97, 114, 116, 32, 119, 105, 116, 104, 32, 39, 46, 46, 39]⟩ : ByteArray)])) else (none)) else (some ([] : List ByteArray))) else (none)) else (none)) else (some ([] : List ByteArray))))
set_option maxHeartbeats 8000000 in
set_option maxRecDepth 100000 in
theorem validation_hasChDirPrefix.calls (a0 : ByteArray) (r : List ByteArray) (w : World) (h : validation_hasChDirPrefix.f a0 = some r) :
    Calls Tryd.prog 87 #[.string a0] w fun e w' => ∃ v0_ : Value, e = .returned (v0_) ∧ Kd.R Kd.string 9 w' w.heap.size (fun _ => True) v0_ r ∧ Below w.heap.size w w' := by
  have HB := Aside0.mk (Below.refl w.heap.size w)
  have H : (if a0.toList = ([46] : List UInt8) then (if ([] : List ByteArray).length < 8796093022208 then (some (([] : List ByteArray) ++ [(⟨#[109, 117, 115, 116, 32, 110, 111, 116, 32, 98, 101, 32, 39, 46, 39]⟩ : ByteArray)])) else (none)) else (if a0.toList = ([46, 46] : List UInt8) then (if ([] : List ByteArray).length < 8796093022208 then (some (([] : List ByteArray) ++ [(⟨#[109, 117, 115, 116, 32, 110, 111, 116, 32, 98, 101, 32, 39, 46, 46, 39]⟩ : ByteArray)])) else (none)) else (if (a0.size : Int) ≥ 2 then (if 0 ≤ 2 then (if 2 ≤ (a0.size : Int) then (if (a0.extract 0 2).toList = ([46, 46] : List UInt8) then (if ([] : List ByteArray).length < 8796093022208 then (some (([] : List ByteArray) ++ [(⟨#[109, 117, 115, 116, 32, 110, 111, 116, 32, 115, 116, 97, 114, 116, 32, 119, 105, 116, 104, 32, 39, 46, 46, 39]⟩ : ByteArray)])) else (none)) else (some ([] : List ByteArray))) else (none)) else (none)) else (some ([] : List ByteArray))))) = some r := h
  clear h
  by_cases c2 : a0.toList = ([46] : List UInt8)
  · rw [if_pos c2] at H
    have c2b0 : (a0.toList == ([46] : List UInt8)) = true := beq_iff_eq.mpr c2
    have c2b1 : (a0.toList != ([46] : List UInt8)) = false := bne_eq_false_iff_eq.mpr c2
    clear c2
    by_cases c3 : ([] : List ByteArray).length < 8796093022208
    · rw [if_pos c3] at H
      have LMc3 := Aside0.mk c3
      clear c3
      obtain ⟨y123, hy123⟩ : ∃ y_ : List ByteArray, y_ = (([] : List ByteArray) ++ [(⟨#[109, 117, 115, 116, 32, 110, 111, 116, 32, 98, 101, 32, 39, 46, 39]⟩ : ByteArray)]) := ⟨_, rfl⟩
      replace H : (some y123) = some r := by first | (rw [hy123]; with_reducible exact H) | (have H2_ := (Option.bind_some _ _).symm.trans H; rw [hy123]; with_reducible exact H2_) | (have H2_ := (Option.bind_some _ _).symm.trans H; with_reducible exact H2_) | with_reducible exact H | (rw [hy123]; exact H) | exact H
      have Ny123 := Aside0.mk hy123
      clear hy123
      obtain rfl := Option.some.inj H
      go_enter Tryd.func87, Tryd.ntmps87
      go_wp2_with (first | ((with_reducible refine gate_builtin (b := .append) (xs := #[.tmp 7, .tmp 8]) rfl ?_); at_builtin; refine Kd.R_append Kd.string (w0 := w) w.heap.size rfl (.tmp 7) (.tmp 8) 22 9 (.string ⟨#[]⟩) 16 rfl Tryd.underlying22 info9 rfl (by decide) (by omega) (.slice none 0 0) ([] : List ByteArray) (⟨#[109, 117, 115, 116, 32, 110, 111, 116, 32, 98, 101, 32, 39, 46, 39]⟩ : ByteArray) [.string (⟨#[109, 117, 115, 116, 32, 110, 111, 116, 32, 98, 101, 32, 39, 46, 39]⟩ : ByteArray)] (fun _ => True) (fun _ => False) rfl rfl ?aP (fun _ hk => hk.elim) ?aF ?aO ?aB ?aS ?aL ?_; (case aP => exact rfl); (case aB => exact (by repeat (first | (with_reducible first | exact HB.out | apply below_alloc | apply pw_below_drewN | apply below_drew1) | exact HB.out))); (case aF => exact (fun _ _ => trivial)); (case aO => exact ((Kd.R_nil _ _ _ _ (fun _ => True)))); (case aS => exact (below_size (by repeat (first | (with_reducible first | exact HB.out | apply below_alloc | apply pw_below_drewN | apply below_drew1) | exact HB.out)))); (case aL => have := LMc3.out; omega); intro v124 w4 ho hb hg hat; rw [← Ny123.out] at ho; have n0_ := Aside0.mk (hb); have n1_ := Aside0.mk (ho); clear HB; have HB := n0_; have HO125 := n1_; clear n0_ n1_; clear ho hb hg hat))
      go_ret
      exact ⟨_, by first | rfl | (simp [errW_none, errW_some] <;> rfl) | (simp [*, errW_none, errW_some] <;> rfl), by (with_reducible repeat (first | apply Kd.R_alloc | apply Kd.R_drewN | apply Kd.R_drew)); exact HO125.out, by repeat (first | (with_reducible first | exact HB.out | apply below_alloc | apply pw_below_drewN | apply below_drew1) | exact HB.out)⟩
    · rw [if_neg c3] at H
      exact absurd H (by simp)
  · rw [if_neg c2] at H
    have c2b0 : (a0.toList == ([46] : List UInt8)) = false := beq_eq_false_iff_ne.mpr c2
    have c2b1 : (a0.toList != ([46] : List UInt8)) = true := bne_iff_ne.mpr c2
    by_cases c5 : a0.toList = ([46, 46] : List UInt8)
    · rw [if_pos c5] at H
      have c5b0 : (a0.toList == ([46, 46] : List UInt8)) = true := beq_iff_eq.mpr c5
      have c5b1 : (a0.toList != ([46, 46] : List UInt8)) = false := bne_eq_false_iff_eq.mpr c5
      clear c5
      by_cases c6 : ([] : List ByteArray).length < 8796093022208
      · rw [if_pos c6] at H
        have LMc6 := Aside0.mk c6
        clear c6
        obtain ⟨y126, hy126⟩ : ∃ y_ : List ByteArray, y_ = (([] : List ByteArray) ++ [(⟨#[109, 117, 115, 116, 32, 110, 111, 116, 32, 98, 101, 32, 39, 46, 46, 39]⟩ : ByteArray)]) := ⟨_, rfl⟩
        replace H : (some y126) = some r := by first | (rw [hy126]; with_reducible exact H) | (have H2_ := (Option.bind_some _ _).symm.trans H; rw [hy126]; with_reducible exact H2_) | (have H2_ := (Option.bind_some _ _).symm.trans H; with_reducible exact H2_) | with_reducible exact H | (rw [hy126]; exact H) | exact H
        have Ny126 := Aside0.mk hy126
        clear hy126
        obtain rfl := Option.some.inj H
        go_enter Tryd.func87, Tryd.ntmps87
        go_wp2_with (first | ((with_reducible refine gate_builtin (b := .append) (xs := #[.tmp 13, .tmp 14]) rfl ?_); at_builtin; refine Kd.R_append Kd.string (w0 := w) w.heap.size rfl (.tmp 13) (.tmp 14) 22 9 (.string ⟨#[]⟩) 16 rfl Tryd.underlying22 info9 rfl (by decide) (by omega) (.slice none 0 0) ([] : List ByteArray) (⟨#[109, 117, 115, 116, 32, 110, 111, 116, 32, 98, 101, 32, 39, 46, 46, 39]⟩ : ByteArray) [.string (⟨#[109, 117, 115, 116, 32, 110, 111, 116, 32, 98, 101, 32, 39, 46, 46, 39]⟩ : ByteArray)] (fun _ => True) (fun _ => False) rfl rfl ?aP (fun _ hk => hk.elim) ?aF ?aO ?aB ?aS ?aL ?_; (case aP => exact rfl); (case aB => exact (by repeat (first | (with_reducible first | exact HB.out | apply below_alloc | apply pw_below_drewN | apply below_drew1) | exact HB.out))); (case aF => exact (fun _ _ => trivial)); (case aO => exact ((Kd.R_nil _ _ _ _ (fun _ => True)))); (case aS => exact (below_size (by repeat (first | (with_reducible first | exact HB.out | apply below_alloc | apply pw_below_drewN | apply below_drew1) | exact HB.out)))); (case aL => have := LMc6.out; omega); intro v127 w7 ho hb hg hat; rw [← Ny126.out] at ho; have n0_ := Aside0.mk (hb); have n1_ := Aside0.mk (ho); clear HB; have HB := n0_; have HO128 := n1_; clear n0_ n1_; clear ho hb hg hat))
        go_ret
        exact ⟨_, by first | rfl | (simp [errW_none, errW_some] <;> rfl) | (simp [*, errW_none, errW_some] <;> rfl), by (with_reducible repeat (first | apply Kd.R_alloc | apply Kd.R_drewN | apply Kd.R_drew)); exact HO128.out, by repeat (first | (with_reducible first | exact HB.out | apply below_alloc | apply pw_below_drewN | apply below_drew1) | exact HB.out)⟩
      · rw [if_neg c6] at H
        exact absurd H (by simp)
    · rw [if_neg c5] at H
      have c5b0 : (a0.toList == ([46, 46] : List UInt8)) = false := beq_eq_false_iff_ne.mpr c5
      have c5b1 : (a0.toList != ([46, 46] : List UInt8)) = true := bne_iff_ne.mpr c5
      by_cases c8 : (a0.size : Int) ≥ 2
      · rw [if_pos c8] at H
        have c8b0 : decide (2 ≤ (a0.size : Int)) = true := decide_eq_true c8
        have c8b1 : decide (2 ≤ a0.size) = true := decide_eq_true (by omega)
        clear c8
        by_cases c9 : 0 ≤ 2
        · rw [if_pos c9] at H
          have c9b0 := eq_true c9
          have c9b1 : decide (0 ≤ 2) = true := decide_eq_true c9
          clear c9
          by_cases c10 : 2 ≤ (a0.size : Int)
          · rw [if_pos c10] at H
            have c10b0 := eq_true c10
            have c10b1 : decide (2 ≤ (a0.size : Int)) = true := decide_eq_true c10
            clear c10
            by_cases c11 : (a0.extract 0 2).toList = ([46, 46] : List UInt8)
            · rw [if_pos c11] at H
              have c11b0 : ((a0.extract 0 2).toList == ([46, 46] : List UInt8)) = true := beq_iff_eq.mpr c11
              have c11b1 : ((a0.extract 0 2).toList != ([46, 46] : List UInt8)) = false := bne_eq_false_iff_eq.mpr c11
              clear c11
              by_cases c12 : ([] : List ByteArray).length < 8796093022208
              · rw [if_pos c12] at H
                have LMc12 := Aside0.mk c12
                clear c12
                obtain ⟨y129, hy129⟩ : ∃ y_ : List ByteArray, y_ = (([] : List ByteArray) ++ [(⟨#[109, 117, 115, 116, 32, 110, 111, 116, 32, 115, 116, 97, 114, 116, 32, 119, 105, 116, 104, 32, 39, 46, 46, 39]⟩ : ByteArray)]) := ⟨_, rfl⟩
                replace H : (some y129) = some r := by first | (rw [hy129]; with_reducible exact H) | (have H2_ := (Option.bind_some _ _).symm.trans H; rw [hy129]; with_reducible exact H2_) | (have H2_ := (Option.bind_some _ _).symm.trans H; with_reducible exact H2_) | with_reducible exact H | (rw [hy129]; exact H) | exact H
                have Ny129 := Aside0.mk hy129
                clear hy129
                obtain rfl := Option.some.inj H
                go_enter Tryd.func87, Tryd.ntmps87
                go_wp2_with (first | ((with_reducible refine gate_builtin (b := .append) (xs := #[.tmp 25, .tmp 26]) rfl ?_); at_builtin; refine Kd.R_append Kd.string (w0 := w) w.heap.size rfl (.tmp 25) (.tmp 26) 22 9 (.string ⟨#[]⟩) 16 rfl Tryd.underlying22 info9 rfl (by decide) (by omega) (.slice none 0 0) ([] : List ByteArray) (⟨#[109, 117, 115, 116, 32, 110, 111, 116, 32, 115, 116, 97, 114, 116, 32, 119, 105, 116, 104, 32, 39, 46, 46, 39]⟩ : ByteArray) [.string (⟨#[109, 117, 115, 116, 32, 110, 111, 116, 32, 115, 116, 97, 114, 116, 32, 119, 105, 116, 104, 32, 39, 46, 46, 39]⟩ : ByteArray)] (fun _ => True) (fun _ => False) rfl rfl ?aP (fun _ hk => hk.elim) ?aF ?aO ?aB ?aS ?aL ?_; (case aP => exact rfl); (case aB => exact (by repeat (first | (with_reducible first | exact HB.out | apply below_alloc | apply pw_below_drewN | apply below_drew1) | exact HB.out))); (case aF => exact (fun _ _ => trivial)); (case aO => exact ((Kd.R_nil _ _ _ _ (fun _ => True)))); (case aS => exact (below_size (by repeat (first | (with_reducible first | exact HB.out | apply below_alloc | apply pw_below_drewN | apply below_drew1) | exact HB.out)))); (case aL => have := LMc12.out; omega); intro v130 w13 ho hb hg hat; rw [← Ny129.out] at ho; have n0_ := Aside0.mk (hb); have n1_ := Aside0.mk (ho); clear HB; have HB := n0_; have HO131 := n1_; clear n0_ n1_; clear ho hb hg hat))
                go_ret
                exact ⟨_, by first | rfl | (simp [errW_none, errW_some] <;> rfl) | (simp [*, errW_none, errW_some] <;> rfl), by (with_reducible repeat (first | apply Kd.R_alloc | apply Kd.R_drewN | apply Kd.R_drew)); exact HO131.out, by repeat (first | (with_reducible first | exact HB.out | apply below_alloc | apply pw_below_drewN | apply below_drew1) | exact HB.out)⟩
              · rw [if_neg c12] at H
                exact absurd H (by simp)
            · rw [if_neg c11] at H
              have c11b0 : ((a0.extract 0 2).toList == ([46, 46] : List UInt8)) = false := beq_eq_false_iff_ne.mpr c11
              have c11b1 : ((a0.extract 0 2).toList != ([46, 46] : List UInt8)) = true := bne_iff_ne.mpr c11
              obtain rfl := Option.some.inj H
              go_enter Tryd.func87, Tryd.ntmps87
              go_wp2
              go_ret
              exact ⟨_, by first | rfl | (simp [errW_none, errW_some] <;> rfl) | (simp [*, errW_none, errW_some] <;> rfl), by first | exact Kd.R_nil _ _ _ _ _ | exact Kd.N_nil _ _ _ _ _ | exact Kd.V_nil _ _ _ _ _ | exact Kd.Q_nil _ _ _ _ _ | exact Kd.S_nil _ _ _ _ _, by repeat (first | (with_reducible first | exact HB.out | apply below_alloc | apply pw_below_drewN | apply below_drew1) | exact HB.out)⟩
          · rw [if_neg c10] at H
            exact absurd H (by simp)
        · rw [if_neg c9] at H
          exact absurd H (by simp)
      · rw [if_neg c8] at H
        have c8b0 : decide (2 ≤ (a0.size : Int)) = false := decide_eq_false c8
        have c8b1 : decide (2 ≤ a0.size) = false := decide_eq_false (by omega)
        clear c8
        obtain rfl := Option.some.inj H
        go_enter Tryd.func87, Tryd.ntmps87
        go_wp2
        go_ret
        exact ⟨_, by first | rfl | (simp [errW_none, errW_some] <;> rfl) | (simp [*, errW_none, errW_some] <;> rfl), by first | exact Kd.R_nil _ _ _ _ _ | exact Kd.N_nil _ _ _ _ _ | exact Kd.V_nil _ _ _ _ _ | exact Kd.Q_nil _ _ _ _ _ | exact Kd.S_nil _ _ _ _ _, by repeat (first | (with_reducible first | exact HB.out | apply below_alloc | apply pw_below_drewN | apply below_drew1) | exact HB.out)⟩

-- NOT PRINTED: function 63 (validation_IsConfigMapKey)

-- NOT PRINTED: function 33 (impl_ConfigKey)

/-! ### spec_among: function 75 -/
def spec_among.l0 : Nat → Int → ByteArray → Int → Int → Option (Bool)
  | 0, _, _, _, _ => none
  | k + 1, x0, x1, x7, x8 => if x8 < x7 then (if 0 ≤ x8 then (if x8 < (x1.size : Int) then (if (bt x1 x8) = x0 then (some true) else (spec_among.l0 k x0 x1 x7 (wrap64 (x8 + 1)))) else (none)) else (none)) else (some false)
def spec_among.f (k : Nat) (a0 : Int) (a1 : ByteArray) : Option (Bool) := spec_among.l0 k a0 a1 (a1.size : Int) 0
theorem spec_among.mono_l : ∀ k, (∀ y0 y1 y2 y3, LeO (spec_among.l0 k y0 y1 y2 y3) (spec_among.l0 (k + 1) y0 y1 y2 y3))
  | 0 => fun _ _ _ _ r h => by simp [spec_among.l0] at h
  | k + 1 => by
    have ih0 := spec_among.mono_l k
    · intro y0 y1 y2 y3
      unfold spec_among.l0
      repeat' first
      | (with_reducible exact ih0 _ _ _ _)
      | (with_reducible exact LeO.refl _)
      | (with_reducible exact LeO.none _)
      | (with_reducible refine LeO.ite ?_ ?_)
      | (with_reducible refine LeO.bind ?_ (fun _ => ?_))
      | exact ih0 _ _ _ _
      | exact LeO.none _
      | refine LeO.ite ?_ ?_
      | refine LeO.bind ?_ (fun _ => ?_)
theorem spec_among.mono : ∀ a0 a1 k, LeO (spec_among.f k a0 a1) (spec_among.f (k + 1) a0 a1) := by
  intro a0 a1 k
  have ih0 := spec_among.mono_l k
  unfold spec_among.f
  repeat' first
      | (with_reducible exact ih0 _ _ _ _)
      | (with_reducible exact LeO.refl _)
      | (with_reducible exact LeO.none _)
      | (with_reducible refine LeO.ite ?_ ?_)
      | (with_reducible refine LeO.bind ?_ (fun _ => ?_))
      | exact ih0 _ _ _ _
      | exact LeO.none _
      | refine LeO.ite ?_ ?_
      | refine LeO.bind ?_ (fun _ => ?_)
set_option maxHeartbeats 8000000 in
set_option maxRecDepth 100000 in
theorem spec_among.calls (k : Nat) (a0 : Int) (a1 : ByteArray) (r : Bool) (w : World) (h : spec_among.f k a0 a1 = some r) :
    Calls Tryd.prog 75 #[.int .u8 a0, .string a1] w fun e w' => e = .returned (.bool r) ∧ Drawn0 w w' := by
  have H : (spec_among.l0 k a0 a1 (a1.size : Int) 0) = some r := h
  clear h
  have H' := Aside0.mk H
  clear H
  go_enter Tryd.func75, Tryd.ntmps75
  go_wp2
  go_loopg [8] k (fun kq v8 w' => ∃ (x8_1 : Int), v8 = .int .i64 x8_1 ∧ Aside0 (spec_among.l0 kq a0 a1 (a1.size : Int) x8_1 = some r) ∧ Aside0 (kq ≤ k) ∧ Drawn0 w w')
  case atStart => exact ⟨(0), (by first | rfl | (simp; done) | (simp [*]; done)), H', ⟨Nat.le_refl _⟩, by repeat (first | exact Drawn0.refl _ | apply Drawn0.step)⟩
  case round =>
    clear H'
    try clear p2
    obtain ⟨x8_1, rfl, HA, HK1, ⟨m1, rfl⟩⟩ := hrel
    cases gk with
    | zero => exact absurd HA.out (by simp [spec_among.l0])
    | succ k1 =>
      have H := HA.out
      clear HA
      simp only [spec_among.l0] at H
      by_cases c3 : x8_1 < (a1.size : Int)
      · rw [if_pos c3] at H
        have c3b0 : decide (x8_1 < (a1.size : Int)) = true := decide_eq_true c3
        clear c3
        by_cases c4 : 0 ≤ x8_1
        · rw [if_pos c4] at H
          have c4b0 : decide (0 ≤ x8_1) = true := decide_eq_true c4
          clear c4
          by_cases c5 : x8_1 < (a1.size : Int)
          · rw [if_pos c5] at H
            have c5b0 : decide (x8_1 < (a1.size : Int)) = true := decide_eq_true c5
            clear c5
            by_cases c7 : (bt a1 x8_1) = a0
            · rw [if_pos c7] at H
              have c7b0 : ((bt a1 x8_1) == a0) = true := beq_iff_eq.mpr c7
              have c7b1 : ((bt a1 x8_1) != a0) = false := bne_eq_false_iff_eq.mpr c7
              clear c7
              obtain rfl := Option.some.inj H
              have p6 : 0 ≤ (x8_1 : Int) := of_decide_eq_true (by first | (with_reducible assumption) | assumption)
              have q6 : x8_1 < (a1.size : Int) := of_decide_eq_true (by first | (with_reducible assumption) | assumption)
              have hx6 := bt_at a1 x8_1
              replace p6 := eq_true p6
              replace q6 := eq_true q6
              go_wp2
              go_ret
              exact ⟨by first | rfl | (simp; done) | (simp [*]; done), by repeat (first | exact Drawn0.refl _ | apply Drawn0.step)⟩
            · rw [if_neg c7] at H
              have c7b0 : ((bt a1 x8_1) == a0) = false := beq_eq_false_iff_ne.mpr c7
              have c7b1 : ((bt a1 x8_1) != a0) = true := bne_iff_ne.mpr c7
              have H' := Aside0.mk H
              clear H
              have p6 : 0 ≤ (x8_1 : Int) := of_decide_eq_true (by first | (with_reducible assumption) | assumption)
              have q6 : x8_1 < (a1.size : Int) := of_decide_eq_true (by first | (with_reducible assumption) | assumption)
              have hx6 := bt_at a1 x8_1
              replace p6 := eq_true p6
              replace q6 := eq_true q6
              go_wp2
              go_roundg k1
              case measure => have := HK1.out; omega
              case rel => exact ⟨(wrap64 (x8_1 + 1)), (by first | rfl | (simp; done) | (simp [*]; done)), H', ⟨by have := HK1.out; omega⟩, by repeat (first | exact Drawn0.refl _ | apply Drawn0.step)⟩
          · rw [if_neg c5] at H
            exact absurd H (by simp)
        · rw [if_neg c4] at H
          exact absurd H (by simp)
      · rw [if_neg c3] at H
        have c3b0 : decide (x8_1 < (a1.size : Int)) = false := decide_eq_false c3
        clear c3
        obtain rfl := Option.some.inj H
        go_wp2
        go_ret
        exact ⟨by first | rfl | (simp; done) | (simp [*]; done), by repeat (first | exact Drawn0.refl _ | apply Drawn0.step)⟩

-- NOT PRINTED: function 54 (spec_all)

/-! ### spec_Small: function 52 -/
def spec_Small.f (a0 : Int) : Option (Bool) := if a0 ≥ 97 then (if a0 ≤ 122 then (some true) else (if a0 ≥ 48 then (some (decide (a0 ≤ 57))) else (some false))) else (if a0 ≥ 48 then (some (decide (a0 ≤ 57))) else (some false))
set_option maxHeartbeats 8000000 in
set_option maxRecDepth 100000 in
theorem spec_Small.calls (a0 : Int) (r : Bool) (w : World) (h : spec_Small.f a0 = some r) :
    Calls Tryd.prog 52 #[.int .u8 a0] w fun e w' => e = .returned (.bool r) ∧ Drawn0 w w' := by
  have H : (if a0 ≥ 97 then (if a0 ≤ 122 then (some true) else (if a0 ≥ 48 then (some (decide (a0 ≤ 57))) else (some false))) else (if a0 ≥ 48 then (some (decide (a0 ≤ 57))) else (some false))) = some r := h
  clear h
  by_cases c2 : a0 ≥ 97
  · rw [if_pos c2] at H
    have c2b0 : decide (97 ≤ a0) = true := decide_eq_true c2
    clear c2
    by_cases c3 : a0 ≤ 122
    · rw [if_pos c3] at H
      have c3b0 : decide (a0 ≤ 122) = true := decide_eq_true c3
      clear c3
      obtain rfl := Option.some.inj H
      go_enter Tryd.func52, Tryd.ntmps52
      go_wp2
      go_ret
      exact ⟨by first | rfl | (simp; done) | (simp [*]; done), by repeat (first | exact Drawn0.refl _ | apply Drawn0.step)⟩
    · rw [if_neg c3] at H
      have c3b0 : decide (a0 ≤ 122) = false := decide_eq_false c3
      clear c3
      by_cases c4 : a0 ≥ 48
      · rw [if_pos c4] at H
        have c4b0 : decide (48 ≤ a0) = true := decide_eq_true c4
        clear c4
        obtain rfl := Option.some.inj H
        go_enter Tryd.func52, Tryd.ntmps52
        go_wp2
        go_ret
        exact ⟨by first | rfl | (simp; done) | (simp [*]; done), by repeat (first | exact Drawn0.refl _ | apply Drawn0.step)⟩
      · rw [if_neg c4] at H
        have c4b0 : decide (48 ≤ a0) = false := decide_eq_false c4
        clear c4
        obtain rfl := Option.some.inj H
        go_enter Tryd.func52, Tryd.ntmps52
        go_wp2
        go_ret
        exact ⟨by first | rfl | (simp; done) | (simp [*]; done), by repeat (first | exact Drawn0.refl _ | apply Drawn0.step)⟩
  · rw [if_neg c2] at H
    have c2b0 : decide (97 ≤ a0) = false := decide_eq_false c2
    clear c2
    by_cases c5 : a0 ≥ 48
    · rw [if_pos c5] at H
      have c5b0 : decide (48 ≤ a0) = true := decide_eq_true c5
      clear c5
      obtain rfl := Option.some.inj H
      go_enter Tryd.func52, Tryd.ntmps52
      go_wp2
      go_ret
      exact ⟨by first | rfl | (simp; done) | (simp [*]; done), by repeat (first | exact Drawn0.refl _ | apply Drawn0.step)⟩
    · rw [if_neg c5] at H
      have c5b0 : decide (48 ≤ a0) = false := decide_eq_false c5
      clear c5
      obtain rfl := Option.some.inj H
      go_enter Tryd.func52, Tryd.ntmps52
      go_wp2
      go_ret
      exact ⟨by first | rfl | (simp; done) | (simp [*]; done), by repeat (first | exact Drawn0.refl _ | apply Drawn0.step)⟩

/-! ### spec_Alnum: function 55 -/
def spec_Alnum.f (a0 : Int) : Option (Bool) := (spec_Small.f a0).bind fun t132 => (if t132 = true then (some true) else (if a0 ≥ 65 then (some (decide (a0 ≤ 90))) else (some false)))
set_option maxHeartbeats 8000000 in
set_option maxRecDepth 100000 in
theorem spec_Alnum.calls (a0 : Int) (r : Bool) (w : World) (h : spec_Alnum.f a0 = some r) :
    Calls Tryd.prog 55 #[.int .u8 a0] w fun e w' => e = .returned (.bool r) ∧ Drawn0 w w' := by
  have H : ((spec_Small.f a0).bind fun t132 => (if t132 = true then (some true) else (if a0 ≥ 65 then (some (decide (a0 ≤ 90))) else (some false)))) = some r := h
  clear h
  replace H := Option.bind_eq_some_iff.mp H
  obtain ⟨t132, A20, H⟩ := H
  replace H : (if t132 = true then (some true) else (if a0 ≥ 65 then (some (decide (a0 ≤ 90))) else (some false))) = some r := H
  have A2 := Aside0.mk A20
  clear A20
  by_cases c3 : t132 = true
  · subst c3
    have H1 : (some true) = some r := by rw [if_pos rfl] at H; exact H
    clear H
    have H := H1
    clear H1
    obtain rfl := Option.some.inj H
    go_enter Tryd.func55, Tryd.ntmps55
    go_wp2_with (first | ((with_reducible refine gate_callee (f := 52) rfl ?_); refine goesL_ (some 4) rfl rfl Tryd.func52 (by kernel_rfl) rfl #[.int .u8 a0] rfl (by (try simp only [List.map_toArray, List.map_cons, List.map_nil]); first | done | rfl | (simp only [List.length_drop, List.length_take]; rfl)) ?_; (with_reducible refine (spec_Small.calls a0 true _ A2.out).mono ?_); rintro e w' ⟨rfl, ⟨nd, rfl⟩⟩; refine ⟨_, rfl, ?_⟩))
    go_ret
    exact ⟨by first | rfl | (simp; done) | (simp [*]; done), by repeat (first | exact Drawn0.refl _ | apply Drawn0.step)⟩
  · replace c3 := Bool.eq_false_iff.mpr c3
    subst c3
    have H1 : (if a0 ≥ 65 then (some (decide (a0 ≤ 90))) else (some false)) = some r := by rw [if_neg (show ¬ (false = true) by decide)] at H; exact H
    clear H
    have H := H1
    clear H1
    by_cases c4 : a0 ≥ 65
    · rw [if_pos c4] at H
      have c4b0 : decide (65 ≤ a0) = true := decide_eq_true c4
      clear c4
      obtain rfl := Option.some.inj H
      go_enter Tryd.func55, Tryd.ntmps55
      go_wp2_with (first | ((with_reducible refine gate_callee (f := 52) rfl ?_); refine goesL_ (some 4) rfl rfl Tryd.func52 (by kernel_rfl) rfl #[.int .u8 a0] rfl (by (try simp only [List.map_toArray, List.map_cons, List.map_nil]); first | done | rfl | (simp only [List.length_drop, List.length_take]; rfl)) ?_; (with_reducible refine (spec_Small.calls a0 false _ A2.out).mono ?_); rintro e w' ⟨rfl, ⟨nd, rfl⟩⟩; refine ⟨_, rfl, ?_⟩))
      go_ret
      exact ⟨by first | rfl | (simp; done) | (simp [*]; done), by repeat (first | exact Drawn0.refl _ | apply Drawn0.step)⟩
    · rw [if_neg c4] at H
      have c4b0 : decide (65 ≤ a0) = false := decide_eq_false c4
      clear c4
      obtain rfl := Option.some.inj H
      go_enter Tryd.func55, Tryd.ntmps55
      go_wp2_with (first | ((with_reducible refine gate_callee (f := 52) rfl ?_); refine goesL_ (some 4) rfl rfl Tryd.func52 (by kernel_rfl) rfl #[.int .u8 a0] rfl (by (try simp only [List.map_toArray, List.map_cons, List.map_nil]); first | done | rfl | (simp only [List.length_drop, List.length_take]; rfl)) ?_; (with_reducible refine (spec_Small.calls a0 false _ A2.out).mono ?_); rintro e w' ⟨rfl, ⟨nd, rfl⟩⟩; refine ⟨_, rfl, ?_⟩))
      go_ret
      exact ⟨by first | rfl | (simp; done) | (simp [*]; done), by repeat (first | exact Drawn0.refl _ | apply Drawn0.step)⟩

/-! ### spec_dotted: function 62 -/
def spec_dotted.f (a0 : ByteArray) : Option (Bool) := if a0.toList = ([46] : List UInt8) then (some true) else (if (a0.size : Int) > 1 then (if 0 ≤ 2 then (if 2 ≤ (a0.size : Int) then (some ((a0.extract 0 2).toList == ([46, 46] : List UInt8))) else (none)) else (none)) else (some false))
set_option maxHeartbeats 8000000 in
set_option maxRecDepth 100000 in
theorem spec_dotted.calls (a0 : ByteArray) (r : Bool) (w : World) (h : spec_dotted.f a0 = some r) :
    Calls Tryd.prog 62 #[.string a0] w fun e w' => e = .returned (.bool r) ∧ Drawn0 w w' := by
  have H : (if a0.toList = ([46] : List UInt8) then (some true) else (if (a0.size : Int) > 1 then (if 0 ≤ 2 then (if 2 ≤ (a0.size : Int) then (some ((a0.extract 0 2).toList == ([46, 46] : List UInt8))) else (none)) else (none)) else (some false))) = some r := h
  clear h
  by_cases c2 : a0.toList = ([46] : List UInt8)
  · rw [if_pos c2] at H
    have c2b0 : (a0.toList == ([46] : List UInt8)) = true := beq_iff_eq.mpr c2
    have c2b1 : (a0.toList != ([46] : List UInt8)) = false := bne_eq_false_iff_eq.mpr c2
    clear c2
    obtain rfl := Option.some.inj H
    go_enter Tryd.func62, Tryd.ntmps62
    go_wp2
    go_ret
    exact ⟨by first | rfl | (simp; done) | (simp [*]; done), by repeat (first | exact Drawn0.refl _ | apply Drawn0.step)⟩
  · rw [if_neg c2] at H
    have c2b0 : (a0.toList == ([46] : List UInt8)) = false := beq_eq_false_iff_ne.mpr c2
    have c2b1 : (a0.toList != ([46] : List UInt8)) = true := bne_iff_ne.mpr c2
    by_cases c3 : (a0.size : Int) > 1
    · rw [if_pos c3] at H
      have c3b0 : decide (1 < (a0.size : Int)) = true := decide_eq_true c3
      have c3b1 : decide (1 < a0.size) = true := decide_eq_true (by omega)
      clear c3
      by_cases c4 : 0 ≤ 2
      · rw [if_pos c4] at H
        have c4b0 := eq_true c4
        have c4b1 : decide (0 ≤ 2) = true := decide_eq_true c4
        clear c4
        by_cases c5 : 2 ≤ (a0.size : Int)
        · rw [if_pos c5] at H
          have c5b0 := eq_true c5
          have c5b1 : decide (2 ≤ (a0.size : Int)) = true := decide_eq_true c5
          clear c5
          obtain rfl := Option.some.inj H
          go_enter Tryd.func62, Tryd.ntmps62
          go_wp2
          go_ret
          exact ⟨by first | rfl | (simp; done) | (simp [*]; done), by repeat (first | exact Drawn0.refl _ | apply Drawn0.step)⟩
        · rw [if_neg c5] at H
          exact absurd H (by simp)
      · rw [if_neg c4] at H
        exact absurd H (by simp)
    · rw [if_neg c3] at H
      have c3b0 : decide (1 < (a0.size : Int)) = false := decide_eq_false c3
      have c3b1 : decide (1 < a0.size) = false := decide_eq_false (by omega)
      clear c3
      obtain rfl := Option.some.inj H
      go_enter Tryd.func62, Tryd.ntmps62
      go_wp2
      go_ret
      exact ⟨by first | rfl | (simp; done) | (simp [*]; done), by repeat (first | exact Drawn0.refl _ | apply Drawn0.step)⟩

-- NOT PRINTED: function 34 (spec_Config)

-- NOT PRINTED: function 10 (laws_FnNameConfigKey)

end Go.Proofs.YtdledchhpjkilaaDoor.PFnNameConfigKey
