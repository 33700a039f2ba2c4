/- Functions of the program as Lean functions, with their contracts (the lines are print.sh's): labels_zzSplit, labels_zzIsSpace. -/
import Derived.Test.YthfjolafikgpoaaGreatDoorLRM4
import Derived.Test.YthfjolafikgpoaaGreatDoorLRGNmA
import Derived.Test.YthfjolafikgpoaaGreatDoorLRM10
namespace Go.Proofs.YthfjolafikgpoaaGreatDoor.PFnSelDecidesLabels
open Go.RowKit Go.Proofs.YthfjolafikgpoaaGreatDoorW.PrintWords Go.Proofs.YthfjolafikgpoaaGreatDoorW.PrintLast Go.Proofs.YthfjolafikgpoaaGreatDoorW.PrintMore
set_option linter.unusedVariables false
set_option linter.unusedSimpArgs false


/-! ### labels_zzSplit: function 91 -/
def labels_zzSplit.l0 : Nat → ByteArray → ByteArray → List ByteArray → Int → Option (List ByteArray)
  | 0, _, _, _, _ => none
  | k + 1, x0, x1, x5, x6 => if (wrap64 (x6 + (x1.size : Int))) ≤ (x0.size : Int) then (if 0 ≤ x6 then (if x6 ≤ (wrap64 (x6 + (x1.size : Int))) then (if (x0.extract (x6 : Int).toNat ((wrap64 (x6 + (x1.size : Int))) : Int).toNat).toList = x1.toList then (if x6 ≤ (x0.size : Int) then (if x5.length < 8796093022208 then (if 0 ≤ (wrap64 (x6 + (x1.size : Int))) then (labels_zzSplit.l0 k (x0.extract ((wrap64 (x6 + (x1.size : Int))) : Int).toNat x0.size) x1 (x5 ++ [x0.extract 0 (x6 : Int).toNat]) 0) else (none)) else (none)) else (none)) else (labels_zzSplit.l0 k x0 x1 x5 (wrap64 (x6 + 1)))) else (none)) else (none)) else (if x5.length < 8796093022208 then (some (x5 ++ [x0])) else (none))
def labels_zzSplit.f (k : Nat) (a0 : ByteArray) (a1 : ByteArray) : Option (List ByteArray) := labels_zzSplit.l0 k a0 a1 ([] : List ByteArray) 0
theorem labels_zzSplit.mono_l : ∀ k, (∀ y0 y1 y2 y3, LeO (labels_zzSplit.l0 k y0 y1 y2 y3) (labels_zzSplit.l0 (k + 1) y0 y1 y2 y3))
  | 0 => fun _ _ _ _ r h => by simp [labels_zzSplit.l0] at h
  | k + 1 => by
    have ih0 := labels_zzSplit.mono_l k
    · intro y0 y1 y2 y3
      unfold labels_zzSplit.l0
      repeat' first
      | (with_reducible exact ih0 _ _ _ _)
      | (with_reducible exact LeO.refl _)
      | (with_reducible exact LeO.none _)
      | (with_reducible refine LeO.ite ?_ ?_)
      | (with_reducible refine LeO.bind ?_ (fun _ => ?_))
      | exact ih0 _ _ _ _
      | exact LeO.none _
      | refine LeO.ite ?_ ?_
      | refine LeO.bind ?_ (fun _ => ?_)
theorem labels_zzSplit.mono : ∀ a0 a1 k, LeO (labels_zzSplit.f k a0 a1) (labels_zzSplit.f (k + 1) a0 a1) := by
  intro a0 a1 k
  have ih0 := labels_zzSplit.mono_l k
  unfold labels_zzSplit.f
  repeat' first
      | (with_reducible exact ih0 _ _ _ _)
      | (with_reducible exact LeO.refl _)
      | (with_reducible exact LeO.none _)
      | (with_reducible refine LeO.ite ?_ ?_)
      | (with_reducible refine LeO.bind ?_ (fun _ => ?_))
      | exact ih0 _ _ _ _
      | exact LeO.none _
      | refine LeO.ite ?_ ?_
      | refine LeO.bind ?_ (fun _ => ?_)
set_option maxHeartbeats 8000000 in
set_option maxRecDepth 100000 in
theorem labels_zzSplit.calls (k : Nat) (a0 : ByteArray) (a1 : ByteArray) (r : List ByteArray) (w : World) (h : labels_zzSplit.f k a0 a1 = some r) :
    Calls Tryz.prog 91 #[.string a0, .string a1] w fun e w' => ∃ v0_ : Value, e = .returned (v0_) ∧ Kd.R Kd.string 9 w' w.heap.size (fun _ => True) v0_ r ∧ Below w.heap.size w w' := by
  have HB := Aside0.mk (Below.refl w.heap.size w)
  have H : (labels_zzSplit.l0 k a0 a1 ([] : List ByteArray) 0) = some r := h
  clear h
  have H' := Aside0.mk H
  clear H
  go_enter Tryz.func91, Tryz.ntmps91
  go_wp2
  go_loopg [0, 5, 6] k (fun kq v0 v5 v6 w' => ∃ (x0_1 : ByteArray) (x5_1 : List ByteArray) (x6_1 : Int), v0 = .string x0_1 ∧ v6 = .int .i64 x6_1 ∧ Aside0 (labels_zzSplit.l0 kq x0_1 a1 x5_1 x6_1 = some r) ∧ Aside0 (kq ≤ k) ∧ Aside0 (Kd.R Kd.string 9 w' w.heap.size (fun _ => True) v5 x5_1) ∧ Aside0 (Below w.heap.size w w'))
  case atStart => exact ⟨(a0), (([] : List ByteArray)), (0), (by first | rfl | (simp; done) | (simp [*]; done)), (by first | rfl | (simp; done) | (simp [*]; done)), H', ⟨Nat.le_refl _⟩, ⟨by first | exact Kd.R_nil _ _ _ _ _ | exact Kd.N_nil _ _ _ _ _ | exact Kd.V_nil _ _ _ _ _ | exact Kd.Q_nil _ _ _ _ _ | exact Kd.S_nil _ _ _ _ _⟩, ⟨by repeat (first | (with_reducible first | exact HB.out | apply below_alloc | apply pw_below_drewN | apply below_drew1) | exact HB.out)⟩⟩
  case round =>
    clear H'
    try clear p2
    obtain ⟨x0_1, x5_1, x6_1, rfl, rfl, HA, HK1, HO_5, HB⟩ := hrel
    cases gk with
    | zero => exact absurd HA.out (by simp [labels_zzSplit.l0])
    | succ k1 =>
      have H := HA.out
      clear HA
      simp only [labels_zzSplit.l0] at H
      by_cases c3 : (wrap64 (x6_1 + (a1.size : Int))) ≤ (x0_1.size : Int)
      · rw [if_pos c3] at H
        have c3b0 : decide ((wrap64 (x6_1 + (a1.size : Int))) ≤ (x0_1.size : Int)) = true := decide_eq_true c3
        clear c3
        by_cases c4 : 0 ≤ x6_1
        · rw [if_pos c4] at H
          have c4b0 := eq_true c4
          have c4b1 : decide (0 ≤ x6_1) = true := decide_eq_true c4
          clear c4
          by_cases c5 : x6_1 ≤ (wrap64 (x6_1 + (a1.size : Int)))
          · rw [if_pos c5] at H
            have c5b0 := eq_true c5
            have c5b1 : decide (x6_1 ≤ (wrap64 (x6_1 + (a1.size : Int)))) = true := decide_eq_true c5
            have c6b0 := eq_true (of_decide_eq_true (by first | (with_reducible assumption) | assumption) : (wrap64 (x6_1 + (a1.size : Int))) ≤ (x0_1.size : Int))
            by_cases c7 : (x0_1.extract (x6_1 : Int).toNat ((wrap64 (x6_1 + (a1.size : Int))) : Int).toNat).toList = a1.toList
            · rw [if_pos c7] at H
              have c7b0 : ((x0_1.extract (x6_1 : Int).toNat ((wrap64 (x6_1 + (a1.size : Int))) : Int).toNat).toList == a1.toList) = true := beq_iff_eq.mpr c7
              have c7b1 : ((x0_1.extract (x6_1 : Int).toNat ((wrap64 (x6_1 + (a1.size : Int))) : Int).toNat).toList != a1.toList) = false := bne_eq_false_iff_eq.mpr c7
              clear c7
              have c8b0 := eq_true (of_decide_eq_true (by first | (with_reducible assumption) | assumption) : 0 ≤ x6_1)
              by_cases c9 : x6_1 ≤ (x0_1.size : Int)
              · rw [if_pos c9] at H
                have c9b0 := eq_true c9
                have c9b1 : decide (x6_1 ≤ (x0_1.size : Int)) = true := decide_eq_true c9
                clear c9
                by_cases c10 : x5_1.length < 8796093022208
                · rw [if_pos c10] at H
                  have LMc10 := Aside0.mk c10
                  clear c10
                  obtain ⟨y202, hy202⟩ : ∃ y_ : List ByteArray, y_ = (x5_1 ++ [x0_1.extract 0 (x6_1 : Int).toNat]) := ⟨_, rfl⟩
                  replace H : (if 0 ≤ (wrap64 (x6_1 + (a1.size : Int))) then (labels_zzSplit.l0 k1 (x0_1.extract ((wrap64 (x6_1 + (a1.size : Int))) : Int).toNat x0_1.size) a1 y202 0) else (none)) = some r := by first | (rw [hy202]; with_reducible exact H) | (have H2_ := (Option.bind_some _ _).symm.trans H; rw [hy202]; with_reducible exact H2_) | (have H2_ := (Option.bind_some _ _).symm.trans H; with_reducible exact H2_) | with_reducible exact H | (rw [hy202]; exact H) | exact H
                  have Ny202 := Aside0.mk hy202
                  clear hy202
                  obtain ⟨ji11, hji11⟩ : ∃ j_ : Int, (wrap64 (x6_1 + (a1.size : Int))) = j_ := ⟨_, rfl⟩
                  replace H : (if 0 ≤ (ji11) then (labels_zzSplit.l0 k1 (x0_1.extract ((ji11) : Int).toNat x0_1.size) a1 y202 0) else (none)) = some r := by first | (rw [hji11] at H; exact H) | (simp only [hji11] at H ⊢; exact H)
                  (try rw [hji11] at c3b0)
                  (try rw [hji11] at c5b0)
                  (try rw [hji11] at c5b1)
                  (try rw [hji11] at c5)
                  (try rw [hji11] at c7b0)
                  (try rw [hji11] at c7b1)
                  have hji11w : (IntKind.i64.wrap (x6_1 + (a1.size : Int))) = ji11 := (i64_w _).trans hji11
                  by_cases c12 : 0 ≤ (ji11)
                  · rw [if_pos c12] at H
                    have c12b0 := eq_true c12
                    have c12b1 : decide (0 ≤ (ji11)) = true := decide_eq_true c12
                    clear c12
                    have c13b0 := eq_true (of_decide_eq_true (by first | (with_reducible assumption) | assumption) : (ji11) ≤ (x0_1.size : Int))
                    have H' := Aside0.mk H
                    clear H
                    go_wp2_with (first | ((with_reducible refine gate_builtin (b := .append) (xs := #[.tmp 23, .tmp 27]) rfl ?_); at_builtin; refine Kd.R_append Kd.string (w0 := w) w.heap.size rfl (.tmp 23) (.tmp 27) 51 9 (.string ⟨#[]⟩) 16 rfl Tryz.underlying51 info9 rfl (by decide) (by omega) u5 x5_1 (x0_1.extract 0 (x6_1 : Int).toNat) [.string (x0_1.extract 0 (x6_1 : Int).toNat)] (fun _ => True) (fun _ => False) rfl rfl ?aP (fun _ hk => hk.elim) ?aF ?aO ?aB ?aS ?aL ?_; (case aP => exact rfl); (case aB => exact (by repeat (first | (with_reducible first | exact HB.out | apply below_alloc | apply pw_below_drewN | apply below_drew1) | exact HB.out))); (case aF => exact (fun _ _ => trivial)); (case aO => exact (by (with_reducible repeat (first | apply Kd.R_alloc | apply Kd.R_drewN | apply Kd.R_drew)); exact HO_5.out)); (case aS => exact (below_size (by repeat (first | (with_reducible first | exact HB.out | apply below_alloc | apply pw_below_drewN | apply below_drew1) | exact HB.out)))); (case aL => have := LMc10.out; omega); intro v203 w14 ho hb hg hat; rw [← Ny202.out] at ho; have n0_ := Aside0.mk (hb); have n1_ := Aside0.mk (ho); clear HB; clear HO_5; have HB := n0_; have HO204 := n1_; clear n0_ n1_; clear ho hb hg hat))
                    go_roundg k1
                    case measure => have := HK1.out; omega
                    case rel => exact ⟨(x0_1.extract ((ji11) : Int).toNat x0_1.size), (y202), (0), (by first | rfl | (simp; done) | (simp only [← hji11] <;> (first | rfl | simp)) | (simp [*]; done)), (by first | rfl | (simp; done) | (simp [*]; done)), H', ⟨by have := HK1.out; omega⟩, ⟨by (with_reducible repeat (first | apply Kd.R_alloc | apply Kd.R_drewN | apply Kd.R_drew)); exact HO204.out⟩, ⟨by repeat (first | (with_reducible first | exact HB.out | apply below_alloc | apply pw_below_drewN | apply below_drew1) | exact HB.out)⟩⟩
                  · rw [if_neg c12] at H
                    exact absurd H (by simp)
                · rw [if_neg c10] at H
                  exact absurd H (by simp)
              · rw [if_neg c9] at H
                exact absurd H (by simp)
            · rw [if_neg c7] at H
              have c7b0 : ((x0_1.extract (x6_1 : Int).toNat ((wrap64 (x6_1 + (a1.size : Int))) : Int).toNat).toList == a1.toList) = false := beq_eq_false_iff_ne.mpr c7
              have c7b1 : ((x0_1.extract (x6_1 : Int).toNat ((wrap64 (x6_1 + (a1.size : Int))) : Int).toNat).toList != a1.toList) = true := bne_iff_ne.mpr c7
              have H' := Aside0.mk H
              clear H
              go_wp2
              go_roundg k1
              case measure => have := HK1.out; omega
              case rel => exact ⟨(x0_1), (x5_1), (wrap64 (x6_1 + 1)), (by first | rfl | (simp; done) | (simp [*]; done)), (by first | rfl | (simp; done) | (simp [*]; done)), H', ⟨by have := HK1.out; omega⟩, ⟨by (with_reducible repeat (first | apply Kd.R_alloc | apply Kd.R_drewN | apply Kd.R_drew)); exact HO_5.out⟩, ⟨by repeat (first | (with_reducible first | exact HB.out | apply below_alloc | apply pw_below_drewN | apply below_drew1) | exact HB.out)⟩⟩
          · rw [if_neg c5] at H
            exact absurd H (by simp)
        · rw [if_neg c4] at H
          exact absurd H (by simp)
      · rw [if_neg c3] at H
        have c3b0 : decide ((wrap64 (x6_1 + (a1.size : Int))) ≤ (x0_1.size : Int)) = false := decide_eq_false c3
        clear c3
        by_cases c15 : x5_1.length < 8796093022208
        · rw [if_pos c15] at H
          have LMc15 := Aside0.mk c15
          clear c15
          obtain ⟨y205, hy205⟩ : ∃ y_ : List ByteArray, y_ = (x5_1 ++ [x0_1]) := ⟨_, rfl⟩
          replace H : (some y205) = some r := by first | (rw [hy205]; with_reducible exact H) | (have H2_ := (Option.bind_some _ _).symm.trans H; rw [hy205]; with_reducible exact H2_) | (have H2_ := (Option.bind_some _ _).symm.trans H; with_reducible exact H2_) | with_reducible exact H | (rw [hy205]; exact H) | exact H
          have Ny205 := Aside0.mk hy205
          clear hy205
          obtain rfl := Option.some.inj H
          go_wp2_with (first | ((with_reducible refine gate_builtin (b := .append) (xs := #[.tmp 37, .tmp 39]) rfl ?_); at_builtin; refine Kd.R_append Kd.string (w0 := w) w.heap.size rfl (.tmp 37) (.tmp 39) 51 9 (.string ⟨#[]⟩) 16 rfl Tryz.underlying51 info9 rfl (by decide) (by omega) u5 x5_1 x0_1 [.string x0_1] (fun _ => True) (fun _ => False) rfl rfl ?aP (fun _ hk => hk.elim) ?aF ?aO ?aB ?aS ?aL ?_; (case aP => exact rfl); (case aB => exact (by repeat (first | (with_reducible first | exact HB.out | apply below_alloc | apply pw_below_drewN | apply below_drew1) | exact HB.out))); (case aF => exact (fun _ _ => trivial)); (case aO => exact (by (with_reducible repeat (first | apply Kd.R_alloc | apply Kd.R_drewN | apply Kd.R_drew)); exact HO_5.out)); (case aS => exact (below_size (by repeat (first | (with_reducible first | exact HB.out | apply below_alloc | apply pw_below_drewN | apply below_drew1) | exact HB.out)))); (case aL => have := LMc15.out; omega); intro v206 w16 ho hb hg hat; rw [← Ny205.out] at ho; have n0_ := Aside0.mk (hb); have n1_ := Aside0.mk (ho); clear HB; clear HO_5; have HB := n0_; have HO207 := n1_; clear n0_ n1_; clear ho hb hg hat))
          go_ret
          exact ⟨_, by first | rfl | (simp [errW_none, errW_some] <;> rfl) | (simp [*, errW_none, errW_some] <;> rfl), by (with_reducible repeat (first | apply Kd.R_alloc | apply Kd.R_drewN | apply Kd.R_drew)); exact HO207.out, by repeat (first | (with_reducible first | exact HB.out | apply below_alloc | apply pw_below_drewN | apply below_drew1) | exact HB.out)⟩
        · rw [if_neg c15] at H
          exact absurd H (by simp)

-- NOT PRINTED: function 124 (utf8_decodeRuneInStringSlow)

-- NOT PRINTED: function 107 (utf8_DecodeRuneInString)

/-! ### labels_zzIsSpace: function 108 -/
def labels_zzIsSpace.f (a0 : Int) : Option (Bool) := if a0 = 9 then (some true) else (if a0 = 10 then (some true) else (if a0 = 11 then (some true) else (if a0 = 12 then (some true) else (if a0 = 13 then (some true) else (if a0 = 32 then (some true) else (if a0 = 133 then (some true) else (if a0 = 160 then (some true) else (if a0 = 5760 then (some true) else (if a0 = 8232 then (some true) else (if a0 = 8233 then (some true) else (if a0 = 8239 then (some true) else (if a0 = 8287 then (some true) else (if a0 = 12288 then (some true) else (if a0 ≥ 8192 then (some (decide (a0 ≤ 8202))) else (some false)))))))))))))))
set_option maxHeartbeats 8000000 in
set_option maxRecDepth 100000 in
theorem labels_zzIsSpace.calls (a0 : Int) (r : Bool) (w : World) (h : labels_zzIsSpace.f a0 = some r) :
    Calls Tryz.prog 108 #[.int .i32 a0] w fun e w' => e = .returned (.bool r) ∧ Drawn0 w w' := by
  have H : (if a0 = 9 then (some true) else (if a0 = 10 then (some true) else (if a0 = 11 then (some true) else (if a0 = 12 then (some true) else (if a0 = 13 then (some true) else (if a0 = 32 then (some true) else (if a0 = 133 then (some true) else (if a0 = 160 then (some true) else (if a0 = 5760 then (some true) else (if a0 = 8232 then (some true) else (if a0 = 8233 then (some true) else (if a0 = 8239 then (some true) else (if a0 = 8287 then (some true) else (if a0 = 12288 then (some true) else (if a0 ≥ 8192 then (some (decide (a0 ≤ 8202))) else (some false)))))))))))))))) = some r := h
  clear h
  by_cases c2 : a0 = 9
  · rw [if_pos c2] at H
    have c2b0 : (a0 == 9) = true := beq_iff_eq.mpr c2
    have c2b1 : (a0 != 9) = false := bne_eq_false_iff_eq.mpr c2
    clear c2
    obtain rfl := Option.some.inj H
    go_enter Tryz.func108, Tryz.ntmps108
    go_wp2
    go_ret
    exact ⟨by first | rfl | (simp; done) | (simp [*]; done), by repeat (first | exact Drawn0.refl _ | apply Drawn0.step)⟩
  · rw [if_neg c2] at H
    have c2b0 : (a0 == 9) = false := beq_eq_false_iff_ne.mpr c2
    have c2b1 : (a0 != 9) = true := bne_iff_ne.mpr c2
    by_cases c3 : a0 = 10
    · rw [if_pos c3] at H
      have c3b0 : (a0 == 10) = true := beq_iff_eq.mpr c3
      have c3b1 : (a0 != 10) = false := bne_eq_false_iff_eq.mpr c3
      clear c3
      obtain rfl := Option.some.inj H
      go_enter Tryz.func108, Tryz.ntmps108
      go_wp2
      go_ret
      exact ⟨by first | rfl | (simp; done) | (simp [*]; done), by repeat (first | exact Drawn0.refl _ | apply Drawn0.step)⟩
    · rw [if_neg c3] at H
      have c3b0 : (a0 == 10) = false := beq_eq_false_iff_ne.mpr c3
      have c3b1 : (a0 != 10) = true := bne_iff_ne.mpr c3
      by_cases c4 : a0 = 11
      · rw [if_pos c4] at H
        have c4b0 : (a0 == 11) = true := beq_iff_eq.mpr c4
        have c4b1 : (a0 != 11) = false := bne_eq_false_iff_eq.mpr c4
        clear c4
        obtain rfl := Option.some.inj H
        go_enter Tryz.func108, Tryz.ntmps108
        go_wp2
        go_ret
        exact ⟨by first | rfl | (simp; done) | (simp [*]; done), by repeat (first | exact Drawn0.refl _ | apply Drawn0.step)⟩
      · rw [if_neg c4] at H
        have c4b0 : (a0 == 11) = false := beq_eq_false_iff_ne.mpr c4
        have c4b1 : (a0 != 11) = true := bne_iff_ne.mpr c4
        by_cases c5 : a0 = 12
        · rw [if_pos c5] at H
          have c5b0 : (a0 == 12) = true := beq_iff_eq.mpr c5
          have c5b1 : (a0 != 12) = false := bne_eq_false_iff_eq.mpr c5
          clear c5
          obtain rfl := Option.some.inj H
          go_enter Tryz.func108, Tryz.ntmps108
          go_wp2
          go_ret
          exact ⟨by first | rfl | (simp; done) | (simp [*]; done), by repeat (first | exact Drawn0.refl _ | apply Drawn0.step)⟩
        · rw [if_neg c5] at H
          have c5b0 : (a0 == 12) = false := beq_eq_false_iff_ne.mpr c5
          have c5b1 : (a0 != 12) = true := bne_iff_ne.mpr c5
          by_cases c6 : a0 = 13
          · rw [if_pos c6] at H
            have c6b0 : (a0 == 13) = true := beq_iff_eq.mpr c6
            have c6b1 : (a0 != 13) = false := bne_eq_false_iff_eq.mpr c6
            clear c6
            obtain rfl := Option.some.inj H
            go_enter Tryz.func108, Tryz.ntmps108
            go_wp2
            go_ret
            exact ⟨by first | rfl | (simp; done) | (simp [*]; done), by repeat (first | exact Drawn0.refl _ | apply Drawn0.step)⟩
          · rw [if_neg c6] at H
            have c6b0 : (a0 == 13) = false := beq_eq_false_iff_ne.mpr c6
            have c6b1 : (a0 != 13) = true := bne_iff_ne.mpr c6
            by_cases c7 : a0 = 32
            · rw [if_pos c7] at H
              have c7b0 : (a0 == 32) = true := beq_iff_eq.mpr c7
              have c7b1 : (a0 != 32) = false := bne_eq_false_iff_eq.mpr c7
              clear c7
              obtain rfl := Option.some.inj H
              go_enter Tryz.func108, Tryz.ntmps108
              go_wp2
              go_ret
              exact ⟨by first | rfl | (simp; done) | (simp [*]; done), by repeat (first | exact Drawn0.refl _ | apply Drawn0.step)⟩
            · rw [if_neg c7] at H
              have c7b0 : (a0 == 32) = false := beq_eq_false_iff_ne.mpr c7
              have c7b1 : (a0 != 32) = true := bne_iff_ne.mpr c7
              by_cases c8 : a0 = 133
              · rw [if_pos c8] at H
                have c8b0 : (a0 == 133) = true := beq_iff_eq.mpr c8
                have c8b1 : (a0 != 133) = false := bne_eq_false_iff_eq.mpr c8
                clear c8
                obtain rfl := Option.some.inj H
                go_enter Tryz.func108, Tryz.ntmps108
                go_wp2
                go_ret
                exact ⟨by first | rfl | (simp; done) | (simp [*]; done), by repeat (first | exact Drawn0.refl _ | apply Drawn0.step)⟩
              · rw [if_neg c8] at H
                have c8b0 : (a0 == 133) = false := beq_eq_false_iff_ne.mpr c8
                have c8b1 : (a0 != 133) = true := bne_iff_ne.mpr c8
                by_cases c9 : a0 = 160
                · rw [if_pos c9] at H
                  have c9b0 : (a0 == 160) = true := beq_iff_eq.mpr c9
                  have c9b1 : (a0 != 160) = false := bne_eq_false_iff_eq.mpr c9
                  clear c9
                  obtain rfl := Option.some.inj H
                  go_enter Tryz.func108, Tryz.ntmps108
                  go_wp2
                  go_ret
                  exact ⟨by first | rfl | (simp; done) | (simp [*]; done), by repeat (first | exact Drawn0.refl _ | apply Drawn0.step)⟩
                · rw [if_neg c9] at H
                  have c9b0 : (a0 == 160) = false := beq_eq_false_iff_ne.mpr c9
                  have c9b1 : (a0 != 160) = true := bne_iff_ne.mpr c9
                  by_cases c10 : a0 = 5760
                  · rw [if_pos c10] at H
                    have c10b0 : (a0 == 5760) = true := beq_iff_eq.mpr c10
                    have c10b1 : (a0 != 5760) = false := bne_eq_false_iff_eq.mpr c10
                    clear c10
                    obtain rfl := Option.some.inj H
                    go_enter Tryz.func108, Tryz.ntmps108
                    go_wp2
                    go_ret
                    exact ⟨by first | rfl | (simp; done) | (simp [*]; done), by repeat (first | exact Drawn0.refl _ | apply Drawn0.step)⟩
                  · rw [if_neg c10] at H
                    have c10b0 : (a0 == 5760) = false := beq_eq_false_iff_ne.mpr c10
                    have c10b1 : (a0 != 5760) = true := bne_iff_ne.mpr c10
                    by_cases c11 : a0 = 8232
                    · rw [if_pos c11] at H
                      have c11b0 : (a0 == 8232) = true := beq_iff_eq.mpr c11
                      have c11b1 : (a0 != 8232) = false := bne_eq_false_iff_eq.mpr c11
                      clear c11
                      obtain rfl := Option.some.inj H
                      go_enter Tryz.func108, Tryz.ntmps108
                      go_wp2
                      go_ret
                      exact ⟨by first | rfl | (simp; done) | (simp [*]; done), by repeat (first | exact Drawn0.refl _ | apply Drawn0.step)⟩
                    · rw [if_neg c11] at H
                      have c11b0 : (a0 == 8232) = false := beq_eq_false_iff_ne.mpr c11
                      have c11b1 : (a0 != 8232) = true := bne_iff_ne.mpr c11
                      by_cases c12 : a0 = 8233
                      · rw [if_pos c12] at H
                        have c12b0 : (a0 == 8233) = true := beq_iff_eq.mpr c12
                        have c12b1 : (a0 != 8233) = false := bne_eq_false_iff_eq.mpr c12
                        clear c12
                        obtain rfl := Option.some.inj H
                        go_enter Tryz.func108, Tryz.ntmps108
                        go_wp2
                        go_ret
                        exact ⟨by first | rfl | (simp; done) | (simp [*]; done), by repeat (first | exact Drawn0.refl _ | apply Drawn0.step)⟩
                      · rw [if_neg c12] at H
                        have c12b0 : (a0 == 8233) = false := beq_eq_false_iff_ne.mpr c12
                        have c12b1 : (a0 != 8233) = true := bne_iff_ne.mpr c12
                        by_cases c13 : a0 = 8239
                        · rw [if_pos c13] at H
                          have c13b0 : (a0 == 8239) = true := beq_iff_eq.mpr c13
                          have c13b1 : (a0 != 8239) = false := bne_eq_false_iff_eq.mpr c13
                          clear c13
                          obtain rfl := Option.some.inj H
                          go_enter Tryz.func108, Tryz.ntmps108
                          go_wp2
                          go_ret
                          exact ⟨by first | rfl | (simp; done) | (simp [*]; done), by repeat (first | exact Drawn0.refl _ | apply Drawn0.step)⟩
                        · rw [if_neg c13] at H
                          have c13b0 : (a0 == 8239) = false := beq_eq_false_iff_ne.mpr c13
                          have c13b1 : (a0 != 8239) = true := bne_iff_ne.mpr c13
                          by_cases c14 : a0 = 8287
                          · rw [if_pos c14] at H
                            have c14b0 : (a0 == 8287) = true := beq_iff_eq.mpr c14
                            have c14b1 : (a0 != 8287) = false := bne_eq_false_iff_eq.mpr c14
                            clear c14
                            obtain rfl := Option.some.inj H
                            go_enter Tryz.func108, Tryz.ntmps108
                            go_wp2
                            go_ret
                            exact ⟨by first | rfl | (simp; done) | (simp [*]; done), by repeat (first | exact Drawn0.refl _ | apply Drawn0.step)⟩
                          · rw [if_neg c14] at H
                            have c14b0 : (a0 == 8287) = false := beq_eq_false_iff_ne.mpr c14
                            have c14b1 : (a0 != 8287) = true := bne_iff_ne.mpr c14
                            by_cases c15 : a0 = 12288
                            · rw [if_pos c15] at H
                              have c15b0 : (a0 == 12288) = true := beq_iff_eq.mpr c15
                              have c15b1 : (a0 != 12288) = false := bne_eq_false_iff_eq.mpr c15
                              clear c15
                              obtain rfl := Option.some.inj H
                              go_enter Tryz.func108, Tryz.ntmps108
                              go_wp2
                              go_ret
                              exact ⟨by first | rfl | (simp; done) | (simp [*]; done), by repeat (first | exact Drawn0.refl _ | apply Drawn0.step)⟩
                            · rw [if_neg c15] at H
                              have c15b0 : (a0 == 12288) = false := beq_eq_false_iff_ne.mpr c15
                              have c15b1 : (a0 != 12288) = true := bne_iff_ne.mpr c15
                              by_cases c16 : a0 ≥ 8192
                              · rw [if_pos c16] at H
                                have c16b0 : decide (8192 ≤ a0) = true := decide_eq_true c16
                                clear c16
                                obtain rfl := Option.some.inj H
                                go_enter Tryz.func108, Tryz.ntmps108
                                go_wp2
                                go_ret
                                exact ⟨by first | rfl | (simp; done) | (simp [*]; done), by repeat (first | exact Drawn0.refl _ | apply Drawn0.step)⟩
                              · rw [if_neg c16] at H
                                have c16b0 : decide (8192 ≤ a0) = false := decide_eq_false c16
                                clear c16
                                obtain rfl := Option.some.inj H
                                go_enter Tryz.func108, Tryz.ntmps108
                                go_wp2
                                go_ret
                                exact ⟨by first | rfl | (simp; done) | (simp [*]; done), by repeat (first | exact Drawn0.refl _ | apply Drawn0.step)⟩

end Go.Proofs.YthfjolafikgpoaaGreatDoor.PFnSelDecidesLabels

/- labels.zzSplit at one byte; utf8's first and last rune of ASCII; labels.zzIsSpace and zzTrimSpace over blanks. -/
namespace Go.Proofs.YthfjolafikgpoaaGreatDoor.Hand
open Go.RowKit Go.Proofs.YthfjolafikgpoaaGreatDoor.PFnSelDecidesLabels Go.Proofs.YthfjolafikgpoaaGreatDoorW.PrintWords Go.Proofs.YthfjolafikgpoaaGreatDoorW.PrintLast Go.Proofs.YthfjolafikgpoaaGreatDoorW.PrintMore Go.Proofs.YthfjolafikgpoaaGreatDoor.Base
set_option linter.unusedVariables false
set_option linter.unusedSimpArgs false
set_option maxRecDepth 100000
theorem lzSplit_l0 (c : UInt8) :
    ∀ (d : Nat) (x : L) (i : Nat) (out : List L), i + d = x.length → out.length + d + 1 < 8796093022208 → x.length ≤ 140737488351232 →
      Ev (fun k => labels_zzSplit.l0 k (mk x) (mk [c]) (out.map mk) i) ((out ++ glue (x.take i) (pieces c (x.drop i))).map mk) := by
  intro d
  induction d with
  | zero =>
    intro x i out hi ho hx
    have e : x.drop i = [] := List.drop_eq_nil_of_le (by omega)
    have e1 : wrap64 ((i : Int) + ((mk [c]).size : Int)) = (i : Int) + 1 := by rw [mk_size]; exact wrap_id (by simp; omega) (by simp; omega)
    refine Ev.step (f := fun _ => some ((out ++ glue (x.take i) (pieces c (x.drop i))).map mk)) (fun k => ?_) (Ev.now _)
    simp only [labels_zzSplit.l0]
    rw [e1, if_neg (by rw [mk_size]; omega), if_pos (by rw [List.length_map]; omega), e]
    simp [glue, pieces, List.take_of_length_le (show x.length ≤ i by omega)]
  | succ d ih =>
    intro x i out hi ho hx
    have hlt : i < x.length := by omega
    have e1 : wrap64 ((i : Int) + ((mk [c]).size : Int)) = (i : Int) + 1 := by rw [mk_size]; exact wrap_id (by simp; omega) (by simp; omega)
    have e2 : (mk x).extract (i : Int).toNat ((i : Int) + 1).toNat = mk [x.getD i 0] := by
      rw [extract_mk, show ((i : Int) + 1).toNat = i + 1 by omega, Int.toNat_natCast]
      congr 1
      rw [take_drop_snoc hlt (Nat.le_refl i)]
      simp
    rw [pieces_cons c x i hlt]
    by_cases h : x.getD i 0 = c
    · rw [if_pos h]
      have h1 := ih (x.drop (i + 1)) 0 (out ++ [x.take i]) (by simp; omega) (by simp; omega) (by simp; omega)
      simp only [List.take_zero, List.drop_zero, glue_pieces_nil] at h1
      have e3 : (out ++ [x.take i] ++ pieces c (x.drop (i + 1))).map mk = (out ++ x.take i :: pieces c (x.drop (i + 1))).map mk := by simp
      rw [e3] at h1
      refine Ev.step (fun k => ?_) h1
      simp only [labels_zzSplit.l0]
      rw [e1, if_pos (by rw [mk_size]; omega), if_pos (by omega), if_pos (by omega), e2, h, if_pos rfl, if_pos (by rw [mk_size]; omega), if_pos (by rw [List.length_map]; omega), if_pos (by omega), extract_mk, extract_mk, mk_size]
      rw [show ((i : Int) + 1).toNat = i + 1 by omega, Int.toNat_natCast]
      simp
    · rw [if_neg h]
      have h1 := ih x (i + 1) out (by omega) (by omega) hx
      refine Ev.step (fun k => ?_) h1
      simp only [labels_zzSplit.l0]
      rw [e1, if_pos (by rw [mk_size]; omega), if_pos (by omega), if_pos (by omega), e2, if_neg (by rw [mk_toList, mk_toList]; intro e; exact h (by simpa using e)), wrap_id (by omega) (by omega)]
      rfl
theorem lsplit_ev (c : UInt8) (x : L) (hx : x.length ≤ 8000000000000) : Ev (fun k => labels_zzSplit.f k (mk x) (mk [c])) ((pieces c x).map mk) := by
  have h := lzSplit_l0 c x.length x 0 [] (by omega) (by simp; omega) (by omega)
  simp only [List.take_zero, List.drop_zero, List.nil_append, glue_pieces_nil] at h
  exact h
theorem LSplit_calls (c : UInt8) (s : ByteArray) (hs : s.size ≤ 8000000000000) (w : World) :
    Calls Tryz.prog 91 #[.string s, .string (mk [c])] w fun e w' => ∃ v0_ : Value, e = .returned (v0_) ∧ Kd.R Kd.string 9 w' w.heap.size (fun _ => True) v0_ ((pieces c s.data.toList).map mk) ∧ Below w.heap.size w w' := by
  obtain ⟨x, hx, hxs⟩ : ∃ x : L, s = mk x ∧ s.size = x.length := exists_mk s
  obtain ⟨k, hk⟩ := (lsplit_ev c x (by omega)).rounds
  rw [show s.data.toList = x by rw [hx]; rfl, hx]
  exact labels_zzSplit.calls k (mk x) (mk [c]) _ w hk
