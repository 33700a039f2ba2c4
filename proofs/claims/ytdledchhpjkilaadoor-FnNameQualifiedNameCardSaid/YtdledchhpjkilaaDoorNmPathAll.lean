import Derived.Test.YtdledchhpjkilaaDoorPFnNameDomainPathx0
import Derived.Test.YtdledchhpjkilaaDoorNmFull
/- Functions of the program as Lean functions, with their contracts (the lines are print.sh's): validation_zzSplitTwo. -/
namespace Go.Proofs.YtdledchhpjkilaaDoor.PFnNameDomainPath
open Go.RowKit Go.Proofs.YtdledchhpjkilaaDoorW.PrintWords Go.Proofs.YtdledchhpjkilaaDoorW.PrintLast Go.Proofs.YtdledchhpjkilaaDoorW.PrintMore
attribute [local go_sem] max2_int min2_int max_two min_two max_three min_three max_four min_four   -- for this text's walks alone
set_option linter.unusedVariables false
set_option linter.unusedSimpArgs false


/-! ### validation_zzSplitTwo: function 96 -/
def validation_zzSplitTwo.l0 : Nat → ByteArray → ByteArray → Int → Option (List ByteArray)
  | 0, _, _, _ => none
  | k + 1, x0, x1, x5 => if (wrap64 (x5 + (x1.size : Int))) ≤ (x0.size : Int) then (if 0 ≤ x5 then (if x5 ≤ (wrap64 (x5 + (x1.size : Int))) then (if (x0.extract (x5 : Int).toNat ((wrap64 (x5 + (x1.size : Int))) : Int).toNat).toList = x1.toList then (if x5 ≤ (x0.size : Int) then (if 0 ≤ (wrap64 (x5 + (x1.size : Int))) then (some (([x0.extract 0 (x5 : Int).toNat, x0.extract ((wrap64 (x5 + (x1.size : Int))) : Int).toNat x0.size] : List ByteArray))) else (none)) else (none)) else (validation_zzSplitTwo.l0 k x0 x1 (wrap64 (x5 + 1)))) else (none)) else (none)) else (some (([x0] : List ByteArray)))
def validation_zzSplitTwo.f (k : Nat) (a0 : ByteArray) (a1 : ByteArray) : Option (List ByteArray) := validation_zzSplitTwo.l0 k a0 a1 0
theorem validation_zzSplitTwo.mono_l : ∀ k, (∀ y0 y1 y2, LeO (validation_zzSplitTwo.l0 k y0 y1 y2) (validation_zzSplitTwo.l0 (k + 1) y0 y1 y2))
  | 0 => fun _ _ _ r h => by simp [validation_zzSplitTwo.l0] at h
  | k + 1 => by
    have ih0 := validation_zzSplitTwo.mono_l k
    · intro y0 y1 y2
      unfold validation_zzSplitTwo.l0
      repeat' first
      | (with_reducible exact ih0 _ _ _)
      | (with_reducible exact LeO.refl _)
      | (with_reducible exact LeO.none _)
      | (with_reducible refine LeO.ite ?_ ?_)
      | (with_reducible refine LeO.bind ?_ (fun _ => ?_))
      | exact ih0 _ _ _
      | exact LeO.none _
      | refine LeO.ite ?_ ?_
      | refine LeO.bind ?_ (fun _ => ?_)
theorem validation_zzSplitTwo.mono : ∀ a0 a1 k, LeO (validation_zzSplitTwo.f k a0 a1) (validation_zzSplitTwo.f (k + 1) a0 a1) := by
  intro a0 a1 k
  have ih0 := validation_zzSplitTwo.mono_l k
  unfold validation_zzSplitTwo.f
  repeat' first
      | (with_reducible exact ih0 _ _ _)
      | (with_reducible exact LeO.refl _)
      | (with_reducible exact LeO.none _)
      | (with_reducible refine LeO.ite ?_ ?_)
      | (with_reducible refine LeO.bind ?_ (fun _ => ?_))
      | exact ih0 _ _ _
      | exact LeO.none _
      | refine LeO.ite ?_ ?_
      | refine LeO.bind ?_ (fun _ => ?_)
def validation_zzSplitTwo.T5 : Bool × List (List Nat × List Nat) := (true, [([], []), ([], []), ([0, 1], [0, 1]), ([], []), ([], []), ([], []), ([5], [5]), ([4, 6], [4, 6]), ([3, 7], [3, 7]), ([2, 8], [2, 8]), ([9, 0, 1, 2, 3, 4, 5, 6, 7, 8, 9], [9])])
def validation_zzSplitTwo.B5 : List Nat := [0, 0, 3, 0, 0, 0, 32, 112, 248, 511, 1023]
theorem validation_zzSplitTwo.tab5 : rtab .any (opsOf Tryd.f96 5) = validation_zzSplitTwo.T5 := by kernel_rfl
theorem validation_zzSplitTwo.bits5 : waitsOk validation_zzSplitTwo.T5.2 validation_zzSplitTwo.B5 = true := by kernel_rfl
set_option maxHeartbeats 8000000 in
set_option maxRecDepth 100000 in
theorem validation_zzSplitTwo.calls (k : Nat) (a0 : ByteArray) (a1 : ByteArray) (r : List ByteArray) (w : World) (h : validation_zzSplitTwo.f k a0 a1 = some r) :
    Calls Tryd.prog 96 #[.string a0, .string a1] w fun e w' => ∃ v0_ : Value, e = .returned (v0_) ∧ Kd.R Kd.string 9 w' w.heap.size (fun _ => True) v0_ r ∧ Below w.heap.size w w' := by
  have HB := Aside0.mk (Below.refl w.heap.size w)
  have H : (validation_zzSplitTwo.l0 k a0 a1 0) = some r := h
  clear h
  have H' := Aside0.mk H
  clear H
  go_enter Tryd.func96, Tryd.ntmps96
  go_wp2
  go_loopg [5] k (fun kq v5 w' => ∃ (x5_1 : Int), v5 = .int .i64 x5_1 ∧ Aside0 (validation_zzSplitTwo.l0 kq a0 a1 x5_1 = some r) ∧ Aside0 (kq ≤ k) ∧ Aside0 (Below w.heap.size w w'))
  case atStart => exact ⟨(0), (by first | rfl | (simp; done) | (simp [*]; done)), H', ⟨Nat.le_refl _⟩, ⟨by repeat (first | (with_reducible first | exact HB.out | apply below_alloc | apply pw_below_drewN | apply below_drew1) | exact HB.out)⟩⟩
  case round =>
    clear H'
    try clear p2
    obtain ⟨x5_1, rfl, HA, HK1, HB⟩ := hrel
    cases gk with
    | zero => exact absurd HA.out (by simp [validation_zzSplitTwo.l0])
    | succ k1 =>
      have H := HA.out
      clear HA
      simp only [validation_zzSplitTwo.l0] at H
      by_cases c3 : (wrap64 (x5_1 + (a1.size : Int))) ≤ (a0.size : Int)
      · rw [if_pos c3] at H
        have c3b0 : decide ((wrap64 (x5_1 + (a1.size : Int))) ≤ (a0.size : Int)) = true := decide_eq_true c3
        clear c3
        by_cases c4 : 0 ≤ x5_1
        · rw [if_pos c4] at H
          have c4b0 := eq_true c4
          have c4b1 : decide (0 ≤ x5_1) = true := decide_eq_true c4
          clear c4
          by_cases c5 : x5_1 ≤ (wrap64 (x5_1 + (a1.size : Int)))
          · rw [if_pos c5] at H
            have c5b0 := eq_true c5
            have c5b1 : decide (x5_1 ≤ (wrap64 (x5_1 + (a1.size : Int)))) = true := decide_eq_true c5
            have c6b0 := eq_true (of_decide_eq_true (by first | (with_reducible assumption) | assumption) : (wrap64 (x5_1 + (a1.size : Int))) ≤ (a0.size : Int))
            by_cases c7 : (a0.extract (x5_1 : Int).toNat ((wrap64 (x5_1 + (a1.size : Int))) : Int).toNat).toList = a1.toList
            · rw [if_pos c7] at H
              have c7b0 : ((a0.extract (x5_1 : Int).toNat ((wrap64 (x5_1 + (a1.size : Int))) : Int).toNat).toList == a1.toList) = true := beq_iff_eq.mpr c7
              have c7b1 : ((a0.extract (x5_1 : Int).toNat ((wrap64 (x5_1 + (a1.size : Int))) : Int).toNat).toList != a1.toList) = false := bne_eq_false_iff_eq.mpr c7
              clear c7
              have c8b0 := eq_true (of_decide_eq_true (by first | (with_reducible assumption) | assumption) : 0 ≤ x5_1)
              by_cases c9 : x5_1 ≤ (a0.size : Int)
              · rw [if_pos c9] at H
                have c9b0 := eq_true c9
                have c9b1 : decide (x5_1 ≤ (a0.size : Int)) = true := decide_eq_true c9
                clear c9
                obtain ⟨ji10, hji10⟩ : ∃ j_ : Int, (wrap64 (x5_1 + (a1.size : Int))) = j_ := ⟨_, rfl⟩
                replace H : (if 0 ≤ (ji10) then (some (([a0.extract 0 (x5_1 : Int).toNat, a0.extract ((ji10) : Int).toNat a0.size] : List ByteArray))) else (none)) = some r := by first | (rw [hji10] at H; exact H) | (simp only [hji10] at H ⊢; exact H)
                (try rw [hji10] at c3b0)
                (try rw [hji10] at c5b0)
                (try rw [hji10] at c5b1)
                (try rw [hji10] at c5)
                (try rw [hji10] at c7b0)
                (try rw [hji10] at c7b1)
                have hji10w : (IntKind.i64.wrap (x5_1 + (a1.size : Int))) = ji10 := (i64_w _).trans hji10
                by_cases c11 : 0 ≤ (ji10)
                · rw [if_pos c11] at H
                  have c11b0 := eq_true c11
                  have c11b1 : decide (0 ≤ (ji10)) = true := decide_eq_true c11
                  clear c11
                  have c12b0 := eq_true (of_decide_eq_true (by first | (with_reducible assumption) | assumption) : (ji10) ≤ (a0.size : Int))
                  obtain ⟨y133, hy133⟩ : ∃ y_ : List ByteArray, y_ = (([a0.extract 0 (x5_1 : Int).toNat, a0.extract ((ji10) : Int).toNat a0.size] : List ByteArray)) := ⟨_, rfl⟩
                  replace H : (some y133) = some r := by first | (rw [hy133]; with_reducible exact H) | (have H2_ := (Option.bind_some _ _).symm.trans H; rw [hy133]; with_reducible exact H2_) | (have H2_ := (Option.bind_some _ _).symm.trans H; with_reducible exact H2_) | with_reducible exact H | (rw [hy133]; exact H) | exact H
                  have Ny133 := Aside0.mk hy133
                  clear hy133
                  obtain rfl := Option.some.inj H
                  try go_wp2
                  have n0_ := Aside0.mk (below_drew1 HB.out)
                  clear HB
                  have HB := n0_
                  clear n0_
                  refine start_ (n := 11) (S := fun w' => True) (ds := []) #[false, false, false, false, false, false, false, false, false, false, false] (by kernel_rfl) rfl rfl trivial (fun hHeld => ?_); refine with_tabW validation_zzSplitTwo.tab5 validation_zzSplitTwo.bits5 (fun HT_ HW_ => ?_)
                  generalize wr.drew = w13 at HB hHeld ⊢
                  refine pure_ (i := 0) (N := some 24) (v := ?_) (a' := ?_) #[true, false, false, false, false, false, false, false, false, false, false] rfl rfl (any_of HT_.out (by kernel_rfl)) (fun _ _ _ h => h) (Or.inl ⟨by rfl, ?_⟩) ?_ ?_
                  rotate_left
                  · intro w'
                    go_simp
                    with_reducible rfl
                  rotate_left
                  · simp only [Act.put, List.setIfInBounds_toArray, List.set_cons_zero, List.set_cons_succ, i64_w, i32_w]
                    rfl
                  refine pure_ (i := 1) (N := some 25) (v := ?_) (a' := ?_) #[true, true, false, false, false, false, false, false, false, false, false] rfl rfl (any_of HT_.out (by kernel_rfl)) (fun _ _ _ h => h) (Or.inl ⟨by rfl, ?_⟩) ?_ ?_
                  rotate_left
                  · intro w'
                    go_simp
                    with_reducible rfl
                  rotate_left
                  · simp only [Act.put, List.setIfInBounds_toArray, List.set_cons_zero, List.set_cons_succ, i64_w, i32_w]
                    rfl
                  refine pure_ (i := 2) (N := some 26) (v := ?_) (a' := ?_) #[true, true, true, false, false, false, false, false, false, false, false] rfl rfl (any_of HT_.out (by kernel_rfl)) (fun _ _ _ h => h) (Or.inl ⟨by rfl, ?_⟩) ?_ ?_
                  rotate_left
                  · intro w'
                    go_simp
                    with_reducible rfl
                  rotate_left
                  · simp only [Act.put, List.setIfInBounds_toArray, List.set_cons_zero, List.set_cons_succ, i64_w, i32_w]
                    rfl
                  refine pure_ (i := 3) (N := some 27) (v := ?_) (a' := ?_) #[true, true, true, true, false, false, false, false, false, false, false] rfl rfl (any_of HT_.out (by kernel_rfl)) (fun _ _ _ h => h) (Or.inl ⟨by rfl, ?_⟩) ?_ ?_
                  rotate_left
                  · intro w'
                    go_simp
                    with_reducible rfl
                  rotate_left
                  · simp only [Act.put, List.setIfInBounds_toArray, List.set_cons_zero, List.set_cons_succ, i64_w, i32_w]
                    rfl
                  refine pure_ (i := 4) (N := some 28) (v := ?_) (a' := ?_) #[true, true, true, true, true, false, false, false, false, false, false] rfl rfl (any_of HT_.out (by kernel_rfl)) (fun _ _ _ h => h) (Or.inl ⟨by rfl, ?_⟩) ?_ ?_
                  rotate_left
                  · intro w'
                    go_simp
                    with_reducible rfl
                  rotate_left
                  · simp only [Act.put, List.setIfInBounds_toArray, List.set_cons_zero, List.set_cons_succ, i64_w, i32_w]
                    rfl
                  refine pure_ (i := 5) (N := some 29) (v := ?_) (a' := ?_) #[true, true, true, true, true, true, false, false, false, false, false] rfl rfl (any_of HT_.out (by kernel_rfl)) (fun _ _ _ h => h) (Or.inl ⟨by rfl, ?_⟩) ?_ ?_
                  rotate_left
                  · intro w'
                    go_simp
                    with_reducible rfl
                  rotate_left
                  · simp only [Act.put, List.setIfInBounds_toArray, List.set_cons_zero, List.set_cons_succ, i64_w, i32_w]
                    rfl
                  refine pure_ (i := 6) (N := some 30) (v := ?_) (a' := ?_) #[true, true, true, true, true, true, true, false, false, false, false] rfl rfl (any_of HT_.out (by kernel_rfl)) (fun _ _ _ h => h) (Or.inl ⟨by rfl, ?_⟩) ?_ ?_
                  rotate_left
                  · intro w'
                    go_simp
                    with_reducible rfl
                  rotate_left
                  · simp only [Act.put, List.setIfInBounds_toArray, List.set_cons_zero, List.set_cons_succ, i64_w, i32_w]
                    rfl
                  refine pure_ (i := 7) (N := some 31) (v := ?_) (a' := ?_) #[true, true, true, true, true, true, true, true, false, false, false] rfl rfl (any_of HT_.out (by kernel_rfl)) (fun _ _ _ h => h) (Or.inl ⟨by rfl, ?_⟩) ?_ ?_
                  rotate_left
                  · intro w'
                    go_simp
                    with_reducible rfl
                  rotate_left
                  · simp only [Act.put, List.setIfInBounds_toArray, List.set_cons_zero, List.set_cons_succ, i64_w, i32_w]
                    rfl
                  refine pure_ (i := 8) (N := some 32) (v := ?_) (a' := ?_) #[true, true, true, true, true, true, true, true, true, false, false] rfl rfl (any_of HT_.out (by kernel_rfl)) (fun _ _ _ h => h) (Or.inl ⟨by rfl, ?_⟩) ?_ ?_
                  rotate_left
                  · intro w'
                    go_simp
                    with_reducible rfl
                  rotate_left
                  · simp only [Act.put, List.setIfInBounds_toArray, List.set_cons_zero, List.set_cons_succ, i64_w, i32_w]
                    rfl
                  refine one_ (i := 9) (N := some 33) #[true, true, true, true, true, true, true, true, true, true, false] rfl rfl (one_of HT_.out (by kernel_rfl)) (by decide) (fun K hK => ?_)
                  refine Kd.R_lit_step Kd.string _ 9 ?hg (N := 33) ?hd (xs := ([a0.extract 0 (x5_1 : Int).toNat, a0.extract ((ji10) : Int).toNat a0.size] : List ByteArray)) (inner := [.string (a0.extract 0 (x5_1 : Int).toNat), .string (a0.extract ((ji10) : Int).toNat a0.size)]) (ok := fun _ => True) (okp := fun _ => True) ?hr ?hp (fun _ hk => hk) trivial (Below.refl _ _) (Nat.le_refl _) (by simp) ?_; (case hd => rfl); (case hg => rfl); (case hr => first | (go_simp; done) | (go_simp; rfl)); (case hp => exact (Reps.one (show Kd.M Kd.string _ _ _ (a0.extract 0 (x5_1 : Int).toNat) [.string (a0.extract 0 (x5_1 : Int).toNat)] from rfl) (Reps.one (show Kd.M Kd.string _ _ _ (a0.extract ((ji10) : Int).toNat a0.size) [.string (a0.extract ((ji10) : Int).toNat a0.size)] from rfl) (Reps.none _ _))))
                  intro v134 w14 ho15 hb hg_ hnew_
                  clear hg_ hnew_
                  (first | rw [← Ny133.out] at ho15 | (simp only [Int.reduceToNat] at ho15; rw [← Ny133.out] at ho15))
                  have n0_ := Aside0.mk (Kd.R_lower ho15 (below_size (by repeat (first | (with_reducible first | exact HB.out | apply below_alloc | apply pw_below_drewN | apply below_drew1) | exact HB.out))))
                  have n1_ := Aside0.mk (below_step (by repeat (first | (with_reducible first | exact HB.out | apply below_alloc | apply pw_below_drewN | apply below_drew1) | exact HB.out)) hb)
                  clear HB
                  have HO135 := n0_
                  have HB := n1_
                  clear n0_ n1_
                  clear hb ho15
                  refine hK.out _ _ trivial (fun hHeld => ?_)
                  clear hK K
                  refine norm_ (a' := ?_) ?_ ?_
                  rotate_left
                  · show Act.put _ (some 33) _ = _
                    simp only [Act.put, List.setIfInBounds_toArray, List.set_cons_zero, List.set_cons_succ, i64_w, i32_w]
                    rfl
                  refine pure_ (i := 10) (N := some 4) (v := ?_) (a' := ?_) #[true, true, true, true, true, true, true, true, true, true, true] rfl rfl (any_of HT_.out (by kernel_rfl)) (fun _ _ _ h => h) (Or.inl ⟨by rfl, ?_⟩) ?_ ?_
                  rotate_left
                  · intro w'
                    go_simp
                    with_reducible rfl
                  rotate_left
                  · simp only [Act.put, List.setIfInBounds_toArray, List.set_cons_zero, List.set_cons_succ, i64_w, i32_w]
                    rfl
                  refine done_ (done_of HT_.out (by kernel_rfl)) ?_
                  try go_wp2
                  go_ret
                  exact ⟨_, by first | rfl | (simp [errW_none, errW_some] <;> rfl) | (simp only [← hji10]; first | rfl | (simp [errW_none, errW_some] <;> rfl)) | (simp [*, errW_none, errW_some] <;> rfl), by (with_reducible repeat (first | apply Kd.R_alloc | apply Kd.R_drewN | apply Kd.R_drew)); exact HO135.out, by repeat (first | (with_reducible first | exact HB.out | apply below_alloc | apply pw_below_drewN | apply below_drew1) | exact HB.out)⟩
                · rw [if_neg c11] at H
                  exact absurd H (by simp)
              · rw [if_neg c9] at H
                exact absurd H (by simp)
            · rw [if_neg c7] at H
              have c7b0 : ((a0.extract (x5_1 : Int).toNat ((wrap64 (x5_1 + (a1.size : Int))) : Int).toNat).toList == a1.toList) = false := beq_eq_false_iff_ne.mpr c7
              have c7b1 : ((a0.extract (x5_1 : Int).toNat ((wrap64 (x5_1 + (a1.size : Int))) : Int).toNat).toList != a1.toList) = true := bne_iff_ne.mpr c7
              have H' := Aside0.mk H
              clear H
              go_wp2
              go_roundg k1
              case measure => have := HK1.out; omega
              case rel => exact ⟨(wrap64 (x5_1 + 1)), (by first | rfl | (simp; done) | (simp [*]; done)), H', ⟨by have := HK1.out; omega⟩, ⟨by repeat (first | (with_reducible first | exact HB.out | apply below_alloc | apply pw_below_drewN | apply below_drew1) | exact HB.out)⟩⟩
          · rw [if_neg c5] at H
            exact absurd H (by simp)
        · rw [if_neg c4] at H
          exact absurd H (by simp)
      · rw [if_neg c3] at H
        have c3b0 : decide ((wrap64 (x5_1 + (a1.size : Int))) ≤ (a0.size : Int)) = false := decide_eq_false c3
        clear c3
        obtain ⟨y136, hy136⟩ : ∃ y_ : List ByteArray, y_ = (([a0] : List ByteArray)) := ⟨_, rfl⟩
        replace H : (some y136) = some r := by first | (rw [hy136]; with_reducible exact H) | (have H2_ := (Option.bind_some _ _).symm.trans H; rw [hy136]; with_reducible exact H2_) | (have H2_ := (Option.bind_some _ _).symm.trans H; with_reducible exact H2_) | with_reducible exact H | (rw [hy136]; exact H) | exact H
        have Ny136 := Aside0.mk hy136
        clear hy136
        obtain rfl := Option.some.inj H
        go_wp2_with (first | ((with_reducible refine gate_dst (N := 35) rfl ?_); refine Kd.R_lit Kd.string _ 9 ?hg (N := 35) ?hd (xs := ([a0] : List ByteArray)) (inner := [.string a0]) (ok := fun _ => True) (okp := fun _ => True) ?hr ?hp (fun _ hk => hk) trivial (Below.refl _ _) (Nat.le_refl _) (by simp) ?_; (case hd => rfl); (case hg => rfl); (case hr => first | (go_simp; done) | (go_simp; rfl)); (case hp => exact (Reps.one (show Kd.M Kd.string _ _ _ a0 [.string a0] from rfl) (Reps.none _ _))); intro v137 w16 ho17 hb hg_ hnew_; clear hg_ hnew_; (first | rw [← Ny136.out] at ho17 | (simp only [Int.reduceToNat] at ho17; rw [← Ny136.out] at ho17)); have n0_ := Aside0.mk (Kd.R_lower ho17 (below_size (by repeat (first | (with_reducible first | exact HB.out | apply below_alloc | apply pw_below_drewN | apply below_drew1) | exact HB.out)))); have n1_ := Aside0.mk (below_step (by repeat (first | (with_reducible first | exact HB.out | apply below_alloc | apply pw_below_drewN | apply below_drew1) | exact HB.out)) hb); clear HB; have HO138 := n0_; have HB := n1_; clear n0_ n1_; clear hb ho17))
        go_ret
        exact ⟨_, by first | rfl | (simp [errW_none, errW_some] <;> rfl) | (simp [*, errW_none, errW_some] <;> rfl), by (with_reducible repeat (first | apply Kd.R_alloc | apply Kd.R_drewN | apply Kd.R_drew)); exact HO138.out, by repeat (first | (with_reducible first | exact HB.out | apply below_alloc | apply pw_below_drewN | apply below_drew1) | exact HB.out)⟩

-- NOT PRINTED: function 74 (validation_IsDomainPrefixedPath)

-- NOT PRINTED: function 46 (impl_DomainPath)

end Go.Proofs.YtdledchhpjkilaaDoor.PFnNameDomainPath

/- IsDomainPrefixedPath and the reference PathOfDomain. -/
namespace Go.Proofs.YtdledchhpjkilaaDoor.Hand
open Go.RowKit Go.Proofs.YtdledchhpjkilaaDoor.PFnNameDomainPath Go.Proofs.YtdledchhpjkilaaDoorW.PrintWords Go.Proofs.YtdledchhpjkilaaDoorW.PrintLast Go.Proofs.YtdledchhpjkilaaDoorW.PrintMore Go.Proofs.YtdledchhpjkilaaDoor.Base
set_option linter.unusedVariables false
set_option linter.unusedSimpArgs false
set_option maxRecDepth 100000
/-- What stands ahead of the first slash, and behind it. -/
def cut2 : L → Option (L × L)
  | [] => none
  | c :: x => if c = 47 then some ([], x) else (cut2 x).map fun q => (c :: q.1, q.2)
def two (x : L) : List L := match cut2 x with
  | none => [x]
  | some q => [q.1, q.2]
def signs : L := [47, 45, 46, 95, 126, 37, 33, 36, 38, 39, 40, 41, 42, 43, 44, 59, 61, 58]
def pDp (x : L) : Bool := match cut2 x with
  | none => false
  | some q => (most 253 q.1 && sub q.1) && allF alnum signs q.2
theorem cut2_hit : ∀ (x : L) (i : Nat), i < x.length → (∀ j, j < i → x.getD j 0 ≠ 47) → x.getD i 0 = 47 → cut2 x = some (x.take i, x.drop (i + 1))
  | [], i, h, _, _ => absurd h (by simp)
  | c :: x, 0, _, _, h => by
    have e : c = 47 := by simpa using h
    simp [cut2, e]
  | c :: x, i + 1, h, hj, he => by
    have e : c ≠ 47 := by have := hj 0 (by omega); simpa using this
    have := cut2_hit x i (by simpa using h) (fun j hlt => by have := hj (j + 1) (by omega); simpa using this) (by simpa using he)
    simp [cut2, e, this]
theorem cut2_none : ∀ (x : L), (∀ j, j < x.length → x.getD j 0 ≠ 47) → cut2 x = none
  | [], _ => rfl
  | c :: x, hj => by
    have e : c ≠ 47 := by have := hj 0 (by simp); simpa using this
    have := cut2_none x (fun j hlt => by have := hj (j + 1) (by simpa using hlt); simpa using this)
    simp [cut2, e, this]

theorem two_l0 (x : L) (hx : x.length ≤ 140737488351232) :
    ∀ (d i : Nat), i + d = x.length → (∀ j, j < i → x.getD j 0 ≠ 47) →
      Ev (fun k => validation_zzSplitTwo.l0 k (mk x) (mk [47]) i) ((two x).map mk) := by
  intro d
  induction d with
  | zero =>
    intro i hi hj
    have e1 : wrap64 ((i : Int) + ((mk [47]).size : Int)) = (i : Int) + 1 := by rw [mk_size]; exact wrap_id (by simp; omega) (by simp; omega)
    have h2 : two x = [x] := by unfold two; rw [cut2_none x (fun j h => hj j (by omega))]
    rw [h2]
    refine Ev.step (f := fun _ => some ([mk x])) (fun k => ?_) (Ev.now _)
    simp only [validation_zzSplitTwo.l0]
    rw [e1, if_neg (by rw [mk_size]; omega)]
  | succ d ih =>
    intro i hi hj
    have hlt : i < x.length := by omega
    have e1 : wrap64 ((i : Int) + ((mk [47]).size : Int)) = (i : Int) + 1 := by rw [mk_size]; exact wrap_id (by simp; omega) (by simp; omega)
    have e2 : (mk x).extract (i : Int).toNat ((i : Int) + 1).toNat = mk [x.getD i 0] := by
      rw [extract_mk, show ((i : Int) + 1).toNat = i + 1 by omega, Int.toNat_natCast]
      congr 1
      rw [take_drop_snoc hlt (Nat.le_refl i)]
      simp
    by_cases h : x.getD i 0 = 47
    · have h2 : two x = [x.take i, x.drop (i + 1)] := by unfold two; rw [cut2_hit x i hlt hj h]
      rw [h2]
      refine Ev.step (f := fun _ => some ([mk (x.take i), mk (x.drop (i + 1))])) (fun k => ?_) (Ev.now _)
      simp only [validation_zzSplitTwo.l0]
      rw [e1, if_pos (by rw [mk_size]; omega), if_pos (by omega), if_pos (by omega), e2, h, if_pos rfl, if_pos (by rw [mk_size]; omega), if_pos (by omega), extract_mk, extract_mk, mk_size]
      rw [show ((i : Int) + 1).toNat = i + 1 by omega, Int.toNat_natCast]
      simp
    · have h1 := ih (i + 1) (by omega) (fun j hlt2 => by
        by_cases e : j = i
        · rw [e]; exact h
        · exact hj j (by omega))
      refine Ev.step (fun k => ?_) h1
      simp only [validation_zzSplitTwo.l0]
      rw [e1, if_pos (by rw [mk_size]; omega), if_pos (by omega), if_pos (by omega), e2, if_neg (by rw [mk_toList, mk_toList]; intro e; exact h (by simpa using e)), wrap_id (by omega) (by omega)]
      rfl
theorem Two_calls (s : ByteArray) (hs : s.size ≤ 140737488351232) (w : World) :
    Calls Tryd.prog 96 #[.string s, .string ⟨#[47]⟩] w fun e w' => ∃ v0_ : Value, e = .returned (v0_) ∧ Kd.R Kd.string 9 w' w.heap.size (fun _ => True) v0_ ((two s.data.toList).map mk) ∧ Below w.heap.size w w' := by
  obtain ⟨x, hx, hxs⟩ : ∃ x : L, s = mk x ∧ s.size = x.length := exists_mk s
  obtain ⟨k, hk⟩ := (two_l0 x (by omega) x.length 0 (by omega) (fun j h => by omega)).rounds
  rw [show s.data.toList = x by rw [hx]; rfl, hx]
  exact validation_zzSplitTwo.calls k (mk x) (mk [47]) _ w hk

set_option maxHeartbeats 4000000 in
theorem PathOf_calls (s : ByteArray) (hs : s.size ≤ 100000000) (w : World) :
    Calls Tryd.prog 47 #[.string s] w fun e w' => e = .returned (.bool (pDp s.data.toList)) ∧ Below w.heap.size w w' := by
  obtain ⟨x, hx, hxs⟩ : ∃ x : L, s = mk x ∧ s.size = x.length := exists_mk s
  rw [show s.data.toList = x by rw [hx]; rfl]
  have HB := Aside0.mk (Below.refl w.heap.size w)
  have HX := Aside0.mk (And.intro hx hxs); clear hx hxs
  go_enter Tryd.func47, Tryd.ntmps47
  go_wp2
  go_loopg [3, 8] (s.size) (fun g v3 v8 w' => ∃ i : Nat, v8 = .int .i64 i ∧ w = w' ∧ Aside0 (g + i = s.size) ∧ Aside0 (∀ j, j < i → x.getD j 0 ≠ 47))
  case atStart => exact ⟨0, rfl, rfl, ⟨by omega⟩, ⟨fun j h => by omega⟩⟩
  case round =>
    obtain ⟨i, rfl, rfl, HI, HJ⟩ := hrel
    have hi : i ≤ s.size := by have := HI.out; omega
    by_cases hlt : i < s.size
    · have hb := byteIs HX.out.1 i 47
      by_cases hc : x.getD i 0 = 47
      · have hb2 : ∀ h : i < s.size, (((s[i]'h).toNat : Int) == 47) = true := fun h => (hb h).trans (by simpa using hc)
        have hcut := cut2_hit x i (by have := HX.out.2; omega) HJ.out hc
        obtain ⟨pp, hpp⟩ : ∃ pp, s.extract (i + 1) s.size = pp := ⟨_, rfl⟩
        obtain ⟨hh, hhh⟩ : ∃ hh, s.extract 0 i = hh := ⟨_, rfl⟩
        have ep : pp = mk (x.drop (i + 1)) := by
          have := HX.out.2
          rw [← hpp, HX.out.1, extract_mk, mk_size, List.take_length]
        have eh : hh = mk (x.take i) := by rw [← hhh, HX.out.1, extract_mk]; rfl
        have HP : Aside0 (pDp x = ((most 253 hh.data.toList && sub hh.data.toList) && allF alnum signs pp.data.toList)) := ⟨by
          unfold pDp; rw [hcut, ep, eh]; rfl⟩
        have hpz : pp.size ≤ 100000000 := by have := HX.out.2; rw [ep, mk_size]; simp; omega
        have hhz : hh.size ≤ 100000000 := by have := HX.out.2; rw [eh, mk_size]; simp; omega
        have h1 : ∀ w, Calls Tryd.prog 37 #[.string hh] w fun e w' => e = .returned (.bool (most 253 hh.data.toList && sub hh.data.toList)) ∧ Below w.heap.size w w' := fun w => pSub_calls hh (by omega) w
        obtain ⟨z, hz⟩ : ∃ z, (most 253 hh.data.toList && sub hh.data.toList) = z := ⟨_, rfl⟩
        rw [hz] at h1 HP
        have H1 := Aside0.mk h1
        obtain ⟨y, hy, hys⟩ : ∃ y : L, pp = mk y ∧ pp.size = y.length := exists_mk pp
        rw [show pp.data.toList = y by rw [hy]; rfl] at HP
        have HY := Aside0.mk (And.intro hy hys)
        clear hb hc hcut ep eh hz h1 hy hys
        go_wp2
        clear hb2
        go_loopg [5, 21] (pp.size) (fun g v5 v21 w' => ∃ j : Nat, v21 = .int .i64 j ∧ w = w' ∧ Aside0 (g + j = pp.size) ∧ Aside0 (y.all (fun c => alnum c || inSet c signs) = (y.drop j).all (fun c => alnum c || inSet c signs)))
        case atStart => exact ⟨0, rfl, rfl, ⟨by omega⟩, ⟨by simp⟩⟩
        case round =>
          obtain ⟨j, rfl, rfl, HJ2, HA⟩ := hrel
          have hj : j ≤ pp.size := by have := HJ2.out; omega
          by_cases hjl : j < pp.size
          · have hgb := getB HY.out.1 j
            obtain ⟨c, hc⟩ : ∃ c, y.getD j 0 = c := ⟨_, rfl⟩
            have hst := allF_step alnum signs y j (by have := HY.out.2; omega)
            rw [hc] at hgb hst
            have h2 : ∀ w, Calls Tryd.prog 55 #[.int .u8 ((c.toNat : Nat) : Int)] w fun e w' => e = .returned (.bool (alnum c)) ∧ w = w' := fun w => Alnum_calls c w
            have h3 : ∀ w, Calls Tryd.prog 75 #[.int .u8 ((c.toNat : Nat) : Int), .string ⟨#[47, 45, 46, 95, 126, 37, 33, 36, 38, 39, 40, 41, 42, 43, 44, 59, 61, 58]⟩] w fun e w' => e = .returned (.bool (inSet c signs)) ∧ w = w' := fun w => among_calls c ⟨#[47, 45, 46, 95, 126, 37, 33, 36, 38, 39, 40, 41, 42, 43, 44, 59, 61, 58]⟩ (by decide) w
            obtain ⟨b1, hb1⟩ : ∃ b, alnum c = b := ⟨_, rfl⟩
            obtain ⟨b2, hb2⟩ : ∃ b, inSet c signs = b := ⟨_, rfl⟩
            rw [hb1] at h2 hst; rw [hb2] at h3 hst
            have H2 := Aside0.mk h2; have H3 := Aside0.mk h3; have HST := Aside0.mk hst
            clear h2 h3 hst hc hb1 hb2
            cases b1 with
            | true =>
              have HN : Aside0 (y.all (fun c => alnum c || inSet c signs) = (y.drop (j + 1)).all (fun c => alnum c || inSet c signs)) := ⟨by rw [HA.out, HST.out]; rfl⟩
              clear HST
              go_wp2_with (first | ((with_reducible refine (H2.out _).mono ?_); rintro e w' ⟨rfl, rfl⟩))
              go_roundg (gk - 1)
              case measure => have := HJ2.out; omega
              case rel => exact ⟨j + 1, by go_num, rfl, ⟨by have := HJ2.out; omega⟩, HN⟩
            | false =>
              cases b2 with
              | true =>
                have HN : Aside0 (y.all (fun c => alnum c || inSet c signs) = (y.drop (j + 1)).all (fun c => alnum c || inSet c signs)) := ⟨by rw [HA.out, HST.out]; rfl⟩
                clear HST
                go_wp2_with (first | ((with_reducible refine (H2.out _).mono ?_); rintro e w' ⟨rfl, rfl⟩) | ((with_reducible refine (H3.out _).mono ?_); rintro e w' ⟨rfl, rfl⟩))
                go_roundg (gk - 1)
                case measure => have := HJ2.out; omega
                case rel => exact ⟨j + 1, by go_num, rfl, ⟨by have := HJ2.out; omega⟩, HN⟩
              | false =>
                have HN : Aside0 (pDp x = false) := ⟨by rw [HP.out]; unfold allF; rw [HA.out, HST.out]; simp⟩
                clear HST
                go_wp2_with (first | ((with_reducible refine (H2.out _).mono ?_); rintro e w' ⟨rfl, rfl⟩) | ((with_reducible refine (H3.out _).mono ?_); rintro e w' ⟨rfl, rfl⟩))
                go_ret
                exact ⟨by rw [HN.out]; rfl, HB.out⟩
          · have HA2 : Aside0 (y.all (fun c => alnum c || inSet c signs) = true) := ⟨by rw [HA.out, List.drop_eq_nil_of_le (by have := HY.out.2; omega)]; rfl⟩
            by_cases h0 : y = []
            · have HN : Aside0 (pDp x = false) := ⟨by rw [HP.out]; unfold allF; rw [h0]; simp⟩
              have t0 : (pp.toList == ([] : List UInt8)) = true := by rw [HY.out.1, mk_toList, h0]; rfl
              have t1 : (pp.toList != ([] : List UInt8)) = false := by rw [bne, t0]; rfl
              clear h0
              go_wp2
              go_ret
              exact ⟨by rw [HN.out]; rfl, HB.out⟩
            · have HN : Aside0 (pDp x = z) := ⟨by rw [HP.out]; unfold allF; rw [HA2.out, show (y == []) = false from beq_eq_false_iff_ne.2 h0]; simp⟩
              have t0 : (pp.toList == ([] : List UInt8)) = false := by rw [HY.out.1, mk_toList]; exact beq_eq_false_iff_ne.2 h0
              have t1 : (pp.toList != ([] : List UInt8)) = true := by rw [bne, t0]; rfl
              clear h0
              go_wp2_with (first | ((with_reducible refine (H1.out _).mono ?_); rintro e w' ⟨rfl, hb⟩; have nb_ := Aside0.mk (below_step (by repeat (first | (with_reducible first | exact HB.out | apply below_alloc | apply pw_below_drewN | apply below_drew1) | exact HB.out)) hb); clear HB; have HB := nb_; clear nb_; (try clear hb)))
              go_ret
              exact ⟨by rw [HN.out]; rfl, (by repeat (first | (with_reducible first | exact HB.out | apply below_alloc | apply pw_below_drewN | apply below_drew1) | exact HB.out))⟩
      · have hb2 : ∀ h : i < s.size, (((s[i]'h).toNat : Int) == 47) = false := fun h => (hb h).trans (by simpa using hc)
        have HN : Aside0 (∀ j, j < i + 1 → x.getD j 0 ≠ 47) := ⟨fun j h => by
          by_cases e : j = i
          · rw [e]; exact hc
          · exact HJ.out j (by omega)⟩
        clear hb hc
        go_wp2
        go_roundg (gk - 1)
        case measure => have := HI.out; omega
        case rel => exact ⟨i + 1, by go_num, rfl, ⟨by have := HI.out; omega⟩, HN⟩
    · have HR : Aside0 (pDp x = false) := ⟨by unfold pDp; rw [cut2_none x (fun j h => HJ.out j (by have := HX.out.2; omega))]⟩
      go_wp2
      go_ret
      exact ⟨by rw [HR.out]; rfl, HB.out⟩
end Go.Proofs.YtdledchhpjkilaaDoor.Hand

/- IsDomainPrefixedPath. -/
namespace Go.Proofs.YtdledchhpjkilaaDoor.Hand
open Go.RowKit Go.Proofs.YtdledchhpjkilaaDoorW.PrintWords Go.Proofs.YtdledchhpjkilaaDoorW.PrintLast Go.Proofs.YtdledchhpjkilaaDoorW.PrintMore Go.Proofs.YtdledchhpjkilaaDoor.Base
set_option linter.unusedVariables false
set_option linter.unusedSimpArgs false
set_option maxRecDepth 100000
theorem add0 (ad : Addr) : ad.add 0 = ad := by cases ad; rfl
def two0 (a b : ByteArray) : List ByteArray := [a, b]
/-- The cells of a list of two texts. -/
theorem two_cells {w : World} {A : Option Addr} {n : Nat} {a b : ByteArray} (h : Kd.C Kd.string w A n [a, b]) : ∃ ad, A = some ad ∧ w.cell? ad = some (.string a) ∧ w.cell? ⟨ad.block, ad.off + 1, none⟩ = some (.string b) := by
  have hn := Kd.C_len h
  obtain ⟨ad, e, h0⟩ := Kd.at_string h 0 (by omega) (by simp at hn; omega)
  obtain ⟨ad2, e2, h1⟩ := Kd.at_string h 1 (by omega) (by simp at hn; omega)
  rw [e] at e2
  obtain rfl := Option.some.inj e2
  have e1 := add_field ad 0 1 (by decide)
  rw [add0, Nat.zero_add] at e1
  rw [show (1 : Int).toNat = 1 from rfl, e1] at h1
  refine ⟨ad, e, ?_, h1⟩
  rw [show (0 : Int).toNat = 0 from rfl, add0] at h0
  exact h0
theorem take_one {α : Type} (xs : List α) (j : Nat) (h : j < xs.length) : xs.take j ++ [xs[j]] = xs.take (j + 1) := by
  rw [List.take_add_one, List.getElem?_eq_getElem h]; rfl
theorem sub_nil : (most 253 ([] : L) && sub []) = false := by decide

set_option maxHeartbeats 8000000 in
theorem errs74 (s : ByteArray) (hs : s.size ≤ 100000000) (w : World) (hT : Tab w) :
    Calls Tryd.prog 74 #[.string s] w fun e w' => Errs2 (pDp s.data.toList) w e w' := by
  obtain ⟨x, hx, hxs⟩ : ∃ x : L, s = mk x ∧ s.size = x.length := exists_mk s
  have HB := Aside0.mk (Below.refl w.heap.size w)
  have HR : Aside0 (Kd.R Kd.string 9 w w.heap.size (fun _ => True) (.slice none 0 0) ([] : List ByteArray)) := ⟨Kd.R_nil _ _ _ _ _⟩
  have HLEN : Aside0 (([] : List ByteArray).length ≤ 20) := ⟨by decide⟩
  have h2 : ∀ w, Calls Tryd.prog 96 #[.string s, .string ⟨#[47]⟩] w fun e w' => ∃ v0_ : Value, e = .returned (v0_) ∧ Kd.R Kd.string 9 w' w.heap.size (fun _ => True) v0_ ((two s.data.toList).map mk) ∧ Below w.heap.size w w' := fun w => Two_calls s (by omega) w
  rw [show s.data.toList = x by rw [hx]; rfl] at h2 ⊢
  by_cases h0 : s.size = 0
  · have hP : pDp x = false := by
      have : x = [] := List.eq_nil_of_length_eq_zero (by omega)
      rw [this]; rfl
    have e0 : (((s.size : Nat) : Int) == 0) = true := by rw [beq_iff_eq]; omega
    rw [hP]
    clear h2 hP hx hxs
    have HNEW : Aside0 (([] : List ByteArray) ++ [⟨#[114, 101, 113, 117, 105, 114, 101, 100]⟩] = [⟨#[114, 101, 113, 117, 105, 114, 101, 100]⟩]) := ⟨rfl⟩
    go_enter Tryd.func74, Tryd.ntmps74
    go_upto_region 1 with (fail)
    go_cut [3] (fun v3 wc => Aside0 (Kd.R Kd.string 9 wc w.heap.size (fun _ => True) v3 ([] : List ByteArray)) ∧ w = wc)
    case first =>
      go_wp2
      go_meet
      case rel => exact ⟨HR, rfl⟩
    case rest =>
      clear HR
      obtain ⟨HR, rfl⟩ := hcut
      go_wp2_with (first | ((with_reducible refine gate_builtin (b := .append) (xs := #[.tmp 12, .tmp 13]) rfl ?_); (try (refine gate_guard (by rfl) ?_; dsimp only)); at_builtin; refine Kd.R_append Kd.string (w0 := w) w.heap.size rfl (.tmp 12) (.tmp 13) 22 9 (.string ⟨#[]⟩) 16 rfl Tryd.underlying22 infoS rfl (by decide) (by omega) u3 (([] : List ByteArray)) ((⟨#[114, 101, 113, 117, 105, 114, 101, 100]⟩ : ByteArray)) [.string ((⟨#[114, 101, 113, 117, 105, 114, 101, 100]⟩ : ByteArray))] (fun _ => True) (fun _ => False) rfl rfl ?aP (fun _ hk => hk.elim) ?aF ?aO ?aB ?aS ?aL ?_; (case aP => exact rfl); (case aB => exact (by repeat (first | (with_reducible first | exact HB.out | apply below_alloc | apply pw_below_drewN | apply below_drew1) | exact HB.out))); (case aF => exact (fun _ _ => trivial)); (case aO => exact (by (with_reducible repeat (first | apply Kd.R_alloc | apply Kd.R_drewN | apply Kd.R_drew)); exact HR.out)); (case aS => exact (below_size (by repeat (first | (with_reducible first | exact HB.out | apply below_alloc | apply pw_below_drewN | apply below_drew1) | exact HB.out)))); (case aL => have := HLEN.out; (try simp only [List.length_map, List.length_nil] at *); omega); intro vN wN ho hb hg hat; rw [HNEW.out] at ho; clear HB; clear HR; have HB := Aside0.mk hb; have HR := Aside0.mk ho; clear ho hb hg hat))
      go_ret
      exact ⟨_, _, rfl, (by (with_reducible repeat (first | apply Kd.R_alloc | apply Kd.R_drewN | apply Kd.R_drew)); exact HR.out), rfl, by decide, by decide, (by repeat (first | (with_reducible first | exact HB.out | apply below_alloc | apply pw_below_drewN | apply below_drew1) | exact HB.out))⟩
  have e0 : (((s.size : Nat) : Int) == 0) = false := by rw [beq_eq_false_iff_ne]; omega
  cases hc : cut2 x with
  | none =>
    have hP : pDp x = false := by unfold pDp; rw [hc]
    have ht : (two x).map mk = [s] := by unfold two; rw [hc, hx]; rfl
    rw [hP]
    rw [ht] at h2
    have H2 := Aside0.mk h2
    clear h2 hP ht hc hx hxs
    have HNEW : Aside0 (([] : List ByteArray) ++ [⟨#[109, 117, 115, 116, 32, 98, 101, 32, 97, 32, 100, 111, 109, 97, 105, 110, 45, 112, 114, 101, 102, 105, 120, 101, 100, 32, 112, 97, 116, 104, 32, 40, 115, 117, 99, 104, 32, 97, 115, 32, 34, 97, 99, 109, 101, 46, 105, 111, 47, 102, 111, 111, 34, 41]⟩] = [⟨#[109, 117, 115, 116, 32, 98, 101, 32, 97, 32, 100, 111, 109, 97, 105, 110, 45, 112, 114, 101, 102, 105, 120, 101, 100, 32, 112, 97, 116, 104, 32, 40, 115, 117, 99, 104, 32, 97, 115, 32, 34, 97, 99, 109, 101, 46, 105, 111, 47, 102, 111, 111, 34, 41]⟩]) := ⟨rfl⟩
    go_enter Tryd.func74, Tryd.ntmps74
    go_upto_region 1 with (fail)
    go_cut [3] (fun v3 wc => Aside0 (Kd.R Kd.string 9 wc w.heap.size (fun _ => True) v3 ([] : List ByteArray)) ∧ w = wc)
    case first =>
      go_wp2
      go_meet
      case rel => exact ⟨HR, rfl⟩
    case rest =>
      clear HR
      obtain ⟨HR, rfl⟩ := hcut
      go_wp2_with (first | ((with_reducible refine (H2.out _).mono ?_); rintro e w' ⟨v0, rfl, g1, hb⟩; have nr_ := Aside0.mk (Kd.R_below (by (with_reducible repeat (first | apply Kd.R_alloc | apply Kd.R_drewN | apply Kd.R_drew)); exact HR.out) hb); clear HR; have HR := nr_; clear nr_; (obtain ⟨A1, c1, e1⟩ := Kd.R_slice g1); (simp only [List.length_cons, List.length_nil, Nat.zero_add] at e1); subst e1; clear g1; have nb_ := Aside0.mk (below_step (by repeat (first | (with_reducible first | exact HB.out | apply below_alloc | apply pw_below_drewN | apply below_drew1) | exact HB.out)) hb); clear HB; have HB := nb_; clear nb_; (try clear hb)) | ((with_reducible refine gate_builtin (b := .append) (xs := #[.tmp 34, .tmp 35]) rfl ?_); (try (refine gate_guard (by rfl) ?_; dsimp only)); at_builtin; refine Kd.R_append Kd.string (w0 := w) w.heap.size rfl (.tmp 34) (.tmp 35) 22 9 (.string ⟨#[]⟩) 16 rfl Tryd.underlying22 infoS rfl (by decide) (by omega) u3 (([] : List ByteArray)) ((⟨#[109, 117, 115, 116, 32, 98, 101, 32, 97, 32, 100, 111, 109, 97, 105, 110, 45, 112, 114, 101, 102, 105, 120, 101, 100, 32, 112, 97, 116, 104, 32, 40, 115, 117, 99, 104, 32, 97, 115, 32, 34, 97, 99, 109, 101, 46, 105, 111, 47, 102, 111, 111, 34, 41]⟩ : ByteArray)) [.string ((⟨#[109, 117, 115, 116, 32, 98, 101, 32, 97, 32, 100, 111, 109, 97, 105, 110, 45, 112, 114, 101, 102, 105, 120, 101, 100, 32, 112, 97, 116, 104, 32, 40, 115, 117, 99, 104, 32, 97, 115, 32, 34, 97, 99, 109, 101, 46, 105, 111, 47, 102, 111, 111, 34, 41]⟩ : ByteArray))] (fun _ => True) (fun _ => False) rfl rfl ?aP (fun _ hk => hk.elim) ?aF ?aO ?aB ?aS ?aL ?_; (case aP => exact rfl); (case aB => exact (by repeat (first | (with_reducible first | exact HB.out | apply below_alloc | apply pw_below_drewN | apply below_drew1) | exact HB.out))); (case aF => exact (fun _ _ => trivial)); (case aO => exact (by (with_reducible repeat (first | apply Kd.R_alloc | apply Kd.R_drewN | apply Kd.R_drew)); exact HR.out)); (case aS => exact (below_size (by repeat (first | (with_reducible first | exact HB.out | apply below_alloc | apply pw_below_drewN | apply below_drew1) | exact HB.out)))); (case aL => have := HLEN.out; (try simp only [List.length_map, List.length_nil] at *); omega); intro vN wN ho hb hg hat; rw [HNEW.out] at ho; clear HB; clear HR; have HB := Aside0.mk hb; have HR := Aside0.mk ho; clear ho hb hg hat))
      go_ret
      exact ⟨_, _, rfl, (by (with_reducible repeat (first | apply Kd.R_alloc | apply Kd.R_drewN | apply Kd.R_drew)); exact HR.out), rfl, by decide, by decide, (by repeat (first | (with_reducible first | exact HB.out | apply below_alloc | apply pw_below_drewN | apply below_drew1) | exact HB.out))⟩
  | some q =>
    obtain ⟨lh, lp⟩ := q
    have hP : pDp x = ((most 253 lh && sub lh) && allF alnum signs lp) := by unfold pDp; rw [hc]
    have ht : (two x).map mk = [mk lh, mk lp] := by unfold two; rw [hc]; rfl
    have hsz : lh.length ≤ x.length ∧ lp.length ≤ x.length := by
      have h : ∀ (x : L) (q : L × L), cut2 x = some q → q.1.length ≤ x.length ∧ q.2.length ≤ x.length := by
        intro x
        induction x with
        | nil => intro q h; simp [cut2] at h
        | cons c x ih =>
          intro q h
          unfold cut2 at h
          split at h
          · obtain rfl := Option.some.inj h; simp
          · cases hx : cut2 x with
            | none => rw [hx] at h; simp at h
            | some p => rw [hx] at h; simp at h; subst h; have := ih p hx; simp; omega
      exact h x _ hc
    rw [hP]
    rw [ht] at h2
    clear hP ht hc hx
    obtain ⟨hh, hhh⟩ : ∃ hh, mk lh = hh := ⟨_, rfl⟩
    obtain ⟨pp, hpp⟩ : ∃ pp, mk lp = pp := ⟨_, rfl⟩
    rw [hhh, hpp] at h2
    have hhz : hh.size = lh.length := by rw [← hhh, mk_size]
    have hpz : pp.size = lp.length := by rw [← hpp, mk_size]
    have hhd : hh.data.toList = lh := by rw [← hhh]; rfl
    have hpd : pp.data.toList = lp := by rw [← hpp]; rfl
    have H2 := Aside0.mk h2
    clear h2 hhh hpp
    by_cases hh0 : hh.size = 0
    · have hl : lh = [] := List.eq_nil_of_length_eq_zero (by omega)
      have HP : Aside0 (((most 253 lh && sub lh) && allF alnum signs lp) = false) := ⟨by rw [hl, sub_nil]; rfl⟩
      rw [HP.out]
      have e1 : (((hh.size : Nat) : Int) == 0) = true := by rw [beq_iff_eq]; omega
      clear hl HP hhz hpz hhd hpd hxs hsz
      have HNEW : Aside0 (([] : List ByteArray) ++ [⟨#[109, 117, 115, 116, 32, 98, 101, 32, 97, 32, 100, 111, 109, 97, 105, 110, 45, 112, 114, 101, 102, 105, 120, 101, 100, 32, 112, 97, 116, 104, 32, 40, 115, 117, 99, 104, 32, 97, 115, 32, 34, 97, 99, 109, 101, 46, 105, 111, 47, 102, 111, 111, 34, 41]⟩] = [⟨#[109, 117, 115, 116, 32, 98, 101, 32, 97, 32, 100, 111, 109, 97, 105, 110, 45, 112, 114, 101, 102, 105, 120, 101, 100, 32, 112, 97, 116, 104, 32, 40, 115, 117, 99, 104, 32, 97, 115, 32, 34, 97, 99, 109, 101, 46, 105, 111, 47, 102, 111, 111, 34, 41]⟩]) := ⟨rfl⟩
      go_enter Tryd.func74, Tryd.ntmps74
      go_upto_region 1 with (fail)
      go_cut [3] (fun v3 wc => Aside0 (Kd.R Kd.string 9 wc w.heap.size (fun _ => True) v3 ([] : List ByteArray)) ∧ w = wc)
      case first =>
        go_wp2
        go_meet
        case rel => exact ⟨HR, rfl⟩
      case rest =>
        clear HR
        obtain ⟨HR, rfl⟩ := hcut
        go_wp2_with (first | ((with_reducible refine (H2.out _).mono ?_); rintro e w' ⟨v0, rfl, g1, hb⟩; have nr_ := Aside0.mk (Kd.R_below (by (with_reducible repeat (first | apply Kd.R_alloc | apply Kd.R_drewN | apply Kd.R_drew)); exact HR.out) hb); clear HR; have HR := nr_; clear nr_; (obtain ⟨A1, c1, e1⟩ := Kd.R_slice g1); (simp only [List.length_cons, List.length_nil, Nat.zero_add, Nat.reduceAdd] at e1); subst e1; (obtain ⟨ad, eA, k0, k1⟩ := two_cells (Kd.R_reads' g1).2.2); subst eA; clear g1; have nb_ := Aside0.mk (below_step (by repeat (first | (with_reducible first | exact HB.out | apply below_alloc | apply pw_below_drewN | apply below_drew1) | exact HB.out)) hb); clear HB; have HB := nb_; clear nb_; (try clear hb)) | ((with_reducible refine gate_builtin (b := .append) (xs := #[.tmp 34, .tmp 35]) rfl ?_); (try (refine gate_guard (by rfl) ?_; dsimp only)); at_builtin; refine Kd.R_append Kd.string (w0 := w) w.heap.size rfl (.tmp 34) (.tmp 35) 22 9 (.string ⟨#[]⟩) 16 rfl Tryd.underlying22 infoS rfl (by decide) (by omega) u3 (([] : List ByteArray)) ((⟨#[109, 117, 115, 116, 32, 98, 101, 32, 97, 32, 100, 111, 109, 97, 105, 110, 45, 112, 114, 101, 102, 105, 120, 101, 100, 32, 112, 97, 116, 104, 32, 40, 115, 117, 99, 104, 32, 97, 115, 32, 34, 97, 99, 109, 101, 46, 105, 111, 47, 102, 111, 111, 34, 41]⟩ : ByteArray)) [.string ((⟨#[109, 117, 115, 116, 32, 98, 101, 32, 97, 32, 100, 111, 109, 97, 105, 110, 45, 112, 114, 101, 102, 105, 120, 101, 100, 32, 112, 97, 116, 104, 32, 40, 115, 117, 99, 104, 32, 97, 115, 32, 34, 97, 99, 109, 101, 46, 105, 111, 47, 102, 111, 111, 34, 41]⟩ : ByteArray))] (fun _ => True) (fun _ => False) rfl rfl ?aP (fun _ hk => hk.elim) ?aF ?aO ?aB ?aS ?aL ?_; (case aP => exact rfl); (case aB => exact (by repeat (first | (with_reducible first | exact HB.out | apply below_alloc | apply pw_below_drewN | apply below_drew1) | exact HB.out))); (case aF => exact (fun _ _ => trivial)); (case aO => exact (by (with_reducible repeat (first | apply Kd.R_alloc | apply Kd.R_drewN | apply Kd.R_drew)); exact HR.out)); (case aS => exact (below_size (by repeat (first | (with_reducible first | exact HB.out | apply below_alloc | apply pw_below_drewN | apply below_drew1) | exact HB.out)))); (case aL => have := HLEN.out; (try simp only [List.length_map, List.length_nil] at *); omega); intro vN wN ho hb hg hat; rw [HNEW.out] at ho; clear HB; clear HR; have HB := Aside0.mk hb; have HR := Aside0.mk ho; clear ho hb hg hat))
        go_ret
        exact ⟨_, _, rfl, (by (with_reducible repeat (first | apply Kd.R_alloc | apply Kd.R_drewN | apply Kd.R_drew)); exact HR.out), rfl, by decide, by decide, (by repeat (first | (with_reducible first | exact HB.out | apply below_alloc | apply pw_below_drewN | apply below_drew1) | exact HB.out))⟩
    · have e1 : (((hh.size : Nat) : Int) == 0) = false := by rw [beq_eq_false_iff_ne]; omega
      by_cases hp0 : pp.size = 0
      · have hl : lp = [] := List.eq_nil_of_length_eq_zero (by omega)
        have HP : Aside0 (((most 253 lh && sub lh) && allF alnum signs lp) = false) := ⟨by rw [hl]; simp [allF]⟩
        rw [HP.out]
        have e2 : (((pp.size : Nat) : Int) == 0) = true := by rw [beq_iff_eq]; omega
        clear hl HP hhz hpz hhd hpd hxs hsz hh0
        have HNEW : Aside0 (([] : List ByteArray) ++ [⟨#[109, 117, 115, 116, 32, 98, 101, 32, 97, 32, 100, 111, 109, 97, 105, 110, 45, 112, 114, 101, 102, 105, 120, 101, 100, 32, 112, 97, 116, 104, 32, 40, 115, 117, 99, 104, 32, 97, 115, 32, 34, 97, 99, 109, 101, 46, 105, 111, 47, 102, 111, 111, 34, 41]⟩] = [⟨#[109, 117, 115, 116, 32, 98, 101, 32, 97, 32, 100, 111, 109, 97, 105, 110, 45, 112, 114, 101, 102, 105, 120, 101, 100, 32, 112, 97, 116, 104, 32, 40, 115, 117, 99, 104, 32, 97, 115, 32, 34, 97, 99, 109, 101, 46, 105, 111, 47, 102, 111, 111, 34, 41]⟩]) := ⟨rfl⟩
        go_enter Tryd.func74, Tryd.ntmps74
        go_upto_region 1 with (fail)
        go_cut [3] (fun v3 wc => Aside0 (Kd.R Kd.string 9 wc w.heap.size (fun _ => True) v3 ([] : List ByteArray)) ∧ w = wc)
        case first =>
          go_wp2
          go_meet
          case rel => exact ⟨HR, rfl⟩
        case rest =>
          clear HR
          obtain ⟨HR, rfl⟩ := hcut
          go_wp2_with (first | ((with_reducible refine (H2.out _).mono ?_); rintro e w' ⟨v0, rfl, g1, hb⟩; have nr_ := Aside0.mk (Kd.R_below (by (with_reducible repeat (first | apply Kd.R_alloc | apply Kd.R_drewN | apply Kd.R_drew)); exact HR.out) hb); clear HR; have HR := nr_; clear nr_; (obtain ⟨A1, c1, e1⟩ := Kd.R_slice g1); (simp only [List.length_cons, List.length_nil, Nat.zero_add, Nat.reduceAdd] at e1); subst e1; (obtain ⟨ad, eA, k0, k1⟩ := two_cells (Kd.R_reads' g1).2.2); subst eA; clear g1; have nb_ := Aside0.mk (below_step (by repeat (first | (with_reducible first | exact HB.out | apply below_alloc | apply pw_below_drewN | apply below_drew1) | exact HB.out)) hb); clear HB; have HB := nb_; clear nb_; (try clear hb)) | ((with_reducible refine gate_builtin (b := .append) (xs := #[.tmp 34, .tmp 35]) rfl ?_); (try (refine gate_guard (by rfl) ?_; dsimp only)); at_builtin; refine Kd.R_append Kd.string (w0 := w) w.heap.size rfl (.tmp 34) (.tmp 35) 22 9 (.string ⟨#[]⟩) 16 rfl Tryd.underlying22 infoS rfl (by decide) (by omega) u3 (([] : List ByteArray)) ((⟨#[109, 117, 115, 116, 32, 98, 101, 32, 97, 32, 100, 111, 109, 97, 105, 110, 45, 112, 114, 101, 102, 105, 120, 101, 100, 32, 112, 97, 116, 104, 32, 40, 115, 117, 99, 104, 32, 97, 115, 32, 34, 97, 99, 109, 101, 46, 105, 111, 47, 102, 111, 111, 34, 41]⟩ : ByteArray)) [.string ((⟨#[109, 117, 115, 116, 32, 98, 101, 32, 97, 32, 100, 111, 109, 97, 105, 110, 45, 112, 114, 101, 102, 105, 120, 101, 100, 32, 112, 97, 116, 104, 32, 40, 115, 117, 99, 104, 32, 97, 115, 32, 34, 97, 99, 109, 101, 46, 105, 111, 47, 102, 111, 111, 34, 41]⟩ : ByteArray))] (fun _ => True) (fun _ => False) rfl rfl ?aP (fun _ hk => hk.elim) ?aF ?aO ?aB ?aS ?aL ?_; (case aP => exact rfl); (case aB => exact (by repeat (first | (with_reducible first | exact HB.out | apply below_alloc | apply pw_below_drewN | apply below_drew1) | exact HB.out))); (case aF => exact (fun _ _ => trivial)); (case aO => exact (by (with_reducible repeat (first | apply Kd.R_alloc | apply Kd.R_drewN | apply Kd.R_drew)); exact HR.out)); (case aS => exact (below_size (by repeat (first | (with_reducible first | exact HB.out | apply below_alloc | apply pw_below_drewN | apply below_drew1) | exact HB.out)))); (case aL => have := HLEN.out; (try simp only [List.length_map, List.length_nil] at *); omega); intro vN wN ho hb hg hat; rw [HNEW.out] at ho; clear HB; clear HR; have HB := Aside0.mk hb; have HR := Aside0.mk ho; clear ho hb hg hat))
          go_ret
          exact ⟨_, _, rfl, (by (with_reducible repeat (first | apply Kd.R_alloc | apply Kd.R_drewN | apply Kd.R_drew)); exact HR.out), rfl, by decide, by decide, (by repeat (first | (with_reducible first | exact HB.out | apply below_alloc | apply pw_below_drewN | apply below_drew1) | exact HB.out))⟩
      · have e2 : (((pp.size : Nat) : Int) == 0) = false := by rw [beq_eq_false_iff_ne]; omega
        have h1 : ∀ w', Below w.heap.size w w' → Calls Tryd.prog 68 #[.string hh] w' fun e w2 => Errs (most 253 hh.data.toList && sub hh.data.toList) w' e w2 := fun w' hb => errs68 hh (by omega) w' (hT.below hb)
        have h3 : ∀ w, Calls Tryd.prog 80 #[.string pp, .func (.func 81) #[] #[], .string ⟨#[47, 45, 46, 95, 126, 37, 33, 36, 38, 39, 40, 41, 42, 43, 44, 59, 61, 58]⟩] w fun e w' => e = .returned (.bool (allF alnum signs pp.data.toList)) ∧ w = w' := fun w => zzAll81_calls zzWord_calls pp ⟨#[47, 45, 46, 95, 126, 37, 33, 36, 38, 39, 40, 41, 42, 43, 44, 59, 61, 58]⟩ (by omega) (by decide) w
        have h4 : ∀ w, Calls Tryd.prog 79 #[.string ⟨#[73, 110, 118, 97, 108, 105, 100, 32, 112, 97, 116, 104]⟩, .string ⟨#[91, 65, 45, 90, 97, 45, 122, 48, 45, 57, 47, 92, 45, 46, 95, 126, 37, 33, 36, 38, 39, 40, 41, 42, 43, 44, 59, 61, 58, 93, 43]⟩, .slice none 0 0] w fun e w' => ∃ m, e = .returned (.string m) ∧ m.size ≤ 4000 ∧ w = w' := fun w => RegexError_calls ⟨#[73, 110, 118, 97, 108, 105, 100, 32, 112, 97, 116, 104]⟩ ⟨#[91, 65, 45, 90, 97, 45, 122, 48, 45, 57, 47, 92, 45, 46, 95, 126, 37, 33, 36, 38, 39, 40, 41, 42, 43, 44, 59, 61, 58, 93, 43]⟩ (by decide) (by decide) none 0 [] w (by decide) (fun p hp => by simp at hp) (Kd.C_nil _ _) (by decide)
        rw [hhd] at h1; rw [hpd] at h3
        obtain ⟨z, hz⟩ : ∃ z, (most 253 lh && sub lh) = z := ⟨_, rfl⟩
        obtain ⟨y, hy⟩ : ∃ y, allF alnum signs lp = y := ⟨_, rfl⟩
        rw [hz] at h1; rw [hy] at h3; rw [hz, hy]
        have H1 := Aside0.mk h1; have H3 := Aside0.mk h3; have H4 := Aside0.mk h4
        clear h1 h3 h4 hz hy hhz hpz hhd hpd hxs hsz hh0 hp0
        go_enter Tryd.func74, Tryd.ntmps74
        go_upto_region 1 with (fail)
        go_cut [3] (fun v3 wc => Aside0 (v3 = .slice none 0 0) ∧ w = wc)
        case first =>
          go_wp2
          go_meet
          case rel => exact ⟨⟨rfl⟩, rfl⟩
        case rest =>
        obtain ⟨HV3, rfl⟩ := hcut
        go_wp2_with (first | ((with_reducible refine (H2.out _).mono ?_); rintro e w' ⟨v0, rfl, g1, hb⟩; (obtain ⟨A1, c1, e1⟩ := Kd.R_slice g1); (simp only [List.length_cons, List.length_nil, Nat.zero_add, Nat.reduceAdd] at e1); subst e1; (obtain ⟨ad, eA, k0, k1⟩ := two_cells (Kd.R_reads' g1).2.2); subst eA; have HQ := Aside0.mk (Kd.R_reads' g1); clear g1; have nb_ := Aside0.mk (below_step (by repeat (first | (with_reducible first | exact HB.out | apply below_alloc | apply pw_below_drewN | apply below_drew1) | exact HB.out)) hb); clear HB; have HB := nb_; clear nb_; (try clear hb)) | ((with_reducible refine (H1.out _ (by repeat (first | (with_reducible first | exact HB.out | apply below_alloc | apply pw_below_drewN | apply below_drew1) | exact HB.out))).mono ?_); rintro e wN ⟨v0, xs, rfl, g1, g2, g3, g4, hb⟩; have HC2 := Aside0.mk (Kd.C_below HQ.out.2.2 hb); (clear k0 k1 HQ); (obtain ⟨AX, cX, eX⟩ := Kd.R_slice g1); subst eX; have HXS := Aside0.mk (Kd.R_reads' g1).2.2; have HG2 := Aside0.mk g2; have HG4 := Aside0.mk g4; clear g1 g2 g4; have nb_ := Aside0.mk (below_step (by repeat (first | (with_reducible first | exact HB.out | apply below_alloc | apply pw_below_drewN | apply below_drew1) | exact HB.out)) hb); clear HB; have HB := nb_; clear nb_; (try clear hb)))
        clear HR HLEN
        go_loopg [3, 7, 43] (xs.length) (fun g v3 v7 v43 w' => ∃ j : Nat, v43 = .int .i64 j ∧ Aside0 (g + j = xs.length) ∧ Aside0 (Kd.R Kd.string 9 w' wN.heap.size (fun _ => True) v3 (xs.take j)) ∧ Aside0 (Below wN.heap.size wN w'))
        case atStart => exact ⟨0, rfl, ⟨by omega⟩, ⟨by rw [HV3.out]; exact Kd.R_nil _ _ _ _ _⟩, ⟨Below.refl _ _⟩⟩
        case round =>
          clear HV3
          obtain ⟨j, rfl, HJ, HRJ, HBJ⟩ := hrel
          have hj : j ≤ xs.length := by have := HJ.out; omega
          by_cases hjl : j < xs.length
          · obtain ⟨ad2, eA2, hcell2⟩ := Kd.at_string (Kd.C_below HXS.out HBJ.out) (j : Int) (by omega) (by omega)
            subst eA2
            obtain ⟨p, hp⟩ : ∃ p, xs[j] = p := ⟨_, rfl⟩
            rw [show rdOf ByteArray.empty xs (j : Int) = p by unfold rdOf; rw [Int.toNat_natCast, getD_of _ _ hjl]; exact hp, Int.toNat_natCast] at hcell2
            have HNEW : Aside0 (xs.take j ++ [p] = xs.take (j + 1)) := ⟨by rw [← hp]; exact take_one xs j hjl⟩
            have HLEN : Aside0 ((xs.take j).length ≤ 20) := ⟨by simp; omega⟩
            clear hp
            go_wp2_with (first | ((with_reducible refine gate_builtin (b := .append) (xs := #[.tmp 47, .tmp 49]) rfl ?_); (try (refine gate_guard (by rfl) ?_; dsimp only)); at_builtin; refine Kd.R_append Kd.string (w0 := wN) wN.heap.size rfl (.tmp 47) (.tmp 49) 22 9 (.string ⟨#[]⟩) 16 rfl Tryd.underlying22 infoS rfl (by decide) (by omega) u3 (xs.take j) (p) [.string (p)] (fun _ => True) (fun _ => False) rfl rfl ?aP (fun _ hk => hk.elim) ?aF ?aO ?aB ?aS ?aL ?_; (case aP => exact rfl); (case aB => exact (by repeat (first | (with_reducible first | exact HBJ.out | apply below_alloc | apply pw_below_drewN | apply below_drew1) | exact HBJ.out))); (case aF => exact (fun _ _ => trivial)); (case aO => exact (by (with_reducible repeat (first | apply Kd.R_alloc | apply Kd.R_drewN | apply Kd.R_drew)); exact HRJ.out)); (case aS => exact (below_size (by repeat (first | (with_reducible first | exact HBJ.out | apply below_alloc | apply pw_below_drewN | apply below_drew1) | exact HBJ.out)))); (case aL => have := HLEN.out; (try simp only [List.length_map, List.length_nil] at *); omega); intro vN wN2 ho hb hg hat; rw [HNEW.out] at ho; clear HBJ; clear HRJ; have HBJ := Aside0.mk hb; have HRJ := Aside0.mk ho; clear ho hb hg hat))
            go_roundg (gk - 1)
            case measure => have := HJ.out; omega
            case rel => exact ⟨j + 1, by go_num, ⟨by have := HJ.out; omega⟩, HRJ, HBJ⟩
          · have hli : j = xs.length := by omega
            have hR := HRJ.out
            rw [hli, List.take_length] at hR
            clear HRJ
            have HRJ := Aside0.mk hR
            clear hR hli
            obtain ⟨ad3, eA3, k0, k1⟩ := two_cells (Kd.C_below HC2.out HBJ.out)
            obtain rfl := Option.some.inj eA3
            cases y with
            | true =>
              go_wp2_with (first | ((with_reducible refine (H3.out _).mono ?_); rintro e w' ⟨rfl, rfl⟩))
              go_ret
              exact ⟨_, xs, rfl, Kd.R_lower (by (with_reducible repeat (first | apply Kd.R_alloc | apply Kd.R_drewN | apply Kd.R_drew)); exact HRJ.out) HB.out.size, by rw [HG2.out, Bool.and_true], by omega, fun p hp => by have := HG4.out p hp; omega, below_then HB.out HB.out.size (by repeat (first | (with_reducible first | exact HBJ.out | apply below_alloc | apply pw_below_drewN | apply below_drew1) | exact HBJ.out))⟩
            | false =>
              have HLEN : Aside0 (xs.length ≤ 20) := ⟨by omega⟩
              go_wp2_with (first | ((with_reducible refine (H3.out _).mono ?_); rintro e w' ⟨rfl, rfl⟩) | ((with_reducible refine (H4.out _).mono ?_); rintro e w' ⟨m, rfl, hm, rfl⟩; have HM := Aside0.mk hm; (obtain ⟨ys, hys⟩ : ∃ ys, xs ++ [m] = ys := ⟨_, rfl⟩); have HNEW := Aside0.mk hys; have HYS := Aside0.mk hys.symm; clear hys hm) | ((with_reducible refine gate_builtin (b := .append) (xs := #[.tmp 58, .tmp 60]) rfl ?_); (try (refine gate_guard (by rfl) ?_; dsimp only)); at_builtin; refine Kd.R_append Kd.string (w0 := wN) wN.heap.size rfl (.tmp 58) (.tmp 60) 22 9 (.string ⟨#[]⟩) 16 rfl Tryd.underlying22 infoS rfl (by decide) (by omega) u3 (xs) (m) [.string (m)] (fun _ => True) (fun _ => False) rfl rfl ?aP (fun _ hk => hk.elim) ?aF ?aO ?aB ?aS ?aL ?_; (case aP => exact rfl); (case aB => exact (by repeat (first | (with_reducible first | exact HBJ.out | apply below_alloc | apply pw_below_drewN | apply below_drew1) | exact HBJ.out))); (case aF => exact (fun _ _ => trivial)); (case aO => exact (by (with_reducible repeat (first | apply Kd.R_alloc | apply Kd.R_drewN | apply Kd.R_drew)); exact HRJ.out)); (case aS => exact (below_size (by repeat (first | (with_reducible first | exact HBJ.out | apply below_alloc | apply pw_below_drewN | apply below_drew1) | exact HBJ.out)))); (case aL => have := HLEN.out; (try simp only [List.length_map, List.length_nil] at *); omega); intro vN wN2 ho hb hg hat; rw [HNEW.out] at ho; clear HBJ; clear HRJ; have HBJ := Aside0.mk hb; have HRJ := Aside0.mk ho; clear ho hb hg hat))
              go_ret
              exact ⟨_, ys, rfl, Kd.R_lower (by (with_reducible repeat (first | apply Kd.R_alloc | apply Kd.R_drewN | apply Kd.R_drew)); exact HRJ.out) HB.out.size, by rw [Bool.and_false, HYS.out]; cases xs <;> rfl, by rw [HYS.out]; simp; omega, fun p hp => by rw [HYS.out] at hp; simp at hp; rcases hp with hp | rfl <;> first | (have := HG4.out p hp; omega) | (have := HM.out; omega), below_then HB.out HB.out.size (by repeat (first | (with_reducible first | exact HBJ.out | apply below_alloc | apply pw_below_drewN | apply below_drew1) | exact HBJ.out))⟩
end Go.Proofs.YtdledchhpjkilaaDoor.Hand

