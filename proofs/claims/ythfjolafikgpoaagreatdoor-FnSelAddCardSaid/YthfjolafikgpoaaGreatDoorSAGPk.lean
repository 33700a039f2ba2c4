/- Functions of the program as Lean functions, with their contracts (the lines are print.sh's): spec_Pieces. -/
import Derived.Test.YthfjolafikgpoaaGreatDoorSAM4
namespace Go.Proofs.YthfjolafikgpoaaGreatDoor.PFnSelDecidesLabels
open Go.RowKit Go.Proofs.YthfjolafikgpoaaGreatDoorW.PrintWords Go.Proofs.YthfjolafikgpoaaGreatDoorW.PrintLast Go.Proofs.YthfjolafikgpoaaGreatDoorW.PrintMore
set_option linter.unusedVariables false
set_option linter.unusedSimpArgs false
def spec_Pieces.l0 : Nat → ByteArray → Int → List ByteArray → Int → Int → Int → Option (List ByteArray)
 | 0, _, _, _, _, _, _ => none
 | k + 1, x0, x1, x5, x6, x9, x10 => if x10 < x9 then (if 0 ≤ x10 then (if x10 < (x0.size : Int) then (if (bt x0 x10) = x1 then (if 0 ≤ x6 then (if x6 ≤ x10 then (if x10 ≤ (x0.size : Int) then (if x5.length < 8796093022208 then (spec_Pieces.l0 k x0 x1 (x5 ++ [x0.extract (x6 : Int).toNat (x10 : Int).toNat]) (wrap64 (x10 + 1)) x9 (wrap64 (x10 + 1))) else (none)) else (none)) else (none)) else (none)) else (spec_Pieces.l0 k x0 x1 x5 x6 x9 (wrap64 (x10 + 1)))) else (none)) else (none)) else (if 0 ≤ x6 then (if x6 ≤ (x0.size : Int) then (if x5.length < 8796093022208 then (some (x5 ++ [x0.extract (x6 : Int).toNat x0.size])) else (none)) else (none)) else (none))
def spec_Pieces.f (k : Nat) (a0 : ByteArray) (a1 : Int) : Option (List ByteArray) := spec_Pieces.l0 k a0 a1 ([] : List ByteArray) 0 (a0.size : Int) 0
set_option maxHeartbeats 8000000 in
set_option maxRecDepth 100000 in
theorem spec_Pieces.calls (k : Nat) (a0 : ByteArray) (a1 : Int) (r : List ByteArray) (w : World) (h : spec_Pieces.f k a0 a1 = some r) :
   Calls Tryz.prog 53 #[.string a0, .int .u8 a1] w fun e w' => ∃ v0_ : Value, e = .returned (v0_) ∧ Kd.R Kd.string 9 w' w.heap.size (fun _ => True) v0_ r ∧ Below w.heap.size w w' := by
 have HB := Aside0.mk (Below.refl w.heap.size w)
 have H : (spec_Pieces.l0 k a0 a1 ([] : List ByteArray) 0 (a0.size : Int) 0) = some r := h
 clear h
 have H' := Aside0.mk H
 clear H
 go_enter Tryz.func53, Tryz.ntmps53
 go_wp2
 go_loopg [5, 6, 10] k (fun kq v5 v6 v10 w' => ∃ (x5_1 : List ByteArray) (x6_1 : Int) (x10_1 : Int), v6 = .int .i64 x6_1 ∧ v10 = .int .i64 x10_1 ∧ Aside0 (spec_Pieces.l0 kq a0 a1 x5_1 x6_1 (a0.size : Int) x10_1 = some r) ∧ Aside0 (kq ≤ k) ∧ Aside0 (Kd.R Kd.string 9 w' w.heap.size (fun _ => True) v5 x5_1) ∧ Aside0 (Below w.heap.size w w'))
 case atStart => exact ⟨(([] : List ByteArray)), (0), (0), (by first | rfl | (simp; done) | (simp [*]; done)), (by first | rfl | (simp; done) | (simp [*]; done)), H', ⟨Nat.le_refl _⟩, ⟨by first | exact Kd.R_nil _ _ _ _ _ | exact Kd.N_nil _ _ _ _ _ | exact Kd.V_nil _ _ _ _ _ | exact Kd.Q_nil _ _ _ _ _ | exact Kd.S_nil _ _ _ _ _⟩, ⟨by repeat (first | (with_reducible first | exact HB.out | apply below_alloc | apply pw_below_drewN | apply below_drew1) | exact HB.out)⟩⟩
 case round =>
  clear H'
  try clear p2
  obtain ⟨x5_1, x6_1, x10_1, rfl, rfl, HA, HK1, HO_5, HB⟩ := hrel
  cases gk with
  | zero => exact absurd HA.out (by simp [spec_Pieces.l0])
  | succ k1 =>
    have H := HA.out
    clear HA
    simp only [spec_Pieces.l0] at H
    by_cases c3 : x10_1 < (a0.size : Int)
    · rw [if_pos c3] at H
      have c3b0 : decide (x10_1 < (a0.size : Int)) = true := decide_eq_true c3
      clear c3
      by_cases c4 : 0 ≤ x10_1
      · rw [if_pos c4] at H
        have c4b0 : decide (0 ≤ x10_1) = true := decide_eq_true c4
        clear c4
        by_cases c5 : x10_1 < (a0.size : Int)
        · rw [if_pos c5] at H
          have c5b0 : decide (x10_1 < (a0.size : Int)) = true := decide_eq_true c5
          clear c5
          by_cases c7 : (bt a0 x10_1) = a1
          · rw [if_pos c7] at H
            have c7b0 : ((bt a0 x10_1) == a1) = true := beq_iff_eq.mpr c7
            have c7b1 : ((bt a0 x10_1) != a1) = false := bne_eq_false_iff_eq.mpr c7
            clear c7
            by_cases c8 : 0 ≤ x6_1
            · rw [if_pos c8] at H
              have c8b0 := eq_true c8
              have c8b1 : decide (0 ≤ x6_1) = true := decide_eq_true c8
              clear c8
              by_cases c9 : x6_1 ≤ x10_1
              · rw [if_pos c9] at H
                have c9b0 := eq_true c9
                have c9b1 : decide (x6_1 ≤ x10_1) = true := decide_eq_true c9
                clear c9
                by_cases c10 : x10_1 ≤ (a0.size : Int)
                · rw [if_pos c10] at H
                  have c10b0 := eq_true c10
                  have c10b1 : decide (x10_1 ≤ (a0.size : Int)) = true := decide_eq_true c10
                  clear c10
                  by_cases c11 : x5_1.length < 8796093022208
                  · rw [if_pos c11] at H
                    have LMc11 := Aside0.mk c11
                    clear c11
                    obtain ⟨y193, hy193⟩ : ∃ y_ : List ByteArray, y_ = (x5_1 ++ [a0.extract (x6_1 : Int).toNat (x10_1 : Int).toNat]) := ⟨_, rfl⟩
                    replace H : (spec_Pieces.l0 k1 a0 a1 y193 (wrap64 (x10_1 + 1)) (a0.size : Int) (wrap64 (x10_1 + 1))) = some r := by first | (rw [hy193]; with_reducible exact H) | (have H2_ := (Option.bind_some _ _).symm.trans H; rw [hy193]; with_reducible exact H2_) | (have H2_ := (Option.bind_some _ _).symm.trans H; with_reducible exact H2_) | with_reducible exact H | (rw [hy193]; exact H) | exact H
                    have Ny193 := Aside0.mk hy193
                    clear hy193
                    have H' := Aside0.mk H
                    clear H
                    have p6 : 0 ≤ (x10_1 : Int) := of_decide_eq_true (by first | (with_reducible assumption) | assumption)
                    have q6 : x10_1 < (a0.size : Int) := of_decide_eq_true (by first | (with_reducible assumption) | assumption)
                    have hx6 := bt_at a0 x10_1
                    replace p6 := eq_true p6
                    replace q6 := eq_true q6
                    go_wp2_with (first | ((with_reducible refine gate_builtin (b := .append) (xs := #[.tmp 18, .tmp 23]) rfl ?_); at_builtin; refine Kd.R_append Kd.string (w0 := w) w.heap.size rfl (.tmp 18) (.tmp 23) 51 9 (.string ⟨#[]⟩) 16 rfl Tryz.underlying51 info9 rfl (by decide) (by omega) u5 x5_1 (a0.extract (x6_1 : Int).toNat (x10_1 : Int).toNat) [.string (a0.extract (x6_1 : Int).toNat (x10_1 : Int).toNat)] (fun _ => True) (fun _ => False) rfl rfl ?aP (fun _ hk => hk.elim) ?aF ?aO ?aB ?aS ?aL ?_; (case aP => exact rfl); (case aB => exact (by repeat (first | (with_reducible first | exact HB.out | apply below_alloc | apply pw_below_drewN | apply below_drew1) | exact HB.out))); (case aF => exact (fun _ _ => trivial)); (case aO => exact (by (with_reducible repeat (first | apply Kd.R_alloc | apply Kd.R_drewN | apply Kd.R_drew)); exact HO_5.out)); (case aS => exact (below_size (by repeat (first | (with_reducible first | exact HB.out | apply below_alloc | apply pw_below_drewN | apply below_drew1) | exact HB.out)))); (case aL => have := LMc11.out; omega); intro v194 w12 ho hb hg hat; rw [← Ny193.out] at ho; have n0_ := Aside0.mk (hb); have n1_ := Aside0.mk (ho); clear HB; clear HO_5; have HB := n0_; have HO195 := n1_; clear n0_ n1_; clear ho hb hg hat))
                    go_roundg k1
                    case measure => have := HK1.out; omega
                    case rel => exact ⟨(y193), (wrap64 (x10_1 + 1)), (wrap64 (x10_1 + 1)), (by first | rfl | (simp; done) | (simp [*]; done)), (by first | rfl | (simp; done) | (simp [*]; done)), H', ⟨by have := HK1.out; omega⟩, ⟨by (with_reducible repeat (first | apply Kd.R_alloc | apply Kd.R_drewN | apply Kd.R_drew)); exact HO195.out⟩, ⟨by repeat (first | (with_reducible first | exact HB.out | apply below_alloc | apply pw_below_drewN | apply below_drew1) | exact HB.out)⟩⟩
                  · rw [if_neg c11] at H
                    exact absurd H (by simp)
                · rw [if_neg c10] at H
                  exact absurd H (by simp)
              · rw [if_neg c9] at H
                exact absurd H (by simp)
            · rw [if_neg c8] at H
              exact absurd H (by simp)
          · rw [if_neg c7] at H
            have c7b0 : ((bt a0 x10_1) == a1) = false := beq_eq_false_iff_ne.mpr c7
            have c7b1 : ((bt a0 x10_1) != a1) = true := bne_iff_ne.mpr c7
            have H' := Aside0.mk H
            clear H
            have p6 : 0 ≤ (x10_1 : Int) := of_decide_eq_true (by first | (with_reducible assumption) | assumption)
            have q6 : x10_1 < (a0.size : Int) := of_decide_eq_true (by first | (with_reducible assumption) | assumption)
            have hx6 := bt_at a0 x10_1
            replace p6 := eq_true p6
            replace q6 := eq_true q6
            go_wp2
            go_roundg k1
            case measure => have := HK1.out; omega
            case rel => exact ⟨(x5_1), (x6_1), (wrap64 (x10_1 + 1)), (by first | rfl | (simp; done) | (simp [*]; done)), (by first | rfl | (simp; done) | (simp [*]; done)), H', ⟨by have := HK1.out; omega⟩, ⟨by (with_reducible repeat (first | apply Kd.R_alloc | apply Kd.R_drewN | apply Kd.R_drew)); exact HO_5.out⟩, ⟨by repeat (first | (with_reducible first | exact HB.out | apply below_alloc | apply pw_below_drewN | apply below_drew1) | exact HB.out)⟩⟩
        · rw [if_neg c5] at H
          exact absurd H (by simp)
      · rw [if_neg c4] at H
        exact absurd H (by simp)
    · rw [if_neg c3] at H
      have c3b0 : decide (x10_1 < (a0.size : Int)) = false := decide_eq_false c3
      clear c3
      by_cases c13 : 0 ≤ x6_1
      · rw [if_pos c13] at H
        have c13b0 := eq_true c13
        have c13b1 : decide (0 ≤ x6_1) = true := decide_eq_true c13
        clear c13
        by_cases c14 : x6_1 ≤ (a0.size : Int)
        · rw [if_pos c14] at H
          have c14b0 := eq_true c14
          have c14b1 : decide (x6_1 ≤ (a0.size : Int)) = true := decide_eq_true c14
          clear c14
          by_cases c15 : x5_1.length < 8796093022208
          · rw [if_pos c15] at H
            have LMc15 := Aside0.mk c15
            clear c15
            obtain ⟨y196, hy196⟩ : ∃ y_ : List ByteArray, y_ = (x5_1 ++ [a0.extract (x6_1 : Int).toNat a0.size]) := ⟨_, rfl⟩
            replace H : (some y196) = some r := by first | (rw [hy196]; with_reducible exact H) | (have H2_ := (Option.bind_some _ _).symm.trans H; rw [hy196]; with_reducible exact H2_) | (have H2_ := (Option.bind_some _ _).symm.trans H; with_reducible exact H2_) | with_reducible exact H | (rw [hy196]; exact H) | exact H
            have Ny196 := Aside0.mk hy196
            clear hy196
            obtain rfl := Option.some.inj H
            go_wp2_with (first | ((with_reducible refine gate_builtin (b := .append) (xs := #[.tmp 28, .tmp 32]) rfl ?_); at_builtin; refine Kd.R_append Kd.string (w0 := w) w.heap.size rfl (.tmp 28) (.tmp 32) 51 9 (.string ⟨#[]⟩) 16 rfl Tryz.underlying51 info9 rfl (by decide) (by omega) u5 x5_1 (a0.extract (x6_1 : Int).toNat a0.size) [.string (a0.extract (x6_1 : Int).toNat a0.size)] (fun _ => True) (fun _ => False) rfl rfl ?aP (fun _ hk => hk.elim) ?aF ?aO ?aB ?aS ?aL ?_; (case aP => exact rfl); (case aB => exact (by repeat (first | (with_reducible first | exact HB.out | apply below_alloc | apply pw_below_drewN | apply below_drew1) | exact HB.out))); (case aF => exact (fun _ _ => trivial)); (case aO => exact (by (with_reducible repeat (first | apply Kd.R_alloc | apply Kd.R_drewN | apply Kd.R_drew)); exact HO_5.out)); (case aS => exact (below_size (by repeat (first | (with_reducible first | exact HB.out | apply below_alloc | apply pw_below_drewN | apply below_drew1) | exact HB.out)))); (case aL => have := LMc15.out; omega); intro v197 w16 ho hb hg hat; rw [← Ny196.out] at ho; have n0_ := Aside0.mk (hb); have n1_ := Aside0.mk (ho); clear HB; clear HO_5; have HB := n0_; have HO198 := n1_; clear n0_ n1_; clear ho hb hg hat))
            go_ret
            exact ⟨_, by first | rfl | (simp [errW_none, errW_some] <;> rfl) | (simp [*, errW_none, errW_some] <;> rfl), by (with_reducible repeat (first | apply Kd.R_alloc | apply Kd.R_drewN | apply Kd.R_drew)); exact HO198.out, by repeat (first | (with_reducible first | exact HB.out | apply below_alloc | apply pw_below_drewN | apply below_drew1) | exact HB.out)⟩
          · rw [if_neg c15] at H
            exact absurd H (by simp)
        · rw [if_neg c14] at H
          exact absurd H (by simp)
      · rw [if_neg c13] at H
        exact absurd H (by simp)
def spec_among.l0 : Nat → Int → ByteArray → Int → Int → Option (Bool)
 | 0, _, _, _, _ => none
 | k + 1, x0, x1, x7, x8 => if x8 < x7 then (if 0 ≤ x8 then (if x8 < (x1.size : Int) then (if (bt x1 x8) = x0 then (some true) else (spec_among.l0 k x0 x1 x7 (wrap64 (x8 + 1)))) else (none)) else (none)) else (some false)
def spec_among.f (k : Nat) (a0 : Int) (a1 : ByteArray) : Option (Bool) := spec_among.l0 k a0 a1 (a1.size : Int) 0
def spec_Small.f (a0 : Int) : Option (Bool) := if a0 ≥ 97 then (if a0 ≤ 122 then (some true) else (if a0 ≥ 48 then (some (decide (a0 ≤ 57))) else (some false))) else (if a0 ≥ 48 then (some (decide (a0 ≤ 57))) else (some false))
def spec_Alnum.f (a0 : Int) : Option (Bool) := (spec_Small.f a0).bind fun t192 => (if t192 = true then (some true) else (if a0 ≥ 65 then (some (decide (a0 ≤ 90))) else (some false)))
def labels_string2token.f (a0 : ByteArray) : Option (Int × Bool) := if a0.toList = ([41] : List UInt8) then (some (2, true)) else (if a0.toList = ([44] : List UInt8) then (some (3, true)) else (if a0.toList = ([33] : List UInt8) then (some (4, true)) else (if a0.toList = ([61, 61] : List UInt8) then (some (5, true)) else (if a0.toList = ([61] : List UInt8) then (some (6, true)) else (if a0.toList = ([62] : List UInt8) then (some (7, true)) else (if a0.toList = ([105, 110] : List UInt8) then (some (9, true)) else (if a0.toList = ([60] : List UInt8) then (some (10, true)) else (if a0.toList = ([33, 61] : List UInt8) then (some (11, true)) else (if a0.toList = ([110, 111, 116, 105, 110] : List UInt8) then (some (12, true)) else (if a0.toList = ([40] : List UInt8) then (some (13, true)) else (some (0, false))))))))))))
set_option maxHeartbeats 8000000 in
set_option maxRecDepth 100000 in
theorem labels_string2token.calls (a0 : ByteArray) (r1 : Int) (r2 : Bool) (w : World) (h : labels_string2token.f a0 = some (r1, r2)) :
   Calls Tryz.prog 187 #[.string a0] w fun e w' => e = .returned (.tuple #[.int .i64 r1, .bool r2]) ∧ Drawn0 w w' := by
 have H : (if a0.toList = ([41] : List UInt8) then (some (2, true)) else (if a0.toList = ([44] : List UInt8) then (some (3, true)) else (if a0.toList = ([33] : List UInt8) then (some (4, true)) else (if a0.toList = ([61, 61] : List UInt8) then (some (5, true)) else (if a0.toList = ([61] : List UInt8) then (some (6, true)) else (if a0.toList = ([62] : List UInt8) then (some (7, true)) else (if a0.toList = ([105, 110] : List UInt8) then (some (9, true)) else (if a0.toList = ([60] : List UInt8) then (some (10, true)) else (if a0.toList = ([33, 61] : List UInt8) then (some (11, true)) else (if a0.toList = ([110, 111, 116, 105, 110] : List UInt8) then (some (12, true)) else (if a0.toList = ([40] : List UInt8) then (some (13, true)) else (some (0, false))))))))))))) = some (r1, r2) := h
 clear h
 by_cases c2 : a0.toList = ([41] : List UInt8)
 · rw [if_pos c2] at H
   have c2b0 : (a0.toList == ([41] : List UInt8)) = true := beq_iff_eq.mpr c2
   have c2b1 : (a0.toList != ([41] : List UInt8)) = false := bne_eq_false_iff_eq.mpr c2
   clear c2
   simp only [Option.some.injEq, Prod.mk.injEq] at H
   obtain ⟨rfl, rfl⟩ := H
   go_enter Tryz.func187, Tryz.ntmps187
   go_wp2
   go_ret2
   exact ⟨by first | rfl | (simp; done) | (simp [*]; done), by repeat (first | exact Drawn0.refl _ | apply Drawn0.step)⟩
 · rw [if_neg c2] at H
   have c2b0 : (a0.toList == ([41] : List UInt8)) = false := beq_eq_false_iff_ne.mpr c2
   have c2b1 : (a0.toList != ([41] : List UInt8)) = true := bne_iff_ne.mpr c2
   by_cases c3 : a0.toList = ([44] : List UInt8)
   · rw [if_pos c3] at H
     have c3b0 : (a0.toList == ([44] : List UInt8)) = true := beq_iff_eq.mpr c3
     have c3b1 : (a0.toList != ([44] : List UInt8)) = false := bne_eq_false_iff_eq.mpr c3
     clear c3
     simp only [Option.some.injEq, Prod.mk.injEq] at H
     obtain ⟨rfl, rfl⟩ := H
     go_enter Tryz.func187, Tryz.ntmps187
     go_wp2
     go_ret2
     exact ⟨by first | rfl | (simp; done) | (simp [*]; done), by repeat (first | exact Drawn0.refl _ | apply Drawn0.step)⟩
   · rw [if_neg c3] at H
     have c3b0 : (a0.toList == ([44] : List UInt8)) = false := beq_eq_false_iff_ne.mpr c3
     have c3b1 : (a0.toList != ([44] : List UInt8)) = true := bne_iff_ne.mpr c3
     by_cases c4 : a0.toList = ([33] : List UInt8)
     · rw [if_pos c4] at H
       have c4b0 : (a0.toList == ([33] : List UInt8)) = true := beq_iff_eq.mpr c4
       have c4b1 : (a0.toList != ([33] : List UInt8)) = false := bne_eq_false_iff_eq.mpr c4
       clear c4
       simp only [Option.some.injEq, Prod.mk.injEq] at H
       obtain ⟨rfl, rfl⟩ := H
       go_enter Tryz.func187, Tryz.ntmps187
       go_wp2
       go_ret2
       exact ⟨by first | rfl | (simp; done) | (simp [*]; done), by repeat (first | exact Drawn0.refl _ | apply Drawn0.step)⟩
     · rw [if_neg c4] at H
       have c4b0 : (a0.toList == ([33] : List UInt8)) = false := beq_eq_false_iff_ne.mpr c4
       have c4b1 : (a0.toList != ([33] : List UInt8)) = true := bne_iff_ne.mpr c4
       by_cases c5 : a0.toList = ([61, 61] : List UInt8)
       · rw [if_pos c5] at H
         have c5b0 : (a0.toList == ([61, 61] : List UInt8)) = true := beq_iff_eq.mpr c5
         have c5b1 : (a0.toList != ([61, 61] : List UInt8)) = false := bne_eq_false_iff_eq.mpr c5
         clear c5
         simp only [Option.some.injEq, Prod.mk.injEq] at H
         obtain ⟨rfl, rfl⟩ := H
         go_enter Tryz.func187, Tryz.ntmps187
         go_wp2
         go_ret2
         exact ⟨by first | rfl | (simp; done) | (simp [*]; done), by repeat (first | exact Drawn0.refl _ | apply Drawn0.step)⟩
       · rw [if_neg c5] at H
         have c5b0 : (a0.toList == ([61, 61] : List UInt8)) = false := beq_eq_false_iff_ne.mpr c5
         have c5b1 : (a0.toList != ([61, 61] : List UInt8)) = true := bne_iff_ne.mpr c5
         by_cases c6 : a0.toList = ([61] : List UInt8)
         · rw [if_pos c6] at H
           have c6b0 : (a0.toList == ([61] : List UInt8)) = true := beq_iff_eq.mpr c6
           have c6b1 : (a0.toList != ([61] : List UInt8)) = false := bne_eq_false_iff_eq.mpr c6
           clear c6
           simp only [Option.some.injEq, Prod.mk.injEq] at H
           obtain ⟨rfl, rfl⟩ := H
           go_enter Tryz.func187, Tryz.ntmps187
           go_wp2
           go_ret2
           exact ⟨by first | rfl | (simp; done) | (simp [*]; done), by repeat (first | exact Drawn0.refl _ | apply Drawn0.step)⟩
         · rw [if_neg c6] at H
           have c6b0 : (a0.toList == ([61] : List UInt8)) = false := beq_eq_false_iff_ne.mpr c6
           have c6b1 : (a0.toList != ([61] : List UInt8)) = true := bne_iff_ne.mpr c6
           by_cases c7 : a0.toList = ([62] : List UInt8)
           · rw [if_pos c7] at H
             have c7b0 : (a0.toList == ([62] : List UInt8)) = true := beq_iff_eq.mpr c7
             have c7b1 : (a0.toList != ([62] : List UInt8)) = false := bne_eq_false_iff_eq.mpr c7
             clear c7
             simp only [Option.some.injEq, Prod.mk.injEq] at H
             obtain ⟨rfl, rfl⟩ := H
             go_enter Tryz.func187, Tryz.ntmps187
             go_wp2
             go_ret2
             exact ⟨by first | rfl | (simp; done) | (simp [*]; done), by repeat (first | exact Drawn0.refl _ | apply Drawn0.step)⟩
           · rw [if_neg c7] at H
             have c7b0 : (a0.toList == ([62] : List UInt8)) = false := beq_eq_false_iff_ne.mpr c7
             have c7b1 : (a0.toList != ([62] : List UInt8)) = true := bne_iff_ne.mpr c7
             by_cases c8 : a0.toList = ([105, 110] : List UInt8)
             · rw [if_pos c8] at H
               have c8b0 : (a0.toList == ([105, 110] : List UInt8)) = true := beq_iff_eq.mpr c8
               have c8b1 : (a0.toList != ([105, 110] : List UInt8)) = false := bne_eq_false_iff_eq.mpr c8
               clear c8
               simp only [Option.some.injEq, Prod.mk.injEq] at H
               obtain ⟨rfl, rfl⟩ := H
               go_enter Tryz.func187, Tryz.ntmps187
               go_wp2
               go_ret2
               exact ⟨by first | rfl | (simp; done) | (simp [*]; done), by repeat (first | exact Drawn0.refl _ | apply Drawn0.step)⟩
             · rw [if_neg c8] at H
               have c8b0 : (a0.toList == ([105, 110] : List UInt8)) = false := beq_eq_false_iff_ne.mpr c8
               have c8b1 : (a0.toList != ([105, 110] : List UInt8)) = true := bne_iff_ne.mpr c8
               by_cases c9 : a0.toList = ([60] : List UInt8)
               · rw [if_pos c9] at H
                 have c9b0 : (a0.toList == ([60] : List UInt8)) = true := beq_iff_eq.mpr c9
                 have c9b1 : (a0.toList != ([60] : List UInt8)) = false := bne_eq_false_iff_eq.mpr c9
                 clear c9
                 simp only [Option.some.injEq, Prod.mk.injEq] at H
                 obtain ⟨rfl, rfl⟩ := H
                 go_enter Tryz.func187, Tryz.ntmps187
                 go_wp2
                 go_ret2
                 exact ⟨by first | rfl | (simp; done) | (simp [*]; done), by repeat (first | exact Drawn0.refl _ | apply Drawn0.step)⟩
               · rw [if_neg c9] at H
                 have c9b0 : (a0.toList == ([60] : List UInt8)) = false := beq_eq_false_iff_ne.mpr c9
                 have c9b1 : (a0.toList != ([60] : List UInt8)) = true := bne_iff_ne.mpr c9
                 by_cases c10 : a0.toList = ([33, 61] : List UInt8)
                 · rw [if_pos c10] at H
                   have c10b0 : (a0.toList == ([33, 61] : List UInt8)) = true := beq_iff_eq.mpr c10
                   have c10b1 : (a0.toList != ([33, 61] : List UInt8)) = false := bne_eq_false_iff_eq.mpr c10
                   clear c10
                   simp only [Option.some.injEq, Prod.mk.injEq] at H
                   obtain ⟨rfl, rfl⟩ := H
                   go_enter Tryz.func187, Tryz.ntmps187
                   go_wp2
                   go_ret2
                   exact ⟨by first | rfl | (simp; done) | (simp [*]; done), by repeat (first | exact Drawn0.refl _ | apply Drawn0.step)⟩
                 · rw [if_neg c10] at H
                   have c10b0 : (a0.toList == ([33, 61] : List UInt8)) = false := beq_eq_false_iff_ne.mpr c10
                   have c10b1 : (a0.toList != ([33, 61] : List UInt8)) = true := bne_iff_ne.mpr c10
                   by_cases c11 : a0.toList = ([110, 111, 116, 105, 110] : List UInt8)
                   · rw [if_pos c11] at H
                     have c11b0 : (a0.toList == ([110, 111, 116, 105, 110] : List UInt8)) = true := beq_iff_eq.mpr c11
                     have c11b1 : (a0.toList != ([110, 111, 116, 105, 110] : List UInt8)) = false := bne_eq_false_iff_eq.mpr c11
                     clear c11
                     simp only [Option.some.injEq, Prod.mk.injEq] at H
                     obtain ⟨rfl, rfl⟩ := H
                     go_enter Tryz.func187, Tryz.ntmps187
                     go_wp2
                     go_ret2
                     exact ⟨by first | rfl | (simp; done) | (simp [*]; done), by repeat (first | exact Drawn0.refl _ | apply Drawn0.step)⟩
                   · rw [if_neg c11] at H
                     have c11b0 : (a0.toList == ([110, 111, 116, 105, 110] : List UInt8)) = false := beq_eq_false_iff_ne.mpr c11
                     have c11b1 : (a0.toList != ([110, 111, 116, 105, 110] : List UInt8)) = true := bne_iff_ne.mpr c11
                     by_cases c12 : a0.toList = ([40] : List UInt8)
                     · rw [if_pos c12] at H
                       have c12b0 : (a0.toList == ([40] : List UInt8)) = true := beq_iff_eq.mpr c12
                       have c12b1 : (a0.toList != ([40] : List UInt8)) = false := bne_eq_false_iff_eq.mpr c12
                       clear c12
                       simp only [Option.some.injEq, Prod.mk.injEq] at H
                       obtain ⟨rfl, rfl⟩ := H
                       go_enter Tryz.func187, Tryz.ntmps187
                       go_wp2
                       go_ret2
                       exact ⟨by first | rfl | (simp; done) | (simp [*]; done), by repeat (first | exact Drawn0.refl _ | apply Drawn0.step)⟩
                     · rw [if_neg c12] at H
                       have c12b0 : (a0.toList == ([40] : List UInt8)) = false := beq_eq_false_iff_ne.mpr c12
                       have c12b1 : (a0.toList != ([40] : List UInt8)) = true := bne_iff_ne.mpr c12
                       simp only [Option.some.injEq, Prod.mk.injEq] at H
                       obtain ⟨rfl, rfl⟩ := H
                       go_enter Tryz.func187, Tryz.ntmps187
                       go_wp2
                       go_ret2
                       exact ⟨by first | rfl | (simp; done) | (simp [*]; done), by repeat (first | exact Drawn0.refl _ | apply Drawn0.step)⟩
def validation_zzSplit.l0 : Nat → ByteArray → ByteArray → List ByteArray → Int → Option (List ByteArray)
 | 0, _, _, _, _ => none
 | k + 1, x0, x1, x5, x6 => if (wrap64 (x6 + (x1.size : Int))) ≤ (x0.size : Int) then (if 0 ≤ x6 then (if x6 ≤ (wrap64 (x6 + (x1.size : Int))) then (if (x0.extract (x6 : Int).toNat ((wrap64 (x6 + (x1.size : Int))) : Int).toNat).toList = x1.toList then (if x6 ≤ (x0.size : Int) then (if x5.length < 8796093022208 then (if 0 ≤ (wrap64 (x6 + (x1.size : Int))) then (validation_zzSplit.l0 k (x0.extract ((wrap64 (x6 + (x1.size : Int))) : Int).toNat x0.size) x1 (x5 ++ [x0.extract 0 (x6 : Int).toNat]) 0) else (none)) else (none)) else (none)) else (validation_zzSplit.l0 k x0 x1 x5 (wrap64 (x6 + 1)))) else (none)) else (none)) else (if x5.length < 8796093022208 then (some (x5 ++ [x0])) else (none))
def validation_zzSplit.f (k : Nat) (a0 : ByteArray) (a1 : ByteArray) : Option (List ByteArray) := validation_zzSplit.l0 k a0 a1 ([] : List ByteArray) 0
set_option maxHeartbeats 8000000 in
set_option maxRecDepth 100000 in
theorem validation_zzSplit.calls (k : Nat) (a0 : ByteArray) (a1 : ByteArray) (r : List ByteArray) (w : World) (h : validation_zzSplit.f k a0 a1 = some r) :
   Calls Tryz.prog 126 #[.string a0, .string a1] w fun e w' => ∃ v0_ : Value, e = .returned (v0_) ∧ Kd.R Kd.string 9 w' w.heap.size (fun _ => True) v0_ r ∧ Below w.heap.size w w' := by
 have HB := Aside0.mk (Below.refl w.heap.size w)
 have H : (validation_zzSplit.l0 k a0 a1 ([] : List ByteArray) 0) = some r := h
 clear h
 have H' := Aside0.mk H
 clear H
 go_enter Tryz.func126, Tryz.ntmps126
 go_wp2
 go_loopg [0, 5, 6] k (fun kq v0 v5 v6 w' => ∃ (x0_1 : ByteArray) (x5_1 : List ByteArray) (x6_1 : Int), v0 = .string x0_1 ∧ v6 = .int .i64 x6_1 ∧ Aside0 (validation_zzSplit.l0 kq x0_1 a1 x5_1 x6_1 = some r) ∧ Aside0 (kq ≤ k) ∧ Aside0 (Kd.R Kd.string 9 w' w.heap.size (fun _ => True) v5 x5_1) ∧ Aside0 (Below w.heap.size w w'))
 case atStart => exact ⟨(a0), (([] : List ByteArray)), (0), (by first | rfl | (simp; done) | (simp [*]; done)), (by first | rfl | (simp; done) | (simp [*]; done)), H', ⟨Nat.le_refl _⟩, ⟨by first | exact Kd.R_nil _ _ _ _ _ | exact Kd.N_nil _ _ _ _ _ | exact Kd.V_nil _ _ _ _ _ | exact Kd.Q_nil _ _ _ _ _ | exact Kd.S_nil _ _ _ _ _⟩, ⟨by repeat (first | (with_reducible first | exact HB.out | apply below_alloc | apply pw_below_drewN | apply below_drew1) | exact HB.out)⟩⟩
 case round =>
  clear H'
  try clear c1
  try clear p2
  obtain ⟨x0_1, x5_1, x6_1, rfl, rfl, HA, HK1, HO_5, HB⟩ := hrel
  cases gk with
  | zero => exact absurd HA.out (by simp [validation_zzSplit.l0])
  | succ k1 =>
    have H := HA.out
    clear HA
    simp only [validation_zzSplit.l0] at H
    by_cases c3 : (wrap64 (x6_1 + (a1.size : Int))) ≤ (x0_1.size : Int)
    · rw [if_pos c3] at H
      have c3b0 : decide ((wrap64 (x6_1 + (a1.size : Int))) ≤ (x0_1.size : Int)) = true := decide_eq_true c3
      clear c3
      by_cases c4 : 0 ≤ x6_1
      · rw [if_pos c4] at H
        have c4b0 := eq_true c4
        have c4b1 : decide (0 ≤ x6_1) = true := decide_eq_true c4
        clear c4
        by_cases c5 : x6_1 ≤ (wrap64 (x6_1 + (a1.size : Int)))
        · rw [if_pos c5] at H
          have c5b0 := eq_true c5
          have c5b1 : decide (x6_1 ≤ (wrap64 (x6_1 + (a1.size : Int)))) = true := decide_eq_true c5
          have c6b0 := eq_true (of_decide_eq_true (by first | (with_reducible assumption) | assumption) : (wrap64 (x6_1 + (a1.size : Int))) ≤ (x0_1.size : Int))
          by_cases c7 : (x0_1.extract (x6_1 : Int).toNat ((wrap64 (x6_1 + (a1.size : Int))) : Int).toNat).toList = a1.toList
          · rw [if_pos c7] at H
            have c7b0 : ((x0_1.extract (x6_1 : Int).toNat ((wrap64 (x6_1 + (a1.size : Int))) : Int).toNat).toList == a1.toList) = true := beq_iff_eq.mpr c7
            have c7b1 : ((x0_1.extract (x6_1 : Int).toNat ((wrap64 (x6_1 + (a1.size : Int))) : Int).toNat).toList != a1.toList) = false := bne_eq_false_iff_eq.mpr c7
            clear c7
            have c8b0 := eq_true (of_decide_eq_true (by first | (with_reducible assumption) | assumption) : 0 ≤ x6_1)
            by_cases c9 : x6_1 ≤ (x0_1.size : Int)
            · rw [if_pos c9] at H
              have c9b0 := eq_true c9
              have c9b1 : decide (x6_1 ≤ (x0_1.size : Int)) = true := decide_eq_true c9
              clear c9
              by_cases c10 : x5_1.length < 8796093022208
              · rw [if_pos c10] at H
                have LMc10 := Aside0.mk c10
                clear c10
                obtain ⟨y149, hy149⟩ : ∃ y_ : List ByteArray, y_ = (x5_1 ++ [x0_1.extract 0 (x6_1 : Int).toNat]) := ⟨_, rfl⟩
                replace H : (if 0 ≤ (wrap64 (x6_1 + (a1.size : Int))) then (validation_zzSplit.l0 k1 (x0_1.extract ((wrap64 (x6_1 + (a1.size : Int))) : Int).toNat x0_1.size) a1 y149 0) else (none)) = some r := by first | (rw [hy149]; with_reducible exact H) | (have H2_ := (Option.bind_some _ _).symm.trans H; rw [hy149]; with_reducible exact H2_) | (have H2_ := (Option.bind_some _ _).symm.trans H; with_reducible exact H2_) | with_reducible exact H | (rw [hy149]; exact H) | exact H
                have Ny149 := Aside0.mk hy149
                clear hy149
                obtain ⟨ji11, hji11⟩ : ∃ j_ : Int, (wrap64 (x6_1 + (a1.size : Int))) = j_ := ⟨_, rfl⟩
                replace H : (if 0 ≤ (ji11) then (validation_zzSplit.l0 k1 (x0_1.extract ((ji11) : Int).toNat x0_1.size) a1 y149 0) else (none)) = some r := by first | (rw [hji11] at H; exact H) | (simp only [hji11] at H ⊢; exact H)
                (try rw [hji11] at c3b0)
                (try rw [hji11] at c5b0)
                (try rw [hji11] at c5b1)
                (try rw [hji11] at c5)
                (try rw [hji11] at c7b0)
                (try rw [hji11] at c7b1)
                have hji11w : (IntKind.i64.wrap (x6_1 + (a1.size : Int))) = ji11 := (i64_w _).trans hji11
                by_cases c12 : 0 ≤ (ji11)
                · rw [if_pos c12] at H
                  have c12b0 := eq_true c12
                  have c12b1 : decide (0 ≤ (ji11)) = true := decide_eq_true c12
                  clear c12
                  have c13b0 := eq_true (of_decide_eq_true (by first | (with_reducible assumption) | assumption) : (ji11) ≤ (x0_1.size : Int))
                  have H' := Aside0.mk H
                  clear H
                  go_wp2_with (first | ((with_reducible refine gate_builtin (b := .append) (xs := #[.tmp 23, .tmp 27]) rfl ?_); at_builtin; refine Kd.R_append Kd.string (w0 := w) w.heap.size rfl (.tmp 23) (.tmp 27) 51 9 (.string ⟨#[]⟩) 16 rfl Tryz.underlying51 info9 rfl (by decide) (by omega) u5 x5_1 (x0_1.extract 0 (x6_1 : Int).toNat) [.string (x0_1.extract 0 (x6_1 : Int).toNat)] (fun _ => True) (fun _ => False) rfl rfl ?aP (fun _ hk => hk.elim) ?aF ?aO ?aB ?aS ?aL ?_; (case aP => exact rfl); (case aB => exact (by repeat (first | (with_reducible first | exact HB.out | apply below_alloc | apply pw_below_drewN | apply below_drew1) | exact HB.out))); (case aF => exact (fun _ _ => trivial)); (case aO => exact (by (with_reducible repeat (first | apply Kd.R_alloc | apply Kd.R_drewN | apply Kd.R_drew)); exact HO_5.out)); (case aS => exact (below_size (by repeat (first | (with_reducible first | exact HB.out | apply below_alloc | apply pw_below_drewN | apply below_drew1) | exact HB.out)))); (case aL => have := LMc10.out; omega); intro v150 w14 ho hb hg hat; rw [← Ny149.out] at ho; have n0_ := Aside0.mk (hb); have n1_ := Aside0.mk (ho); clear HB; clear HO_5; have HB := n0_; have HO151 := n1_; clear n0_ n1_; clear ho hb hg hat))
                  go_roundg k1
                  case measure => have := HK1.out; omega
                  case rel => exact ⟨(x0_1.extract ((ji11) : Int).toNat x0_1.size), (y149), (0), (by first | rfl | (simp; done) | (simp only [← hji11] <;> (first | rfl | simp)) | (simp [*]; done)), (by first | rfl | (simp; done) | (simp [*]; done)), H', ⟨by have := HK1.out; omega⟩, ⟨by (with_reducible repeat (first | apply Kd.R_alloc | apply Kd.R_drewN | apply Kd.R_drew)); exact HO151.out⟩, ⟨by repeat (first | (with_reducible first | exact HB.out | apply below_alloc | apply pw_below_drewN | apply below_drew1) | exact HB.out)⟩⟩
                · rw [if_neg c12] at H
                  exact absurd H (by simp)
              · rw [if_neg c10] at H
                exact absurd H (by simp)
            · rw [if_neg c9] at H
              exact absurd H (by simp)
          · rw [if_neg c7] at H
            have c7b0 : ((x0_1.extract (x6_1 : Int).toNat ((wrap64 (x6_1 + (a1.size : Int))) : Int).toNat).toList == a1.toList) = false := beq_eq_false_iff_ne.mpr c7
            have c7b1 : ((x0_1.extract (x6_1 : Int).toNat ((wrap64 (x6_1 + (a1.size : Int))) : Int).toNat).toList != a1.toList) = true := bne_iff_ne.mpr c7
            have H' := Aside0.mk H
            clear H
            go_wp2
            go_roundg k1
            case measure => have := HK1.out; omega
            case rel => exact ⟨(x0_1), (x5_1), (wrap64 (x6_1 + 1)), (by first | rfl | (simp; done) | (simp [*]; done)), (by first | rfl | (simp; done) | (simp [*]; done)), H', ⟨by have := HK1.out; omega⟩, ⟨by (with_reducible repeat (first | apply Kd.R_alloc | apply Kd.R_drewN | apply Kd.R_drew)); exact HO_5.out⟩, ⟨by repeat (first | (with_reducible first | exact HB.out | apply below_alloc | apply pw_below_drewN | apply below_drew1) | exact HB.out)⟩⟩
        · rw [if_neg c5] at H
          exact absurd H (by simp)
      · rw [if_neg c4] at H
        exact absurd H (by simp)
    · rw [if_neg c3] at H
      have c3b0 : decide ((wrap64 (x6_1 + (a1.size : Int))) ≤ (x0_1.size : Int)) = false := decide_eq_false c3
      clear c3
      by_cases c15 : x5_1.length < 8796093022208
      · rw [if_pos c15] at H
        have LMc15 := Aside0.mk c15
        clear c15
        obtain ⟨y152, hy152⟩ : ∃ y_ : List ByteArray, y_ = (x5_1 ++ [x0_1]) := ⟨_, rfl⟩
        replace H : (some y152) = some r := by first | (rw [hy152]; with_reducible exact H) | (have H2_ := (Option.bind_some _ _).symm.trans H; rw [hy152]; with_reducible exact H2_) | (have H2_ := (Option.bind_some _ _).symm.trans H; with_reducible exact H2_) | with_reducible exact H | (rw [hy152]; exact H) | exact H
        have Ny152 := Aside0.mk hy152
        clear hy152
        obtain rfl := Option.some.inj H
        go_wp2_with (first | ((with_reducible refine gate_builtin (b := .append) (xs := #[.tmp 37, .tmp 39]) rfl ?_); at_builtin; refine Kd.R_append Kd.string (w0 := w) w.heap.size rfl (.tmp 37) (.tmp 39) 51 9 (.string ⟨#[]⟩) 16 rfl Tryz.underlying51 info9 rfl (by decide) (by omega) u5 x5_1 x0_1 [.string x0_1] (fun _ => True) (fun _ => False) rfl rfl ?aP (fun _ hk => hk.elim) ?aF ?aO ?aB ?aS ?aL ?_; (case aP => exact rfl); (case aB => exact (by repeat (first | (with_reducible first | exact HB.out | apply below_alloc | apply pw_below_drewN | apply below_drew1) | exact HB.out))); (case aF => exact (fun _ _ => trivial)); (case aO => exact (by (with_reducible repeat (first | apply Kd.R_alloc | apply Kd.R_drewN | apply Kd.R_drew)); exact HO_5.out)); (case aS => exact (below_size (by repeat (first | (with_reducible first | exact HB.out | apply below_alloc | apply pw_below_drewN | apply below_drew1) | exact HB.out)))); (case aL => have := LMc15.out; omega); intro v153 w16 ho hb hg hat; rw [← Ny152.out] at ho; have n0_ := Aside0.mk (hb); have n1_ := Aside0.mk (ho); clear HB; clear HO_5; have HB := n0_; have HO154 := n1_; clear n0_ n1_; clear ho hb hg hat))
        go_ret
        exact ⟨_, by first | rfl | (simp [errW_none, errW_some] <;> rfl) | (simp [*, errW_none, errW_some] <;> rfl), by (with_reducible repeat (first | apply Kd.R_alloc | apply Kd.R_drewN | apply Kd.R_drew)); exact HO154.out, by repeat (first | (with_reducible first | exact HB.out | apply below_alloc | apply pw_below_drewN | apply below_drew1) | exact HB.out)⟩
      · rw [if_neg c15] at H
        exact absurd H (by simp)
def validation_EmptyError.f  : Option (ByteArray) := some (⟨#[109, 117, 115, 116, 32, 98, 101, 32, 110, 111, 110, 45, 101, 109, 112, 116, 121]⟩ : ByteArray)
set_option maxHeartbeats 8000000 in
set_option maxRecDepth 100000 in
theorem validation_EmptyError.calls  (r : ByteArray) (w : World) (h : validation_EmptyError.f  = some r) :
   Calls Tryz.prog 127 #[] w fun e w' => e = .returned (.string r) ∧ Drawn0 w w' := by
 have H : (some (⟨#[109, 117, 115, 116, 32, 98, 101, 32, 110, 111, 110, 45, 101, 109, 112, 116, 121]⟩ : ByteArray)) = some r := h
 clear h
 obtain rfl := Option.some.inj H
 go_enter Tryz.func127, Tryz.ntmps127
 go_wp2
 go_ret
 exact ⟨by first | rfl | (simp; done) | (simp [*]; done), by repeat (first | exact Drawn0.refl _ | apply Drawn0.step)⟩
def validation_zzIn.l0 : Nat → Int → ByteArray → Int → Option (Bool)
 | 0, _, _, _ => none
 | k + 1, x0, x1, x5 => if x5 < (x1.size : Int) then (if 0 ≤ x5 then (if (bt x1 x5) = x0 then (some true) else (validation_zzIn.l0 k x0 x1 (wrap64 (x5 + 1)))) else (none)) else (some false)
def validation_zzIn.f (k : Nat) (a0 : Int) (a1 : ByteArray) : Option (Bool) := validation_zzIn.l0 k a0 a1 0
def validation_zzLower.f (a0 : Int) : Option (Bool) := if a0 ≥ 97 then (if a0 ≤ 122 then (some true) else (if a0 ≥ 48 then (some (decide (a0 ≤ 57))) else (some false))) else (if a0 ≥ 48 then (some (decide (a0 ≤ 57))) else (some false))
def validation_zzWord.f (a0 : Int) : Option (Bool) := (validation_zzLower.f a0).bind fun t163 => (if t163 = true then (some true) else (if a0 ≥ 65 then (some (decide (a0 ≤ 90))) else (some false)))
def validation_prefixEach.l0 : Nat → List ByteArray → ByteArray → Int → Int → Option (List ByteArray)
 | 0, _, _, _, _ => none
 | k + 1, x0, x1, x7, x8 => if x8 < x7 then (if 0 ≤ x8 then (if x8 < (x0.length : Int) then (if x1.size + (rdOf ByteArray.empty x0 x8).size ≤ 9223372036854775807 then (validation_prefixEach.l0 k (x0.set (x8 : Int).toNat (x1 ++ (rdOf ByteArray.empty x0 x8))) x1 x7 (wrap64 (x8 + 1))) else (none)) else (none)) else (none)) else (some x0)
def validation_prefixEach.f (k : Nat) (l0 : List ByteArray) (a1 : ByteArray) : Option (List ByteArray) := validation_prefixEach.l0 k l0 a1 (l0.length : Int) 0
set_option maxHeartbeats 8000000 in
set_option maxRecDepth 100000 in
theorem validation_prefixEach.calls (k : Nat) (P0_ : Nat → Prop) (u9000_ : Value) (l0 : List ByteArray) (a1 : ByteArray) (r : List ByteArray) (w0 w : World) (hB : Below w0.heap.size w0 w) (ho0 : Kd.R Kd.string 9 w w0.heap.size P0_ u9000_ l0) (h : validation_prefixEach.f k l0 a1 = some r) :
   Calls Tryz.prog 129 #[u9000_, .string a1] w fun e w' => ∃ v0_ : Value, e = .returned (v0_) ∧ Kd.R Kd.string 9 w' w0.heap.size (fun k_ => (P0_ k_ ∨ w.heap.size ≤ k_)) v0_ r ∧ Below w0.heap.size w0 w' ∧ Kept w w' (fun k_ => P0_ k_) := by
 have HO0 := Aside0.mk (show Kd.R Kd.string 9 w w0.heap.size (fun k_ => (P0_ k_ ∨ w.heap.size ≤ k_)) u9000_ l0 from Kd.R_mono ho0 (fun k_ hk => (.inl hk)))
 have HK := Aside0.mk (Kept.refl w (fun k_ => P0_ k_))
 have HW0 := Aside0.mk hB.size
 have HB := Aside0.mk hB
 clear hB
 have H : (validation_prefixEach.l0 k l0 a1 (l0.length : Int) 0) = some r := h
 clear h
 have H' := Aside0.mk H
 clear H
 obtain ⟨Ao3, co3, eo3⟩ := Kd.R_slice HO0.out
 subst eo3
 go_enter Tryz.func129, Tryz.ntmps129
 go_wp2
 go_loopg [8] k (fun kq v8 w' => ∃ (x0_1 : List ByteArray) (x8_1 : Int), v8 = .int .i64 x8_1 ∧ Aside0 (validation_prefixEach.l0 kq x0_1 a1 (l0.length : Int) x8_1 = some r) ∧ Aside0 (kq ≤ k) ∧ Aside0 (Kd.R Kd.string 9 w' w0.heap.size (fun k_ => (P0_ k_ ∨ w.heap.size ≤ k_)) (.slice Ao3 l0.length co3) x0_1) ∧ Aside0 (Kept w w' (fun k_ => P0_ k_)) ∧ Aside0 (Below w0.heap.size w0 w'))
 case atStart => exact ⟨(l0), (0), (by first | rfl | (simp; done) | (simp [*]; done)), H', ⟨Nat.le_refl _⟩, ⟨by (with_reducible repeat (first | apply Kd.R_alloc | apply Kd.R_drewN | apply Kd.R_drew)); exact HO0.out⟩, ⟨by repeat (first | (with_reducible first | exact HK.out | apply Kept.alloc | apply Kept.drewN | apply Kept.drew) | exact HK.out)⟩, ⟨by repeat (first | (with_reducible first | exact HB.out | apply below_alloc | apply pw_below_drewN | apply below_drew1) | exact HB.out)⟩⟩
 case round =>
  clear H'
  try clear c1
  try clear p2
  obtain ⟨x0_1, x8_1, rfl, HA, HK1, HO_0, HK, HB⟩ := hrel
  have hl0_1 := (Kd.R_reads' HO_0.out).1
  rw [hl0_1] at HO_0
  (try simp only [hl0_1])
  cases gk with
  | zero => exact absurd HA.out (by simp [validation_prefixEach.l0])
  | succ k1 =>
    have H := HA.out
    clear HA
    simp only [validation_prefixEach.l0] at H
    by_cases c4 : x8_1 < (l0.length : Int)
    · rw [if_pos c4] at H
      have c4b0 : decide (x8_1 < (l0.length : Int)) = true := decide_eq_true c4
      clear c4
      by_cases c5 : 0 ≤ x8_1
      · rw [if_pos c5] at H
        have c5b0 : decide (0 ≤ x8_1) = true := decide_eq_true c5
        clear c5
        by_cases c6 : x8_1 < (x0_1.length : Int)
        · rw [if_pos c6] at H
          have c6b0 : decide (x8_1 < (x0_1.length : Int)) = true := decide_eq_true c6
          clear c6
          by_cases c7 : a1.size + (rdOf ByteArray.empty x0_1 x8_1).size ≤ 9223372036854775807
          · rw [if_pos c7] at H
            have c7b0 := eq_true c7
            have c7b1 : decide (a1.size + (rdOf ByteArray.empty x0_1 x8_1).size ≤ 9223372036854775807) = true := decide_eq_true c7
            try have c7b2 : (9223372036854775807 < a1.size + (rdOf ByteArray.empty x0_1 x8_1).size) = False := eq_false (Nat.not_lt.2 c7)
            obtain ⟨y162, hy162⟩ : ∃ y_ : List ByteArray, y_ = (x0_1.set (x8_1 : Int).toNat (a1 ++ (rdOf ByteArray.empty x0_1 x8_1))) := ⟨_, rfl⟩
            replace H : (validation_prefixEach.l0 k1 y162 a1 (l0.length : Int) (wrap64 (x8_1 + 1))) = some r := by first | (rw [hy162]; with_reducible exact H) | (have H2_ := (Option.bind_some _ _).symm.trans H; rw [hy162]; with_reducible exact H2_) | (have H2_ := (Option.bind_some _ _).symm.trans H; with_reducible exact H2_) | with_reducible exact H | (rw [hy162]; exact H) | exact H
            have Ny162 := Aside0.mk hy162
            clear hy162
            have H' := Aside0.mk H
            clear H
            have p161 : 0 ≤ (x8_1 : Int) := of_decide_eq_true (by first | (with_reducible assumption) | assumption)
            have q161 : x8_1 < (x0_1.length : Int) := of_decide_eq_true (by first | (with_reducible assumption) | assumption)
            obtain ⟨ad161, e161, hx161_0⟩ := Kd.at_string (Kd.R_reads' HO_0.out).2.2 x8_1 p161 q161
            cases e161
            replace p161 := eq_true p161
            replace q161 := eq_true q161
            have p8 : 0 ≤ (x8_1 : Int) := of_decide_eq_true (by first | (with_reducible assumption) | assumption)
            have q8 : (x8_1 : Int) < ((x0_1.length : Int) : Int) := of_decide_eq_true (by first | (with_reducible assumption) | assumption)
            obtain ⟨go8, co8, eo8, gb8, gl8, cl8, HG8⟩ := Kd.R_form HO_0.out (by omega)
            (first | cases eo8 | (injection eo8 with ea_ en_ ec_; (first | subst ea_ | (injection ea_ with ea_; subst ea_)); subst ec_; clear en_))
            have GB8 := Aside0.mk gb8
            have GG8 := Aside0.mk HG8
            clear gb8 gl8 HG8
            have HMgo8 := Aside0.mk (show (P0_ go8 ∨ w.heap.size ≤ go8) from (HO_0.out.1 _ rfl))
            (first | simp only [add_plain] at hx161_0 | skip)
            obtain ⟨hx8_0, hf8_0⟩ := Kd.R_celln (⟨#[]⟩ : ByteArray) HO_0.out (x8_1 : Int) p8 q8
            replace p8 := eq_true p8
            replace q8 := eq_true q8
            have HP9 := Kd.R_putg HO_0.out (x8_1 : Int) (a1 ++ (rdOf ByteArray.empty x0_1 x8_1))
            go_wp2_with (first | ((with_reducible refine gate_store (t := 9) (p := 19) rfl ?_); refine store_event (t := 9) (p := 19) (v := ?vo_w10) (w1 := (wr.setCell ⟨go8, (x8_1 : Int).toNat, none⟩ (.string (a1 ++ (rdOf ByteArray.empty x0_1 x8_1))))) ?hg ?ho ?hn ?hr ?_; (case ho => rfl); (case hg => rfl); (case hn => rfl); (case hr => first | (go_simp; done) | (go_simp; rfl)); intro w10 hw; have hg : wr.grownBy w10 (some go8) := (by rw [hw]; exact HP9.2); have hp_ : Kd.R Kd.string 9 w10 w0.heap.size (fun k_ => (P0_ k_ ∨ w.heap.size ≤ k_)) (.slice (some ⟨go8, 0, none⟩) x0_1.length co3) y162 := (by rw [hw, Ny162.out]; exact HP9.1); clear HP9; have n0_ := Aside0.mk (hp_); have n1_ := Aside0.mk ((by rw [hw]; exact below_set (HB.out) GB8.out : Below w0.heap.size w0 w10)); have n2_ := Aside0.mk (Kept.of_grown (S := (fun k_ => P0_ k_)) hg (by repeat (first | (with_reducible first | exact HK.out | apply Kept.alloc | apply Kept.drewN | apply Kept.drew) | exact HK.out)) (fun k_ e_ => (HO_0.out.1 k_ e_))); clear HO_0; clear HB; clear HK; have HO_0 := n0_; have HB := n1_; have HK := n2_; clear n0_ n1_ n2_; clear hg hw hp_))
            (try simp only [← hl0_1])
            go_roundg k1
            case measure => have := HK1.out; omega
            case rel => exact ⟨(y162), (wrap64 (x8_1 + 1)), (by first | rfl | (simp; done) | (simp [*]; done)), H', ⟨by have := HK1.out; omega⟩, ⟨by (try simp only [hl0_1]); (with_reducible repeat (first | apply Kd.R_alloc | apply Kd.R_drewN | apply Kd.R_drew)); exact HO_0.out⟩, ⟨by repeat (first | (with_reducible first | exact HK.out | apply Kept.alloc | apply Kept.drewN | apply Kept.drew) | exact HK.out)⟩, ⟨by repeat (first | (with_reducible first | exact HB.out | apply below_alloc | apply pw_below_drewN | apply below_drew1) | exact HB.out)⟩⟩
          · rw [if_neg c7] at H
            exact absurd H (by simp)
        · rw [if_neg c6] at H
          exact absurd H (by simp)
      · rw [if_neg c5] at H
        exact absurd H (by simp)
    · rw [if_neg c4] at H
      have c4b0 : decide (x8_1 < (l0.length : Int)) = false := decide_eq_false c4
      clear c4
      rw [hl0_1] at c4b0
      obtain rfl := Option.some.inj H
      go_wp2
      go_ret
      exact ⟨_, by first | rfl | (simp [errW_none, errW_some] <;> rfl) | (simp [*, errW_none, errW_some] <;> rfl), by (with_reducible repeat (first | apply Kd.R_alloc | apply Kd.R_drewN | apply Kd.R_drew)); exact HO_0.out, by repeat (first | (with_reducible first | exact HB.out | apply below_alloc | apply pw_below_drewN | apply below_drew1) | exact HB.out), by repeat (first | (with_reducible first | exact HK.out | apply Kept.alloc | apply Kept.drewN | apply Kept.drew) | exact HK.out)⟩
def IsS151 (w0 W : World) (g : Nat) (f0 : ByteArray) (f1 : Int) : Prop := W.heap[g]? = some (.cells #[.string f0, .int .i64 f1] 151 (0, 0)) ∧ w0.heap.size ≤ g
theorem IsS151.grown {w0 W : World} {g : Nat} {f0 : ByteArray} {f1 : Int} {W1 : World} {row : Option Nat} (h : IsS151 w0 W g f0 f1) (hw : W.grownBy W1 row) (hne : some g ≠ row) : IsS151 w0 W1 g f0 f1 := by
 obtain ⟨hb, hg⟩ := h
 exact ⟨blk_grown hb hw hne, hg⟩
theorem IsS151.below {w0 W : World} {g : Nat} {f0 : ByteArray} {f1 : Int} {W1 : World} (h : IsS151 w0 W g f0 f1) (hw : Below W.heap.size W W1) : IsS151 w0 W1 g f0 f1 := h.grown (grown_of_below hw none) (by simp)
theorem IsS151.alloc {w0 W : World} {g : Nat} {f0 : ByteArray} {f1 : Int} (h : IsS151 w0 W g f0 f1) (o : Obj) : IsS151 w0 (W.alloc o) g f0 f1 := h.below (below_alloc (Below.refl _ _) o)
theorem IsS151.drewN {w0 W : World} {g : Nat} {f0 : ByteArray} {f1 : Int} (h : IsS151 w0 W g f0 f1) (m : Nat) : IsS151 w0 (W.drewN m) g f0 f1 := h
theorem IsS151.lt {w0 W : World} {g : Nat} {f0 : ByteArray} {f1 : Int} (h : IsS151 w0 W g f0 f1) : g < W.heap.size := by
 obtain ⟨hb, hg⟩ := h
 exact blk_lt hb
theorem IsS151.ge {w0 W : World} {g : Nat} {f0 : ByteArray} {f1 : Int} (h : IsS151 w0 W g f0 f1) : w0.heap.size ≤ g := by
 obtain ⟨hb, hg⟩ := h
 exact hg
theorem IsS151.far {w0 W : World} {g : Nat} {f0 : ByteArray} {f1 : Int} {p : Addr} (h : IsS151 w0 W g f0 f1) (hne : g ≠ p.block) (u : Value) : IsS151 w0 (W.setCell p u) g f0 f1 := by
 obtain ⟨hb, hg⟩ := h
 exact ⟨blk_far hb hne u, hg⟩
theorem cellS151_0 {W : World} {g : Nat} {f0 : ByteArray} {f1 : Int} (h : W.heap[g]? = some (.cells #[.string f0, .int .i64 f1] 151 (0, 0))) : W.cell? ⟨g, 0, none⟩ = some (.string f0) := (blk_cell h 0).trans rfl
theorem cellS151_1 {W : World} {g : Nat} {f0 : ByteArray} {f1 : Int} (h : W.heap[g]? = some (.cells #[.string f0, .int .i64 f1] 151 (0, 0))) : W.cell? ⟨g, 1, none⟩ = some (.int .i64 f1) := (blk_cell h 1).trans rfl
theorem IsS151.set_1 {w0 W : World} {g : Nat} {f0 : ByteArray} {f1 : Int} (h : IsS151 w0 W g f0 f1) (x : Int) : IsS151 w0 (W.setCell ⟨g, 1, none⟩ (.int .i64 x)) g f0 x := by
 obtain ⟨hb, hg⟩ := h
 exact ⟨by simpa using blk_set hb 1 (.int .i64 x), hg⟩
theorem IsS151.new (w0 W : World) (f0 : ByteArray) (f1 : Int) (hB : Below w0.heap.size w0 W) : IsS151 w0 (W.alloc (.cells #[.string f0, .int .i64 f1] 151)) W.heap.size f0 f1 := ⟨by simpa using heap_alloc_new W _, hB.size⟩
def labels_Lexer_read.f (s0_0 : ByteArray) (s0_1 : Int) : Option (Int × ByteArray × Int) := if s0_1 < (s0_0.size : Int) then (if 0 ≤ s0_1 then (some (bt s0_0 s0_1, s0_0, wrap64 (s0_1 + 1))) else (none)) else (some (0, s0_0, s0_1))
set_option maxHeartbeats 8000000 in
set_option maxRecDepth 100000 in
theorem labels_Lexer_read.calls (g : Nat) (s0_0 : ByteArray) (s0_1 : Int) (r1 : Int) (r2 : ByteArray) (r3 : Int) (w0 w : World) (hI : IsS151 w0 w g s0_0 s0_1) (hB : Below w0.heap.size w0 w) (h : labels_Lexer_read.f s0_0 s0_1 = some (r1, r2, r3)) :
   Calls Tryz.prog 168 #[.pointer (some ⟨g, 0, none⟩)] w fun e w' => e = .returned (.int .u8 r1) ∧ IsS151 w0 w' g r2 r3 ∧ Below w0.heap.size w0 w' ∧ KeepBut w w' g none := by
 have HI0 := Aside0.mk hI
 have HK := Aside0.mk (KeepBut.refl w g none)
 have HL := Aside0.mk hB.size
 clear hI
 have HW0 := Aside0.mk hB.size
 have HB := Aside0.mk hB
 clear hB
 have H : (if s0_1 < (s0_0.size : Int) then (if 0 ≤ s0_1 then (some (bt s0_0 s0_1, s0_0, wrap64 (s0_1 + 1))) else (none)) else (some (0, s0_0, s0_1))) = some (r1, r2, r3) := h
 clear h
 by_cases c2 : s0_1 < (s0_0.size : Int)
 · rw [if_pos c2] at H
   have c2b0 : decide (s0_1 < (s0_0.size : Int)) = true := decide_eq_true c2
   clear c2
   by_cases c3 : 0 ≤ s0_1
   · rw [if_pos c3] at H
     have c3b0 : decide (0 ≤ s0_1) = true := decide_eq_true c3
     clear c3
     simp only [Option.some.injEq, Prod.mk.injEq] at H
     obtain ⟨rfl, rfl, rfl⟩ := H
     obtain ⟨HGz5, hgz5⟩ := HI0.out
     have hcz5_0 := cellS151_0 HGz5
     have hcz5_1 := cellS151_1 HGz5
     have hfz5_0 := blk_frozen HGz5 0
     have hfz5_1 := blk_frozen HGz5 1
     clear HGz5 hgz5
     have p4 : 0 ≤ (s0_1 : Int) := of_decide_eq_true (by first | (with_reducible assumption) | assumption)
     have q4 : s0_1 < (s0_0.size : Int) := of_decide_eq_true (by first | (with_reducible assumption) | assumption)
     have hx4 := bt_at s0_0 s0_1
     replace p4 := eq_true p4
     replace q4 := eq_true q4
     go_enter Tryz.func168, Tryz.ntmps168
     go_wp2
     repeat (go_quiet (fail); try go_wp2)
     go_ret
     exact ⟨by first | rfl | (simp [errW_none, errW_some] <;> rfl) | (simp [*, errW_none, errW_some] <;> rfl), by repeat (first | (with_reducible first | exact HI0.out | apply IsS151.alloc | apply IsS151.drewN | apply IsS151.drew | apply IsS151.set_0 | apply IsS151.set_1) | exact HI0.out), by repeat (first | (with_reducible first | exact HB.out | apply below_alloc | apply pw_below_drewN | apply below_drew1 | refine below_set ?_ (IsS151.ge HI0.out)) | exact HB.out), by repeat (first | (with_reducible first | exact HK.out | apply KeepBut.set_ | apply keep_drewN | apply keep_drew | apply keep_alloc) | exact HK.out)⟩
   · rw [if_neg c3] at H
     exact absurd H (by simp)
 · rw [if_neg c2] at H
   have c2b0 : decide (s0_1 < (s0_0.size : Int)) = false := decide_eq_false c2
   clear c2
   simp only [Option.some.injEq, Prod.mk.injEq] at H
   obtain ⟨rfl, rfl, rfl⟩ := H
   obtain ⟨HGz6, hgz6⟩ := HI0.out
   have hcz6_0 := cellS151_0 HGz6
   have hcz6_1 := cellS151_1 HGz6
   have hfz6_0 := blk_frozen HGz6 0
   have hfz6_1 := blk_frozen HGz6 1
   clear HGz6 hgz6
   go_enter Tryz.func168, Tryz.ntmps168
   go_wp2
   repeat (go_quiet (fail); try go_wp2)
   go_ret
   exact ⟨by first | rfl | (simp [errW_none, errW_some] <;> rfl) | (simp [*, errW_none, errW_some] <;> rfl), by repeat (first | (with_reducible first | exact HI0.out | apply IsS151.alloc | apply IsS151.drewN | apply IsS151.drew | apply IsS151.set_0 | apply IsS151.set_1) | exact HI0.out), by repeat (first | (with_reducible first | exact HB.out | apply below_alloc | apply pw_below_drewN | apply below_drew1 | refine below_set ?_ (IsS151.ge HI0.out)) | exact HB.out), by repeat (first | (with_reducible first | exact HK.out | apply KeepBut.set_ | apply keep_drewN | apply keep_drew | apply keep_alloc) | exact HK.out)⟩
def labels_isWhitespace.f (a0 : Int) : Option (Bool) := if a0 = 32 then (some true) else (if a0 = 9 then (some true) else (if a0 = 13 then (some true) else (some (a0 == 10))))
set_option maxHeartbeats 8000000 in
set_option maxRecDepth 100000 in
theorem labels_isWhitespace.calls (a0 : Int) (r : Bool) (w : World) (h : labels_isWhitespace.f a0 = some r) :
   Calls Tryz.prog 186 #[.int .u8 a0] w fun e w' => e = .returned (.bool r) ∧ Drawn0 w w' := by
 have H : (if a0 = 32 then (some true) else (if a0 = 9 then (some true) else (if a0 = 13 then (some true) else (some (a0 == 10))))) = some r := h
 clear h
 by_cases c2 : a0 = 32
 · rw [if_pos c2] at H
   have c2b0 : (a0 == 32) = true := beq_iff_eq.mpr c2
   have c2b1 : (a0 != 32) = false := bne_eq_false_iff_eq.mpr c2
   clear c2
   obtain rfl := Option.some.inj H
   go_enter Tryz.func186, Tryz.ntmps186
   go_wp2
   go_ret
   exact ⟨by first | rfl | (simp; done) | (simp [*]; done), by repeat (first | exact Drawn0.refl _ | apply Drawn0.step)⟩
 · rw [if_neg c2] at H
   have c2b0 : (a0 == 32) = false := beq_eq_false_iff_ne.mpr c2
   have c2b1 : (a0 != 32) = true := bne_iff_ne.mpr c2
   by_cases c3 : a0 = 9
   · rw [if_pos c3] at H
     have c3b0 : (a0 == 9) = true := beq_iff_eq.mpr c3
     have c3b1 : (a0 != 9) = false := bne_eq_false_iff_eq.mpr c3
     clear c3
     obtain rfl := Option.some.inj H
     go_enter Tryz.func186, Tryz.ntmps186
     go_wp2
     go_ret
     exact ⟨by first | rfl | (simp; done) | (simp [*]; done), by repeat (first | exact Drawn0.refl _ | apply Drawn0.step)⟩
   · rw [if_neg c3] at H
     have c3b0 : (a0 == 9) = false := beq_eq_false_iff_ne.mpr c3
     have c3b1 : (a0 != 9) = true := bne_iff_ne.mpr c3
     by_cases c4 : a0 = 13
     · rw [if_pos c4] at H
       have c4b0 : (a0 == 13) = true := beq_iff_eq.mpr c4
       have c4b1 : (a0 != 13) = false := bne_eq_false_iff_eq.mpr c4
       clear c4
       obtain rfl := Option.some.inj H
       go_enter Tryz.func186, Tryz.ntmps186
       go_wp2
       go_ret
       exact ⟨by first | rfl | (simp; done) | (simp [*]; done), by repeat (first | exact Drawn0.refl _ | apply Drawn0.step)⟩
     · rw [if_neg c4] at H
       have c4b0 : (a0 == 13) = false := beq_eq_false_iff_ne.mpr c4
       have c4b1 : (a0 != 13) = true := bne_iff_ne.mpr c4
       obtain rfl := Option.some.inj H
       go_enter Tryz.func186, Tryz.ntmps186
       go_wp2
       go_ret
       exact ⟨by first | rfl | (simp; done) | (simp [*]; done), by repeat (first | exact Drawn0.refl _ | apply Drawn0.step)⟩
def labels_Lexer_skipWhiteSpaces.l0 : Nat → Int → ByteArray → Int → Option (Int × ByteArray × Int)
 | 0, _, _, _ => none
 | k + 1, x1, x1000, x1001 => (labels_isWhitespace.f x1).bind fun t102 => (if t102 = true then ((labels_Lexer_read.f x1000 x1001).bind fun bt103 => (labels_Lexer_skipWhiteSpaces.l0 k bt103.1 bt103.2.1 bt103.2.2)) else (some (x1, x1000, x1001)))
def labels_Lexer_skipWhiteSpaces.f (k : Nat) (s0_0 : ByteArray) (s0_1 : Int) (a1 : Int) : Option (Int × ByteArray × Int) := labels_Lexer_skipWhiteSpaces.l0 k a1 s0_0 s0_1
set_option maxHeartbeats 8000000 in
set_option maxRecDepth 100000 in
theorem labels_Lexer_skipWhiteSpaces.calls (k : Nat) (g : Nat) (s0_0 : ByteArray) (s0_1 : Int) (a1 : Int) (r1 : Int) (r2 : ByteArray) (r3 : Int) (w0 w : World) (hI : IsS151 w0 w g s0_0 s0_1) (hB : Below w0.heap.size w0 w) (h : labels_Lexer_skipWhiteSpaces.f k s0_0 s0_1 a1 = some (r1, r2, r3)) :
   Calls Tryz.prog 167 #[.pointer (some ⟨g, 0, none⟩), .int .u8 a1] w fun e w' => e = .returned (.int .u8 r1) ∧ IsS151 w0 w' g r2 r3 ∧ Below w0.heap.size w0 w' ∧ KeepBut w w' g none := by
 have HI0 := Aside0.mk hI
 have HK := Aside0.mk (KeepBut.refl w g none)
 have HL := Aside0.mk hB.size
 clear hI
 have HW0 := Aside0.mk hB.size
 have HB := Aside0.mk hB
 clear hB
 have H : (labels_Lexer_skipWhiteSpaces.l0 k a1 s0_0 s0_1) = some (r1, r2, r3) := h
 clear h
 have H' := Aside0.mk H
 clear H
 go_enter Tryz.func167, Tryz.ntmps167
 go_wp2
 go_loopg [1] k (fun kq v1 w' => ∃ (x1_1 : Int) (x1000_1 : ByteArray) (x1001_1 : Int), v1 = .int .u8 x1_1 ∧ Aside0 (labels_Lexer_skipWhiteSpaces.l0 kq x1_1 x1000_1 x1001_1 = some (r1, r2, r3)) ∧ Aside0 (kq ≤ k) ∧ Aside0 (IsS151 w0 w' g x1000_1 x1001_1) ∧ Aside0 (KeepBut w w' g none) ∧ Aside0 (Below w0.heap.size w0 w'))
 case atStart => exact ⟨(a1), (s0_0), (s0_1), (by first | rfl | (simp; done) | (simp [*]; done)), H', ⟨Nat.le_refl _⟩, ⟨by repeat (first | (with_reducible first | exact HI0.out | apply IsS151.alloc | apply IsS151.drewN | apply IsS151.drew | apply IsS151.set_0 | apply IsS151.set_1) | exact HI0.out)⟩, ⟨by repeat (first | (with_reducible first | exact HK.out | apply KeepBut.set_ | apply keep_drewN | apply keep_drew | apply keep_alloc) | exact HK.out)⟩, ⟨by repeat (first | (with_reducible first | exact HB.out | apply below_alloc | apply pw_below_drewN | apply below_drew1 | refine below_set ?_ (IsS151.ge HI0.out)) | exact HB.out)⟩⟩
 case round =>
  clear H'
  try clear c1
  try clear p2
  obtain ⟨x1_1, x1000_1, x1001_1, rfl, HA, HK1, HI0, HK, HB⟩ := hrel
  cases gk with
  | zero => exact absurd HA.out (by simp [labels_Lexer_skipWhiteSpaces.l0])
  | succ k1 =>
    have H := HA.out
    clear HA
    simp only [labels_Lexer_skipWhiteSpaces.l0] at H
    replace H := Option.bind_eq_some_iff.mp H
    obtain ⟨t102, A30, H⟩ := H
    replace H : (if t102 = true then ((labels_Lexer_read.f x1000_1 x1001_1).bind fun bt103 => (labels_Lexer_skipWhiteSpaces.l0 k1 bt103.1 bt103.2.1 bt103.2.2)) else (some (x1_1, x1000_1, x1001_1))) = some (r1, r2, r3) := H
    have A3 := Aside0.mk A30
    clear A30
    by_cases c4 : t102 = true
    · subst c4
      have H1 : ((labels_Lexer_read.f x1000_1 x1001_1).bind fun bt103 => (labels_Lexer_skipWhiteSpaces.l0 k1 bt103.1 bt103.2.1 bt103.2.2)) = some (r1, r2, r3) := by rw [if_pos rfl] at H; exact H
      clear H
      have H := H1
      clear H1
      replace H := Option.bind_eq_some_iff.mp H
      obtain ⟨⟨t103, t104, t105⟩, A50, H⟩ := H
      replace H : (labels_Lexer_skipWhiteSpaces.l0 k1 t103 t104 t105) = some (r1, r2, r3) := H
      have A5 := Aside0.mk A50
      clear A50
      have H' := Aside0.mk H
      clear H
      go_wp2_with (first | ((with_reducible refine gate_callee (f := 186) rfl ?_); refine goesL_ (some 6) rfl rfl Tryz.func186 (by kernel_rfl) rfl #[.int .u8 x1_1] rfl (by (try simp only [List.map_toArray, List.map_cons, List.map_nil]); first | done | rfl | (simp only [List.length_drop, List.length_take]; rfl)) ?_; (with_reducible refine (labels_isWhitespace.calls x1_1 true _ A3.out).mono ?_); rintro e w' ⟨rfl, ⟨nd, rfl⟩⟩; refine ⟨_, rfl, ?_⟩) | ((with_reducible refine gate_callee (f := 168) rfl ?_); refine goesL_ (some 10) rfl rfl Tryz.func168 (by kernel_rfl) rfl #[.pointer (some ⟨g, 0, none⟩)] rfl (by (try simp only [List.map_toArray, List.map_cons, List.map_nil]); first | done | rfl | (simp only [List.length_drop, List.length_take]; rfl)) ?_; (with_reducible refine (labels_Lexer_read.calls g x1000_1 x1001_1 t103 t104 t105 w0 _ ?side1 ?side2 A5.out).mono ?_); (case side1 => repeat (first | (with_reducible first | exact HI0.out | apply IsS151.alloc | apply IsS151.drewN | apply IsS151.drew | apply IsS151.set_0 | apply IsS151.set_1) | exact HI0.out)); (case side2 => repeat (first | (with_reducible first | exact HB.out | apply below_alloc | apply pw_below_drewN | apply below_drew1 | refine below_set ?_ (IsS151.ge HI0.out)) | exact HB.out)); rintro e w6 ⟨rfl, hi, hb, hk⟩; refine ⟨_, rfl, ?_⟩; have n0_ := Aside0.mk (KeepBut.trans (by repeat (first | (with_reducible first | exact HK.out | apply KeepBut.set_ | apply keep_drewN | apply keep_drew | apply keep_alloc) | exact HK.out)) hk (.inl rfl)); have n1_ := Aside0.mk (hb); have n2_ := Aside0.mk (hi); clear HK; clear HB; clear HI0; have HK := n0_; have HB := n1_; have HI0 := n2_; clear n0_ n1_ n2_; (try clear hb); (try clear hb2); (try clear hk); (try clear hi)))
      go_roundg k1
      case measure => have := HK1.out; omega
      case rel => exact ⟨(t103), (t104), (t105), (by first | rfl | (simp; done) | (simp [*]; done)), H', ⟨by have := HK1.out; omega⟩, ⟨by repeat (first | (with_reducible first | exact HI0.out | apply IsS151.alloc | apply IsS151.drewN | apply IsS151.drew | apply IsS151.set_0 | apply IsS151.set_1) | exact HI0.out)⟩, ⟨by repeat (first | (with_reducible first | exact HK.out | apply KeepBut.set_ | apply keep_drewN | apply keep_drew | apply keep_alloc) | exact HK.out)⟩, ⟨by repeat (first | (with_reducible first | exact HB.out | apply below_alloc | apply pw_below_drewN | apply below_drew1 | refine below_set ?_ (IsS151.ge HI0.out)) | exact HB.out)⟩⟩
    · replace c4 := Bool.eq_false_iff.mpr c4
      subst c4
      have H1 : (some (x1_1, x1000_1, x1001_1)) = some (r1, r2, r3) := by rw [if_neg (show ¬ (false = true) by decide)] at H; exact H
      clear H
      have H := H1
      clear H1
      simp only [Option.some.injEq, Prod.mk.injEq] at H
      obtain ⟨rfl, rfl, rfl⟩ := H
      go_wp2_with (first | ((with_reducible refine gate_callee (f := 186) rfl ?_); refine goesL_ (some 6) rfl rfl Tryz.func186 (by kernel_rfl) rfl #[.int .u8 x1_1] rfl (by (try simp only [List.map_toArray, List.map_cons, List.map_nil]); first | done | rfl | (simp only [List.length_drop, List.length_take]; rfl)) ?_; (with_reducible refine (labels_isWhitespace.calls x1_1 false _ A3.out).mono ?_); rintro e w' ⟨rfl, ⟨nd, rfl⟩⟩; refine ⟨_, rfl, ?_⟩))
      go_ret
      exact ⟨by first | rfl | (simp [errW_none, errW_some] <;> rfl) | (simp [*, errW_none, errW_some] <;> rfl), by repeat (first | (with_reducible first | exact HI0.out | apply IsS151.alloc | apply IsS151.drewN | apply IsS151.drew | apply IsS151.set_0 | apply IsS151.set_1) | exact HI0.out), by repeat (first | (with_reducible first | exact HB.out | apply below_alloc | apply pw_below_drewN | apply below_drew1 | refine below_set ?_ (IsS151.ge HI0.out)) | exact HB.out), by repeat (first | (with_reducible first | exact HK.out | apply KeepBut.set_ | apply keep_drewN | apply keep_drew | apply keep_alloc) | exact HK.out)⟩
def labels_isSpecialSymbol.f (a0 : Int) : Option (Bool) := if a0 = 61 then (some true) else (if a0 = 33 then (some true) else (if a0 = 40 then (some true) else (if a0 = 41 then (some true) else (if a0 = 44 then (some true) else (if a0 = 62 then (some true) else (if a0 = 60 then (some true) else (some false)))))))
set_option maxHeartbeats 8000000 in
set_option maxRecDepth 100000 in
theorem labels_isSpecialSymbol.calls (a0 : Int) (r : Bool) (w : World) (h : labels_isSpecialSymbol.f a0 = some r) :
   Calls Tryz.prog 169 #[.int .u8 a0] w fun e w' => e = .returned (.bool r) ∧ Drawn0 w w' := by
 have H : (if a0 = 61 then (some true) else (if a0 = 33 then (some true) else (if a0 = 40 then (some true) else (if a0 = 41 then (some true) else (if a0 = 44 then (some true) else (if a0 = 62 then (some true) else (if a0 = 60 then (some true) else (some false)))))))) = some r := h
 clear h
 by_cases c2 : a0 = 61
 · rw [if_pos c2] at H
   have c2b0 : (a0 == 61) = true := beq_iff_eq.mpr c2
   have c2b1 : (a0 != 61) = false := bne_eq_false_iff_eq.mpr c2
   clear c2
   obtain rfl := Option.some.inj H
   go_enter Tryz.func169, Tryz.ntmps169
   go_wp2
   go_ret
   exact ⟨by first | rfl | (simp; done) | (simp [*]; done), by repeat (first | exact Drawn0.refl _ | apply Drawn0.step)⟩
 · rw [if_neg c2] at H
   have c2b0 : (a0 == 61) = false := beq_eq_false_iff_ne.mpr c2
   have c2b1 : (a0 != 61) = true := bne_iff_ne.mpr c2
   by_cases c3 : a0 = 33
   · rw [if_pos c3] at H
     have c3b0 : (a0 == 33) = true := beq_iff_eq.mpr c3
     have c3b1 : (a0 != 33) = false := bne_eq_false_iff_eq.mpr c3
     clear c3
     obtain rfl := Option.some.inj H
     go_enter Tryz.func169, Tryz.ntmps169
     go_wp2
     go_ret
     exact ⟨by first | rfl | (simp; done) | (simp [*]; done), by repeat (first | exact Drawn0.refl _ | apply Drawn0.step)⟩
   · rw [if_neg c3] at H
     have c3b0 : (a0 == 33) = false := beq_eq_false_iff_ne.mpr c3
     have c3b1 : (a0 != 33) = true := bne_iff_ne.mpr c3
     by_cases c4 : a0 = 40
     · rw [if_pos c4] at H
       have c4b0 : (a0 == 40) = true := beq_iff_eq.mpr c4
       have c4b1 : (a0 != 40) = false := bne_eq_false_iff_eq.mpr c4
       clear c4
       obtain rfl := Option.some.inj H
       go_enter Tryz.func169, Tryz.ntmps169
       go_wp2
       go_ret
       exact ⟨by first | rfl | (simp; done) | (simp [*]; done), by repeat (first | exact Drawn0.refl _ | apply Drawn0.step)⟩
     · rw [if_neg c4] at H
       have c4b0 : (a0 == 40) = false := beq_eq_false_iff_ne.mpr c4
       have c4b1 : (a0 != 40) = true := bne_iff_ne.mpr c4
       by_cases c5 : a0 = 41
       · rw [if_pos c5] at H
         have c5b0 : (a0 == 41) = true := beq_iff_eq.mpr c5
         have c5b1 : (a0 != 41) = false := bne_eq_false_iff_eq.mpr c5
         clear c5
         obtain rfl := Option.some.inj H
         go_enter Tryz.func169, Tryz.ntmps169
         go_wp2
         go_ret
         exact ⟨by first | rfl | (simp; done) | (simp [*]; done), by repeat (first | exact Drawn0.refl _ | apply Drawn0.step)⟩
       · rw [if_neg c5] at H
         have c5b0 : (a0 == 41) = false := beq_eq_false_iff_ne.mpr c5
         have c5b1 : (a0 != 41) = true := bne_iff_ne.mpr c5
         by_cases c6 : a0 = 44
         · rw [if_pos c6] at H
           have c6b0 : (a0 == 44) = true := beq_iff_eq.mpr c6
           have c6b1 : (a0 != 44) = false := bne_eq_false_iff_eq.mpr c6
           clear c6
           obtain rfl := Option.some.inj H
           go_enter Tryz.func169, Tryz.ntmps169
           go_wp2
           go_ret
           exact ⟨by first | rfl | (simp; done) | (simp [*]; done), by repeat (first | exact Drawn0.refl _ | apply Drawn0.step)⟩
         · rw [if_neg c6] at H
           have c6b0 : (a0 == 44) = false := beq_eq_false_iff_ne.mpr c6
           have c6b1 : (a0 != 44) = true := bne_iff_ne.mpr c6
           by_cases c7 : a0 = 62
           · rw [if_pos c7] at H
             have c7b0 : (a0 == 62) = true := beq_iff_eq.mpr c7
             have c7b1 : (a0 != 62) = false := bne_eq_false_iff_eq.mpr c7
             clear c7
             obtain rfl := Option.some.inj H
             go_enter Tryz.func169, Tryz.ntmps169
             go_wp2
             go_ret
             exact ⟨by first | rfl | (simp; done) | (simp [*]; done), by repeat (first | exact Drawn0.refl _ | apply Drawn0.step)⟩
           · rw [if_neg c7] at H
             have c7b0 : (a0 == 62) = false := beq_eq_false_iff_ne.mpr c7
             have c7b1 : (a0 != 62) = true := bne_iff_ne.mpr c7
             by_cases c8 : a0 = 60
             · rw [if_pos c8] at H
               have c8b0 : (a0 == 60) = true := beq_iff_eq.mpr c8
               have c8b1 : (a0 != 60) = false := bne_eq_false_iff_eq.mpr c8
               clear c8
               obtain rfl := Option.some.inj H
               go_enter Tryz.func169, Tryz.ntmps169
               go_wp2
               go_ret
               exact ⟨by first | rfl | (simp; done) | (simp [*]; done), by repeat (first | exact Drawn0.refl _ | apply Drawn0.step)⟩
             · rw [if_neg c8] at H
               have c8b0 : (a0 == 60) = false := beq_eq_false_iff_ne.mpr c8
               have c8b1 : (a0 != 60) = true := bne_iff_ne.mpr c8
               obtain rfl := Option.some.inj H
               go_enter Tryz.func169, Tryz.ntmps169
               go_wp2
               go_ret
               exact ⟨by first | rfl | (simp; done) | (simp [*]; done), by repeat (first | exact Drawn0.refl _ | apply Drawn0.step)⟩
def labels_Lexer_unread.f (s0_0 : ByteArray) (s0_1 : Int) : Option (ByteArray × Int) := some (s0_0, wrap64 (s0_1 - 1))
set_option maxHeartbeats 8000000 in
set_option maxRecDepth 100000 in
theorem labels_Lexer_unread.calls (g : Nat) (s0_0 : ByteArray) (s0_1 : Int) (r1 : ByteArray) (r2 : Int) (w0 w : World) (hI : IsS151 w0 w g s0_0 s0_1) (hB : Below w0.heap.size w0 w) (h : labels_Lexer_unread.f s0_0 s0_1 = some (r1, r2)) :
   Calls Tryz.prog 170 #[.pointer (some ⟨g, 0, none⟩)] w fun e w' => e = .returned (.tuple #[]) ∧ IsS151 w0 w' g r1 r2 ∧ Below w0.heap.size w0 w' ∧ KeepBut w w' g none := by
 have HI0 := Aside0.mk hI
 have HK := Aside0.mk (KeepBut.refl w g none)
 have HL := Aside0.mk hB.size
 clear hI
 have HW0 := Aside0.mk hB.size
 have HB := Aside0.mk hB
 clear hB
 have H : (some (s0_0, wrap64 (s0_1 - 1))) = some (r1, r2) := h
 clear h
 simp only [Option.some.injEq, Prod.mk.injEq] at H
 obtain ⟨rfl, rfl⟩ := H
 obtain ⟨HGz2, hgz2⟩ := HI0.out
 have hcz2_0 := cellS151_0 HGz2
 have hcz2_1 := cellS151_1 HGz2
 have hfz2_0 := blk_frozen HGz2 0
 have hfz2_1 := blk_frozen HGz2 1
 clear HGz2 hgz2
 go_enter Tryz.func170, Tryz.ntmps170
 go_wp2
 first | go_end0 | ((try simp only [Exit.inBlock, Exit.then]); refine bodyPost_ret (results_none rfl _ _ _) rfl ?_)
 exact ⟨by first | rfl | (simp [errW_none, errW_some] <;> rfl) | (simp [*, errW_none, errW_some] <;> rfl), by repeat (first | (with_reducible first | exact HI0.out | apply IsS151.alloc | apply IsS151.drewN | apply IsS151.drew | apply IsS151.set_0 | apply IsS151.set_1) | exact HI0.out), by repeat (first | (with_reducible first | exact HB.out | apply below_alloc | apply pw_below_drewN | apply below_drew1 | refine below_set ?_ (IsS151.ge HI0.out)) | exact HB.out), by repeat (first | (with_reducible first | exact HK.out | apply KeepBut.set_ | apply keep_drewN | apply keep_drew | apply keep_alloc) | exact HK.out)⟩
end Go.Proofs.YthfjolafikgpoaaGreatDoor.PFnSelDecidesLabels
