/- Functions of the program as Lean functions, with their contracts (the lines are print.sh's): spec_among, spec_Small, spec_Alnum, spec_Pieces. -/
import Derived.Test.YteigfmchnblkgaaDoorHd
namespace Go.Proofs.YteigfmchnblkgaaDoor.PFnSelOpposite
open Go.RowKit Go.Proofs.YteigfmchnblkgaaDoorW.PrintWords Go.Proofs.YteigfmchnblkgaaDoorW.PrintLast Go.Proofs.YteigfmchnblkgaaDoorW.PrintMore
set_option linter.unusedVariables false
set_option linter.unusedSimpArgs false

-- NOT PRINTED: function 31 (strconv_ParseUint)

-- NOT PRINTED: function 22 (strconv_ParseInt_22)

-- NOT PRINTED: function 42 (stringslite_Clone)

-- NOT PRINTED: function 32 (strconv_syntaxError)

-- NOT PRINTED: function 33 (strconv_rangeError)

-- NOT PRINTED: function 29 (errors_New)


/-! ### spec_among: function 36 -/
def spec_among.l0 : Nat → Int → ByteArray → Int → Int → Option (Bool)
  | 0, _, _, _, _ => none
  | k + 1, x0, x1, x7, x8 => if x8 < x7 then (if 0 ≤ x8 then (if x8 < (x1.size : Int) then (if (bt x1 x8) = x0 then (some true) else (spec_among.l0 k x0 x1 x7 (wrap64 (x8 + 1)))) else (none)) else (none)) else (some false)
def spec_among.f (k : Nat) (a0 : Int) (a1 : ByteArray) : Option (Bool) := spec_among.l0 k a0 a1 (a1.size : Int) 0
theorem spec_among.mono_l : ∀ k, (∀ y0 y1 y2 y3, LeO (spec_among.l0 k y0 y1 y2 y3) (spec_among.l0 (k + 1) y0 y1 y2 y3))
  | 0 => fun _ _ _ _ r h => by simp [spec_among.l0] at h
  | k + 1 => by
    have ih0 := spec_among.mono_l k
    · intro y0 y1 y2 y3
      unfold spec_among.l0
      repeat' first
      | (with_reducible exact ih0 _ _ _ _)
      | (with_reducible exact LeO.refl _)
      | (with_reducible exact LeO.none _)
      | (with_reducible refine LeO.ite ?_ ?_)
      | (with_reducible refine LeO.bind ?_ (fun _ => ?_))
      | exact ih0 _ _ _ _
      | exact LeO.none _
      | refine LeO.ite ?_ ?_
      | refine LeO.bind ?_ (fun _ => ?_)
theorem spec_among.mono : ∀ a0 a1 k, LeO (spec_among.f k a0 a1) (spec_among.f (k + 1) a0 a1) := by
  intro a0 a1 k
  have ih0 := spec_among.mono_l k
  unfold spec_among.f
  repeat' first
      | (with_reducible exact ih0 _ _ _ _)
      | (with_reducible exact LeO.refl _)
      | (with_reducible exact LeO.none _)
      | (with_reducible refine LeO.ite ?_ ?_)
      | (with_reducible refine LeO.bind ?_ (fun _ => ?_))
      | exact ih0 _ _ _ _
      | exact LeO.none _
      | refine LeO.ite ?_ ?_
      | refine LeO.bind ?_ (fun _ => ?_)
set_option maxHeartbeats 8000000 in
set_option maxRecDepth 100000 in
theorem spec_among.calls (k : Nat) (a0 : Int) (a1 : ByteArray) (r : Bool) (w : World) (h : spec_among.f k a0 a1 = some r) :
    Calls Tryd.prog 36 #[.int .u8 a0, .string a1] w fun e w' => e = .returned (.bool r) ∧ Drawn0 w w' := by
  have H : (spec_among.l0 k a0 a1 (a1.size : Int) 0) = some r := h
  clear h
  have H' := Aside0.mk H
  clear H
  go_enter Tryd.func36, Tryd.ntmps36
  go_wp2
  go_loopg [8] k (fun kq v8 w' => ∃ (x8_1 : Int), v8 = .int .i64 x8_1 ∧ Aside0 (spec_among.l0 kq a0 a1 (a1.size : Int) x8_1 = some r) ∧ Aside0 (kq ≤ k) ∧ Drawn0 w w')
  case atStart => exact ⟨(0), (by first | rfl | (simp; done) | (simp [*]; done)), H', ⟨Nat.le_refl _⟩, by repeat (first | exact Drawn0.refl _ | apply Drawn0.step)⟩
  case round =>
    clear H'
    try clear p2
    obtain ⟨x8_1, rfl, HA, HK1, ⟨m1, rfl⟩⟩ := hrel
    cases gk with
    | zero => exact absurd HA.out (by simp [spec_among.l0])
    | succ k1 =>
      have H := HA.out
      clear HA
      simp only [spec_among.l0] at H
      by_cases c3 : x8_1 < (a1.size : Int)
      · rw [if_pos c3] at H
        have c3b0 : decide (x8_1 < (a1.size : Int)) = true := decide_eq_true c3
        clear c3
        by_cases c4 : 0 ≤ x8_1
        · rw [if_pos c4] at H
          have c4b0 : decide (0 ≤ x8_1) = true := decide_eq_true c4
          clear c4
          by_cases c5 : x8_1 < (a1.size : Int)
          · rw [if_pos c5] at H
            have c5b0 : decide (x8_1 < (a1.size : Int)) = true := decide_eq_true c5
            clear c5
            by_cases c7 : (bt a1 x8_1) = a0
            · rw [if_pos c7] at H
              have c7b0 : ((bt a1 x8_1) == a0) = true := beq_iff_eq.mpr c7
              have c7b1 : ((bt a1 x8_1) != a0) = false := bne_eq_false_iff_eq.mpr c7
              clear c7
              obtain rfl := Option.some.inj H
              have p6 : 0 ≤ (x8_1 : Int) := of_decide_eq_true (by first | (with_reducible assumption) | assumption)
              have q6 : x8_1 < (a1.size : Int) := of_decide_eq_true (by first | (with_reducible assumption) | assumption)
              have hx6 := bt_at a1 x8_1
              replace p6 := eq_true p6
              replace q6 := eq_true q6
              go_wp2
              go_ret
              exact ⟨by first | rfl | (simp; done) | (simp [*]; done), by repeat (first | exact Drawn0.refl _ | apply Drawn0.step)⟩
            · rw [if_neg c7] at H
              have c7b0 : ((bt a1 x8_1) == a0) = false := beq_eq_false_iff_ne.mpr c7
              have c7b1 : ((bt a1 x8_1) != a0) = true := bne_iff_ne.mpr c7
              have H' := Aside0.mk H
              clear H
              have p6 : 0 ≤ (x8_1 : Int) := of_decide_eq_true (by first | (with_reducible assumption) | assumption)
              have q6 : x8_1 < (a1.size : Int) := of_decide_eq_true (by first | (with_reducible assumption) | assumption)
              have hx6 := bt_at a1 x8_1
              replace p6 := eq_true p6
              replace q6 := eq_true q6
              go_wp2
              go_roundg k1
              case measure => have := HK1.out; omega
              case rel => exact ⟨(wrap64 (x8_1 + 1)), (by first | rfl | (simp; done) | (simp [*]; done)), H', ⟨by have := HK1.out; omega⟩, by repeat (first | exact Drawn0.refl _ | apply Drawn0.step)⟩
          · rw [if_neg c5] at H
            exact absurd H (by simp)
        · rw [if_neg c4] at H
          exact absurd H (by simp)
      · rw [if_neg c3] at H
        have c3b0 : decide (x8_1 < (a1.size : Int)) = false := decide_eq_false c3
        clear c3
        obtain rfl := Option.some.inj H
        go_wp2
        go_ret
        exact ⟨by first | rfl | (simp; done) | (simp [*]; done), by repeat (first | exact Drawn0.refl _ | apply Drawn0.step)⟩

-- NOT PRINTED: function 24 (spec_ended)

/-! ### spec_Small: function 37 -/
def spec_Small.f (a0 : Int) : Option (Bool) := if a0 ≥ 97 then (if a0 ≤ 122 then (some true) else (if a0 ≥ 48 then (some (decide (a0 ≤ 57))) else (some false))) else (if a0 ≥ 48 then (some (decide (a0 ≤ 57))) else (some false))
set_option maxHeartbeats 8000000 in
set_option maxRecDepth 100000 in
theorem spec_Small.calls (a0 : Int) (r : Bool) (w : World) (h : spec_Small.f a0 = some r) :
    Calls Tryd.prog 37 #[.int .u8 a0] w fun e w' => e = .returned (.bool r) ∧ Drawn0 w w' := by
  have H : (if a0 ≥ 97 then (if a0 ≤ 122 then (some true) else (if a0 ≥ 48 then (some (decide (a0 ≤ 57))) else (some false))) else (if a0 ≥ 48 then (some (decide (a0 ≤ 57))) else (some false))) = some r := h
  clear h
  by_cases c2 : a0 ≥ 97
  · rw [if_pos c2] at H
    have c2b0 : decide (97 ≤ a0) = true := decide_eq_true c2
    clear c2
    by_cases c3 : a0 ≤ 122
    · rw [if_pos c3] at H
      have c3b0 : decide (a0 ≤ 122) = true := decide_eq_true c3
      clear c3
      obtain rfl := Option.some.inj H
      go_enter Tryd.func37, Tryd.ntmps37
      go_wp2
      go_ret
      exact ⟨by first | rfl | (simp; done) | (simp [*]; done), by repeat (first | exact Drawn0.refl _ | apply Drawn0.step)⟩
    · rw [if_neg c3] at H
      have c3b0 : decide (a0 ≤ 122) = false := decide_eq_false c3
      clear c3
      by_cases c4 : a0 ≥ 48
      · rw [if_pos c4] at H
        have c4b0 : decide (48 ≤ a0) = true := decide_eq_true c4
        clear c4
        obtain rfl := Option.some.inj H
        go_enter Tryd.func37, Tryd.ntmps37
        go_wp2
        go_ret
        exact ⟨by first | rfl | (simp; done) | (simp [*]; done), by repeat (first | exact Drawn0.refl _ | apply Drawn0.step)⟩
      · rw [if_neg c4] at H
        have c4b0 : decide (48 ≤ a0) = false := decide_eq_false c4
        clear c4
        obtain rfl := Option.some.inj H
        go_enter Tryd.func37, Tryd.ntmps37
        go_wp2
        go_ret
        exact ⟨by first | rfl | (simp; done) | (simp [*]; done), by repeat (first | exact Drawn0.refl _ | apply Drawn0.step)⟩
  · rw [if_neg c2] at H
    have c2b0 : decide (97 ≤ a0) = false := decide_eq_false c2
    clear c2
    by_cases c5 : a0 ≥ 48
    · rw [if_pos c5] at H
      have c5b0 : decide (48 ≤ a0) = true := decide_eq_true c5
      clear c5
      obtain rfl := Option.some.inj H
      go_enter Tryd.func37, Tryd.ntmps37
      go_wp2
      go_ret
      exact ⟨by first | rfl | (simp; done) | (simp [*]; done), by repeat (first | exact Drawn0.refl _ | apply Drawn0.step)⟩
    · rw [if_neg c5] at H
      have c5b0 : decide (48 ≤ a0) = false := decide_eq_false c5
      clear c5
      obtain rfl := Option.some.inj H
      go_enter Tryd.func37, Tryd.ntmps37
      go_wp2
      go_ret
      exact ⟨by first | rfl | (simp; done) | (simp [*]; done), by repeat (first | exact Drawn0.refl _ | apply Drawn0.step)⟩

/-! ### spec_Alnum: function 25 -/
def spec_Alnum.f (a0 : Int) : Option (Bool) := (spec_Small.f a0).bind fun t142 => (if t142 = true then (some true) else (if a0 ≥ 65 then (some (decide (a0 ≤ 90))) else (some false)))
set_option maxHeartbeats 8000000 in
set_option maxRecDepth 100000 in
theorem spec_Alnum.calls (a0 : Int) (r : Bool) (w : World) (h : spec_Alnum.f a0 = some r) :
    Calls Tryd.prog 25 #[.int .u8 a0] w fun e w' => e = .returned (.bool r) ∧ Drawn0 w w' := by
  have H : ((spec_Small.f a0).bind fun t142 => (if t142 = true then (some true) else (if a0 ≥ 65 then (some (decide (a0 ≤ 90))) else (some false)))) = some r := h
  clear h
  replace H := Option.bind_eq_some_iff.mp H
  obtain ⟨t142, A20, H⟩ := H
  replace H : (if t142 = true then (some true) else (if a0 ≥ 65 then (some (decide (a0 ≤ 90))) else (some false))) = some r := H
  have A2 := Aside0.mk A20
  clear A20
  by_cases c3 : t142 = true
  · subst c3
    have H1 : (some true) = some r := by rw [if_pos rfl] at H; exact H
    clear H
    have H := H1
    clear H1
    obtain rfl := Option.some.inj H
    go_enter Tryd.func25, Tryd.ntmps25
    go_wp2_with (first | ((with_reducible refine gate_callee (f := 37) rfl ?_); refine goesL_ (some 4) rfl rfl Tryd.func37 (by kernel_rfl) rfl #[.int .u8 a0] rfl (by (try simp only [List.map_toArray, List.map_cons, List.map_nil]); first | done | rfl | (simp only [List.length_drop, List.length_take]; rfl)) ?_; (with_reducible refine (spec_Small.calls a0 true _ A2.out).mono ?_); rintro e w' ⟨rfl, ⟨nd, rfl⟩⟩; refine ⟨_, rfl, ?_⟩))
    go_ret
    exact ⟨by first | rfl | (simp; done) | (simp [*]; done), by repeat (first | exact Drawn0.refl _ | apply Drawn0.step)⟩
  · replace c3 := Bool.eq_false_iff.mpr c3
    subst c3
    have H1 : (if a0 ≥ 65 then (some (decide (a0 ≤ 90))) else (some false)) = some r := by rw [if_neg (show ¬ (false = true) by decide)] at H; exact H
    clear H
    have H := H1
    clear H1
    by_cases c4 : a0 ≥ 65
    · rw [if_pos c4] at H
      have c4b0 : decide (65 ≤ a0) = true := decide_eq_true c4
      clear c4
      obtain rfl := Option.some.inj H
      go_enter Tryd.func25, Tryd.ntmps25
      go_wp2_with (first | ((with_reducible refine gate_callee (f := 37) rfl ?_); refine goesL_ (some 4) rfl rfl Tryd.func37 (by kernel_rfl) rfl #[.int .u8 a0] rfl (by (try simp only [List.map_toArray, List.map_cons, List.map_nil]); first | done | rfl | (simp only [List.length_drop, List.length_take]; rfl)) ?_; (with_reducible refine (spec_Small.calls a0 false _ A2.out).mono ?_); rintro e w' ⟨rfl, ⟨nd, rfl⟩⟩; refine ⟨_, rfl, ?_⟩))
      go_ret
      exact ⟨by first | rfl | (simp; done) | (simp [*]; done), by repeat (first | exact Drawn0.refl _ | apply Drawn0.step)⟩
    · rw [if_neg c4] at H
      have c4b0 : decide (65 ≤ a0) = false := decide_eq_false c4
      clear c4
      obtain rfl := Option.some.inj H
      go_enter Tryd.func25, Tryd.ntmps25
      go_wp2_with (first | ((with_reducible refine gate_callee (f := 37) rfl ?_); refine goesL_ (some 4) rfl rfl Tryd.func37 (by kernel_rfl) rfl #[.int .u8 a0] rfl (by (try simp only [List.map_toArray, List.map_cons, List.map_nil]); first | done | rfl | (simp only [List.length_drop, List.length_take]; rfl)) ?_; (with_reducible refine (spec_Small.calls a0 false _ A2.out).mono ?_); rintro e w' ⟨rfl, ⟨nd, rfl⟩⟩; refine ⟨_, rfl, ?_⟩))
      go_ret
      exact ⟨by first | rfl | (simp; done) | (simp [*]; done), by repeat (first | exact Drawn0.refl _ | apply Drawn0.step)⟩

-- NOT PRINTED: function 18 (spec_LabelText)

/-! ### spec_Pieces: function 26 -/
def spec_Pieces.l0 : Nat → ByteArray → Int → List ByteArray → Int → Int → Int → Option (List ByteArray)
  | 0, _, _, _, _, _, _ => none
  | k + 1, x0, x1, x5, x6, x9, x10 => if x10 < x9 then (if 0 ≤ x10 then (if x10 < (x0.size : Int) then (if (bt x0 x10) = x1 then (if 0 ≤ x6 then (if x6 ≤ x10 then (if x10 ≤ (x0.size : Int) then (if x5.length < 8796093022208 then (spec_Pieces.l0 k x0 x1 (x5 ++ [x0.extract (x6 : Int).toNat (x10 : Int).toNat]) (wrap64 (x10 + 1)) x9 (wrap64 (x10 + 1))) else (none)) else (none)) else (none)) else (none)) else (spec_Pieces.l0 k x0 x1 x5 x6 x9 (wrap64 (x10 + 1)))) else (none)) else (none)) else (if 0 ≤ x6 then (if x6 ≤ (x0.size : Int) then (if x5.length < 8796093022208 then (some (x5 ++ [x0.extract (x6 : Int).toNat x0.size])) else (none)) else (none)) else (none))
def spec_Pieces.f (k : Nat) (a0 : ByteArray) (a1 : Int) : Option (List ByteArray) := spec_Pieces.l0 k a0 a1 ([] : List ByteArray) 0 (a0.size : Int) 0
theorem spec_Pieces.mono_l : ∀ k, (∀ y0 y1 y2 y3 y4 y5, LeO (spec_Pieces.l0 k y0 y1 y2 y3 y4 y5) (spec_Pieces.l0 (k + 1) y0 y1 y2 y3 y4 y5))
  | 0 => fun _ _ _ _ _ _ r h => by simp [spec_Pieces.l0] at h
  | k + 1 => by
    have ih0 := spec_Pieces.mono_l k
    · intro y0 y1 y2 y3 y4 y5
      unfold spec_Pieces.l0
      repeat' first
      | (with_reducible exact ih0 _ _ _ _ _ _)
      | (with_reducible exact LeO.refl _)
      | (with_reducible exact LeO.none _)
      | (with_reducible refine LeO.ite ?_ ?_)
      | (with_reducible refine LeO.bind ?_ (fun _ => ?_))
      | exact ih0 _ _ _ _ _ _
      | exact LeO.none _
      | refine LeO.ite ?_ ?_
      | refine LeO.bind ?_ (fun _ => ?_)
theorem spec_Pieces.mono : ∀ a0 a1 k, LeO (spec_Pieces.f k a0 a1) (spec_Pieces.f (k + 1) a0 a1) := by
  intro a0 a1 k
  have ih0 := spec_Pieces.mono_l k
  unfold spec_Pieces.f
  repeat' first
      | (with_reducible exact ih0 _ _ _ _ _ _)
      | (with_reducible exact LeO.refl _)
      | (with_reducible exact LeO.none _)
      | (with_reducible refine LeO.ite ?_ ?_)
      | (with_reducible refine LeO.bind ?_ (fun _ => ?_))
      | exact ih0 _ _ _ _ _ _
      | exact LeO.none _
      | refine LeO.ite ?_ ?_
      | refine LeO.bind ?_ (fun _ => ?_)
set_option maxHeartbeats 8000000 in
set_option maxRecDepth 100000 in
theorem spec_Pieces.calls (k : Nat) (a0 : ByteArray) (a1 : Int) (r : List ByteArray) (w : World) (h : spec_Pieces.f k a0 a1 = some r) :
    Calls Tryd.prog 26 #[.string a0, .int .u8 a1] w fun e w' => ∃ v0_ : Value, e = .returned (v0_) ∧ Kd.R Kd.string 9 w' w.heap.size (fun _ => True) v0_ r ∧ Below w.heap.size w w' := by
  have HB := Aside0.mk (Below.refl w.heap.size w)
  have H : (spec_Pieces.l0 k a0 a1 ([] : List ByteArray) 0 (a0.size : Int) 0) = some r := h
  clear h
  have H' := Aside0.mk H
  clear H
  go_enter Tryd.func26, Tryd.ntmps26
  go_wp2
  go_loopg [5, 6, 10] k (fun kq v5 v6 v10 w' => ∃ (x5_1 : List ByteArray) (x6_1 : Int) (x10_1 : Int), v6 = .int .i64 x6_1 ∧ v10 = .int .i64 x10_1 ∧ Aside0 (spec_Pieces.l0 kq a0 a1 x5_1 x6_1 (a0.size : Int) x10_1 = some r) ∧ Aside0 (kq ≤ k) ∧ Aside0 (Kd.R Kd.string 9 w' w.heap.size (fun _ => True) v5 x5_1) ∧ Aside0 (Below w.heap.size w w'))
  case atStart => exact ⟨(([] : List ByteArray)), (0), (0), (by first | rfl | (simp; done) | (simp [*]; done)), (by first | rfl | (simp; done) | (simp [*]; done)), H', ⟨Nat.le_refl _⟩, ⟨by first | exact Kd.R_nil _ _ _ _ _ | exact Kd.N_nil _ _ _ _ _ | exact Kd.V_nil _ _ _ _ _ | exact Kd.Q_nil _ _ _ _ _ | exact Kd.S_nil _ _ _ _ _⟩, ⟨by repeat (first | (with_reducible first | exact HB.out | apply below_alloc | apply pw_below_drewN | apply below_drew1) | exact HB.out)⟩⟩
  case round =>
    clear H'
    try clear c2
    try clear p2
    obtain ⟨x5_1, x6_1, x10_1, rfl, rfl, HA, HK1, HO_5, HB⟩ := hrel
    cases gk with
    | zero => exact absurd HA.out (by simp [spec_Pieces.l0])
    | succ k1 =>
      have H := HA.out
      clear HA
      simp only [spec_Pieces.l0] at H
      by_cases c3 : x10_1 < (a0.size : Int)
      · rw [if_pos c3] at H
        have c3b0 : decide (x10_1 < (a0.size : Int)) = true := decide_eq_true c3
        clear c3
        by_cases c4 : 0 ≤ x10_1
        · rw [if_pos c4] at H
          have c4b0 : decide (0 ≤ x10_1) = true := decide_eq_true c4
          clear c4
          by_cases c5 : x10_1 < (a0.size : Int)
          · rw [if_pos c5] at H
            have c5b0 : decide (x10_1 < (a0.size : Int)) = true := decide_eq_true c5
            clear c5
            by_cases c7 : (bt a0 x10_1) = a1
            · rw [if_pos c7] at H
              have c7b0 : ((bt a0 x10_1) == a1) = true := beq_iff_eq.mpr c7
              have c7b1 : ((bt a0 x10_1) != a1) = false := bne_eq_false_iff_eq.mpr c7
              clear c7
              by_cases c8 : 0 ≤ x6_1
              · rw [if_pos c8] at H
                have c8b0 := eq_true c8
                have c8b1 : decide (0 ≤ x6_1) = true := decide_eq_true c8
                clear c8
                by_cases c9 : x6_1 ≤ x10_1
                · rw [if_pos c9] at H
                  have c9b0 := eq_true c9
                  have c9b1 : decide (x6_1 ≤ x10_1) = true := decide_eq_true c9
                  clear c9
                  by_cases c10 : x10_1 ≤ (a0.size : Int)
                  · rw [if_pos c10] at H
                    have c10b0 := eq_true c10
                    have c10b1 : decide (x10_1 ≤ (a0.size : Int)) = true := decide_eq_true c10
                    clear c10
                    by_cases c11 : x5_1.length < 8796093022208
                    · rw [if_pos c11] at H
                      have LMc11 := Aside0.mk c11
                      clear c11
                      obtain ⟨y143, hy143⟩ : ∃ y_ : List ByteArray, y_ = (x5_1 ++ [a0.extract (x6_1 : Int).toNat (x10_1 : Int).toNat]) := ⟨_, rfl⟩
                      replace H : (spec_Pieces.l0 k1 a0 a1 y143 (wrap64 (x10_1 + 1)) (a0.size : Int) (wrap64 (x10_1 + 1))) = some r := by first | (rw [hy143]; with_reducible exact H) | (have H2_ := (Option.bind_some _ _).symm.trans H; rw [hy143]; with_reducible exact H2_) | (have H2_ := (Option.bind_some _ _).symm.trans H; with_reducible exact H2_) | with_reducible exact H | (rw [hy143]; exact H) | exact H
                      have Ny143 := Aside0.mk hy143
                      clear hy143
                      have H' := Aside0.mk H
                      clear H
                      have p6 : 0 ≤ (x10_1 : Int) := of_decide_eq_true (by first | (with_reducible assumption) | assumption)
                      have q6 : x10_1 < (a0.size : Int) := of_decide_eq_true (by first | (with_reducible assumption) | assumption)
                      have hx6 := bt_at a0 x10_1
                      replace p6 := eq_true p6
                      replace q6 := eq_true q6
                      go_wp2_with (first | ((with_reducible refine gate_builtin (b := .append) (xs := #[.tmp 18, .tmp 23]) rfl ?_); at_builtin; refine Kd.R_append Kd.string (w0 := w) w.heap.size rfl (.tmp 18) (.tmp 23) 22 9 (.string ⟨#[]⟩) 16 rfl Tryd.underlying22 info9 rfl (by decide) (by omega) u5 x5_1 (a0.extract (x6_1 : Int).toNat (x10_1 : Int).toNat) [.string (a0.extract (x6_1 : Int).toNat (x10_1 : Int).toNat)] (fun _ => True) (fun _ => False) rfl rfl ?aP (fun _ hk => hk.elim) ?aF ?aO ?aB ?aS ?aL ?_; (case aP => exact rfl); (case aB => exact (by repeat (first | (with_reducible first | exact HB.out | apply below_alloc | apply pw_below_drewN | apply below_drew1) | exact HB.out))); (case aF => exact (fun _ _ => trivial)); (case aO => exact (by (with_reducible repeat (first | apply Kd.R_alloc | apply Kd.R_drewN | apply Kd.R_drew)); exact HO_5.out)); (case aS => exact (below_size (by repeat (first | (with_reducible first | exact HB.out | apply below_alloc | apply pw_below_drewN | apply below_drew1) | exact HB.out)))); (case aL => have := LMc11.out; omega); intro v144 w12 ho hb hg hat; rw [← Ny143.out] at ho; have n0_ := Aside0.mk (hb); have n1_ := Aside0.mk (ho); clear HB; clear HO_5; have HB := n0_; have HO145 := n1_; clear n0_ n1_; clear ho hb hg hat))
                      go_roundg k1
                      case measure => have := HK1.out; omega
                      case rel => exact ⟨(y143), (wrap64 (x10_1 + 1)), (wrap64 (x10_1 + 1)), (by first | rfl | (simp; done) | (simp [*]; done)), (by first | rfl | (simp; done) | (simp [*]; done)), H', ⟨by have := HK1.out; omega⟩, ⟨by (with_reducible repeat (first | apply Kd.R_alloc | apply Kd.R_drewN | apply Kd.R_drew)); exact HO145.out⟩, ⟨by repeat (first | (with_reducible first | exact HB.out | apply below_alloc | apply pw_below_drewN | apply below_drew1) | exact HB.out)⟩⟩
                    · rw [if_neg c11] at H
                      exact absurd H (by simp)
                  · rw [if_neg c10] at H
                    exact absurd H (by simp)
                · rw [if_neg c9] at H
                  exact absurd H (by simp)
              · rw [if_neg c8] at H
                exact absurd H (by simp)
            · rw [if_neg c7] at H
              have c7b0 : ((bt a0 x10_1) == a1) = false := beq_eq_false_iff_ne.mpr c7
              have c7b1 : ((bt a0 x10_1) != a1) = true := bne_iff_ne.mpr c7
              have H' := Aside0.mk H
              clear H
              have p6 : 0 ≤ (x10_1 : Int) := of_decide_eq_true (by first | (with_reducible assumption) | assumption)
              have q6 : x10_1 < (a0.size : Int) := of_decide_eq_true (by first | (with_reducible assumption) | assumption)
              have hx6 := bt_at a0 x10_1
              replace p6 := eq_true p6
              replace q6 := eq_true q6
              go_wp2
              go_roundg k1
              case measure => have := HK1.out; omega
              case rel => exact ⟨(x5_1), (x6_1), (wrap64 (x10_1 + 1)), (by first | rfl | (simp; done) | (simp [*]; done)), (by first | rfl | (simp; done) | (simp [*]; done)), H', ⟨by have := HK1.out; omega⟩, ⟨by (with_reducible repeat (first | apply Kd.R_alloc | apply Kd.R_drewN | apply Kd.R_drew)); exact HO_5.out⟩, ⟨by repeat (first | (with_reducible first | exact HB.out | apply below_alloc | apply pw_below_drewN | apply below_drew1) | exact HB.out)⟩⟩
          · rw [if_neg c5] at H
            exact absurd H (by simp)
        · rw [if_neg c4] at H
          exact absurd H (by simp)
      · rw [if_neg c3] at H
        have c3b0 : decide (x10_1 < (a0.size : Int)) = false := decide_eq_false c3
        clear c3
        by_cases c13 : 0 ≤ x6_1
        · rw [if_pos c13] at H
          have c13b0 := eq_true c13
          have c13b1 : decide (0 ≤ x6_1) = true := decide_eq_true c13
          clear c13
          by_cases c14 : x6_1 ≤ (a0.size : Int)
          · rw [if_pos c14] at H
            have c14b0 := eq_true c14
            have c14b1 : decide (x6_1 ≤ (a0.size : Int)) = true := decide_eq_true c14
            clear c14
            by_cases c15 : x5_1.length < 8796093022208
            · rw [if_pos c15] at H
              have LMc15 := Aside0.mk c15
              clear c15
              obtain ⟨y146, hy146⟩ : ∃ y_ : List ByteArray, y_ = (x5_1 ++ [a0.extract (x6_1 : Int).toNat a0.size]) := ⟨_, rfl⟩
              replace H : (some y146) = some r := by first | (rw [hy146]; with_reducible exact H) | (have H2_ := (Option.bind_some _ _).symm.trans H; rw [hy146]; with_reducible exact H2_) | (have H2_ := (Option.bind_some _ _).symm.trans H; with_reducible exact H2_) | with_reducible exact H | (rw [hy146]; exact H) | exact H
              have Ny146 := Aside0.mk hy146
              clear hy146
              obtain rfl := Option.some.inj H
              go_wp2_with (first | ((with_reducible refine gate_builtin (b := .append) (xs := #[.tmp 28, .tmp 32]) rfl ?_); at_builtin; refine Kd.R_append Kd.string (w0 := w) w.heap.size rfl (.tmp 28) (.tmp 32) 22 9 (.string ⟨#[]⟩) 16 rfl Tryd.underlying22 info9 rfl (by decide) (by omega) u5 x5_1 (a0.extract (x6_1 : Int).toNat a0.size) [.string (a0.extract (x6_1 : Int).toNat a0.size)] (fun _ => True) (fun _ => False) rfl rfl ?aP (fun _ hk => hk.elim) ?aF ?aO ?aB ?aS ?aL ?_; (case aP => exact rfl); (case aB => exact (by repeat (first | (with_reducible first | exact HB.out | apply below_alloc | apply pw_below_drewN | apply below_drew1) | exact HB.out))); (case aF => exact (fun _ _ => trivial)); (case aO => exact (by (with_reducible repeat (first | apply Kd.R_alloc | apply Kd.R_drewN | apply Kd.R_drew)); exact HO_5.out)); (case aS => exact (below_size (by repeat (first | (with_reducible first | exact HB.out | apply below_alloc | apply pw_below_drewN | apply below_drew1) | exact HB.out)))); (case aL => have := LMc15.out; omega); intro v147 w16 ho hb hg hat; rw [← Ny146.out] at ho; have n0_ := Aside0.mk (hb); have n1_ := Aside0.mk (ho); clear HB; clear HO_5; have HB := n0_; have HO148 := n1_; clear n0_ n1_; clear ho hb hg hat))
              go_ret
              exact ⟨_, by first | rfl | (simp [errW_none, errW_some] <;> rfl) | (simp [*, errW_none, errW_some] <;> rfl), by (with_reducible repeat (first | apply Kd.R_alloc | apply Kd.R_drewN | apply Kd.R_drew)); exact HO148.out, by repeat (first | (with_reducible first | exact HB.out | apply below_alloc | apply pw_below_drewN | apply below_drew1) | exact HB.out)⟩
            · rw [if_neg c15] at H
              exact absurd H (by simp)
          · rw [if_neg c14] at H
            exact absurd H (by simp)
        · rw [if_neg c13] at H
          exact absurd H (by simp)

-- NOT PRINTED: function 27 (spec_DnsSubdomain)

-- NOT PRINTED: function 19 (spec_Qualified)

-- NOT PRINTED: function 11 (spec_Fair)

-- NOT PRINTED: function 12 (spec_SetOf)

-- NOT PRINTED: function 6 (spec_Words)

end Go.Proofs.YteigfmchnblkgaaDoor.PFnSelOpposite
