/- Functions of the program as Lean functions, with their contracts (the lines are print.sh's): cmp_isNaN_string, cmp_Less_string, slices_IsSorted_string_string, sort_StringsAreSorted. -/
import Derived.Test.YteigfmchnblkgaaGreatDoorMTM4
import Derived.Test.YteigfmchnblkgaaGreatDoorMTM27
import Derived.Test.YteigfmchnblkgaaGreatDoorMTM11
import Derived.Shelf.Sort.Plain
import Derived.Shelf.Slices.In.SortNone2
import Derived.Test.YteigfmchnblkgaaGreatDoorProg
import Derived.Test.YteigfmchnblkgaaGreatDoorMTGSetA
namespace Go.Proofs.YteigfmchnblkgaaGreatDoor.PFnReqText
open Go.RowKit Go.Proofs.YteigfmchnblkgaaGreatDoorW.PrintWords Go.Proofs.YteigfmchnblkgaaGreatDoorW.PrintLast Go.Proofs.YteigfmchnblkgaaGreatDoorW.PrintMore
set_option linter.unusedVariables false
set_option linter.unusedSimpArgs false


/-! ### cmp_isNaN_string: function 106 -/
def cmp_isNaN_string.f (a0 : ByteArray) : Option (Bool) := some (a0.toList != a0.toList)
set_option maxHeartbeats 8000000 in
set_option maxRecDepth 100000 in
theorem cmp_isNaN_string.calls (a0 : ByteArray) (r : Bool) (w : World) (h : cmp_isNaN_string.f a0 = some r) :
    Calls Tryz.prog 106 #[.string a0] w fun e w' => e = .returned (.bool r) ∧ Drawn0 w w' := by
  have H : (some (a0.toList != a0.toList)) = some r := h
  clear h
  obtain rfl := Option.some.inj H
  go_enter Tryz.func106, Tryz.ntmps106
  go_wp2
  go_ret
  exact ⟨by first | rfl | (simp; done) | (simp [*]; done), by repeat (first | exact Drawn0.refl _ | apply Drawn0.step)⟩

/-! ### cmp_Less_string: function 165 -/
def cmp_Less_string.f (a0 : ByteArray) (a1 : ByteArray) : Option (Bool) := (cmp_isNaN_string.f a0).bind fun t217 => (if t217 = true then ((cmp_isNaN_string.f a1).bind fun t218 => (if t218 = true then (some (Op.bytesLess a0.toList a1.toList)) else (some true))) else (some (Op.bytesLess a0.toList a1.toList)))
set_option maxHeartbeats 8000000 in
set_option maxRecDepth 100000 in
theorem cmp_Less_string.calls (a0 : ByteArray) (a1 : ByteArray) (r : Bool) (w : World) (h : cmp_Less_string.f a0 a1 = some r) :
    Calls Tryz.prog 165 #[.string a0, .string a1] w fun e w' => e = .returned (.bool r) ∧ Drawn0 w w' := by
  have H : ((cmp_isNaN_string.f a0).bind fun t217 => (if t217 = true then ((cmp_isNaN_string.f a1).bind fun t218 => (if t218 = true then (some (Op.bytesLess a0.toList a1.toList)) else (some true))) else (some (Op.bytesLess a0.toList a1.toList)))) = some r := h
  clear h
  replace H := Option.bind_eq_some_iff.mp H
  obtain ⟨t217, A30, H⟩ := H
  replace H : (if t217 = true then ((cmp_isNaN_string.f a1).bind fun t218 => (if t218 = true then (some (Op.bytesLess a0.toList a1.toList)) else (some true))) else (some (Op.bytesLess a0.toList a1.toList))) = some r := H
  have A3 := Aside0.mk A30
  clear A30
  by_cases c4 : t217 = true
  · subst c4
    have H1 : ((cmp_isNaN_string.f a1).bind fun t218 => (if t218 = true then (some (Op.bytesLess a0.toList a1.toList)) else (some true))) = some r := by rw [if_pos rfl] at H; exact H
    clear H
    have H := H1
    clear H1
    replace H := Option.bind_eq_some_iff.mp H
    obtain ⟨t218, A50, H⟩ := H
    replace H : (if t218 = true then (some (Op.bytesLess a0.toList a1.toList)) else (some true)) = some r := H
    have A5 := Aside0.mk A50
    clear A50
    by_cases c6 : t218 = true
    · subst c6
      have H1 : (some (Op.bytesLess a0.toList a1.toList)) = some r := by rw [if_pos rfl] at H; exact H
      clear H
      have H := H1
      clear H1
      obtain rfl := Option.some.inj H
      go_enter Tryz.func165, Tryz.ntmps165
      go_wp2_with (first | ((with_reducible refine gate_callee (f := 106) rfl ?_); refine goesL_ (some 6) rfl rfl Tryz.func106 (by kernel_rfl) rfl #[.string a0] rfl (by (try simp only [List.map_toArray, List.map_cons, List.map_nil]); first | done | rfl | (simp only [List.length_drop, List.length_take]; rfl)) ?_; (with_reducible refine (cmp_isNaN_string.calls a0 true _ A3.out).mono ?_); rintro e w' ⟨rfl, ⟨nd, rfl⟩⟩; refine ⟨_, rfl, ?_⟩) | (go_at_call 106; (with_reducible refine (cmp_isNaN_string.calls a1 true _ A5.out).mono ?_); rintro e w' ⟨rfl, ⟨nd, rfl⟩⟩))
      go_ret
      exact ⟨by first | rfl | (simp; done) | (simp [*]; done), by repeat (first | exact Drawn0.refl _ | apply Drawn0.step)⟩
    · replace c6 := Bool.eq_false_iff.mpr c6
      subst c6
      have H1 : (some true) = some r := by rw [if_neg (show ¬ (false = true) by decide)] at H; exact H
      clear H
      have H := H1
      clear H1
      obtain rfl := Option.some.inj H
      go_enter Tryz.func165, Tryz.ntmps165
      go_wp2_with (first | ((with_reducible refine gate_callee (f := 106) rfl ?_); refine goesL_ (some 6) rfl rfl Tryz.func106 (by kernel_rfl) rfl #[.string a0] rfl (by (try simp only [List.map_toArray, List.map_cons, List.map_nil]); first | done | rfl | (simp only [List.length_drop, List.length_take]; rfl)) ?_; (with_reducible refine (cmp_isNaN_string.calls a0 true _ A3.out).mono ?_); rintro e w' ⟨rfl, ⟨nd, rfl⟩⟩; refine ⟨_, rfl, ?_⟩) | (go_at_call 106; (with_reducible refine (cmp_isNaN_string.calls a1 false _ A5.out).mono ?_); rintro e w' ⟨rfl, ⟨nd, rfl⟩⟩))
      go_ret
      exact ⟨by first | rfl | (simp; done) | (simp [*]; done), by repeat (first | exact Drawn0.refl _ | apply Drawn0.step)⟩
  · replace c4 := Bool.eq_false_iff.mpr c4
    subst c4
    have H1 : (some (Op.bytesLess a0.toList a1.toList)) = some r := by rw [if_neg (show ¬ (false = true) by decide)] at H; exact H
    clear H
    have H := H1
    clear H1
    obtain rfl := Option.some.inj H
    go_enter Tryz.func165, Tryz.ntmps165
    go_wp2_with (first | ((with_reducible refine gate_callee (f := 106) rfl ?_); refine goesL_ (some 6) rfl rfl Tryz.func106 (by kernel_rfl) rfl #[.string a0] rfl (by (try simp only [List.map_toArray, List.map_cons, List.map_nil]); first | done | rfl | (simp only [List.length_drop, List.length_take]; rfl)) ?_; (with_reducible refine (cmp_isNaN_string.calls a0 false _ A3.out).mono ?_); rintro e w' ⟨rfl, ⟨nd, rfl⟩⟩; refine ⟨_, rfl, ?_⟩))
    go_ret
    exact ⟨by first | rfl | (simp; done) | (simp [*]; done), by repeat (first | exact Drawn0.refl _ | apply Drawn0.step)⟩

/-! ### slices_IsSorted_string_string: function 133 -/
def slices_IsSorted_string_string.l0 : Nat → List ByteArray → Int → Option (Bool)
  | 0, _, _ => none
  | k + 1, x0, x3 => if x3 > 0 then (if 0 ≤ x3 then (if x3 < (x0.length : Int) then (if 0 ≤ (wrap64 (x3 - 1)) then (if (wrap64 (x3 - 1)) < (x0.length : Int) then ((cmp_Less_string.f (rdOf ByteArray.empty x0 x3) (rdOf ByteArray.empty x0 (wrap64 (x3 - 1)))).bind fun t221 => (if t221 = true then (some false) else (slices_IsSorted_string_string.l0 k x0 (wrap64 (x3 - 1))))) else (none)) else (none)) else (none)) else (none)) else (some true)
def slices_IsSorted_string_string.f (k : Nat) (l0 : List ByteArray) : Option (Bool) := slices_IsSorted_string_string.l0 k l0 (wrap64 ((l0.length : Int) - 1))
theorem slices_IsSorted_string_string.mono_l : ∀ k, (∀ y0 y1, LeO (slices_IsSorted_string_string.l0 k y0 y1) (slices_IsSorted_string_string.l0 (k + 1) y0 y1))
  | 0 => fun _ _ r h => by simp [slices_IsSorted_string_string.l0] at h
  | k + 1 => by
    have ih0 := slices_IsSorted_string_string.mono_l k
    · intro y0 y1
      unfold slices_IsSorted_string_string.l0
      repeat' first
      | (with_reducible exact ih0 _ _)
      | (with_reducible exact LeO.refl _)
      | (with_reducible exact LeO.none _)
      | (with_reducible refine LeO.ite ?_ ?_)
      | (with_reducible refine LeO.bind ?_ (fun _ => ?_))
      | exact ih0 _ _
      | exact LeO.none _
      | refine LeO.ite ?_ ?_
      | refine LeO.bind ?_ (fun _ => ?_)
theorem slices_IsSorted_string_string.mono : ∀ a0 k, LeO (slices_IsSorted_string_string.f k a0) (slices_IsSorted_string_string.f (k + 1) a0) := by
  intro a0 k
  have ih0 := slices_IsSorted_string_string.mono_l k
  unfold slices_IsSorted_string_string.f
  repeat' first
      | (with_reducible exact ih0 _ _)
      | (with_reducible exact LeO.refl _)
      | (with_reducible exact LeO.none _)
      | (with_reducible refine LeO.ite ?_ ?_)
      | (with_reducible refine LeO.bind ?_ (fun _ => ?_))
      | exact ih0 _ _
      | exact LeO.none _
      | refine LeO.ite ?_ ?_
      | refine LeO.bind ?_ (fun _ => ?_)
set_option maxHeartbeats 8000000 in
set_option maxRecDepth 100000 in
theorem slices_IsSorted_string_string.calls (k : Nat) (A0 : Option Addr) (c0 : Nat) (l0 : List ByteArray) (r : Bool) (w : World) (hr0 : Kd.C Kd.string w A0 l0.length l0) (hc0 : l0.length ≤ c0) (h : slices_IsSorted_string_string.f k l0 = some r) :
    Calls Tryz.prog 133 #[.slice A0 l0.length c0] w fun e w' => e = .returned (.bool r) ∧ Drawn0 w w' := by
  have HR0 := Aside0.mk hr0
  have HC0 := Aside0.mk hc0
  clear hr0 hc0
  have H : (slices_IsSorted_string_string.l0 k l0 (wrap64 ((l0.length : Int) - 1))) = some r := h
  clear h
  have H' := Aside0.mk H
  clear H
  go_enter Tryz.func133, Tryz.ntmps133
  go_wp2
  repeat (go_quiet (fail); try go_wp2)
  go_loopg [3] k (fun kq v3 w' => ∃ (x3_1 : Int), v3 = .int .i64 x3_1 ∧ Aside0 (slices_IsSorted_string_string.l0 kq l0 x3_1 = some r) ∧ Aside0 (kq ≤ k) ∧ Drawn0 w w')
  case atStart => exact ⟨(wrap64 ((l0.length : Int) - 1)), (by first | rfl | (simp; done) | (simp [*]; done)), H', ⟨Nat.le_refl _⟩, by repeat (first | exact Drawn0.refl _ | apply Drawn0.step)⟩
  case round =>
    clear H'
    try clear c1
    obtain ⟨x3_1, rfl, HA, HK1, ⟨m1, rfl⟩⟩ := hrel
    cases gk with
    | zero => exact absurd HA.out (by simp [slices_IsSorted_string_string.l0])
    | succ k1 =>
      have H := HA.out
      clear HA
      simp only [slices_IsSorted_string_string.l0] at H
      by_cases c2 : x3_1 > 0
      · rw [if_pos c2] at H
        have c2b0 : decide (0 < x3_1) = true := decide_eq_true c2
        clear c2
        by_cases c3 : 0 ≤ x3_1
        · rw [if_pos c3] at H
          have c3b0 : decide (0 ≤ x3_1) = true := decide_eq_true c3
          clear c3
          by_cases c4 : x3_1 < (l0.length : Int)
          · rw [if_pos c4] at H
            have c4b0 : decide (x3_1 < (l0.length : Int)) = true := decide_eq_true c4
            clear c4
            obtain ⟨ji5, hji5⟩ : ∃ j_ : Int, (wrap64 (x3_1 - 1)) = j_ := ⟨_, rfl⟩
            replace H : (if 0 ≤ (ji5) then (if (ji5) < (l0.length : Int) then ((cmp_Less_string.f (rdOf ByteArray.empty l0 x3_1) (rdOf ByteArray.empty l0 (ji5))).bind fun t221 => (if t221 = true then (some false) else (slices_IsSorted_string_string.l0 k1 l0 ji5))) else (none)) else (none)) = some r := by first | (rw [hji5] at H; exact H) | (simp only [hji5] at H ⊢; exact H)
            have hji5w : (IntKind.i64.wrap (x3_1 - 1)) = ji5 := (i64_w _).trans hji5
            by_cases c6 : 0 ≤ (ji5)
            · rw [if_pos c6] at H
              have c6b0 : decide (0 ≤ (ji5)) = true := decide_eq_true c6
              clear c6
              by_cases c7 : (ji5) < (l0.length : Int)
              · rw [if_pos c7] at H
                have c7b0 : decide ((ji5) < (l0.length : Int)) = true := decide_eq_true c7
                clear c7
                replace H := Option.bind_eq_some_iff.mp H
                obtain ⟨t221, A80, H⟩ := H
                replace H : (if t221 = true then (some false) else (slices_IsSorted_string_string.l0 k1 l0 ji5)) = some r := H
                have A8 := Aside0.mk A80
                clear A80
                by_cases c9 : t221 = true
                · subst c9
                  have H1 : (some false) = some r := by rw [if_pos rfl] at H; exact H
                  clear H
                  have H := H1
                  clear H1
                  obtain rfl := Option.some.inj H
                  have p219 : 0 ≤ (x3_1 : Int) := of_decide_eq_true (by first | (with_reducible assumption) | assumption)
                  have q219 : x3_1 < (l0.length : Int) := of_decide_eq_true (by first | (with_reducible assumption) | assumption)
                  obtain ⟨ad219, e219, hx219_0⟩ := Kd.at_string HR0.out x3_1 p219 q219
                  cases e219
                  replace p219 := eq_true p219
                  replace q219 := eq_true q219
                  have p220 : 0 ≤ ((ji5) : Int) := of_decide_eq_true (by first | (with_reducible assumption) | assumption)
                  have q220 : (ji5) < (l0.length : Int) := of_decide_eq_true (by first | (with_reducible assumption) | assumption)
                  obtain ⟨ad220, e220, hx220_0⟩ := Kd.at_string HR0.out (ji5) p220 q220
                  obtain rfl : ad219 = ad220 := (by injection e220)
                  replace p220 := eq_true p220
                  replace q220 := eq_true q220
                  go_wp2_with (first | (go_at_call 165; (with_reducible refine (cmp_Less_string.calls (rdOf ByteArray.empty l0 x3_1) (rdOf ByteArray.empty l0 (ji5)) true _ A8.out).mono ?_); rintro e w' ⟨rfl, ⟨nd, rfl⟩⟩; (try first | exact ⟨rfl, _, World.drewN_drewN _ _ _⟩ | exact ⟨rfl, _, Eq.trans (World.drewN_drewN _ _ _) (congrArg (World.drewN _) (Nat.add_assoc _ _ _))⟩)))
                  repeat (go_quiet (first | (go_at_call 165; (with_reducible refine (cmp_Less_string.calls (rdOf ByteArray.empty l0 x3_1) (rdOf ByteArray.empty l0 (ji5)) true _ A8.out).mono ?_); rintro e w' ⟨rfl, ⟨nd, rfl⟩⟩; (try first | exact ⟨rfl, _, World.drewN_drewN _ _ _⟩ | exact ⟨rfl, _, Eq.trans (World.drewN_drewN _ _ _) (congrArg (World.drewN _) (Nat.add_assoc _ _ _))⟩))); try go_wp2_with (first | (go_at_call 165; (with_reducible refine (cmp_Less_string.calls (rdOf ByteArray.empty l0 x3_1) (rdOf ByteArray.empty l0 (ji5)) true _ A8.out).mono ?_); rintro e w' ⟨rfl, ⟨nd, rfl⟩⟩; (try first | exact ⟨rfl, _, World.drewN_drewN _ _ _⟩ | exact ⟨rfl, _, Eq.trans (World.drewN_drewN _ _ _) (congrArg (World.drewN _) (Nat.add_assoc _ _ _))⟩))))
                  go_ret
                  exact ⟨by first | rfl | (simp; done) | (simp only [← hji5] <;> (first | rfl | simp)) | (simp [*]; done), by repeat (first | exact Drawn0.refl _ | apply Drawn0.step)⟩
                · replace c9 := Bool.eq_false_iff.mpr c9
                  subst c9
                  have H1 : (slices_IsSorted_string_string.l0 k1 l0 ji5) = some r := by rw [if_neg (show ¬ (false = true) by decide)] at H; exact H
                  clear H
                  have H := H1
                  clear H1
                  have H' := Aside0.mk H
                  clear H
                  have p219 : 0 ≤ (x3_1 : Int) := of_decide_eq_true (by first | (with_reducible assumption) | assumption)
                  have q219 : x3_1 < (l0.length : Int) := of_decide_eq_true (by first | (with_reducible assumption) | assumption)
                  obtain ⟨ad219, e219, hx219_0⟩ := Kd.at_string HR0.out x3_1 p219 q219
                  cases e219
                  replace p219 := eq_true p219
                  replace q219 := eq_true q219
                  have p220 : 0 ≤ ((ji5) : Int) := of_decide_eq_true (by first | (with_reducible assumption) | assumption)
                  have q220 : (ji5) < (l0.length : Int) := of_decide_eq_true (by first | (with_reducible assumption) | assumption)
                  obtain ⟨ad220, e220, hx220_0⟩ := Kd.at_string HR0.out (ji5) p220 q220
                  obtain rfl : ad219 = ad220 := (by injection e220)
                  replace p220 := eq_true p220
                  replace q220 := eq_true q220
                  go_wp2_with (first | (go_at_call 165; (with_reducible refine (cmp_Less_string.calls (rdOf ByteArray.empty l0 x3_1) (rdOf ByteArray.empty l0 (ji5)) false _ A8.out).mono ?_); rintro e w' ⟨rfl, ⟨nd, rfl⟩⟩; (try first | exact ⟨rfl, _, World.drewN_drewN _ _ _⟩ | exact ⟨rfl, _, Eq.trans (World.drewN_drewN _ _ _) (congrArg (World.drewN _) (Nat.add_assoc _ _ _))⟩)))
                  repeat (go_quiet (first | (go_at_call 165; (with_reducible refine (cmp_Less_string.calls (rdOf ByteArray.empty l0 x3_1) (rdOf ByteArray.empty l0 (ji5)) false _ A8.out).mono ?_); rintro e w' ⟨rfl, ⟨nd, rfl⟩⟩; (try first | exact ⟨rfl, _, World.drewN_drewN _ _ _⟩ | exact ⟨rfl, _, Eq.trans (World.drewN_drewN _ _ _) (congrArg (World.drewN _) (Nat.add_assoc _ _ _))⟩))); try go_wp2_with (first | (go_at_call 165; (with_reducible refine (cmp_Less_string.calls (rdOf ByteArray.empty l0 x3_1) (rdOf ByteArray.empty l0 (ji5)) false _ A8.out).mono ?_); rintro e w' ⟨rfl, ⟨nd, rfl⟩⟩; (try first | exact ⟨rfl, _, World.drewN_drewN _ _ _⟩ | exact ⟨rfl, _, Eq.trans (World.drewN_drewN _ _ _) (congrArg (World.drewN _) (Nat.add_assoc _ _ _))⟩))))
                  go_roundg k1
                  case measure => have := HK1.out; omega
                  case rel => exact ⟨(ji5), (by first | rfl | (simp; done) | (simp only [← hji5] <;> (first | rfl | simp)) | (simp [*]; done)), H', ⟨by have := HK1.out; omega⟩, by repeat (first | exact Drawn0.refl _ | apply Drawn0.step)⟩
              · rw [if_neg c7] at H
                exact absurd H (by simp)
            · rw [if_neg c6] at H
              exact absurd H (by simp)
          · rw [if_neg c4] at H
            exact absurd H (by simp)
        · rw [if_neg c3] at H
          exact absurd H (by simp)
      · rw [if_neg c2] at H
        have c2b0 : decide (0 < x3_1) = false := decide_eq_false c2
        clear c2
        obtain rfl := Option.some.inj H
        go_wp2
        repeat (go_quiet (fail); try go_wp2)
        go_ret
        exact ⟨by first | rfl | (simp; done) | (simp [*]; done), by repeat (first | exact Drawn0.refl _ | apply Drawn0.step)⟩

/-! ### sort_StringsAreSorted: function 107 -/
def sort_StringsAreSorted.f (k : Nat) (l0 : List ByteArray) : Option (Bool) := (slices_IsSorted_string_string.f k l0).bind fun t222 => (some t222)
theorem sort_StringsAreSorted.mono : ∀ a0 k, LeO (sort_StringsAreSorted.f k a0) (sort_StringsAreSorted.f (k + 1) a0) := by
  intro a0 k
  unfold sort_StringsAreSorted.f
  repeat' first
      | (with_reducible exact slices_IsSorted_string_string.mono _ _)
      | (with_reducible exact LeO.refl _)
      | (with_reducible exact LeO.none _)
      | (with_reducible refine LeO.ite ?_ ?_)
      | (with_reducible refine LeO.bind ?_ (fun _ => ?_))
      | exact slices_IsSorted_string_string.mono _ _
      | exact LeO.none _
      | refine LeO.ite ?_ ?_
      | refine LeO.bind ?_ (fun _ => ?_)
set_option maxHeartbeats 8000000 in
set_option maxRecDepth 100000 in
theorem sort_StringsAreSorted.calls (k : Nat) (A0 : Option Addr) (c0 : Nat) (l0 : List ByteArray) (r : Bool) (w : World) (hr0 : Kd.C Kd.string w A0 l0.length l0) (hc0 : l0.length ≤ c0) (h : sort_StringsAreSorted.f k l0 = some r) :
    Calls Tryz.prog 107 #[.slice A0 l0.length c0] w fun e w' => e = .returned (.bool r) ∧ Drawn0 w w' := by
  have HR0 := Aside0.mk hr0
  have HC0 := Aside0.mk hc0
  clear hr0 hc0
  have H : ((slices_IsSorted_string_string.f k l0).bind fun t222 => (some t222)) = some r := h
  clear h
  replace H := Option.bind_eq_some_iff.mp H
  obtain ⟨t222, A20, H⟩ := H
  replace H : (some t222) = some r := H
  have A2 := Aside0.mk A20
  clear A20
  obtain rfl := Option.some.inj H
  go_enter Tryz.func107, Tryz.ntmps107
  go_wp2_with (first | ((with_reducible refine gate_callee (f := 133) rfl ?_); refine goesL_ (some 4) rfl rfl Tryz.func133 (by kernel_rfl) rfl #[.slice A0 l0.length c0] rfl (by (try simp only [List.map_toArray, List.map_cons, List.map_nil]); first | done | rfl | (simp only [List.length_drop, List.length_take]; rfl)) ?_; (with_reducible refine (slices_IsSorted_string_string.calls k _ _ l0 t222 _ ?side1 ?side2 A2.out).mono ?_); (case side1 => repeat (first | exact HR0.out | (with_reducible refine Kd.C_alloc ?_ _) | (with_reducible refine Kd.C_drewN ?_ _) | (with_reducible refine Kd.C_drew ?_))); (case side2 => exact HC0.out); rintro e w' ⟨rfl, ⟨nd, rfl⟩⟩; refine ⟨_, rfl, ?_⟩))
  go_ret
  exact ⟨by first | rfl | (simp; done) | (simp [*]; done), by repeat (first | exact Drawn0.refl _ | apply Drawn0.step)⟩

end Go.Proofs.YteigfmchnblkgaaGreatDoor.PFnReqText

/- sort.StringsAreSorted: what the printed functions say. -/
namespace Go.Proofs.YteigfmchnblkgaaGreatDoor.Hand
open Go.RowKit Go.Proofs.YteigfmchnblkgaaGreatDoorW.PrintWords Go.Proofs.YteigfmchnblkgaaGreatDoorW.PrintLast Go.Proofs.YteigfmchnblkgaaGreatDoorW.PrintMore Go.Proofs.YteigfmchnblkgaaGreatDoor.Base
open Go.Sort (ltStr)
open Go.Proofs.YteigfmchnblkgaaGreatDoor.PFnReqText
set_option linter.unusedVariables false
set_option linter.unusedSimpArgs false
set_option maxRecDepth 100000
end Go.Proofs.YteigfmchnblkgaaGreatDoor.Hand

/-
  DERIVED: THE SHELF's CONTRACTS AT THIS DUMP, IN PLAIN WORDS (tools/lay-plain.mjs out of 'TryzTrimT.lean', which tools/lay-shelf.mjs wrote): THE SAME DECLARATIONS UNDER THE SAME NAMES: 'import', 'namespace', 'open', 'def', 'theorem' AND NOTHING ELSE: no command of the shelf's: FOR A HAND-IN. Each laying: the table of numbers ('.._ren') and one theorem, a field a fact of the dump's own or the kernel's comparison; each contract: ONE APPLICATION.
-/
namespace Go.Proofs
open Go.Shelf
end Go.Proofs

/- sort.Strings over an owned row. -/
namespace Go.Proofs.YteigfmchnblkgaaGreatDoor.Hand
open Go.RowKit Go.Proofs.YteigfmchnblkgaaGreatDoorW.PrintWords Go.Proofs.YteigfmchnblkgaaGreatDoorW.PrintLast Go.Proofs.YteigfmchnblkgaaGreatDoorW.PrintMore Go.Proofs.YteigfmchnblkgaaGreatDoor.Base
open Go.Sort (Holds PermIn SortedIn putRow)
set_option linter.unusedVariables false
set_option linter.unusedSimpArgs false
set_option maxRecDepth 100000
end Go.Proofs.YteigfmchnblkgaaGreatDoor.Hand

/- labels.safeSort. -/
namespace Go.Proofs.YteigfmchnblkgaaGreatDoor.Hand
open Go.RowKit Go.Proofs.YteigfmchnblkgaaGreatDoorW.PrintWords Go.Proofs.YteigfmchnblkgaaGreatDoorW.PrintLast Go.Proofs.YteigfmchnblkgaaGreatDoorW.PrintMore Go.Proofs.YteigfmchnblkgaaGreatDoor.Base
set_option linter.unusedVariables false
set_option linter.unusedSimpArgs false
set_option maxRecDepth 100000
theorem ltStr_le {x y : L} : Sort.ltStr y x = false ↔ x ≤ y := by
  unfold Sort.ltStr; simp
end Go.Proofs.YteigfmchnblkgaaGreatDoor.Hand

/- Two ascending lists of the same texts are the same. -/
namespace Go.Proofs.YteigfmchnblkgaaGreatDoor.Hand
open Go.RowKit Go.Proofs.YteigfmchnblkgaaGreatDoorW.PrintWords Go.Proofs.YteigfmchnblkgaaGreatDoorW.PrintLast Go.Proofs.YteigfmchnblkgaaGreatDoorW.PrintMore Go.Proofs.YteigfmchnblkgaaGreatDoor.Base
theorem asc_unique {a b : List L} (h : a.Perm b) (ha : Asc a) (hb : Asc b) : a = b :=
  List.Perm.eq_of_pairwise (le := fun x y => Sort.ltStr y x = false) (fun _ _ _ _ h1 h2 => List.le_antisymm (ltStr_le.1 h1) (ltStr_le.1 h2)) ha hb h
theorem insS_asc {out : List L} {s : L} (h : Asc out) : Asc (insS out s) := by
  unfold insS
  split
  · exact h
  · have hle := posOf_le out s
    obtain ⟨p, hp⟩ : ∃ p, posOf out s = p := ⟨_, rfl⟩
    have h1 := posOf_lt out s
    have h2 := posOf_at out s
    rw [hp] at h1 h2 hle ⊢
    unfold Asc at h ⊢
    have hsp : (out.take p ++ out.drop p).Pairwise (fun x y => Sort.ltStr y x = false) := by rw [List.take_append_drop]; exact h
    rw [List.pairwise_append] at hsp
    obtain ⟨q1, q2, q3⟩ := hsp
    have htk : ∀ x ∈ out.take p, Sort.ltStr s x = false := fun x hx => by
      obtain ⟨k, hk, rfl⟩ := List.mem_iff_getElem.1 hx
      rw [List.length_take] at hk
      have := h1 k (by omega) (by omega)
      rw [List.getElem_take]
      unfold Sort.ltStr at this ⊢
      have h3 := of_decide_eq_true this
      exact decide_eq_false (List.le_of_lt h3)
    have hdr : ∀ x ∈ out.drop p, Sort.ltStr x s = false := fun x hx => by
      obtain ⟨k, hk, rfl⟩ := List.mem_iff_getElem.1 hx
      rw [List.length_drop] at hk
      have hp0 := h2 (by omega)
      rw [List.getElem_drop]
      rcases Nat.eq_zero_or_pos k with rfl | hk0
      · exact hp0
      · have := (List.pairwise_iff_getElem.1 h) p (p + k) (by omega) (by omega) (by omega)
        exact ltStr_le.2 (List.le_trans (ltStr_le.1 hp0) (ltStr_le.1 this))
    rw [List.pairwise_append]
    refine ⟨q1, List.pairwise_cons.2 ⟨hdr, q2⟩, fun x hx y hy => ?_⟩
    rcases List.mem_cons.1 hy with rfl | hy
    · exact htk x hx
    · exact q3 x hx y hy
theorem insS_perm {out : List L} {s : L} (h : (insS out s).length = out.length + 1) : (insS out s).Perm (s :: out) := by
  unfold insS at h ⊢
  split
  · rename_i h1; rw [if_pos h1] at h; omega
  · refine List.perm_middle.trans ?_
    rw [List.take_append_drop]
theorem foldl_perm : ∀ (l out : List L), Asc out → Asc (l.foldl insS out) ∧ (l.foldl insS out).length ≤ out.length + l.length ∧ ((l.foldl insS out).length = out.length + l.length → (l.foldl insS out).Perm (out ++ l))
  | [], out, h => ⟨h, by simp, fun _ => by simp⟩
  | s :: l, out, h => by
    obtain ⟨h1, h2, h3⟩ := foldl_perm l (insS out s) (insS_asc h)
    have h4 := insS_len out s
    refine ⟨h1, by simp only [List.foldl_cons, List.length_cons]; omega, fun he => ?_⟩
    simp only [List.foldl_cons, List.length_cons] at he ⊢
    refine (h3 (by omega)).trans ?_
    refine ((insS_perm (by omega)).append_right l).trans ?_
    simp only [List.cons_append]
    exact List.perm_middle.symm
end Go.Proofs.YteigfmchnblkgaaGreatDoor.Hand
