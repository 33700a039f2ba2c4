/- Functions of the program as Lean functions, with their contracts (the lines are print.sh's): cmp_isNaN_string, cmp_Less_string, slices_IsSorted_string_string, sort_StringsAreSorted. -/
import Derived.Test.YthfjolafikgpoaaGreatDoorLRM4
import Derived.Test.YthfjolafikgpoaaGreatDoorLRM17
import Derived.Test.YthfjolafikgpoaaGreatDoorLRM14
import Derived.Shelf.Sort.Plain
import Derived.Shelf.Slices.In.SortNone2
import Derived.Test.YthfjolafikgpoaaGreatDoorProg
import Derived.Test.YthfjolafikgpoaaGreatDoorLRGSetA
import Derived.Test.YthfjolafikgpoaaGreatDoorLRM16
namespace Go.Proofs.YthfjolafikgpoaaGreatDoor.PFnSelDecidesLabels
open Go.RowKit Go.Proofs.YthfjolafikgpoaaGreatDoorW.PrintWords Go.Proofs.YthfjolafikgpoaaGreatDoorW.PrintLast Go.Proofs.YthfjolafikgpoaaGreatDoorW.PrintMore
set_option linter.unusedVariables false
set_option linter.unusedSimpArgs false


/-! ### cmp_isNaN_string: function 114 -/
def cmp_isNaN_string.f (a0 : ByteArray) : Option (Bool) := some (a0.toList != a0.toList)
set_option maxHeartbeats 8000000 in
set_option maxRecDepth 100000 in
theorem cmp_isNaN_string.calls (a0 : ByteArray) (r : Bool) (w : World) (h : cmp_isNaN_string.f a0 = some r) :
    Calls Tryz.prog 114 #[.string a0] w fun e w' => e = .returned (.bool r) ∧ Drawn0 w w' := by
  have H : (some (a0.toList != a0.toList)) = some r := h
  clear h
  obtain rfl := Option.some.inj H
  go_enter Tryz.func114, Tryz.ntmps114
  go_wp2
  go_ret
  exact ⟨by first | rfl | (simp; done) | (simp [*]; done), by repeat (first | exact Drawn0.refl _ | apply Drawn0.step)⟩

/-! ### cmp_Less_string: function 227 -/
def cmp_Less_string.f (a0 : ByteArray) (a1 : ByteArray) : Option (Bool) := (cmp_isNaN_string.f a0).bind fun t217 => (if t217 = true then ((cmp_isNaN_string.f a1).bind fun t218 => (if t218 = true then (some (Op.bytesLess a0.toList a1.toList)) else (some true))) else (some (Op.bytesLess a0.toList a1.toList)))
set_option maxHeartbeats 8000000 in
set_option maxRecDepth 100000 in
theorem cmp_Less_string.calls (a0 : ByteArray) (a1 : ByteArray) (r : Bool) (w : World) (h : cmp_Less_string.f a0 a1 = some r) :
    Calls Tryz.prog 227 #[.string a0, .string a1] w fun e w' => e = .returned (.bool r) ∧ Drawn0 w w' := by
  have H : ((cmp_isNaN_string.f a0).bind fun t217 => (if t217 = true then ((cmp_isNaN_string.f a1).bind fun t218 => (if t218 = true then (some (Op.bytesLess a0.toList a1.toList)) else (some true))) else (some (Op.bytesLess a0.toList a1.toList)))) = some r := h
  clear h
  replace H := Option.bind_eq_some_iff.mp H
  obtain ⟨t217, A30, H⟩ := H
  replace H : (if t217 = true then ((cmp_isNaN_string.f a1).bind fun t218 => (if t218 = true then (some (Op.bytesLess a0.toList a1.toList)) else (some true))) else (some (Op.bytesLess a0.toList a1.toList))) = some r := H
  have A3 := Aside0.mk A30
  clear A30
  by_cases c4 : t217 = true
  · subst c4
    have H1 : ((cmp_isNaN_string.f a1).bind fun t218 => (if t218 = true then (some (Op.bytesLess a0.toList a1.toList)) else (some true))) = some r := by rw [if_pos rfl] at H; exact H
    clear H
    have H := H1
    clear H1
    replace H := Option.bind_eq_some_iff.mp H
    obtain ⟨t218, A50, H⟩ := H
    replace H : (if t218 = true then (some (Op.bytesLess a0.toList a1.toList)) else (some true)) = some r := H
    have A5 := Aside0.mk A50
    clear A50
    by_cases c6 : t218 = true
    · subst c6
      have H1 : (some (Op.bytesLess a0.toList a1.toList)) = some r := by rw [if_pos rfl] at H; exact H
      clear H
      have H := H1
      clear H1
      obtain rfl := Option.some.inj H
      go_enter Tryz.func227, Tryz.ntmps227
      go_wp2_with (first | ((with_reducible refine gate_callee (f := 114) rfl ?_); refine goesL_ (some 6) rfl rfl Tryz.func114 (by kernel_rfl) rfl #[.string a0] rfl (by (try simp only [List.map_toArray, List.map_cons, List.map_nil]); first | done | rfl | (simp only [List.length_drop, List.length_take]; rfl)) ?_; (with_reducible refine (cmp_isNaN_string.calls a0 true _ A3.out).mono ?_); rintro e w' ⟨rfl, ⟨nd, rfl⟩⟩; refine ⟨_, rfl, ?_⟩) | (go_at_call 114; (with_reducible refine (cmp_isNaN_string.calls a1 true _ A5.out).mono ?_); rintro e w' ⟨rfl, ⟨nd, rfl⟩⟩))
      go_ret
      exact ⟨by first | rfl | (simp; done) | (simp [*]; done), by repeat (first | exact Drawn0.refl _ | apply Drawn0.step)⟩
    · replace c6 := Bool.eq_false_iff.mpr c6
      subst c6
      have H1 : (some true) = some r := by rw [if_neg (show ¬ (false = true) by decide)] at H; exact H
      clear H
      have H := H1
      clear H1
      obtain rfl := Option.some.inj H
      go_enter Tryz.func227, Tryz.ntmps227
      go_wp2_with (first | ((with_reducible refine gate_callee (f := 114) rfl ?_); refine goesL_ (some 6) rfl rfl Tryz.func114 (by kernel_rfl) rfl #[.string a0] rfl (by (try simp only [List.map_toArray, List.map_cons, List.map_nil]); first | done | rfl | (simp only [List.length_drop, List.length_take]; rfl)) ?_; (with_reducible refine (cmp_isNaN_string.calls a0 true _ A3.out).mono ?_); rintro e w' ⟨rfl, ⟨nd, rfl⟩⟩; refine ⟨_, rfl, ?_⟩) | (go_at_call 114; (with_reducible refine (cmp_isNaN_string.calls a1 false _ A5.out).mono ?_); rintro e w' ⟨rfl, ⟨nd, rfl⟩⟩))
      go_ret
      exact ⟨by first | rfl | (simp; done) | (simp [*]; done), by repeat (first | exact Drawn0.refl _ | apply Drawn0.step)⟩
  · replace c4 := Bool.eq_false_iff.mpr c4
    subst c4
    have H1 : (some (Op.bytesLess a0.toList a1.toList)) = some r := by rw [if_neg (show ¬ (false = true) by decide)] at H; exact H
    clear H
    have H := H1
    clear H1
    obtain rfl := Option.some.inj H
    go_enter Tryz.func227, Tryz.ntmps227
    go_wp2_with (first | ((with_reducible refine gate_callee (f := 114) rfl ?_); refine goesL_ (some 6) rfl rfl Tryz.func114 (by kernel_rfl) rfl #[.string a0] rfl (by (try simp only [List.map_toArray, List.map_cons, List.map_nil]); first | done | rfl | (simp only [List.length_drop, List.length_take]; rfl)) ?_; (with_reducible refine (cmp_isNaN_string.calls a0 false _ A3.out).mono ?_); rintro e w' ⟨rfl, ⟨nd, rfl⟩⟩; refine ⟨_, rfl, ?_⟩))
    go_ret
    exact ⟨by first | rfl | (simp; done) | (simp [*]; done), by repeat (first | exact Drawn0.refl _ | apply Drawn0.step)⟩

/-! ### slices_IsSorted_string_string: function 225 -/
def slices_IsSorted_string_string.l0 : Nat → List ByteArray → Int → Option (Bool)
  | 0, _, _ => none
  | k + 1, x0, x3 => if x3 > 0 then (if 0 ≤ x3 then (if x3 < (x0.length : Int) then (if 0 ≤ (wrap64 (x3 - 1)) then (if (wrap64 (x3 - 1)) < (x0.length : Int) then ((cmp_Less_string.f (rdOf ByteArray.empty x0 x3) (rdOf ByteArray.empty x0 (wrap64 (x3 - 1)))).bind fun t221 => (if t221 = true then (some false) else (slices_IsSorted_string_string.l0 k x0 (wrap64 (x3 - 1))))) else (none)) else (none)) else (none)) else (none)) else (some true)
def slices_IsSorted_string_string.f (k : Nat) (l0 : List ByteArray) : Option (Bool) := slices_IsSorted_string_string.l0 k l0 (wrap64 ((l0.length : Int) - 1))
theorem slices_IsSorted_string_string.mono_l : ∀ k, (∀ y0 y1, LeO (slices_IsSorted_string_string.l0 k y0 y1) (slices_IsSorted_string_string.l0 (k + 1) y0 y1))
  | 0 => fun _ _ r h => by simp [slices_IsSorted_string_string.l0] at h
  | k + 1 => by
    have ih0 := slices_IsSorted_string_string.mono_l k
    · intro y0 y1
      unfold slices_IsSorted_string_string.l0
      repeat' first
      | (with_reducible exact ih0 _ _)
      | (with_reducible exact LeO.refl _)
      | (with_reducible exact LeO.none _)
      | (with_reducible refine LeO.ite ?_ ?_)
      | (with_reducible refine LeO.bind ?_ (fun _ => ?_))
      | exact ih0 _ _
      | exact LeO.none _
      | refine LeO.ite ?_ ?_
      | refine LeO.bind ?_ (fun _ => ?_)
theorem slices_IsSorted_string_string.mono : ∀ a0 k, LeO (slices_IsSorted_string_string.f k a0) (slices_IsSorted_string_string.f (k + 1) a0) := by
  intro a0 k
  have ih0 := slices_IsSorted_string_string.mono_l k
  unfold slices_IsSorted_string_string.f
  repeat' first
      | (with_reducible exact ih0 _ _)
      | (with_reducible exact LeO.refl _)
      | (with_reducible exact LeO.none _)
      | (with_reducible refine LeO.ite ?_ ?_)
      | (with_reducible refine LeO.bind ?_ (fun _ => ?_))
      | exact ih0 _ _
      | exact LeO.none _
      | refine LeO.ite ?_ ?_
      | refine LeO.bind ?_ (fun _ => ?_)
set_option maxHeartbeats 8000000 in
set_option maxRecDepth 100000 in
theorem slices_IsSorted_string_string.calls (k : Nat) (A0 : Option Addr) (c0 : Nat) (l0 : List ByteArray) (r : Bool) (w : World) (hr0 : Kd.C Kd.string w A0 l0.length l0) (hc0 : l0.length ≤ c0) (h : slices_IsSorted_string_string.f k l0 = some r) :
    Calls Tryz.prog 225 #[.slice A0 l0.length c0] w fun e w' => e = .returned (.bool r) ∧ Drawn0 w w' := by
  have HR0 := Aside0.mk hr0
  have HC0 := Aside0.mk hc0
  clear hr0 hc0
  have H : (slices_IsSorted_string_string.l0 k l0 (wrap64 ((l0.length : Int) - 1))) = some r := h
  clear h
  have H' := Aside0.mk H
  clear H
  go_enter Tryz.func225, Tryz.ntmps225
  go_wp2
  repeat (go_quiet (fail); try go_wp2)
  go_loopg [3] k (fun kq v3 w' => ∃ (x3_1 : Int), v3 = .int .i64 x3_1 ∧ Aside0 (slices_IsSorted_string_string.l0 kq l0 x3_1 = some r) ∧ Aside0 (kq ≤ k) ∧ Drawn0 w w')
  case atStart => exact ⟨(wrap64 ((l0.length : Int) - 1)), (by first | rfl | (simp; done) | (simp [*]; done)), H', ⟨Nat.le_refl _⟩, by repeat (first | exact Drawn0.refl _ | apply Drawn0.step)⟩
  case round =>
    clear H'
    try clear c1
    obtain ⟨x3_1, rfl, HA, HK1, ⟨m1, rfl⟩⟩ := hrel
    cases gk with
    | zero => exact absurd HA.out (by simp [slices_IsSorted_string_string.l0])
    | succ k1 =>
      have H := HA.out
      clear HA
      simp only [slices_IsSorted_string_string.l0] at H
      by_cases c2 : x3_1 > 0
      · rw [if_pos c2] at H
        have c2b0 : decide (0 < x3_1) = true := decide_eq_true c2
        clear c2
        by_cases c3 : 0 ≤ x3_1
        · rw [if_pos c3] at H
          have c3b0 : decide (0 ≤ x3_1) = true := decide_eq_true c3
          clear c3
          by_cases c4 : x3_1 < (l0.length : Int)
          · rw [if_pos c4] at H
            have c4b0 : decide (x3_1 < (l0.length : Int)) = true := decide_eq_true c4
            clear c4
            obtain ⟨ji5, hji5⟩ : ∃ j_ : Int, (wrap64 (x3_1 - 1)) = j_ := ⟨_, rfl⟩
            replace H : (if 0 ≤ (ji5) then (if (ji5) < (l0.length : Int) then ((cmp_Less_string.f (rdOf ByteArray.empty l0 x3_1) (rdOf ByteArray.empty l0 (ji5))).bind fun t221 => (if t221 = true then (some false) else (slices_IsSorted_string_string.l0 k1 l0 ji5))) else (none)) else (none)) = some r := by first | (rw [hji5] at H; exact H) | (simp only [hji5] at H ⊢; exact H)
            have hji5w : (IntKind.i64.wrap (x3_1 - 1)) = ji5 := (i64_w _).trans hji5
            by_cases c6 : 0 ≤ (ji5)
            · rw [if_pos c6] at H
              have c6b0 : decide (0 ≤ (ji5)) = true := decide_eq_true c6
              clear c6
              by_cases c7 : (ji5) < (l0.length : Int)
              · rw [if_pos c7] at H
                have c7b0 : decide ((ji5) < (l0.length : Int)) = true := decide_eq_true c7
                clear c7
                replace H := Option.bind_eq_some_iff.mp H
                obtain ⟨t221, A80, H⟩ := H
                replace H : (if t221 = true then (some false) else (slices_IsSorted_string_string.l0 k1 l0 ji5)) = some r := H
                have A8 := Aside0.mk A80
                clear A80
                by_cases c9 : t221 = true
                · subst c9
                  have H1 : (some false) = some r := by rw [if_pos rfl] at H; exact H
                  clear H
                  have H := H1
                  clear H1
                  obtain rfl := Option.some.inj H
                  have p219 : 0 ≤ (x3_1 : Int) := of_decide_eq_true (by first | (with_reducible assumption) | assumption)
                  have q219 : x3_1 < (l0.length : Int) := of_decide_eq_true (by first | (with_reducible assumption) | assumption)
                  obtain ⟨ad219, e219, hx219_0⟩ := Kd.at_string HR0.out x3_1 p219 q219
                  cases e219
                  replace p219 := eq_true p219
                  replace q219 := eq_true q219
                  have p220 : 0 ≤ ((ji5) : Int) := of_decide_eq_true (by first | (with_reducible assumption) | assumption)
                  have q220 : (ji5) < (l0.length : Int) := of_decide_eq_true (by first | (with_reducible assumption) | assumption)
                  obtain ⟨ad220, e220, hx220_0⟩ := Kd.at_string HR0.out (ji5) p220 q220
                  obtain rfl : ad219 = ad220 := (by injection e220)
                  replace p220 := eq_true p220
                  replace q220 := eq_true q220
                  go_wp2_with (first | (go_at_call 227; (with_reducible refine (cmp_Less_string.calls (rdOf ByteArray.empty l0 x3_1) (rdOf ByteArray.empty l0 (ji5)) true _ A8.out).mono ?_); rintro e w' ⟨rfl, ⟨nd, rfl⟩⟩; (try first | exact ⟨rfl, _, World.drewN_drewN _ _ _⟩ | exact ⟨rfl, _, Eq.trans (World.drewN_drewN _ _ _) (congrArg (World.drewN _) (Nat.add_assoc _ _ _))⟩)))
                  repeat (go_quiet (first | (go_at_call 227; (with_reducible refine (cmp_Less_string.calls (rdOf ByteArray.empty l0 x3_1) (rdOf ByteArray.empty l0 (ji5)) true _ A8.out).mono ?_); rintro e w' ⟨rfl, ⟨nd, rfl⟩⟩; (try first | exact ⟨rfl, _, World.drewN_drewN _ _ _⟩ | exact ⟨rfl, _, Eq.trans (World.drewN_drewN _ _ _) (congrArg (World.drewN _) (Nat.add_assoc _ _ _))⟩))); try go_wp2_with (first | (go_at_call 227; (with_reducible refine (cmp_Less_string.calls (rdOf ByteArray.empty l0 x3_1) (rdOf ByteArray.empty l0 (ji5)) true _ A8.out).mono ?_); rintro e w' ⟨rfl, ⟨nd, rfl⟩⟩; (try first | exact ⟨rfl, _, World.drewN_drewN _ _ _⟩ | exact ⟨rfl, _, Eq.trans (World.drewN_drewN _ _ _) (congrArg (World.drewN _) (Nat.add_assoc _ _ _))⟩))))
                  go_ret
                  exact ⟨by first | rfl | (simp; done) | (simp only [← hji5] <;> (first | rfl | simp)) | (simp [*]; done), by repeat (first | exact Drawn0.refl _ | apply Drawn0.step)⟩
                · replace c9 := Bool.eq_false_iff.mpr c9
                  subst c9
                  have H1 : (slices_IsSorted_string_string.l0 k1 l0 ji5) = some r := by rw [if_neg (show ¬ (false = true) by decide)] at H; exact H
                  clear H
                  have H := H1
                  clear H1
                  have H' := Aside0.mk H
                  clear H
                  have p219 : 0 ≤ (x3_1 : Int) := of_decide_eq_true (by first | (with_reducible assumption) | assumption)
                  have q219 : x3_1 < (l0.length : Int) := of_decide_eq_true (by first | (with_reducible assumption) | assumption)
                  obtain ⟨ad219, e219, hx219_0⟩ := Kd.at_string HR0.out x3_1 p219 q219
                  cases e219
                  replace p219 := eq_true p219
                  replace q219 := eq_true q219
                  have p220 : 0 ≤ ((ji5) : Int) := of_decide_eq_true (by first | (with_reducible assumption) | assumption)
                  have q220 : (ji5) < (l0.length : Int) := of_decide_eq_true (by first | (with_reducible assumption) | assumption)
                  obtain ⟨ad220, e220, hx220_0⟩ := Kd.at_string HR0.out (ji5) p220 q220
                  obtain rfl : ad219 = ad220 := (by injection e220)
                  replace p220 := eq_true p220
                  replace q220 := eq_true q220
                  go_wp2_with (first | (go_at_call 227; (with_reducible refine (cmp_Less_string.calls (rdOf ByteArray.empty l0 x3_1) (rdOf ByteArray.empty l0 (ji5)) false _ A8.out).mono ?_); rintro e w' ⟨rfl, ⟨nd, rfl⟩⟩; (try first | exact ⟨rfl, _, World.drewN_drewN _ _ _⟩ | exact ⟨rfl, _, Eq.trans (World.drewN_drewN _ _ _) (congrArg (World.drewN _) (Nat.add_assoc _ _ _))⟩)))
                  repeat (go_quiet (first | (go_at_call 227; (with_reducible refine (cmp_Less_string.calls (rdOf ByteArray.empty l0 x3_1) (rdOf ByteArray.empty l0 (ji5)) false _ A8.out).mono ?_); rintro e w' ⟨rfl, ⟨nd, rfl⟩⟩; (try first | exact ⟨rfl, _, World.drewN_drewN _ _ _⟩ | exact ⟨rfl, _, Eq.trans (World.drewN_drewN _ _ _) (congrArg (World.drewN _) (Nat.add_assoc _ _ _))⟩))); try go_wp2_with (first | (go_at_call 227; (with_reducible refine (cmp_Less_string.calls (rdOf ByteArray.empty l0 x3_1) (rdOf ByteArray.empty l0 (ji5)) false _ A8.out).mono ?_); rintro e w' ⟨rfl, ⟨nd, rfl⟩⟩; (try first | exact ⟨rfl, _, World.drewN_drewN _ _ _⟩ | exact ⟨rfl, _, Eq.trans (World.drewN_drewN _ _ _) (congrArg (World.drewN _) (Nat.add_assoc _ _ _))⟩))))
                  go_roundg k1
                  case measure => have := HK1.out; omega
                  case rel => exact ⟨(ji5), (by first | rfl | (simp; done) | (simp only [← hji5] <;> (first | rfl | simp)) | (simp [*]; done)), H', ⟨by have := HK1.out; omega⟩, by repeat (first | exact Drawn0.refl _ | apply Drawn0.step)⟩
              · rw [if_neg c7] at H
                exact absurd H (by simp)
            · rw [if_neg c6] at H
              exact absurd H (by simp)
          · rw [if_neg c4] at H
            exact absurd H (by simp)
        · rw [if_neg c3] at H
          exact absurd H (by simp)
      · rw [if_neg c2] at H
        have c2b0 : decide (0 < x3_1) = false := decide_eq_false c2
        clear c2
        obtain rfl := Option.some.inj H
        go_wp2
        repeat (go_quiet (fail); try go_wp2)
        go_ret
        exact ⟨by first | rfl | (simp; done) | (simp [*]; done), by repeat (first | exact Drawn0.refl _ | apply Drawn0.step)⟩

/-! ### sort_StringsAreSorted: function 223 -/
def sort_StringsAreSorted.f (k : Nat) (l0 : List ByteArray) : Option (Bool) := (slices_IsSorted_string_string.f k l0).bind fun t222 => (some t222)
theorem sort_StringsAreSorted.mono : ∀ a0 k, LeO (sort_StringsAreSorted.f k a0) (sort_StringsAreSorted.f (k + 1) a0) := by
  intro a0 k
  unfold sort_StringsAreSorted.f
  repeat' first
      | (with_reducible exact slices_IsSorted_string_string.mono _ _)
      | (with_reducible exact LeO.refl _)
      | (with_reducible exact LeO.none _)
      | (with_reducible refine LeO.ite ?_ ?_)
      | (with_reducible refine LeO.bind ?_ (fun _ => ?_))
      | exact slices_IsSorted_string_string.mono _ _
      | exact LeO.none _
      | refine LeO.ite ?_ ?_
      | refine LeO.bind ?_ (fun _ => ?_)
set_option maxHeartbeats 8000000 in
set_option maxRecDepth 100000 in
theorem sort_StringsAreSorted.calls (k : Nat) (A0 : Option Addr) (c0 : Nat) (l0 : List ByteArray) (r : Bool) (w : World) (hr0 : Kd.C Kd.string w A0 l0.length l0) (hc0 : l0.length ≤ c0) (h : sort_StringsAreSorted.f k l0 = some r) :
    Calls Tryz.prog 223 #[.slice A0 l0.length c0] w fun e w' => e = .returned (.bool r) ∧ Drawn0 w w' := by
  have HR0 := Aside0.mk hr0
  have HC0 := Aside0.mk hc0
  clear hr0 hc0
  have H : ((slices_IsSorted_string_string.f k l0).bind fun t222 => (some t222)) = some r := h
  clear h
  replace H := Option.bind_eq_some_iff.mp H
  obtain ⟨t222, A20, H⟩ := H
  replace H : (some t222) = some r := H
  have A2 := Aside0.mk A20
  clear A20
  obtain rfl := Option.some.inj H
  go_enter Tryz.func223, Tryz.ntmps223
  go_wp2_with (first | ((with_reducible refine gate_callee (f := 225) rfl ?_); refine goesL_ (some 4) rfl rfl Tryz.func225 (by kernel_rfl) rfl #[.slice A0 l0.length c0] rfl (by (try simp only [List.map_toArray, List.map_cons, List.map_nil]); first | done | rfl | (simp only [List.length_drop, List.length_take]; rfl)) ?_; (with_reducible refine (slices_IsSorted_string_string.calls k _ _ l0 t222 _ ?side1 ?side2 A2.out).mono ?_); (case side1 => repeat (first | exact HR0.out | (with_reducible refine Kd.C_alloc ?_ _) | (with_reducible refine Kd.C_drewN ?_ _) | (with_reducible refine Kd.C_drew ?_))); (case side2 => exact HC0.out); rintro e w' ⟨rfl, ⟨nd, rfl⟩⟩; refine ⟨_, rfl, ?_⟩))
  go_ret
  exact ⟨by first | rfl | (simp; done) | (simp [*]; done), by repeat (first | exact Drawn0.refl _ | apply Drawn0.step)⟩

end Go.Proofs.YthfjolafikgpoaaGreatDoor.PFnSelDecidesLabels

/- sort.StringsAreSorted: what the printed functions say. -/
namespace Go.Proofs.YthfjolafikgpoaaGreatDoor.Hand
open Go.RowKit Go.Proofs.YthfjolafikgpoaaGreatDoorW.PrintWords Go.Proofs.YthfjolafikgpoaaGreatDoorW.PrintLast Go.Proofs.YthfjolafikgpoaaGreatDoorW.PrintMore Go.Proofs.YthfjolafikgpoaaGreatDoor.Base
open Go.Sort (ltStr)
open Go.Proofs.YthfjolafikgpoaaGreatDoor.PFnSelDecidesLabels
set_option linter.unusedVariables false
set_option linter.unusedSimpArgs false
set_option maxRecDepth 100000
end Go.Proofs.YthfjolafikgpoaaGreatDoor.Hand

/-
  DERIVED: THE SHELF's CONTRACTS AT THIS DUMP, IN PLAIN WORDS (tools/lay-plain.mjs out of 'TryzTrimT.lean', which tools/lay-shelf.mjs wrote): THE SAME DECLARATIONS UNDER THE SAME NAMES: 'import', 'namespace', 'open', 'def', 'theorem' AND NOTHING ELSE: no command of the shelf's: FOR A HAND-IN. Each laying: the table of numbers ('.._ren') and one theorem, a field a fact of the dump's own or the kernel's comparison; each contract: ONE APPLICATION.
-/
namespace Go.Proofs
open Go.Shelf
end Go.Proofs

/- sort.Strings over an owned row. -/
namespace Go.Proofs.YthfjolafikgpoaaGreatDoor.Hand
open Go.RowKit Go.Proofs.YthfjolafikgpoaaGreatDoorW.PrintWords Go.Proofs.YthfjolafikgpoaaGreatDoorW.PrintLast Go.Proofs.YthfjolafikgpoaaGreatDoorW.PrintMore Go.Proofs.YthfjolafikgpoaaGreatDoor.Base
open Go.Sort (Holds PermIn SortedIn putRow)
set_option linter.unusedVariables false
set_option linter.unusedSimpArgs false
set_option maxRecDepth 100000
end Go.Proofs.YthfjolafikgpoaaGreatDoor.Hand

/- labels.safeSort. -/
namespace Go.Proofs.YthfjolafikgpoaaGreatDoor.Hand
open Go.RowKit Go.Proofs.YthfjolafikgpoaaGreatDoorW.PrintWords Go.Proofs.YthfjolafikgpoaaGreatDoorW.PrintLast Go.Proofs.YthfjolafikgpoaaGreatDoorW.PrintMore Go.Proofs.YthfjolafikgpoaaGreatDoor.Base
set_option linter.unusedVariables false
set_option linter.unusedSimpArgs false
set_option maxRecDepth 100000
theorem ltStr_le {x y : L} : Sort.ltStr y x = false ↔ x ≤ y := by
  unfold Sort.ltStr; simp
end Go.Proofs.YthfjolafikgpoaaGreatDoor.Hand

/- Two ascending lists of the same texts are the same. -/
namespace Go.Proofs.YthfjolafikgpoaaGreatDoor.Hand
open Go.RowKit Go.Proofs.YthfjolafikgpoaaGreatDoorW.PrintWords Go.Proofs.YthfjolafikgpoaaGreatDoorW.PrintLast Go.Proofs.YthfjolafikgpoaaGreatDoorW.PrintMore Go.Proofs.YthfjolafikgpoaaGreatDoor.Base
theorem asc_unique {a b : List L} (h : a.Perm b) (ha : Asc a) (hb : Asc b) : a = b :=
  List.Perm.eq_of_pairwise (le := fun x y => Sort.ltStr y x = false) (fun _ _ _ _ h1 h2 => List.le_antisymm (ltStr_le.1 h1) (ltStr_le.1 h2)) ha hb h
theorem insS_asc {out : List L} {s : L} (h : Asc out) : Asc (insS out s) := by
  unfold insS
  split
  · exact h
  · have hle := posOf_le out s
    obtain ⟨p, hp⟩ : ∃ p, posOf out s = p := ⟨_, rfl⟩
    have h1 := posOf_lt out s
    have h2 := posOf_at out s
    rw [hp] at h1 h2 hle ⊢
    unfold Asc at h ⊢
    have hsp : (out.take p ++ out.drop p).Pairwise (fun x y => Sort.ltStr y x = false) := by rw [List.take_append_drop]; exact h
    rw [List.pairwise_append] at hsp
    obtain ⟨q1, q2, q3⟩ := hsp
    have htk : ∀ x ∈ out.take p, Sort.ltStr s x = false := fun x hx => by
      obtain ⟨k, hk, rfl⟩ := List.mem_iff_getElem.1 hx
      rw [List.length_take] at hk
      have := h1 k (by omega) (by omega)
      rw [List.getElem_take]
      unfold Sort.ltStr at this ⊢
      have h3 := of_decide_eq_true this
      exact decide_eq_false (List.le_of_lt h3)
    have hdr : ∀ x ∈ out.drop p, Sort.ltStr x s = false := fun x hx => by
      obtain ⟨k, hk, rfl⟩ := List.mem_iff_getElem.1 hx
      rw [List.length_drop] at hk
      have hp0 := h2 (by omega)
      rw [List.getElem_drop]
      rcases Nat.eq_zero_or_pos k with rfl | hk0
      · exact hp0
      · have := (List.pairwise_iff_getElem.1 h) p (p + k) (by omega) (by omega) (by omega)
        exact ltStr_le.2 (List.le_trans (ltStr_le.1 hp0) (ltStr_le.1 this))
    rw [List.pairwise_append]
    refine ⟨q1, List.pairwise_cons.2 ⟨hdr, q2⟩, fun x hx y hy => ?_⟩
    rcases List.mem_cons.1 hy with rfl | hy
    · exact htk x hx
    · exact q3 x hx y hy
theorem insS_perm {out : List L} {s : L} (h : (insS out s).length = out.length + 1) : (insS out s).Perm (s :: out) := by
  unfold insS at h ⊢
  split
  · rename_i h1; rw [if_pos h1] at h; omega
  · refine List.perm_middle.trans ?_
    rw [List.take_append_drop]
theorem foldl_perm : ∀ (l out : List L), Asc out → Asc (l.foldl insS out) ∧ (l.foldl insS out).length ≤ out.length + l.length ∧ ((l.foldl insS out).length = out.length + l.length → (l.foldl insS out).Perm (out ++ l))
  | [], out, h => ⟨h, by simp, fun _ => by simp⟩
  | s :: l, out, h => by
    obtain ⟨h1, h2, h3⟩ := foldl_perm l (insS out s) (insS_asc h)
    have h4 := insS_len out s
    refine ⟨h1, by simp only [List.foldl_cons, List.length_cons]; omega, fun he => ?_⟩
    simp only [List.foldl_cons, List.length_cons] at he ⊢
    refine (h3 (by omega)).trans ?_
    refine ((insS_perm (by omega)).append_right l).trans ?_
    simp only [List.cons_append]
    exact List.perm_middle.symm
end Go.Proofs.YthfjolafikgpoaaGreatDoor.Hand

/- What impl.LabelsBoth answers, by the lists of spec.Keyed. No program in sight. -/
namespace Go.Proofs.YthfjolafikgpoaaGreatDoor.Hand
open Go.RowKit Go.Maps Go.Proofs.YthfjolafikgpoaaGreatDoorW.PrintWords Go.Proofs.YthfjolafikgpoaaGreatDoorW.PrintLast Go.Proofs.YthfjolafikgpoaaGreatDoorW.PrintMore Go.Proofs.YthfjolafikgpoaaGreatDoor.Base
open Go.Sort (ltStr)
set_option linter.unusedVariables false
set_option linter.unusedSimpArgs false
theorem nodup_len : ∀ {l1 l2 : List L}, l1.Nodup → (∀ x ∈ l1, x ∈ l2) → l1.length ≤ l2.length
  | [], l2, _, _ => Nat.zero_le _
  | a :: l1, l2, hn, hs => by
    obtain ⟨h1, h2⟩ := List.nodup_cons.1 hn
    have ha := hs a List.mem_cons_self
    have := nodup_len (l2 := l2.erase a) h2 fun x hx => (List.mem_erase_of_ne (fun e => h1 (by rw [← e]; exact hx))).2 (hs x (List.mem_cons_of_mem _ hx))
    rw [List.length_erase_of_mem ha] at this
    have := List.length_pos_of_mem ha
    rw [List.length_cons]; omega
theorem nodup_sub : ∀ {l1 l2 : List L}, l1.Nodup → (∀ x ∈ l1, x ∈ l2) → l2.length ≤ l1.length → ∀ x ∈ l2, x ∈ l1
  | [], l2, _, _, hl, x, hx => by have := List.length_pos_of_mem hx; rw [List.length_nil] at hl; omega
  | a :: l1, l2, hn, hs, hl, x, hx => by
    obtain ⟨h1, h2⟩ := List.nodup_cons.1 hn
    have ha := hs a List.mem_cons_self
    by_cases e : x = a
    · rw [e]; exact List.mem_cons_self
    · refine List.mem_cons_of_mem _ (nodup_sub (l2 := l2.erase a) h2 (fun y hy => (List.mem_erase_of_ne (fun e => h1 (by rw [← e]; exact hy))).2 (hs y (List.mem_cons_of_mem _ hy))) ?_ x ((List.mem_erase_of_ne e).2 hx))
      rw [List.length_erase_of_mem ha]; rw [List.length_cons] at hl; omega
theorem conf_key (a : List LP) (mb : List LP) : conflictM a.reverse mb = (keyL a).any fun p => cfV p.2 (mget mb p.1) := by
  obtain ⟨_, hm⟩ := keyL_mem a
  rw [Bool.eq_iff_iff]
  unfold conflictM
  rw [List.any_eq_true, List.any_eq_true]
  constructor
  · rintro ⟨k, hk, hc⟩
    obtain ⟨v, hv⟩ := dk_mem.1 hk
    exact ⟨(k, v), (hm k v).2 hv, by rw [cf_some hv] at hc; exact hc⟩
  · rintro ⟨⟨k, v⟩, hp, hc⟩
    have hv := (hm k v).1 hp
    exact ⟨k, dk_mem.2 ⟨v, hv⟩, by rw [cf_some hv]; exact hc⟩
theorem all_key (a : List LP) (mb : List LP) : (dk a.reverse).all (sameM a.reverse mb) = (keyL a).all fun p => mget mb p.1 == some p.2 := by
  obtain ⟨_, hm⟩ := keyL_mem a
  rw [Bool.eq_iff_iff, List.all_eq_true, List.all_eq_true]
  constructor
  · rintro h ⟨k, v⟩ hp
    have hv := (hm k v).1 hp
    have := h k (dk_mem.2 ⟨v, hv⟩)
    unfold sameM at this
    rw [hv] at this; exact this
  · intro h k hk
    obtain ⟨v, hv⟩ := dk_mem.1 hk
    have := h (k, v) ((hm k v).2 hv)
    unfold sameM
    rw [hv]; exact this
theorem eq_key (a b : List LP) : (decide ((dk a.reverse).length = (dk b.reverse).length) && (dk a.reverse).all (sameM a.reverse b.reverse)) = decide (keyL a = keyL b) := by
  obtain ⟨s1, m1⟩ := keyL_mem a
  obtain ⟨s2, m2⟩ := keyL_mem b
  rw [Bool.eq_iff_iff, Bool.and_eq_true, decide_eq_true_eq, decide_eq_true_eq, List.all_eq_true]
  constructor
  · rintro ⟨hl, h⟩
    have hg : ∀ k, k ∈ dk a.reverse → mget b.reverse k = mget a.reverse k := fun k hk => by
      have := h k hk
      unfold sameM at this
      exact beq_iff_eq.1 this
    have hsub : ∀ k ∈ dk a.reverse, k ∈ dk b.reverse := fun k hk => by
      obtain ⟨v, hv⟩ := dk_mem.1 hk
      exact dk_mem.2 ⟨v, by rw [hg k hk]; exact hv⟩
    have hsup := nodup_sub (dk_nodup _) hsub (by omega)
    refine sk_ext s1 s2 fun q => ?_
    obtain ⟨k, v⟩ := q
    rw [m1, m2]
    constructor
    · intro hv; rw [hg k (dk_mem.2 ⟨v, hv⟩)]; exact hv
    · intro hv; rw [← hg k (hsup k (dk_mem.2 ⟨v, hv⟩))]; exact hv
  · intro e
    have hg : ∀ k, mget b.reverse k = mget a.reverse k := fun k => by rw [← mget_keyL b, ← mget_keyL a, e]
    refine ⟨Nat.le_antisymm (nodup_len (dk_nodup _) fun k hk => ?_) (nodup_len (dk_nodup _) fun k hk => ?_), fun k hk => ?_⟩
    · obtain ⟨v, hv⟩ := dk_mem.1 hk
      exact dk_mem.2 ⟨v, by rw [hg]; exact hv⟩
    · obtain ⟨v, hv⟩ := dk_mem.1 hk
      exact dk_mem.2 ⟨v, by rw [← hg]; exact hv⟩
    · unfold sameM
      rw [hg]; exact beq_self_eq_true _
theorem none_key (b : List LP) : decide ((dk b.reverse).length = 0) = decide ((keyL b).length = 0) := by
  obtain ⟨_, hm⟩ := keyL_mem b
  rw [decide_eq_decide, List.length_eq_zero_iff, List.length_eq_zero_iff]
  constructor
  · intro h
    cases hk : keyL b with
    | nil => rfl
    | cons p r =>
      have := (hm p.1 p.2).1 (by rw [hk]; exact List.mem_cons_self)
      have := dk_mem.2 ⟨_, this⟩
      rw [h] at this; cases this
  · intro h
    cases hk : dk b.reverse with
    | nil => rfl
    | cons k r =>
      obtain ⟨v, hv⟩ := dk_mem.1 (show k ∈ dk b.reverse by rw [hk]; exact List.mem_cons_self)
      have := (hm k v).2 hv
      rw [h] at this; cases this
/-- labRev over texts of bytes, and over lists of bytes. -/
theorem labRev_un (ls : List (ByteArray × ByteArray)) : labRev ls = (ls.map unP).reverse := rfl
theorem labRev_key (ls : List (ByteArray × ByteArray)) (k : L) : mget (labRev ((keyL (ls.map unP)).map mkP)) k = mget (labRev ls) k := by
  rw [labRev_un, labRev_un, List.map_map, show (unP ∘ mkP) = id from by funext p; obtain ⟨x, y⟩ := p; simp [mk], List.map_id, mget_keyL]
end Go.Proofs.YthfjolafikgpoaaGreatDoor.Hand

/- impl.LabelsMerge. -/
namespace Go.Proofs.YthfjolafikgpoaaGreatDoor.Hand
open Go.RowKit Go.Maps Go.Proofs.YthfjolafikgpoaaGreatDoorW.PrintWords Go.Proofs.YthfjolafikgpoaaGreatDoorW.PrintLast Go.Proofs.YthfjolafikgpoaaGreatDoorW.PrintMore Go.Proofs.YthfjolafikgpoaaGreatDoor.Base
open Go.Sort (ltStr)
set_option linter.unusedVariables false
set_option linter.unusedSimpArgs false
set_option maxRecDepth 100000
theorem dk_le : ∀ m : List LP, (dk m).length ≤ m.length
  | [] => Nat.le_refl _
  | p :: m => by
    unfold dk
    have := dk_le m
    split <;> simp only [List.length_cons] <;> omega
theorem dk_mg {m1 m2 m3 : List LP} (h : mgOf m1 m2 m3) : (dk m3).length ≤ (dk m1).length + (dk m2).length := by
  have h1 := nodup_len (dk_nodup m3) (l2 := dk m1 ++ dk m2) (fun x hx => by
    obtain ⟨v, hv⟩ := dk_mem.1 hx
    rw [h x] at hv
    rw [List.mem_append]
    cases h2 : mget m2 x with
    | some u => exact .inr (dk_mem.2 ⟨u, h2⟩)
    | none => rw [h2] at hv; exact .inl (dk_mem.2 ⟨v, hv⟩))
  rwa [List.length_append] at h1
theorem rev_sizes {l : List (ByteArray × ByteArray)} (hz : ∀ p ∈ l, p.1.size ≤ 140737488351232 ∧ p.2.size ≤ 140737488351232) : ∀ k v, mget (labRev l) k = some v → k.length ≤ 140737488351232 ∧ v.length ≤ 140737488351232 := by
  intro k v hv
  unfold mget at hv
  obtain ⟨q, hq, hqv⟩ := Option.map_eq_some_iff.1 hv
  have hm := List.mem_of_find?_eq_some hq
  have he := List.find?_some hq
  unfold labRev at hm
  rw [List.mem_reverse, List.mem_map] at hm
  obtain ⟨p, hp, rfl⟩ := hm
  have e1 : p.1.data.toList = k := by simpa using he
  have e2 : p.2.data.toList = v := hqv
  rw [← e1, ← e2]
  exact hz p hp
set_option maxHeartbeats 4000000 in
theorem LMerge_calls (A A2 : Option Addr) (c c2 : Nat) (l l2 : List (ByteArray × ByteArray)) (hl : l.length ≤ 400) (hl2 : l2.length ≤ 400) (hz : ∀ p ∈ l, p.1.size ≤ 140737488351232 ∧ p.2.size ≤ 140737488351232) (hz2 : ∀ p ∈ l2, p.1.size ≤ 140737488351232 ∧ p.2.size ≤ 140737488351232) (w : World) (hx : PK.C w A l.length l) (hy : PK.C w A2 l2.length l2) :
    Calls Tryz.prog 37 #[.slice A l.length c, .slice A2 l2.length c2] w fun e w' => ∃ v : Value, e = .returned v ∧ PK.R 42 w' w.heap.size (fun _ => True) v ((keyL (l.map unP ++ l2.map unP)).map mkP) ∧ Below w.heap.size w w' := by
  have HX := Aside0.mk hx
  have HY := Aside0.mk hy
  have H1 := Aside0.mk (fun W (h : PK.C W A l.length l) => setOfZ_calls A c l (by omega) hz W h)
  have H2 := Aside0.mk (fun W (h : PK.C W A2 l2.length l2) => setOfZ_calls A2 c2 l2 (by omega) hz2 W h)
  have d1 : (dk (labRev l)).length ≤ l.length := Nat.le_trans (dk_le _) (by unfold labRev; simp)
  have d2 : (dk (labRev l2)).length ≤ l2.length := Nat.le_trans (dk_le _) (by unfold labRev; simp)
  have HM := Aside0.mk (fun b1 b2 N1 N2 W h1 h2 => Merge_calls b1 N1 (labRev l) b2 N2 (labRev l2) (rev_sizes hz) (rev_sizes hz2) (by omega) (by omega) W h1 h2)
  have HP := Aside0.mk (fun b N (m3 : List LP) (hm : mgOf (labRev l) (labRev l2) m3) W h => Pairs_calls b N m3 (by have := dk_mg hm; omega) W h)
  have HB := Aside0.mk (Below.refl w.heap.size w)
  clear hx hy
  go_enter Tryz.func37, Tryz.ntmps37
  go_wp2_with (first
    | ((with_reducible refine (H1.out _ HX.out).mono ?_); rintro e w1 ⟨rfl, hi, hb⟩; have HI1 := Aside0.mk hi; have HB1 := Aside0.mk (below_step HB.out hb); have HY1 := Aside0.mk (Kd.C_below HY.out hb); clear hi hb H1)
    | ((with_reducible refine (H2.out _ HY1.out).mono ?_); rintro e w2 ⟨rfl, hi, hb⟩; have HI2 := Aside0.mk hi; have HI3 := Aside0.mk (HI1.out.below hb); have HB2 := Aside0.mk (below_step HB1.out hb); clear hi hb H2)
    | ((with_reducible refine (HM.out _ _ _ _ _ HI3.out HI2.out).mono ?_); rintro e w3 ⟨N3, m3, rfl, hi, hm, hN, hb⟩; have HI4 := Aside0.mk hi; have HMG := Aside0.mk hm; have HB3 := Aside0.mk (below_step HB2.out hb); clear hi hm hN hb HM)
    | ((with_reducible refine (HP.out _ _ _ HMG.out _ HI4.out).mono ?_); rintro e w4 ⟨v, xs, rfl, hr, hsk, hmem, hb⟩; have HR4 := Aside0.mk (Kd.R_lower hr (below_size HB3.out)); have HSK := Aside0.mk hsk; have HME := Aside0.mk hmem; have HB4 := Aside0.mk (below_step HB3.out hb); clear hr hsk hmem hb HP))
  go_ret
  refine ⟨_, rfl, ?_, HB4.out⟩
  rw [← keyL_merge HMG.out HSK.out HME.out]
  exact HR4.out
end Go.Proofs.YthfjolafikgpoaaGreatDoor.Hand
