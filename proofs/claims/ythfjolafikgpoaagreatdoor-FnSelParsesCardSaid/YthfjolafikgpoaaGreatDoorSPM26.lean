/- Functions of the program as Lean functions, with their contracts (the lines are print.sh's): cmp_isNaN_string, cmp_Less_string, slices_IsSorted_string_string, sort_StringsAreSorted. -/
import Derived.Test.YthfjolafikgpoaaGreatDoorSPM4
import Derived.Test.YthfjolafikgpoaaGreatDoorSPM25
import Derived.Test.YthfjolafikgpoaaGreatDoorSPLabSetOf
import Derived.Shelf.Sort.Plain
import Derived.Shelf.Slices.In.SortNone2
import Derived.Test.YthfjolafikgpoaaGreatDoorProg
import Derived.Test.YthfjolafikgpoaaGreatDoorSPGSetA
namespace Go.Proofs.YthfjolafikgpoaaGreatDoor.PFnSelDecidesLabels
open Go.RowKit Go.Proofs.YthfjolafikgpoaaGreatDoorW.PrintWords Go.Proofs.YthfjolafikgpoaaGreatDoorW.PrintLast Go.Proofs.YthfjolafikgpoaaGreatDoorW.PrintMore
set_option linter.unusedVariables false
set_option linter.unusedSimpArgs false
def cmp_isNaN_string.f (a0 : ByteArray) : Option (Bool) := some (a0.toList != a0.toList)
set_option maxHeartbeats 8000000 in
set_option maxRecDepth 100000 in
theorem cmp_isNaN_string.calls (a0 : ByteArray) (r : Bool) (w : World) (h : cmp_isNaN_string.f a0 = some r) :
   Calls Tryz.prog 114 #[.string a0] w fun e w' => e = .returned (.bool r) ∧ Drawn0 w w' := by
 have H : (some (a0.toList != a0.toList)) = some r := h
 clear h
 obtain rfl := Option.some.inj H
 go_enter Tryz.func114, Tryz.ntmps114
 go_wp2
 go_ret
 exact ⟨by first | rfl | (simp; done) | (simp [*]; done), by repeat (first | exact Drawn0.refl _ | apply Drawn0.step)⟩
def cmp_Less_string.f (a0 : ByteArray) (a1 : ByteArray) : Option (Bool) := (cmp_isNaN_string.f a0).bind fun t217 => (if t217 = true then ((cmp_isNaN_string.f a1).bind fun t218 => (if t218 = true then (some (Op.bytesLess a0.toList a1.toList)) else (some true))) else (some (Op.bytesLess a0.toList a1.toList)))
set_option maxHeartbeats 8000000 in
set_option maxRecDepth 100000 in
theorem cmp_Less_string.calls (a0 : ByteArray) (a1 : ByteArray) (r : Bool) (w : World) (h : cmp_Less_string.f a0 a1 = some r) :
   Calls Tryz.prog 227 #[.string a0, .string a1] w fun e w' => e = .returned (.bool r) ∧ Drawn0 w w' := by
 have H : ((cmp_isNaN_string.f a0).bind fun t217 => (if t217 = true then ((cmp_isNaN_string.f a1).bind fun t218 => (if t218 = true then (some (Op.bytesLess a0.toList a1.toList)) else (some true))) else (some (Op.bytesLess a0.toList a1.toList)))) = some r := h
 clear h
 replace H := Option.bind_eq_some_iff.mp H
 obtain ⟨t217, A30, H⟩ := H
 replace H : (if t217 = true then ((cmp_isNaN_string.f a1).bind fun t218 => (if t218 = true then (some (Op.bytesLess a0.toList a1.toList)) else (some true))) else (some (Op.bytesLess a0.toList a1.toList))) = some r := H
 have A3 := Aside0.mk A30
 clear A30
 by_cases c4 : t217 = true
 · subst c4
   have H1 : ((cmp_isNaN_string.f a1).bind fun t218 => (if t218 = true then (some (Op.bytesLess a0.toList a1.toList)) else (some true))) = some r := by rw [if_pos rfl] at H; exact H
   clear H
   have H := H1
   clear H1
   replace H := Option.bind_eq_some_iff.mp H
   obtain ⟨t218, A50, H⟩ := H
   replace H : (if t218 = true then (some (Op.bytesLess a0.toList a1.toList)) else (some true)) = some r := H
   have A5 := Aside0.mk A50
   clear A50
   by_cases c6 : t218 = true
   · subst c6
     have H1 : (some (Op.bytesLess a0.toList a1.toList)) = some r := by rw [if_pos rfl] at H; exact H
     clear H
     have H := H1
     clear H1
     obtain rfl := Option.some.inj H
     go_enter Tryz.func227, Tryz.ntmps227
     go_wp2_with (first | ((with_reducible refine gate_callee (f := 114) rfl ?_); refine goesL_ (some 6) rfl rfl Tryz.func114 (by kernel_rfl) rfl #[.string a0] rfl (by (try simp only [List.map_toArray, List.map_cons, List.map_nil]); first | done | rfl | (simp only [List.length_drop, List.length_take]; rfl)) ?_; (with_reducible refine (cmp_isNaN_string.calls a0 true _ A3.out).mono ?_); rintro e w' ⟨rfl, ⟨nd, rfl⟩⟩; refine ⟨_, rfl, ?_⟩) | (go_at_call 114; (with_reducible refine (cmp_isNaN_string.calls a1 true _ A5.out).mono ?_); rintro e w' ⟨rfl, ⟨nd, rfl⟩⟩))
     go_ret
     exact ⟨by first | rfl | (simp; done) | (simp [*]; done), by repeat (first | exact Drawn0.refl _ | apply Drawn0.step)⟩
   · replace c6 := Bool.eq_false_iff.mpr c6
     subst c6
     have H1 : (some true) = some r := by rw [if_neg (show ¬ (false = true) by decide)] at H; exact H
     clear H
     have H := H1
     clear H1
     obtain rfl := Option.some.inj H
     go_enter Tryz.func227, Tryz.ntmps227
     go_wp2_with (first | ((with_reducible refine gate_callee (f := 114) rfl ?_); refine goesL_ (some 6) rfl rfl Tryz.func114 (by kernel_rfl) rfl #[.string a0] rfl (by (try simp only [List.map_toArray, List.map_cons, List.map_nil]); first | done | rfl | (simp only [List.length_drop, List.length_take]; rfl)) ?_; (with_reducible refine (cmp_isNaN_string.calls a0 true _ A3.out).mono ?_); rintro e w' ⟨rfl, ⟨nd, rfl⟩⟩; refine ⟨_, rfl, ?_⟩) | (go_at_call 114; (with_reducible refine (cmp_isNaN_string.calls a1 false _ A5.out).mono ?_); rintro e w' ⟨rfl, ⟨nd, rfl⟩⟩))
     go_ret
     exact ⟨by first | rfl | (simp; done) | (simp [*]; done), by repeat (first | exact Drawn0.refl _ | apply Drawn0.step)⟩
 · replace c4 := Bool.eq_false_iff.mpr c4
   subst c4
   have H1 : (some (Op.bytesLess a0.toList a1.toList)) = some r := by rw [if_neg (show ¬ (false = true) by decide)] at H; exact H
   clear H
   have H := H1
   clear H1
   obtain rfl := Option.some.inj H
   go_enter Tryz.func227, Tryz.ntmps227
   go_wp2_with (first | ((with_reducible refine gate_callee (f := 114) rfl ?_); refine goesL_ (some 6) rfl rfl Tryz.func114 (by kernel_rfl) rfl #[.string a0] rfl (by (try simp only [List.map_toArray, List.map_cons, List.map_nil]); first | done | rfl | (simp only [List.length_drop, List.length_take]; rfl)) ?_; (with_reducible refine (cmp_isNaN_string.calls a0 false _ A3.out).mono ?_); rintro e w' ⟨rfl, ⟨nd, rfl⟩⟩; refine ⟨_, rfl, ?_⟩))
   go_ret
   exact ⟨by first | rfl | (simp; done) | (simp [*]; done), by repeat (first | exact Drawn0.refl _ | apply Drawn0.step)⟩
def slices_IsSorted_string_string.l0 : Nat → List ByteArray → Int → Option (Bool)
 | 0, _, _ => none
 | k + 1, x0, x3 => if x3 > 0 then (if 0 ≤ x3 then (if x3 < (x0.length : Int) then (if 0 ≤ (wrap64 (x3 - 1)) then (if (wrap64 (x3 - 1)) < (x0.length : Int) then ((cmp_Less_string.f (rdOf ByteArray.empty x0 x3) (rdOf ByteArray.empty x0 (wrap64 (x3 - 1)))).bind fun t221 => (if t221 = true then (some false) else (slices_IsSorted_string_string.l0 k x0 (wrap64 (x3 - 1))))) else (none)) else (none)) else (none)) else (none)) else (some true)
def slices_IsSorted_string_string.f (k : Nat) (l0 : List ByteArray) : Option (Bool) := slices_IsSorted_string_string.l0 k l0 (wrap64 ((l0.length : Int) - 1))
set_option maxHeartbeats 8000000 in
set_option maxRecDepth 100000 in
theorem slices_IsSorted_string_string.calls (k : Nat) (A0 : Option Addr) (c0 : Nat) (l0 : List ByteArray) (r : Bool) (w : World) (hr0 : Kd.C Kd.string w A0 l0.length l0) (hc0 : l0.length ≤ c0) (h : slices_IsSorted_string_string.f k l0 = some r) :
   Calls Tryz.prog 225 #[.slice A0 l0.length c0] w fun e w' => e = .returned (.bool r) ∧ Drawn0 w w' := by
 have HR0 := Aside0.mk hr0
 have HC0 := Aside0.mk hc0
 clear hr0 hc0
 have H : (slices_IsSorted_string_string.l0 k l0 (wrap64 ((l0.length : Int) - 1))) = some r := h
 clear h
 have H' := Aside0.mk H
 clear H
 go_enter Tryz.func225, Tryz.ntmps225
 go_wp2
 repeat (go_quiet (fail); try go_wp2)
 go_loopg [3] k (fun kq v3 w' => ∃ (x3_1 : Int), v3 = .int .i64 x3_1 ∧ Aside0 (slices_IsSorted_string_string.l0 kq l0 x3_1 = some r) ∧ Aside0 (kq ≤ k) ∧ Drawn0 w w')
 case atStart => exact ⟨(wrap64 ((l0.length : Int) - 1)), (by first | rfl | (simp; done) | (simp [*]; done)), H', ⟨Nat.le_refl _⟩, by repeat (first | exact Drawn0.refl _ | apply Drawn0.step)⟩
 case round =>
  clear H'
  try clear c1
  obtain ⟨x3_1, rfl, HA, HK1, ⟨m1, rfl⟩⟩ := hrel
  cases gk with
  | zero => exact absurd HA.out (by simp [slices_IsSorted_string_string.l0])
  | succ k1 =>
    have H := HA.out
    clear HA
    simp only [slices_IsSorted_string_string.l0] at H
    by_cases c2 : x3_1 > 0
    · rw [if_pos c2] at H
      have c2b0 : decide (0 < x3_1) = true := decide_eq_true c2
      clear c2
      by_cases c3 : 0 ≤ x3_1
      · rw [if_pos c3] at H
        have c3b0 : decide (0 ≤ x3_1) = true := decide_eq_true c3
        clear c3
        by_cases c4 : x3_1 < (l0.length : Int)
        · rw [if_pos c4] at H
          have c4b0 : decide (x3_1 < (l0.length : Int)) = true := decide_eq_true c4
          clear c4
          obtain ⟨ji5, hji5⟩ : ∃ j_ : Int, (wrap64 (x3_1 - 1)) = j_ := ⟨_, rfl⟩
          replace H : (if 0 ≤ (ji5) then (if (ji5) < (l0.length : Int) then ((cmp_Less_string.f (rdOf ByteArray.empty l0 x3_1) (rdOf ByteArray.empty l0 (ji5))).bind fun t221 => (if t221 = true then (some false) else (slices_IsSorted_string_string.l0 k1 l0 ji5))) else (none)) else (none)) = some r := by first | (rw [hji5] at H; exact H) | (simp only [hji5] at H ⊢; exact H)
          have hji5w : (IntKind.i64.wrap (x3_1 - 1)) = ji5 := (i64_w _).trans hji5
          by_cases c6 : 0 ≤ (ji5)
          · rw [if_pos c6] at H
            have c6b0 : decide (0 ≤ (ji5)) = true := decide_eq_true c6
            clear c6
            by_cases c7 : (ji5) < (l0.length : Int)
            · rw [if_pos c7] at H
              have c7b0 : decide ((ji5) < (l0.length : Int)) = true := decide_eq_true c7
              clear c7
              replace H := Option.bind_eq_some_iff.mp H
              obtain ⟨t221, A80, H⟩ := H
              replace H : (if t221 = true then (some false) else (slices_IsSorted_string_string.l0 k1 l0 ji5)) = some r := H
              have A8 := Aside0.mk A80
              clear A80
              by_cases c9 : t221 = true
              · subst c9
                have H1 : (some false) = some r := by rw [if_pos rfl] at H; exact H
                clear H
                have H := H1
                clear H1
                obtain rfl := Option.some.inj H
                have p219 : 0 ≤ (x3_1 : Int) := of_decide_eq_true (by first | (with_reducible assumption) | assumption)
                have q219 : x3_1 < (l0.length : Int) := of_decide_eq_true (by first | (with_reducible assumption) | assumption)
                obtain ⟨ad219, e219, hx219_0⟩ := Kd.at_string HR0.out x3_1 p219 q219
                cases e219
                replace p219 := eq_true p219
                replace q219 := eq_true q219
                have p220 : 0 ≤ ((ji5) : Int) := of_decide_eq_true (by first | (with_reducible assumption) | assumption)
                have q220 : (ji5) < (l0.length : Int) := of_decide_eq_true (by first | (with_reducible assumption) | assumption)
                obtain ⟨ad220, e220, hx220_0⟩ := Kd.at_string HR0.out (ji5) p220 q220
                obtain rfl : ad219 = ad220 := (by injection e220)
                replace p220 := eq_true p220
                replace q220 := eq_true q220
                go_wp2_with (first | (go_at_call 227; (with_reducible refine (cmp_Less_string.calls (rdOf ByteArray.empty l0 x3_1) (rdOf ByteArray.empty l0 (ji5)) true _ A8.out).mono ?_); rintro e w' ⟨rfl, ⟨nd, rfl⟩⟩; (try first | exact ⟨rfl, _, World.drewN_drewN _ _ _⟩ | exact ⟨rfl, _, Eq.trans (World.drewN_drewN _ _ _) (congrArg (World.drewN _) (Nat.add_assoc _ _ _))⟩)))
                repeat (go_quiet (first | (go_at_call 227; (with_reducible refine (cmp_Less_string.calls (rdOf ByteArray.empty l0 x3_1) (rdOf ByteArray.empty l0 (ji5)) true _ A8.out).mono ?_); rintro e w' ⟨rfl, ⟨nd, rfl⟩⟩; (try first | exact ⟨rfl, _, World.drewN_drewN _ _ _⟩ | exact ⟨rfl, _, Eq.trans (World.drewN_drewN _ _ _) (congrArg (World.drewN _) (Nat.add_assoc _ _ _))⟩))); try go_wp2_with (first | (go_at_call 227; (with_reducible refine (cmp_Less_string.calls (rdOf ByteArray.empty l0 x3_1) (rdOf ByteArray.empty l0 (ji5)) true _ A8.out).mono ?_); rintro e w' ⟨rfl, ⟨nd, rfl⟩⟩; (try first | exact ⟨rfl, _, World.drewN_drewN _ _ _⟩ | exact ⟨rfl, _, Eq.trans (World.drewN_drewN _ _ _) (congrArg (World.drewN _) (Nat.add_assoc _ _ _))⟩))))
                go_ret
                exact ⟨by first | rfl | (simp; done) | (simp only [← hji5] <;> (first | rfl | simp)) | (simp [*]; done), by repeat (first | exact Drawn0.refl _ | apply Drawn0.step)⟩
              · replace c9 := Bool.eq_false_iff.mpr c9
                subst c9
                have H1 : (slices_IsSorted_string_string.l0 k1 l0 ji5) = some r := by rw [if_neg (show ¬ (false = true) by decide)] at H; exact H
                clear H
                have H := H1
                clear H1
                have H' := Aside0.mk H
                clear H
                have p219 : 0 ≤ (x3_1 : Int) := of_decide_eq_true (by first | (with_reducible assumption) | assumption)
                have q219 : x3_1 < (l0.length : Int) := of_decide_eq_true (by first | (with_reducible assumption) | assumption)
                obtain ⟨ad219, e219, hx219_0⟩ := Kd.at_string HR0.out x3_1 p219 q219
                cases e219
                replace p219 := eq_true p219
                replace q219 := eq_true q219
                have p220 : 0 ≤ ((ji5) : Int) := of_decide_eq_true (by first | (with_reducible assumption) | assumption)
                have q220 : (ji5) < (l0.length : Int) := of_decide_eq_true (by first | (with_reducible assumption) | assumption)
                obtain ⟨ad220, e220, hx220_0⟩ := Kd.at_string HR0.out (ji5) p220 q220
                obtain rfl : ad219 = ad220 := (by injection e220)
                replace p220 := eq_true p220
                replace q220 := eq_true q220
                go_wp2_with (first | (go_at_call 227; (with_reducible refine (cmp_Less_string.calls (rdOf ByteArray.empty l0 x3_1) (rdOf ByteArray.empty l0 (ji5)) false _ A8.out).mono ?_); rintro e w' ⟨rfl, ⟨nd, rfl⟩⟩; (try first | exact ⟨rfl, _, World.drewN_drewN _ _ _⟩ | exact ⟨rfl, _, Eq.trans (World.drewN_drewN _ _ _) (congrArg (World.drewN _) (Nat.add_assoc _ _ _))⟩)))
                repeat (go_quiet (first | (go_at_call 227; (with_reducible refine (cmp_Less_string.calls (rdOf ByteArray.empty l0 x3_1) (rdOf ByteArray.empty l0 (ji5)) false _ A8.out).mono ?_); rintro e w' ⟨rfl, ⟨nd, rfl⟩⟩; (try first | exact ⟨rfl, _, World.drewN_drewN _ _ _⟩ | exact ⟨rfl, _, Eq.trans (World.drewN_drewN _ _ _) (congrArg (World.drewN _) (Nat.add_assoc _ _ _))⟩))); try go_wp2_with (first | (go_at_call 227; (with_reducible refine (cmp_Less_string.calls (rdOf ByteArray.empty l0 x3_1) (rdOf ByteArray.empty l0 (ji5)) false _ A8.out).mono ?_); rintro e w' ⟨rfl, ⟨nd, rfl⟩⟩; (try first | exact ⟨rfl, _, World.drewN_drewN _ _ _⟩ | exact ⟨rfl, _, Eq.trans (World.drewN_drewN _ _ _) (congrArg (World.drewN _) (Nat.add_assoc _ _ _))⟩))))
                go_roundg k1
                case measure => have := HK1.out; omega
                case rel => exact ⟨(ji5), (by first | rfl | (simp; done) | (simp only [← hji5] <;> (first | rfl | simp)) | (simp [*]; done)), H', ⟨by have := HK1.out; omega⟩, by repeat (first | exact Drawn0.refl _ | apply Drawn0.step)⟩
            · rw [if_neg c7] at H
              exact absurd H (by simp)
          · rw [if_neg c6] at H
            exact absurd H (by simp)
        · rw [if_neg c4] at H
          exact absurd H (by simp)
      · rw [if_neg c3] at H
        exact absurd H (by simp)
    · rw [if_neg c2] at H
      have c2b0 : decide (0 < x3_1) = false := decide_eq_false c2
      clear c2
      obtain rfl := Option.some.inj H
      go_wp2
      repeat (go_quiet (fail); try go_wp2)
      go_ret
      exact ⟨by first | rfl | (simp; done) | (simp [*]; done), by repeat (first | exact Drawn0.refl _ | apply Drawn0.step)⟩
def sort_StringsAreSorted.f (k : Nat) (l0 : List ByteArray) : Option (Bool) := (slices_IsSorted_string_string.f k l0).bind fun t222 => (some t222)
set_option maxHeartbeats 8000000 in
set_option maxRecDepth 100000 in
theorem sort_StringsAreSorted.calls (k : Nat) (A0 : Option Addr) (c0 : Nat) (l0 : List ByteArray) (r : Bool) (w : World) (hr0 : Kd.C Kd.string w A0 l0.length l0) (hc0 : l0.length ≤ c0) (h : sort_StringsAreSorted.f k l0 = some r) :
   Calls Tryz.prog 223 #[.slice A0 l0.length c0] w fun e w' => e = .returned (.bool r) ∧ Drawn0 w w' := by
 have HR0 := Aside0.mk hr0
 have HC0 := Aside0.mk hc0
 clear hr0 hc0
 have H : ((slices_IsSorted_string_string.f k l0).bind fun t222 => (some t222)) = some r := h
 clear h
 replace H := Option.bind_eq_some_iff.mp H
 obtain ⟨t222, A20, H⟩ := H
 replace H : (some t222) = some r := H
 have A2 := Aside0.mk A20
 clear A20
 obtain rfl := Option.some.inj H
 go_enter Tryz.func223, Tryz.ntmps223
 go_wp2_with (first | ((with_reducible refine gate_callee (f := 225) rfl ?_); refine goesL_ (some 4) rfl rfl Tryz.func225 (by kernel_rfl) rfl #[.slice A0 l0.length c0] rfl (by (try simp only [List.map_toArray, List.map_cons, List.map_nil]); first | done | rfl | (simp only [List.length_drop, List.length_take]; rfl)) ?_; (with_reducible refine (slices_IsSorted_string_string.calls k _ _ l0 t222 _ ?side1 ?side2 A2.out).mono ?_); (case side1 => repeat (first | exact HR0.out | (with_reducible refine Kd.C_alloc ?_ _) | (with_reducible refine Kd.C_drewN ?_ _) | (with_reducible refine Kd.C_drew ?_))); (case side2 => exact HC0.out); rintro e w' ⟨rfl, ⟨nd, rfl⟩⟩; refine ⟨_, rfl, ?_⟩))
 go_ret
 exact ⟨by first | rfl | (simp; done) | (simp [*]; done), by repeat (first | exact Drawn0.refl _ | apply Drawn0.step)⟩
end Go.Proofs.YthfjolafikgpoaaGreatDoor.PFnSelDecidesLabels
namespace Go.Proofs.YthfjolafikgpoaaGreatDoor.Hand
open Go.RowKit Go.Proofs.YthfjolafikgpoaaGreatDoorW.PrintWords Go.Proofs.YthfjolafikgpoaaGreatDoorW.PrintLast Go.Proofs.YthfjolafikgpoaaGreatDoorW.PrintMore Go.Proofs.YthfjolafikgpoaaGreatDoor.Base
open Go.Sort (ltStr)
open Go.Proofs.YthfjolafikgpoaaGreatDoor.PFnSelDecidesLabels
set_option linter.unusedVariables false
set_option linter.unusedSimpArgs false
set_option maxRecDepth 100000
theorem less_f (x y : ByteArray) : cmp_Less_string.f x y = some (ltStr x.data.toList y.data.toList) := by
 unfold cmp_Less_string.f cmp_isNaN_string.f
 simp [ltS, toList_eq]
theorem rd_at {vs : List ByteArray} {m : Nat} {p : ByteArray} (hp : vs[m]? = some p) : rdOf ByteArray.empty vs (m : Int) = p := by
 unfold rdOf; rw [Int.toNat_natCast, List.getD_eq_getElem?_getD, hp]; rfl
def OrdTo (vs : List ByteArray) (i : Nat) : Prop := ∀ (j : Nat) (p q : ByteArray), j < i → vs[j]? = some p → vs[j + 1]? = some q → ltStr q.data.toList p.data.toList = false
theorem isS_l0 (vs : List ByteArray) (hn : vs.length ≤ 1000) : ∀ m : Nat, m = 0 ∨ m < vs.length → ∃ k b, slices_IsSorted_string_string.l0 k vs (m : Int) = some b ∧ (b = true → OrdTo vs m) := by
 intro m
 induction m with
 | zero =>
   intro _
   exact ⟨1, true, by simp only [slices_IsSorted_string_string.l0]; rfl, fun _ j p q hj => absurd hj (by omega)⟩
 | succ m ih =>
   intro hm
   have hm2 : m + 1 < vs.length := by omega
   obtain ⟨p, hp⟩ : ∃ p, vs[m]? = some p := ⟨_, List.getElem?_eq_getElem (by omega)⟩
   obtain ⟨q, hq⟩ : ∃ q, vs[m + 1]? = some q := ⟨_, List.getElem?_eq_getElem hm2⟩
   have hw : wrap64 (((m + 1 : Nat) : Int) - 1) = (m : Int) := by rw [show (((m + 1 : Nat) : Int) - 1) = (m : Int) by omega]; exact wrap_id (by omega) (by omega)
   have hs : ∀ k, slices_IsSorted_string_string.l0 (k + 1) vs ((m + 1 : Nat) : Int) = if ltStr q.data.toList p.data.toList = true then some false else slices_IsSorted_string_string.l0 k vs (m : Int) := by
    intro k
    simp only [slices_IsSorted_string_string.l0]
    rw [hw, if_pos (by omega), if_pos (by omega), if_pos (by omega), if_pos (by omega), if_pos (by omega), rd_at hp, rd_at hq, less_f]
    rfl
   cases hl : ltStr q.data.toList p.data.toList with
   | true => exact ⟨1, false, by rw [hs 0, if_pos hl], fun h => by cases h⟩
   | false =>
     obtain ⟨k, b, h1, h2⟩ := ih (by omega)
     refine ⟨k + 1, b, by rw [hs k, if_neg (by rw [hl]; simp), h1], fun hb j p' q' hj hp' hq' => ?_⟩
     by_cases hjm : j = m
     · subst hjm; rw [hp] at hp'; rw [hq] at hq'; cases hp'; cases hq'; exact hl
     · exact h2 hb j p' q' (by omega) hp' hq'
theorem isS_f (vs : List ByteArray) (hn : vs.length ≤ 1000) : ∃ k b, sort_StringsAreSorted.f k vs = some b ∧ (b = true → OrdTo vs vs.length) := by
 by_cases h0 : vs.length = 0
 · refine ⟨1, true, ?_, fun _ j p q hj => absurd hj (by omega)⟩
   unfold sort_StringsAreSorted.f slices_IsSorted_string_string.f
   rw [h0]
   simp only [slices_IsSorted_string_string.l0]
   rw [if_neg (by rw [wrap_id (by omega) (by omega)]; omega)]
   rfl
 · obtain ⟨k, b, h1, h2⟩ := isS_l0 vs hn (vs.length - 1) (by omega)
   refine ⟨k, b, ?_, fun hb j p q hj hp hq => h2 hb j p q (by have := (List.getElem?_eq_some_iff.1 hq).1; omega) hp hq⟩
   unfold sort_StringsAreSorted.f slices_IsSorted_string_string.f
   rw [show wrap64 ((vs.length : Int) - 1) = ((vs.length - 1 : Nat) : Int) from by rw [show ((vs.length : Int) - 1) = ((vs.length - 1 : Nat) : Int) by omega]; exact wrap_id (by omega) (by omega), h1]
   rfl
theorem SAS_calls (A : Option Addr) (c n : Nat) (vs : List ByteArray) (hn : vs.length = n) (hn2 : n ≤ 1000) (hc : n ≤ c) (w : World) (hC : Kd.C Kd.string w A n vs) :
   Calls Tryz.prog 223 #[.slice A n c] w fun e w' => ∃ b : Bool, e = .returned (.bool b) ∧ (b = true → OrdTo vs n) ∧ Below w.heap.size w w' := by
 subst hn
 obtain ⟨k, b, h1, h2⟩ := isS_f vs hn2
 refine (sort_StringsAreSorted.calls k A c vs b w hC hc h1).mono ?_
 rintro e w' ⟨rfl, nd, rfl⟩
 exact ⟨b, rfl, h2, pw_below_drewN (Below.refl _ _) _⟩
end Go.Proofs.YthfjolafikgpoaaGreatDoor.Hand
namespace Go.Proofs
open Go.Shelf
def Tryz.lays192_ren : Go.Shelf.Ren := ⟨fun | 192 => 224 | 190 => 226 | 125 => 113 | 258 => 228 | 128 => 142 | 129 => 143 | 302 => 229 | 303 => 230 | 304 => 231 | 305 => 232 | 306 => 233 | 307 => 234 | 308 => 227 | 309 => 235 | 310 => 236 | 333 => 237 | 329 => 163 | 330 => 164 | 334 => 238 | 335 => 239 | 336 => 114 | 344 => 240 | n => n, fun | 31 => 51 | 0 => 0 | 9 => 9 | 3 => 3 | 46 => 162 | 51 => 199 | 53 => 159 | 4 => 4 | 183 => 192 | 182 => 191 | 131 => 196 | 5 => 5 | 218 => 226 | 222 => 80 | 228 => 239 | 229 => 240 | n => n, fun | n => n⟩
theorem Tryz.lays192 : Go.Proofs.Lays.n192 Tryz.prog Tryz.lays192_ren := {
 mixed := by kernel_rfl
 f125 := Tryz.func113.trans (congrArg some (by kernel_rfl))
 f128 := Tryz.func142.trans (congrArg some (by kernel_rfl))
 f129 := Tryz.func143.trans (congrArg some (by kernel_rfl))
 f190 := Tryz.func226.trans (congrArg some (by kernel_rfl))
 f192 := Tryz.func224.trans (congrArg some (by kernel_rfl))
 f258 := Tryz.func228.trans (congrArg some (by kernel_rfl))
 f302 := Tryz.func229.trans (congrArg some (by kernel_rfl))
 f303 := Tryz.func230.trans (congrArg some (by kernel_rfl))
 f304 := Tryz.func231.trans (congrArg some (by kernel_rfl))
 f305 := Tryz.func232.trans (congrArg some (by kernel_rfl))
 f306 := Tryz.func233.trans (congrArg some (by kernel_rfl))
 f307 := Tryz.func234.trans (congrArg some (by kernel_rfl))
 f308 := Tryz.func227.trans (congrArg some (by kernel_rfl))
 f309 := Tryz.func235.trans (congrArg some (by kernel_rfl))
 f310 := Tryz.func236.trans (congrArg some (by kernel_rfl))
 f329 := Tryz.func163.trans (congrArg some (by kernel_rfl))
 f330 := Tryz.func164.trans (congrArg some (by kernel_rfl))
 f333 := Tryz.func237.trans (congrArg some (by kernel_rfl))
 f334 := Tryz.func238.trans (congrArg some (by kernel_rfl))
 f335 := Tryz.func239.trans (congrArg some (by kernel_rfl))
 f336 := Tryz.func114.trans (congrArg some (by kernel_rfl))
 f344 := Tryz.func240.trans (congrArg some (by kernel_rfl))
 t0 := Tryz.underlying0
 a0 := Tryz.isAgg0
 z0 := Tryz.sizeOf0
 v0 := Tryz.zeroValue0
 t3 := Tryz.underlying3
 a3 := Tryz.isAgg3
 z3 := Tryz.sizeOf3
 v3 := Tryz.zeroValue3
 t4 := Tryz.underlying4
 a4 := Tryz.isAgg4
 z4 := Tryz.sizeOf4
 v4 := Tryz.zeroValue4
 t5 := Tryz.underlying5
 a5 := Tryz.isAgg5
 z5 := Tryz.sizeOf5
 v5 := Tryz.zeroValue5
 t9 := Tryz.underlying9
 a9 := Tryz.isAgg9
 z9 := Tryz.sizeOf9
 v9 := Tryz.zeroValue9
 t31 := Tryz.underlying51
 a31 := Tryz.isAgg51
 z31 := Tryz.sizeOf51
 v31 := Tryz.zeroValue51
 t46 := Tryz.underlying162
 a46 := Tryz.isAgg162
 z46 := Tryz.sizeOf162
 v46 := Tryz.zeroValue162
 t51 := Tryz.underlying199
 a51 := Tryz.isAgg199
 z51 := Tryz.sizeOf199
 v51 := Tryz.zeroValue199
 t53 := Tryz.underlying159
 a53 := Tryz.isAgg159
 z53 := Tryz.sizeOf159
 v53 := Tryz.zeroValue159
 t131 := Tryz.underlying196
 a131 := Tryz.isAgg196
 z131 := Tryz.sizeOf196
 v131 := Tryz.zeroValue196
 t182 := Tryz.underlying191
 a182 := Tryz.isAgg191
 z182 := Tryz.sizeOf191
 v182 := Tryz.zeroValue191
 t183 := Tryz.underlying192
 a183 := Tryz.isAgg192
 z183 := Tryz.sizeOf192
 v183 := Tryz.zeroValue192
 t218 := Tryz.underlying226
 a218 := Tryz.isAgg226
 z218 := Tryz.sizeOf226
 v218 := Tryz.zeroValue226
 t222 := Tryz.underlying80
 a222 := Tryz.isAgg80
 z222 := Tryz.sizeOf80
 v222 := Tryz.zeroValue80
 t228 := Tryz.underlying239
 a228 := Tryz.isAgg239
 z228 := Tryz.sizeOf239
 v228 := Tryz.zeroValue239
 t229 := Tryz.underlying240
 a229 := Tryz.isAgg240
 z229 := Tryz.sizeOf240
 v229 := Tryz.zeroValue240 }
open Go.Sort Go.RowKit in
theorem Tryz.sort_Strings (blk off cap : Nat) (ss : List (List UInt8)) (w : World) (hH : Holds encStr w blk off ss.toArray) (hblk : blk < w.heap.size) (hsz : ss.length < 4611686018427387904) :
   Calls Tryz.prog 224 #[.slice (some ⟨blk, off, none⟩) ss.length cap] w fun e w' =>
    e = .returned (.tuple #[]) ∧ ∃ n os, w' = grow (putRow encStr (Sort.ahead w n) blk off (ss.mergeSort fun x y => decide (x ≤ y)).toArray) os := Any.sort_Strings Tryz.lays192 blk off cap ss w hH hblk hsz
open Go.RowKit Go.Sort in
theorem Tryz.sort_Strings_none (p : Option Addr) (cap : Nat) (w : World) :
   Calls Tryz.prog 224 #[.slice p 0 cap] w fun e w' => e = .returned (.tuple #[]) ∧ w' = w := Any.sort_Strings_none Tryz.lays192 p cap w
end Go.Proofs
namespace Go.Proofs.YthfjolafikgpoaaGreatDoor.Hand
open Go.RowKit Go.Proofs.YthfjolafikgpoaaGreatDoorW.PrintWords Go.Proofs.YthfjolafikgpoaaGreatDoorW.PrintLast Go.Proofs.YthfjolafikgpoaaGreatDoorW.PrintMore Go.Proofs.YthfjolafikgpoaaGreatDoor.Base
open Go.Sort (Holds PermIn SortedIn putRow)
set_option linter.unusedVariables false
set_option linter.unusedSimpArgs false
set_option maxRecDepth 100000
theorem asc_merge (l : List L) : Asc (l.mergeSort fun x y => decide (x ≤ y)) := by
 have h := List.pairwise_mergeSort (le := fun (x y : L) => decide (x ≤ y)) (fun a b c h1 h2 => by
  simp only [decide_eq_true_eq] at *; exact List.le_trans h1 h2) (fun a b => by
  simp only [Bool.or_eq_true, decide_eq_true_eq]; exact List.le_total a b) l
 unfold Asc
 refine h.imp fun {x y} hxy => ?_
 simp only [decide_eq_true_eq] at hxy
 unfold Sort.ltStr
 simpa using hxy
theorem Strings_calls (l : List L) (W : World) (base : Nat) (v : Value) (hR : Kd.R Kd.string 9 W base (fun _ => True) v (l.map mk)) (hn : l.length ≤ 1000000) :
   Calls Tryz.prog 224 #[v] W fun e w' => e = .returned (.tuple #[]) ∧ ∃ l' : List L, l'.Perm l ∧ Asc l' ∧ Kd.R Kd.string 9 w' base (fun _ => True) v (l'.map mk) ∧ W.grownBy w' v.ownBlock := by
 by_cases h2 : 1 ≤ l.length
 · obtain ⟨g, cap, rfl, hbg, hlt, _⟩ := Kd.R_form hR (by rw [List.length_map]; omega)
   rw [List.length_map] at hR ⊢
   refine (Tryz.sort_Strings g 0 cap l W (own_holds hR) hlt (by omega)).mono ?_
   rintro e w' ⟨rfl, n, os, rfl⟩
   obtain ⟨r1, r2⟩ := row_put hR (l.mergeSort fun x y => decide (x ≤ y)).toArray (by simp) n os
   exact ⟨rfl, l.mergeSort fun x y => decide (x ≤ y), List.mergeSort_perm _ _, asc_merge l, r1, r2⟩
 · obtain ⟨A, c, rfl⟩ := Kd.R_slice hR
   have h0 : l = [] := List.eq_nil_of_length_eq_zero (by omega)
   subst h0
   refine (Tryz.sort_Strings_none A c W).mono ?_
   rintro e w' ⟨rfl, rfl⟩
   exact ⟨rfl, [], List.Perm.refl _, List.Pairwise.nil, hR, ⟨rfl, rfl, rfl, Nat.le_refl _, fun _ _ _ => rfl⟩⟩
end Go.Proofs.YthfjolafikgpoaaGreatDoor.Hand
namespace Go.Proofs.YthfjolafikgpoaaGreatDoor.Hand
open Go.RowKit Go.Proofs.YthfjolafikgpoaaGreatDoorW.PrintWords Go.Proofs.YthfjolafikgpoaaGreatDoorW.PrintLast Go.Proofs.YthfjolafikgpoaaGreatDoorW.PrintMore Go.Proofs.YthfjolafikgpoaaGreatDoor.Base
set_option linter.unusedVariables false
set_option linter.unusedSimpArgs false
set_option maxRecDepth 100000
theorem vL_mkD (vs : List ByteArray) : (vL vs).map mk = vs := by
 unfold vL
 rw [List.map_map]
 conv => rhs; rw [← List.map_id vs]
 exact List.map_congr_left fun q _ => mk_of q
theorem ltStr_le {x y : L} : Sort.ltStr y x = false ↔ x ≤ y := by
 unfold Sort.ltStr; simp
theorem ord_asc {vs : List ByteArray} (h : OrdTo vs vs.length) : Asc (vL vs) := by
 have key : ∀ d i : Nat, ∀ p q, vs[i]? = some p → vs[i + d + 1]? = some q → Sort.ltStr q.data.toList p.data.toList = false := by
  intro d
  induction d with
  | zero => intro i p q hp hq; exact h i p q (List.getElem?_eq_some_iff.1 hp).1 hp hq
  | succ d ih =>
    intro i p q hp hq
    have hl := (List.getElem?_eq_some_iff.1 hq).1
    obtain ⟨r, hr⟩ : ∃ r, vs[i + d + 1]? = some r := ⟨_, List.getElem?_eq_getElem (by omega)⟩
    have h1 := ih i p r hp hr
    have h2 := h (i + d + 1) r q (by omega) hr hq
    exact ltStr_le.2 (List.le_trans (ltStr_le.1 h1) (ltStr_le.1 h2))
 unfold Asc
 rw [List.pairwise_iff_getElem]
 intro i j hi hj hij
 have hi' : i < vs.length := by simpa [vL] using hi
 have hj' : j < vs.length := by simpa [vL] using hj
 have := key (j - i - 1) i vs[i] vs[j] (List.getElem?_eq_getElem hi') (by rw [show i + (j - i - 1) + 1 = j by omega]; exact List.getElem?_eq_getElem hj')
 simpa [vL] using this
set_option maxHeartbeats 8000000 in
theorem safeSort_calls (A : Option Addr) (c n : Nat) (vs : List ByteArray) (hn : vs.length = n) (hn2 : n ≤ 1000) (hc : n ≤ c) (w : World) (hC : Kd.C Kd.string w A n vs) :
   Calls Tryz.prog 222 #[.slice A n c] w fun e w' => ∃ (A' : Option Addr) (c' : Nat) (us : List L), e = .returned (.slice A' n c') ∧ Kd.C Kd.string w' A' n (us.map mk) ∧ us.Perm (vL vs) ∧ Asc us ∧ Below w.heap.size w w' := by
 have HSAS := Aside0.mk (SAS_calls A c n vs hn hn2 hc w hC)
 have HC := Aside0.mk hC
 have HLN := Aside0.mk hn
 have HSS := Aside0.mk Strings_calls
 have HL2 : Aside0 ((vL vs).length ≤ 1000000) := ⟨by rw [List.length_map, hn]; omega⟩
 clear hC hn
 go_enter Tryz.func222, Tryz.ntmps222
 go_wp2_with (first | ((with_reducible refine (HSAS.out).mono ?_); rintro e w1 ⟨b, rfl, hb, hb1⟩; have HOR := Aside0.mk hb; have HB := Aside0.mk hb1; clear hb hb1 HSAS; (try cases b)) | ((with_reducible refine gate_dst (N := 9) rfl ?_); (try (refine gate_guard (by rfl) ?_; dsimp only)); refine Kd.R_make Kd.string (w0 := w) w.heap.size 9 rfl (N := 9) rfl 51 (.tmp 8) (.tmp 8) rfl (n : Int) ?mx ?my Tryz.underlying51 (.string ⟨#[]⟩) 16 infoS rfl (by decide) (by decide) (⟨#[]⟩ : ByteArray) (okp := fun _ => True) (ok := fun _ => True) rfl (fun _ h => h) trivial (by omega) (by omega) HB.out (below_size HB.out) ?_; (case mx => rfl); (case my => rfl); intro v8 w2 hR hb hg hat; clear hg hat; rw [Int.toNat_natCast] at hR; have CV2 := Aside0.mk (Kd.C_below HC.out hb); have HD := Aside0.mk hR; clear HB; have HB := Aside0.mk hb; clear hb hR) | ((with_reducible refine gate_dst (N := 12) rfl ?_); (try (refine gate_guard (by rfl) ?_; dsimp only)); refine Kd.R_copy (⟨#[]⟩ : ByteArray) (w0 := w) w.heap.size rfl (.tmp 10) (.tmp 11) 51 51 9 rfl Tryz.underlying51 (by kernel_rfl) v8 (List.replicate n (⟨#[]⟩ : ByteArray)) vs A n c (fun _ => True) rfl rfl HD.out CV2.out HB.out (below_size HB.out) ?_; intro w3 hR hb hg; clear hg; rw [List.length_replicate, Nat.min_self, List.drop_eq_nil_of_le (by rw [List.length_replicate]; exact Nat.le_refl _), List.append_nil, List.take_of_length_le (by rw [HLN.out]; exact Nat.le_refl _)] at hR; clear HD HB CV2; have HD : Aside0 (Kd.R Kd.string 9 w3 w.heap.size (fun _ => True) v8 ((vL vs).map mk)) := ⟨by rw [vL_mkD]; exact hR⟩; have HB := Aside0.mk hb; clear hb hR) | ((with_reducible refine (HSS.out (vL vs) _ w.heap.size v8 HD.out HL2.out).mono ?_); rintro e w4 ⟨rfl, l', hp, ha, hR, hg⟩; have HP := Aside0.mk hp; have HAS := Aside0.mk ha; clear HD; have HD := Aside0.mk hR; have HGR := Aside0.mk hg; clear hp ha hR hg))
 · have HBF := Aside0.mk (pw_below_grown HB.out _ (below_size HB.out) HGR.out (fun k hk => by obtain ⟨inner, ho⟩ := Kd.R_own HD.out; exact own_base ho k hk))
   obtain ⟨A', c', rfl⟩ := Kd.R_slice HD.out
   have hrd := (Kd.R_reads' HD.out).2
   have HLL : Aside0 ((l'.map mk).length = n) := ⟨by rw [List.length_map, HP.out.length_eq, List.length_map, HLN.out]⟩
   rw [HLL.out] at hrd
   obtain ⟨hcn, hCn⟩ := hrd
   go_ret
   exact ⟨A', c', l', by (first | rfl | (rw [HLL.out]; rfl) | (rw [HLL.out])), hCn, HP.out, HAS.out, HBF.out⟩
 · have HA := Aside0.mk (ord_asc (vs := vs) (by rw [HLN.out]; first | exact HOR.out rfl | exact HOR.out trivial))
   go_ret
   exact ⟨A, c, vL vs, rfl, by rw [vL_mkD]; exact Kd.C_below HC.out HB.out, List.Perm.refl _, HA.out, HB.out⟩
end Go.Proofs.YthfjolafikgpoaaGreatDoor.Hand
