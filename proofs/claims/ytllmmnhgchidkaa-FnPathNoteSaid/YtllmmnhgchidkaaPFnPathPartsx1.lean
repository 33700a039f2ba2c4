-- PRINTED BY print.sh 35421559b90ae4d0a3588c463048766b98c2df88dd9212a6774a882060cdf62d: not written by this session
import Derived.Test.YtllmmnhgchidkaaPFnPathPartsx0
namespace Go.Proofs.Ytllmmnhgchidkaa.PFnPathParts
open Go.RowKit Go.Proofs.YtllmmnhgchidkaaW.PrintWords Go.Proofs.YtllmmnhgchidkaaW.PrintLast Go.Proofs.YtllmmnhgchidkaaW.PrintMore
attribute [local go_sem] max2_int min2_int max_two min_two max_three min_three max_four min_four   -- for this text's walks alone
set_option linter.unusedVariables false
set_option linter.unusedSimpArgs false

/-! ### laws_epPath: function 19 -/
mutual
def laws_epPath.l0 : Nat → List ByteArray → List ByteArray → Int → Int → Option (Bool)
  | 0, _, _, _, _ => none
  | k + 1, x0, x6, x7, x8 => if x8 < x7 then (if 0 ≤ x8 then (if x8 < (x6.length : Int) then (laws_epPath.l1 k x0 (rdOf ByteArray.empty x6 x8) x6 x7 x8 ((rdOf ByteArray.empty x6 x8).size : Int) 0) else (none)) else (none)) else (some (decide ((x0.length : Int) ≤ 20)))
def laws_epPath.l1 : Nat → List ByteArray → ByteArray → List ByteArray → Int → Int → Int → Int → Option (Bool)
  | 0, _, _, _, _, _, _, _ => none
  | k + 1, x0, x4, x6, x7, x8, x13, x14 => if x14 < x13 then (if 0 ≤ x14 then (if x14 < (x4.size : Int) then (if (bt x4 x14) = 0 then (some false) else (if (bt x4 x14) > 127 then (some false) else (laws_epPath.l1 k x0 x4 x6 x7 x8 x13 (wrap64 (x14 + 1))))) else (none)) else (none)) else (if (x4.size : Int) > 200 then (some false) else (laws_epPath.l0 k x0 x6 x7 (wrap64 (x8 + 1))))
end
def laws_epPath.f (k : Nat) (l0 : List ByteArray) : Option (Bool) := laws_epPath.l0 k l0 l0 (l0.length : Int) 0
theorem laws_epPath.mono_l : ∀ k, (∀ y0 y1 y2 y3, LeO (laws_epPath.l0 k y0 y1 y2 y3) (laws_epPath.l0 (k + 1) y0 y1 y2 y3)) ∧ (∀ y0 y1 y2 y3 y4 y5 y6, LeO (laws_epPath.l1 k y0 y1 y2 y3 y4 y5 y6) (laws_epPath.l1 (k + 1) y0 y1 y2 y3 y4 y5 y6))
  | 0 => ⟨fun _ _ _ _ r h => by simp [laws_epPath.l0] at h, fun _ _ _ _ _ _ _ r h => by simp [laws_epPath.l1] at h⟩
  | k + 1 => by
    obtain ⟨ih0, ih1⟩ := laws_epPath.mono_l k
    refine ⟨?_, ?_⟩
    · intro y0 y1 y2 y3
      unfold laws_epPath.l0
      repeat' first
      | (with_reducible exact ih0 _ _ _ _)
      | (with_reducible exact ih1 _ _ _ _ _ _ _)
      | (with_reducible exact LeO.refl _)
      | (with_reducible exact LeO.none _)
      | (with_reducible refine LeO.ite ?_ ?_)
      | (with_reducible refine LeO.bind ?_ (fun _ => ?_))
      | exact ih0 _ _ _ _
      | exact ih1 _ _ _ _ _ _ _
      | exact LeO.none _
      | refine LeO.ite ?_ ?_
      | refine LeO.bind ?_ (fun _ => ?_)
    · intro y0 y1 y2 y3 y4 y5 y6
      unfold laws_epPath.l1
      repeat' first
      | (with_reducible exact ih0 _ _ _ _)
      | (with_reducible exact ih1 _ _ _ _ _ _ _)
      | (with_reducible exact LeO.refl _)
      | (with_reducible exact LeO.none _)
      | (with_reducible refine LeO.ite ?_ ?_)
      | (with_reducible refine LeO.bind ?_ (fun _ => ?_))
      | exact ih0 _ _ _ _
      | exact ih1 _ _ _ _ _ _ _
      | exact LeO.none _
      | refine LeO.ite ?_ ?_
      | refine LeO.bind ?_ (fun _ => ?_)
theorem laws_epPath.mono : ∀ a0 k, LeO (laws_epPath.f k a0) (laws_epPath.f (k + 1) a0) := by
  intro a0 k
  obtain ⟨ih0, ih1⟩ := laws_epPath.mono_l k
  unfold laws_epPath.f
  repeat' first
      | (with_reducible exact ih0 _ _ _ _)
      | (with_reducible exact ih1 _ _ _ _ _ _ _)
      | (with_reducible exact LeO.refl _)
      | (with_reducible exact LeO.none _)
      | (with_reducible refine LeO.ite ?_ ?_)
      | (with_reducible refine LeO.bind ?_ (fun _ => ?_))
      | exact ih0 _ _ _ _
      | exact ih1 _ _ _ _ _ _ _
      | exact LeO.none _
      | refine LeO.ite ?_ ?_
      | refine LeO.bind ?_ (fun _ => ?_)
set_option maxHeartbeats 8000000 in
set_option maxRecDepth 100000 in
theorem laws_epPath.calls (k : Nat) (A0 : Option Addr) (c0 : Nat) (l0 : List ByteArray) (r : Bool) (w : World) (hr0 : Kd.C Kd.string w A0 l0.length l0) (hc0 : l0.length ≤ c0) (h : laws_epPath.f k l0 = some r) :
    Calls Try.prog 19 #[.slice A0 l0.length c0] w fun e w' => e = .returned (.bool r) ∧ Drawn0 w w' := by
  have HR0 := Aside0.mk hr0
  have HC0 := Aside0.mk hc0
  clear hr0 hc0
  have H : (laws_epPath.l0 k l0 l0 (l0.length : Int) 0) = some r := h
  clear h
  have H' := Aside0.mk H
  clear H
  go_enter Try.func19, Try.ntmps19
  go_wp2
  go_loopg [8] k (fun kq v8 w' => ∃ (x8_1 : Int), v8 = .int .i64 x8_1 ∧ Aside0 (laws_epPath.l0 kq l0 l0 (l0.length : Int) x8_1 = some r) ∧ Aside0 (kq ≤ k) ∧ Drawn0 w w')
  case atStart => exact ⟨(0), (by first | rfl | (simp; done) | (simp [*]; done)), H', ⟨Nat.le_refl _⟩, by repeat (first | exact Drawn0.refl _ | apply Drawn0.step)⟩
  case round =>
    clear H'
    try clear c1
    obtain ⟨x8_1, rfl, HA, HK1, ⟨m1, rfl⟩⟩ := hrel
    cases gk with
    | zero => exact absurd HA.out (by simp [laws_epPath.l0])
    | succ k1 =>
      have H := HA.out
      clear HA
      simp only [laws_epPath.l0] at H
      by_cases c2 : x8_1 < (l0.length : Int)
      · rw [if_pos c2] at H
        have c2b0 : decide (x8_1 < (l0.length : Int)) = true := decide_eq_true c2
        clear c2
        by_cases c3 : 0 ≤ x8_1
        · rw [if_pos c3] at H
          have c3b0 : decide (0 ≤ x8_1) = true := decide_eq_true c3
          clear c3
          by_cases c4 : x8_1 < (l0.length : Int)
          · rw [if_pos c4] at H
            have c4b0 : decide (x8_1 < (l0.length : Int)) = true := decide_eq_true c4
            clear c4
            have H' := Aside0.mk H
            clear H
            have p101 : 0 ≤ (x8_1 : Int) := of_decide_eq_true (by first | (with_reducible assumption) | assumption)
            have q101 : x8_1 < (l0.length : Int) := of_decide_eq_true (by first | (with_reducible assumption) | assumption)
            obtain ⟨ad101, e101, hx101_0⟩ := Kd.at_string HR0.out x8_1 p101 q101
            cases e101
            replace p101 := eq_true p101
            replace q101 := eq_true q101
            go_wp2
            go_loopg [14] k1 (fun kq v14 w' => ∃ (x14_2 : Int), v14 = .int .i64 x14_2 ∧ Aside0 (laws_epPath.l1 kq l0 (rdOf ByteArray.empty l0 x8_1) l0 (l0.length : Int) x8_1 ((rdOf ByteArray.empty l0 x8_1).size : Int) x14_2 = some r) ∧ Aside0 (kq ≤ k1) ∧ Drawn0 w w')
            case atStart => exact ⟨(0), (by first | rfl | (simp; done) | (simp [*]; done)), H', ⟨Nat.le_refl _⟩, by repeat (first | exact Drawn0.refl _ | apply Drawn0.step)⟩
            case round =>
              clear H'
              try clear c1
              try clear p1
              try clear q1
              try clear hx1
              try clear c2
              try clear c2b0
              try clear p2
              try clear c3
              try clear c3b0
              try clear c4
              try clear c4b0
              try clear hx101_0
              try clear p101
              try clear q101
              obtain ⟨x14_2, rfl, HA, HK2, ⟨m2, rfl⟩⟩ := hrel
              cases gk with
              | zero => exact absurd HA.out (by simp [laws_epPath.l1])
              | succ k2 =>
                have H := HA.out
                clear HA
                simp only [laws_epPath.l1] at H
                by_cases c5 : x14_2 < ((rdOf ByteArray.empty l0 x8_1).size : Int)
                · rw [if_pos c5] at H
                  have c5b0 : decide (x14_2 < ((rdOf ByteArray.empty l0 x8_1).size : Int)) = true := decide_eq_true c5
                  clear c5
                  by_cases c6 : 0 ≤ x14_2
                  · rw [if_pos c6] at H
                    have c6b0 : decide (0 ≤ x14_2) = true := decide_eq_true c6
                    clear c6
                    by_cases c7 : x14_2 < ((rdOf ByteArray.empty l0 x8_1).size : Int)
                    · rw [if_pos c7] at H
                      have c7b0 : decide (x14_2 < ((rdOf ByteArray.empty l0 x8_1).size : Int)) = true := decide_eq_true c7
                      clear c7
                      by_cases c9 : (bt (rdOf ByteArray.empty l0 x8_1) x14_2) = 0
                      · rw [if_pos c9] at H
                        have c9b0 : ((bt (rdOf ByteArray.empty l0 x8_1) x14_2) == 0) = true := beq_iff_eq.mpr c9
                        have c9b1 : ((bt (rdOf ByteArray.empty l0 x8_1) x14_2) != 0) = false := bne_eq_false_iff_eq.mpr c9
                        clear c9
                        obtain rfl := Option.some.inj H
                        have p8 : 0 ≤ (x14_2 : Int) := of_decide_eq_true (by first | (with_reducible assumption) | assumption)
                        have q8 : x14_2 < ((rdOf ByteArray.empty l0 x8_1).size : Int) := of_decide_eq_true (by first | (with_reducible assumption) | assumption)
                        have hx8 := bt_at (rdOf ByteArray.empty l0 x8_1) x14_2
                        replace p8 := eq_true p8
                        replace q8 := eq_true q8
                        go_wp2
                        go_ret
                        exact ⟨by first | rfl | (simp; done) | (simp [*]; done), by repeat (first | exact Drawn0.refl _ | apply Drawn0.step)⟩
                      · rw [if_neg c9] at H
                        have c9b0 : ((bt (rdOf ByteArray.empty l0 x8_1) x14_2) == 0) = false := beq_eq_false_iff_ne.mpr c9
                        have c9b1 : ((bt (rdOf ByteArray.empty l0 x8_1) x14_2) != 0) = true := bne_iff_ne.mpr c9
                        by_cases c11 : (bt (rdOf ByteArray.empty l0 x8_1) x14_2) > 127
                        · rw [if_pos c11] at H
                          have c11b0 : decide (127 < (bt (rdOf ByteArray.empty l0 x8_1) x14_2)) = true := decide_eq_true c11
                          clear c11
                          obtain rfl := Option.some.inj H
                          have p8 : 0 ≤ (x14_2 : Int) := of_decide_eq_true (by first | (with_reducible assumption) | assumption)
                          have q8 : x14_2 < ((rdOf ByteArray.empty l0 x8_1).size : Int) := of_decide_eq_true (by first | (with_reducible assumption) | assumption)
                          have hx8 := bt_at (rdOf ByteArray.empty l0 x8_1) x14_2
                          replace p8 := eq_true p8
                          replace q8 := eq_true q8
                          have p10 : 0 ≤ (x14_2 : Int) := of_decide_eq_true (by first | (with_reducible assumption) | assumption)
                          have q10 : x14_2 < ((rdOf ByteArray.empty l0 x8_1).size : Int) := of_decide_eq_true (by first | (with_reducible assumption) | assumption)
                          have hx10 := bt_at (rdOf ByteArray.empty l0 x8_1) x14_2
                          replace p10 := eq_true p10
                          replace q10 := eq_true q10
                          go_wp2
                          go_ret
                          exact ⟨by first | rfl | (simp; done) | (simp [*]; done), by repeat (first | exact Drawn0.refl _ | apply Drawn0.step)⟩
                        · rw [if_neg c11] at H
                          have c11b0 : decide (127 < (bt (rdOf ByteArray.empty l0 x8_1) x14_2)) = false := decide_eq_false c11
                          clear c11
                          have H' := Aside0.mk H
                          clear H
                          have p8 : 0 ≤ (x14_2 : Int) := of_decide_eq_true (by first | (with_reducible assumption) | assumption)
                          have q8 : x14_2 < ((rdOf ByteArray.empty l0 x8_1).size : Int) := of_decide_eq_true (by first | (with_reducible assumption) | assumption)
                          have hx8 := bt_at (rdOf ByteArray.empty l0 x8_1) x14_2
                          replace p8 := eq_true p8
                          replace q8 := eq_true q8
                          have p10 : 0 ≤ (x14_2 : Int) := of_decide_eq_true (by first | (with_reducible assumption) | assumption)
                          have q10 : x14_2 < ((rdOf ByteArray.empty l0 x8_1).size : Int) := of_decide_eq_true (by first | (with_reducible assumption) | assumption)
                          have hx10 := bt_at (rdOf ByteArray.empty l0 x8_1) x14_2
                          replace p10 := eq_true p10
                          replace q10 := eq_true q10
                          go_wp2
                          go_roundg k2
                          case measure => have := HK1.out; have := HK2.out; omega
                          case rel => exact ⟨(wrap64 (x14_2 + 1)), (by first | rfl | (simp; done) | (simp [*]; done)), H', ⟨by have := HK1.out; have := HK2.out; omega⟩, by repeat (first | exact Drawn0.refl _ | apply Drawn0.step)⟩
                    · rw [if_neg c7] at H
                      exact absurd H (by simp)
                  · rw [if_neg c6] at H
                    exact absurd H (by simp)
                · rw [if_neg c5] at H
                  have c5b0 : decide (x14_2 < ((rdOf ByteArray.empty l0 x8_1).size : Int)) = false := decide_eq_false c5
                  clear c5
                  by_cases c12 : ((rdOf ByteArray.empty l0 x8_1).size : Int) > 200
                  · rw [if_pos c12] at H
                    have c12b0 : decide (200 < ((rdOf ByteArray.empty l0 x8_1).size : Int)) = true := decide_eq_true c12
                    have c12b1 : decide (200 < (rdOf ByteArray.empty l0 x8_1).size) = true := decide_eq_true (by omega)
                    clear c12
                    obtain rfl := Option.some.inj H
                    go_wp2
                    go_ret
                    exact ⟨by first | rfl | (simp; done) | (simp [*]; done), by repeat (first | exact Drawn0.refl _ | apply Drawn0.step)⟩
                  · rw [if_neg c12] at H
                    have c12b0 : decide (200 < ((rdOf ByteArray.empty l0 x8_1).size : Int)) = false := decide_eq_false c12
                    have c12b1 : decide (200 < (rdOf ByteArray.empty l0 x8_1).size) = false := decide_eq_false (by omega)
                    clear c12
                    have H' := Aside0.mk H
                    clear H
                    go_wp2
                    go_roundg k2
                    case measure => have := HK1.out; have := HK2.out; omega
                    case rel => exact ⟨(wrap64 (x8_1 + 1)), (by first | rfl | (simp; done) | (simp [*]; done)), H', ⟨by have := HK1.out; have := HK2.out; omega⟩, by repeat (first | exact Drawn0.refl _ | apply Drawn0.step)⟩
          · rw [if_neg c4] at H
            exact absurd H (by simp)
        · rw [if_neg c3] at H
          exact absurd H (by simp)
      · rw [if_neg c2] at H
        have c2b0 : decide (x8_1 < (l0.length : Int)) = false := decide_eq_false c2
        clear c2
        obtain rfl := Option.some.inj H
        go_wp2
        go_ret
        exact ⟨by first | rfl | (simp; done) | (simp [*]; done), by repeat (first | exact Drawn0.refl _ | apply Drawn0.step)⟩

/-! ### spec_Pieces: function 59 -/
def spec_Pieces.l0 : Nat → ByteArray → Int → List ByteArray → Int → Int → Int → Option (List ByteArray)
  | 0, _, _, _, _, _, _ => none
  | k + 1, x0, x1, x5, x6, x9, x10 => if x10 < x9 then (if 0 ≤ x10 then (if x10 < (x0.size : Int) then (if (bt x0 x10) = x1 then (if 0 ≤ x6 then (if x6 ≤ x10 then (if x10 ≤ (x0.size : Int) then (if x5.length < 8796093022208 then (spec_Pieces.l0 k x0 x1 (x5 ++ [x0.extract (x6 : Int).toNat (x10 : Int).toNat]) (wrap64 (x10 + 1)) x9 (wrap64 (x10 + 1))) else (none)) else (none)) else (none)) else (none)) else (spec_Pieces.l0 k x0 x1 x5 x6 x9 (wrap64 (x10 + 1)))) else (none)) else (none)) else (if 0 ≤ x6 then (if x6 ≤ (x0.size : Int) then (if x5.length < 8796093022208 then (some (x5 ++ [x0.extract (x6 : Int).toNat x0.size])) else (none)) else (none)) else (none))
def spec_Pieces.f (k : Nat) (a0 : ByteArray) (a1 : Int) : Option (List ByteArray) := spec_Pieces.l0 k a0 a1 ([] : List ByteArray) 0 (a0.size : Int) 0
theorem spec_Pieces.mono_l : ∀ k, (∀ y0 y1 y2 y3 y4 y5, LeO (spec_Pieces.l0 k y0 y1 y2 y3 y4 y5) (spec_Pieces.l0 (k + 1) y0 y1 y2 y3 y4 y5))
  | 0 => fun _ _ _ _ _ _ r h => by simp [spec_Pieces.l0] at h
  | k + 1 => by
    have ih0 := spec_Pieces.mono_l k
    · intro y0 y1 y2 y3 y4 y5
      unfold spec_Pieces.l0
      repeat' first
      | (with_reducible exact ih0 _ _ _ _ _ _)
      | (with_reducible exact LeO.refl _)
      | (with_reducible exact LeO.none _)
      | (with_reducible refine LeO.ite ?_ ?_)
      | (with_reducible refine LeO.bind ?_ (fun _ => ?_))
      | exact ih0 _ _ _ _ _ _
      | exact LeO.none _
      | refine LeO.ite ?_ ?_
      | refine LeO.bind ?_ (fun _ => ?_)
theorem spec_Pieces.mono : ∀ a0 a1 k, LeO (spec_Pieces.f k a0 a1) (spec_Pieces.f (k + 1) a0 a1) := by
  intro a0 a1 k
  have ih0 := spec_Pieces.mono_l k
  unfold spec_Pieces.f
  repeat' first
      | (with_reducible exact ih0 _ _ _ _ _ _)
      | (with_reducible exact LeO.refl _)
      | (with_reducible exact LeO.none _)
      | (with_reducible refine LeO.ite ?_ ?_)
      | (with_reducible refine LeO.bind ?_ (fun _ => ?_))
      | exact ih0 _ _ _ _ _ _
      | exact LeO.none _
      | refine LeO.ite ?_ ?_
      | refine LeO.bind ?_ (fun _ => ?_)
set_option maxHeartbeats 8000000 in
set_option maxRecDepth 100000 in
theorem spec_Pieces.calls (k : Nat) (a0 : ByteArray) (a1 : Int) (r : List ByteArray) (w : World) (h : spec_Pieces.f k a0 a1 = some r) :
    Calls Try.prog 59 #[.string a0, .int .u8 a1] w fun e w' => ∃ v0_ : Value, e = .returned (v0_) ∧ Kd.R Kd.string 9 w' w.heap.size (fun _ => True) v0_ r ∧ Below w.heap.size w w' := by
  have HB := Aside0.mk (Below.refl w.heap.size w)
  have H : (spec_Pieces.l0 k a0 a1 ([] : List ByteArray) 0 (a0.size : Int) 0) = some r := h
  clear h
  have H' := Aside0.mk H
  clear H
  go_enter Try.func59, Try.ntmps59
  go_wp2
  go_loopg [5, 6, 10] k (fun kq v5 v6 v10 w' => ∃ (x5_1 : List ByteArray) (x6_1 : Int) (x10_1 : Int), v6 = .int .i64 x6_1 ∧ v10 = .int .i64 x10_1 ∧ Aside0 (spec_Pieces.l0 kq a0 a1 x5_1 x6_1 (a0.size : Int) x10_1 = some r) ∧ Aside0 (kq ≤ k) ∧ Aside0 (Kd.R Kd.string 9 w' w.heap.size (fun _ => True) v5 x5_1) ∧ Aside0 (Below w.heap.size w w'))
  case atStart => exact ⟨(([] : List ByteArray)), (0), (0), (by first | rfl | (simp; done) | (simp [*]; done)), (by first | rfl | (simp; done) | (simp [*]; done)), H', ⟨Nat.le_refl _⟩, ⟨by first | exact Kd.R_nil _ _ _ _ _ | exact Kd.N_nil _ _ _ _ _ | exact Kd.V_nil _ _ _ _ _ | exact Kd.Q_nil _ _ _ _ _ | exact Kd.S_nil _ _ _ _ _⟩, ⟨by repeat (first | (with_reducible first | exact HB.out | apply below_alloc | apply pw_below_drewN | apply below_drew1) | exact HB.out)⟩⟩
  case round =>
    clear H'
    try clear p2
    obtain ⟨x5_1, x6_1, x10_1, rfl, rfl, HA, HK1, HO_5, HB⟩ := hrel
    cases gk with
    | zero => exact absurd HA.out (by simp [spec_Pieces.l0])
    | succ k1 =>
      have H := HA.out
      clear HA
      simp only [spec_Pieces.l0] at H
      by_cases c3 : x10_1 < (a0.size : Int)
      · rw [if_pos c3] at H
        have c3b0 : decide (x10_1 < (a0.size : Int)) = true := decide_eq_true c3
        clear c3
        by_cases c4 : 0 ≤ x10_1
        · rw [if_pos c4] at H
          have c4b0 : decide (0 ≤ x10_1) = true := decide_eq_true c4
          clear c4
          by_cases c5 : x10_1 < (a0.size : Int)
          · rw [if_pos c5] at H
            have c5b0 : decide (x10_1 < (a0.size : Int)) = true := decide_eq_true c5
            clear c5
            by_cases c7 : (bt a0 x10_1) = a1
            · rw [if_pos c7] at H
              have c7b0 : ((bt a0 x10_1) == a1) = true := beq_iff_eq.mpr c7
              have c7b1 : ((bt a0 x10_1) != a1) = false := bne_eq_false_iff_eq.mpr c7
              clear c7
              by_cases c8 : 0 ≤ x6_1
              · rw [if_pos c8] at H
                have c8b0 := eq_true c8
                have c8b1 : decide (0 ≤ x6_1) = true := decide_eq_true c8
                clear c8
                by_cases c9 : x6_1 ≤ x10_1
                · rw [if_pos c9] at H
                  have c9b0 := eq_true c9
                  have c9b1 : decide (x6_1 ≤ x10_1) = true := decide_eq_true c9
                  clear c9
                  by_cases c10 : x10_1 ≤ (a0.size : Int)
                  · rw [if_pos c10] at H
                    have c10b0 := eq_true c10
                    have c10b1 : decide (x10_1 ≤ (a0.size : Int)) = true := decide_eq_true c10
                    clear c10
                    by_cases c11 : x5_1.length < 8796093022208
                    · rw [if_pos c11] at H
                      have LMc11 := Aside0.mk c11
                      clear c11
                      obtain ⟨y102, hy102⟩ : ∃ y_ : List ByteArray, y_ = (x5_1 ++ [a0.extract (x6_1 : Int).toNat (x10_1 : Int).toNat]) := ⟨_, rfl⟩
                      replace H : (spec_Pieces.l0 k1 a0 a1 y102 (wrap64 (x10_1 + 1)) (a0.size : Int) (wrap64 (x10_1 + 1))) = some r := by first | (rw [hy102]; with_reducible exact H) | (have H2_ := (Option.bind_some _ _).symm.trans H; rw [hy102]; with_reducible exact H2_) | (have H2_ := (Option.bind_some _ _).symm.trans H; with_reducible exact H2_) | with_reducible exact H | (rw [hy102]; exact H) | exact H
                      have Ny102 := Aside0.mk hy102
                      clear hy102
                      have H' := Aside0.mk H
                      clear H
                      have p6 : 0 ≤ (x10_1 : Int) := of_decide_eq_true (by first | (with_reducible assumption) | assumption)
                      have q6 : x10_1 < (a0.size : Int) := of_decide_eq_true (by first | (with_reducible assumption) | assumption)
                      have hx6 := bt_at a0 x10_1
                      replace p6 := eq_true p6
                      replace q6 := eq_true q6
                      go_wp2_with (first | ((with_reducible refine gate_builtin (b := .append) (xs := #[.tmp 18, .tmp 23]) rfl ?_); at_builtin; refine Kd.R_append Kd.string (w0 := w) w.heap.size rfl (.tmp 18) (.tmp 23) 22 9 (.string ⟨#[]⟩) 16 rfl Try.underlying22 info9 rfl (by decide) (by omega) u5 x5_1 (a0.extract (x6_1 : Int).toNat (x10_1 : Int).toNat) [.string (a0.extract (x6_1 : Int).toNat (x10_1 : Int).toNat)] (fun _ => True) (fun _ => False) rfl rfl ?aP (fun _ hk => hk.elim) ?aF ?aO ?aB ?aS ?aL ?_; (case aP => exact rfl); (case aB => exact (by repeat (first | (with_reducible first | exact HB.out | apply below_alloc | apply pw_below_drewN | apply below_drew1) | exact HB.out))); (case aF => exact (fun _ _ => trivial)); (case aO => exact (by (with_reducible repeat (first | apply Kd.R_alloc | apply Kd.R_drewN | apply Kd.R_drew)); exact HO_5.out)); (case aS => exact (below_size (by repeat (first | (with_reducible first | exact HB.out | apply below_alloc | apply pw_below_drewN | apply below_drew1) | exact HB.out)))); (case aL => have := LMc11.out; omega); intro v103 w12 ho hb hg hat; rw [← Ny102.out] at ho; have n0_ := Aside0.mk (hb); have n1_ := Aside0.mk (ho); clear HB; clear HO_5; have HB := n0_; have HO104 := n1_; clear n0_ n1_; clear ho hb hg hat))
                      go_roundg k1
                      case measure => have := HK1.out; omega
                      case rel => exact ⟨(y102), (wrap64 (x10_1 + 1)), (wrap64 (x10_1 + 1)), (by first | rfl | (simp; done) | (simp [*]; done)), (by first | rfl | (simp; done) | (simp [*]; done)), H', ⟨by have := HK1.out; omega⟩, ⟨by (with_reducible repeat (first | apply Kd.R_alloc | apply Kd.R_drewN | apply Kd.R_drew)); exact HO104.out⟩, ⟨by repeat (first | (with_reducible first | exact HB.out | apply below_alloc | apply pw_below_drewN | apply below_drew1) | exact HB.out)⟩⟩
                    · rw [if_neg c11] at H
                      exact absurd H (by simp)
                  · rw [if_neg c10] at H
                    exact absurd H (by simp)
                · rw [if_neg c9] at H
                  exact absurd H (by simp)
              · rw [if_neg c8] at H
                exact absurd H (by simp)
            · rw [if_neg c7] at H
              have c7b0 : ((bt a0 x10_1) == a1) = false := beq_eq_false_iff_ne.mpr c7
              have c7b1 : ((bt a0 x10_1) != a1) = true := bne_iff_ne.mpr c7
              have H' := Aside0.mk H
              clear H
              have p6 : 0 ≤ (x10_1 : Int) := of_decide_eq_true (by first | (with_reducible assumption) | assumption)
              have q6 : x10_1 < (a0.size : Int) := of_decide_eq_true (by first | (with_reducible assumption) | assumption)
              have hx6 := bt_at a0 x10_1
              replace p6 := eq_true p6
              replace q6 := eq_true q6
              go_wp2
              go_roundg k1
              case measure => have := HK1.out; omega
              case rel => exact ⟨(x5_1), (x6_1), (wrap64 (x10_1 + 1)), (by first | rfl | (simp; done) | (simp [*]; done)), (by first | rfl | (simp; done) | (simp [*]; done)), H', ⟨by have := HK1.out; omega⟩, ⟨by (with_reducible repeat (first | apply Kd.R_alloc | apply Kd.R_drewN | apply Kd.R_drew)); exact HO_5.out⟩, ⟨by repeat (first | (with_reducible first | exact HB.out | apply below_alloc | apply pw_below_drewN | apply below_drew1) | exact HB.out)⟩⟩
          · rw [if_neg c5] at H
            exact absurd H (by simp)
        · rw [if_neg c4] at H
          exact absurd H (by simp)
      · rw [if_neg c3] at H
        have c3b0 : decide (x10_1 < (a0.size : Int)) = false := decide_eq_false c3
        clear c3
        by_cases c13 : 0 ≤ x6_1
        · rw [if_pos c13] at H
          have c13b0 := eq_true c13
          have c13b1 : decide (0 ≤ x6_1) = true := decide_eq_true c13
          clear c13
          by_cases c14 : x6_1 ≤ (a0.size : Int)
          · rw [if_pos c14] at H
            have c14b0 := eq_true c14
            have c14b1 : decide (x6_1 ≤ (a0.size : Int)) = true := decide_eq_true c14
            clear c14
            by_cases c15 : x5_1.length < 8796093022208
            · rw [if_pos c15] at H
              have LMc15 := Aside0.mk c15
              clear c15
              obtain ⟨y105, hy105⟩ : ∃ y_ : List ByteArray, y_ = (x5_1 ++ [a0.extract (x6_1 : Int).toNat a0.size]) := ⟨_, rfl⟩
              replace H : (some y105) = some r := by first | (rw [hy105]; with_reducible exact H) | (have H2_ := (Option.bind_some _ _).symm.trans H; rw [hy105]; with_reducible exact H2_) | (have H2_ := (Option.bind_some _ _).symm.trans H; with_reducible exact H2_) | with_reducible exact H | (rw [hy105]; exact H) | exact H
              have Ny105 := Aside0.mk hy105
              clear hy105
              obtain rfl := Option.some.inj H
              go_wp2_with (first | ((with_reducible refine gate_builtin (b := .append) (xs := #[.tmp 28, .tmp 32]) rfl ?_); at_builtin; refine Kd.R_append Kd.string (w0 := w) w.heap.size rfl (.tmp 28) (.tmp 32) 22 9 (.string ⟨#[]⟩) 16 rfl Try.underlying22 info9 rfl (by decide) (by omega) u5 x5_1 (a0.extract (x6_1 : Int).toNat a0.size) [.string (a0.extract (x6_1 : Int).toNat a0.size)] (fun _ => True) (fun _ => False) rfl rfl ?aP (fun _ hk => hk.elim) ?aF ?aO ?aB ?aS ?aL ?_; (case aP => exact rfl); (case aB => exact (by repeat (first | (with_reducible first | exact HB.out | apply below_alloc | apply pw_below_drewN | apply below_drew1) | exact HB.out))); (case aF => exact (fun _ _ => trivial)); (case aO => exact (by (with_reducible repeat (first | apply Kd.R_alloc | apply Kd.R_drewN | apply Kd.R_drew)); exact HO_5.out)); (case aS => exact (below_size (by repeat (first | (with_reducible first | exact HB.out | apply below_alloc | apply pw_below_drewN | apply below_drew1) | exact HB.out)))); (case aL => have := LMc15.out; omega); intro v106 w16 ho hb hg hat; rw [← Ny105.out] at ho; have n0_ := Aside0.mk (hb); have n1_ := Aside0.mk (ho); clear HB; clear HO_5; have HB := n0_; have HO107 := n1_; clear n0_ n1_; clear ho hb hg hat))
              go_ret
              exact ⟨_, by first | rfl | (simp [errW_none, errW_some] <;> rfl) | (simp [*, errW_none, errW_some] <;> rfl), by (with_reducible repeat (first | apply Kd.R_alloc | apply Kd.R_drewN | apply Kd.R_drew)); exact HO107.out, by repeat (first | (with_reducible first | exact HB.out | apply below_alloc | apply pw_below_drewN | apply below_drew1) | exact HB.out)⟩
            · rw [if_neg c15] at H
              exact absurd H (by simp)
          · rw [if_neg c14] at H
            exact absurd H (by simp)
        · rw [if_neg c13] at H
          exact absurd H (by simp)

/-! ### spec_Names: function 34 -/
def spec_Names.l0 : Nat → List ByteArray → List ByteArray → Int → Int → Option (List ByteArray)
  | 0, _, _, _, _ => none
  | k + 1, x3, x7, x8, x9 => if x9 < x8 then (if 0 ≤ x9 then (if x9 < (x7.length : Int) then (if (rdOf ByteArray.empty x7 x9).toList = ([] : List UInt8) then (spec_Names.l0 k x3 x7 x8 (wrap64 (x9 + 1))) else (if x3.length < 8796093022208 then (spec_Names.l0 k (x3 ++ [rdOf ByteArray.empty x7 x9]) x7 x8 (wrap64 (x9 + 1))) else (none))) else (none)) else (none)) else (some x3)
def spec_Names.f (k : Nat) (a0 : ByteArray) : Option (List ByteArray) := (spec_Pieces.f k a0 47).bind fun t108 => (spec_Names.l0 k ([] : List ByteArray) t108 (t108.length : Int) 0)
theorem spec_Names.mono_l : ∀ k, (∀ y0 y1 y2 y3, LeO (spec_Names.l0 k y0 y1 y2 y3) (spec_Names.l0 (k + 1) y0 y1 y2 y3))
  | 0 => fun _ _ _ _ r h => by simp [spec_Names.l0] at h
  | k + 1 => by
    have ih0 := spec_Names.mono_l k
    · intro y0 y1 y2 y3
      unfold spec_Names.l0
      repeat' first
      | (with_reducible exact ih0 _ _ _ _)
      | (with_reducible exact spec_Pieces.mono _ _ _)
      | (with_reducible exact LeO.refl _)
      | (with_reducible exact LeO.none _)
      | (with_reducible refine LeO.ite ?_ ?_)
      | (with_reducible refine LeO.bind ?_ (fun _ => ?_))
      | exact ih0 _ _ _ _
      | exact spec_Pieces.mono _ _ _
      | exact LeO.none _
      | refine LeO.ite ?_ ?_
      | refine LeO.bind ?_ (fun _ => ?_)
theorem spec_Names.mono : ∀ a0 k, LeO (spec_Names.f k a0) (spec_Names.f (k + 1) a0) := by
  intro a0 k
  have ih0 := spec_Names.mono_l k
  unfold spec_Names.f
  repeat' first
      | (with_reducible exact ih0 _ _ _ _)
      | (with_reducible exact spec_Pieces.mono _ _ _)
      | (with_reducible exact LeO.refl _)
      | (with_reducible exact LeO.none _)
      | (with_reducible refine LeO.ite ?_ ?_)
      | (with_reducible refine LeO.bind ?_ (fun _ => ?_))
      | exact ih0 _ _ _ _
      | exact spec_Pieces.mono _ _ _
      | exact LeO.none _
      | refine LeO.ite ?_ ?_
      | refine LeO.bind ?_ (fun _ => ?_)
set_option maxHeartbeats 8000000 in
set_option maxRecDepth 100000 in
theorem spec_Names.calls (k : Nat) (a0 : ByteArray) (r : List ByteArray) (w : World) (h : spec_Names.f k a0 = some r) :
    Calls Try.prog 34 #[.string a0] w fun e w' => ∃ v0_ : Value, e = .returned (v0_) ∧ Kd.R Kd.string 9 w' w.heap.size (fun _ => True) v0_ r ∧ Below w.heap.size w w' := by
  have HB := Aside0.mk (Below.refl w.heap.size w)
  have H : ((spec_Pieces.f k a0 47).bind fun t108 => (spec_Names.l0 k ([] : List ByteArray) t108 (t108.length : Int) 0)) = some r := h
  clear h
  replace H := Option.bind_eq_some_iff.mp H
  obtain ⟨t108, A20, H⟩ := H
  replace H : (spec_Names.l0 k ([] : List ByteArray) t108 (t108.length : Int) 0) = some r := H
  have A2 := Aside0.mk A20
  clear A20
  have H' := Aside0.mk H
  clear H
  go_enter Try.func34, Try.ntmps34
  go_wp2_with (first | ((with_reducible refine gate_callee (f := 59) rfl ?_); refine goesL_ (some 7) rfl rfl Try.func59 (by kernel_rfl) rfl #[.string a0, .int .u8 47] rfl (by (try simp only [List.map_toArray, List.map_cons, List.map_nil]); first | done | rfl | (simp only [List.length_drop, List.length_take]; rfl)) ?_; (with_reducible refine (spec_Pieces.calls k a0 47 t108 _ A2.out).mono ?_); rintro e w3 ⟨v109, rfl, ho0, hb⟩; refine ⟨_, rfl, ?_⟩; have n0_ := Aside0.mk (Kd.R_lower ho0 (below_size (by repeat (first | (with_reducible first | exact HB.out | apply below_alloc | apply pw_below_drewN | apply below_drew1) | exact HB.out)))); have n1_ := Aside0.mk (below_step (by repeat (first | (with_reducible first | exact HB.out | apply below_alloc | apply pw_below_drewN | apply below_drew1) | exact HB.out)) hb); clear HB; have HO110 := n0_; have HB := n1_; clear n0_ n1_; (try clear hb); (try clear hb2); (try clear hk); (try clear hi); (try clear ho0); obtain ⟨Ao4, co4, eo4⟩ := Kd.R_slice HO110.out; subst eo4))
  go_loopg [3, 9] k (fun kq v3 v9 w' => ∃ (x3_1 : List ByteArray) (x9_1 : Int), v9 = .int .i64 x9_1 ∧ Aside0 (spec_Names.l0 kq x3_1 t108 (t108.length : Int) x9_1 = some r) ∧ Aside0 (kq ≤ k) ∧ Aside0 (Kd.R Kd.string 9 w' w.heap.size (fun k_ => some k_ ≠ ((.slice Ao4 t108.length co4) : Value).ownBlock) v3 x3_1) ∧ Aside0 (Kd.R Kd.string 9 w' w.heap.size (fun k_ => some k_ ≠ (v3 : Value).ownBlock) (.slice Ao4 t108.length co4) t108) ∧ Aside0 (Below w.heap.size w w'))
  case atStart => exact ⟨(([] : List ByteArray)), (0), (by first | rfl | (simp; done) | (simp [*]; done)), H', ⟨Nat.le_refl _⟩, ⟨by first | exact Kd.R_nil _ _ _ _ _ | exact Kd.N_nil _ _ _ _ _ | exact Kd.V_nil _ _ _ _ _ | exact Kd.Q_nil _ _ _ _ _ | exact Kd.S_nil _ _ _ _ _⟩, ⟨by (with_reducible repeat (first | apply Kd.R_alloc | apply Kd.R_drewN | apply Kd.R_drew)); exact Kd.R_mono HO110.out (fun _ hk => (by simp [Value.ownBlock]))⟩, ⟨by repeat (first | (with_reducible first | exact HB.out | apply below_alloc | apply pw_below_drewN | apply below_drew1) | exact HB.out)⟩⟩
  case round =>
    clear H'
    try clear p2
    try clear c3
    obtain ⟨x3_1, x9_1, rfl, HA, HK1, HO_3, HO_7, HB⟩ := hrel
    cases gk with
    | zero => exact absurd HA.out (by simp [spec_Names.l0])
    | succ k1 =>
      have H := HA.out
      clear HA
      simp only [spec_Names.l0] at H
      by_cases c5 : x9_1 < (t108.length : Int)
      · rw [if_pos c5] at H
        have c5b0 : decide (x9_1 < (t108.length : Int)) = true := decide_eq_true c5
        clear c5
        by_cases c6 : 0 ≤ x9_1
        · rw [if_pos c6] at H
          have c6b0 : decide (0 ≤ x9_1) = true := decide_eq_true c6
          clear c6
          by_cases c7 : x9_1 < (t108.length : Int)
          · rw [if_pos c7] at H
            have c7b0 : decide (x9_1 < (t108.length : Int)) = true := decide_eq_true c7
            clear c7
            by_cases c8 : (rdOf ByteArray.empty t108 x9_1).toList = ([] : List UInt8)
            · rw [if_pos c8] at H
              have c8b0 : ((rdOf ByteArray.empty t108 x9_1).toList == ([] : List UInt8)) = true := beq_iff_eq.mpr c8
              have c8b1 : ((rdOf ByteArray.empty t108 x9_1).toList != ([] : List UInt8)) = false := bne_eq_false_iff_eq.mpr c8
              clear c8
              have H' := Aside0.mk H
              clear H
              have p111 : 0 ≤ (x9_1 : Int) := of_decide_eq_true (by first | (with_reducible assumption) | assumption)
              have q111 : x9_1 < (t108.length : Int) := of_decide_eq_true (by first | (with_reducible assumption) | assumption)
              obtain ⟨ad111, e111, hx111_0⟩ := Kd.at_string (Kd.R_reads' HO_7.out).2.2 x9_1 p111 q111
              cases e111
              replace p111 := eq_true p111
              replace q111 := eq_true q111
              go_wp2
              go_roundg k1
              case measure => have := HK1.out; omega
              case rel => exact ⟨(x3_1), (wrap64 (x9_1 + 1)), (by first | rfl | (simp; done) | (simp [*]; done)), H', ⟨by have := HK1.out; omega⟩, ⟨by (with_reducible repeat (first | apply Kd.R_alloc | apply Kd.R_drewN | apply Kd.R_drew)); exact HO_3.out⟩, ⟨by (with_reducible repeat (first | apply Kd.R_alloc | apply Kd.R_drewN | apply Kd.R_drew)); exact HO_7.out⟩, ⟨by repeat (first | (with_reducible first | exact HB.out | apply below_alloc | apply pw_below_drewN | apply below_drew1) | exact HB.out)⟩⟩
            · rw [if_neg c8] at H
              have c8b0 : ((rdOf ByteArray.empty t108 x9_1).toList == ([] : List UInt8)) = false := beq_eq_false_iff_ne.mpr c8
              have c8b1 : ((rdOf ByteArray.empty t108 x9_1).toList != ([] : List UInt8)) = true := bne_iff_ne.mpr c8
              by_cases c9 : x3_1.length < 8796093022208
              · rw [if_pos c9] at H
                have LMc9 := Aside0.mk c9
                clear c9
                obtain ⟨y112, hy112⟩ : ∃ y_ : List ByteArray, y_ = (x3_1 ++ [rdOf ByteArray.empty t108 x9_1]) := ⟨_, rfl⟩
                replace H : (spec_Names.l0 k1 y112 t108 (t108.length : Int) (wrap64 (x9_1 + 1))) = some r := by first | (rw [hy112]; with_reducible exact H) | (have H2_ := (Option.bind_some _ _).symm.trans H; rw [hy112]; with_reducible exact H2_) | (have H2_ := (Option.bind_some _ _).symm.trans H; with_reducible exact H2_) | with_reducible exact H | (rw [hy112]; exact H) | exact H
                have Ny112 := Aside0.mk hy112
                clear hy112
                have H' := Aside0.mk H
                clear H
                have p111 : 0 ≤ (x9_1 : Int) := of_decide_eq_true (by first | (with_reducible assumption) | assumption)
                have q111 : x9_1 < (t108.length : Int) := of_decide_eq_true (by first | (with_reducible assumption) | assumption)
                obtain ⟨ad111, e111, hx111_0⟩ := Kd.at_string (Kd.R_reads' HO_7.out).2.2 x9_1 p111 q111
                cases e111
                replace p111 := eq_true p111
                replace q111 := eq_true q111
                go_wp2_with (first | ((with_reducible refine gate_builtin (b := .append) (xs := #[.tmp 15, .tmp 17]) rfl ?_); at_builtin; refine Kd.R_append Kd.string (w0 := w) w.heap.size rfl (.tmp 15) (.tmp 17) 22 9 (.string ⟨#[]⟩) 16 rfl Try.underlying22 info9 rfl (by decide) (by omega) u3 x3_1 (rdOf ByteArray.empty t108 x9_1) [.string (rdOf ByteArray.empty t108 x9_1)] (fun k_ => some k_ ≠ (.slice (some ad111) t108.length co4 : Value).ownBlock) (fun _ => False) rfl rfl ?aP (fun _ hk => hk.elim) ?aF ?aO ?aB ?aS ?aL ?_; (case aP => exact rfl); (case aB => exact (by repeat (first | (with_reducible first | exact HB.out | apply below_alloc | apply pw_below_drewN | apply below_drew1) | exact HB.out))); (case aF => exact (fun k_ hk => Kd.fresh' (Kd.R_lt (by (with_reducible repeat (first | apply Kd.R_alloc | apply Kd.R_drewN | apply Kd.R_drew)); exact HO_7.out)) k_ hk)); (case aO => exact (by (with_reducible repeat (first | apply Kd.R_alloc | apply Kd.R_drewN | apply Kd.R_drew)); exact HO_3.out)); (case aS => exact (below_size (by repeat (first | (with_reducible first | exact HB.out | apply below_alloc | apply pw_below_drewN | apply below_drew1) | exact HB.out)))); (case aL => have := LMc9.out; omega); intro v113 w10 ho hb hg hat; rw [← Ny112.out] at ho; have n0_ := Aside0.mk (Kd.R_after (ok := (fun _ => True)) (by (with_reducible repeat (first | apply Kd.R_alloc | apply Kd.R_drewN | apply Kd.R_drew)); exact Kd.R_mono HO_7.out (fun _ hk => ⟨trivial, hk⟩)) hg hat); have n1_ := Aside0.mk (hb); have n2_ := Aside0.mk (ho); clear HO_7; clear HB; clear HO_3; have HO_7 := n0_; have HB := n1_; have HO114 := n2_; clear n0_ n1_ n2_; clear ho hb hg hat))
                go_roundg k1
                case measure => have := HK1.out; omega
                case rel => exact ⟨(y112), (wrap64 (x9_1 + 1)), (by first | rfl | (simp; done) | (simp [*]; done)), H', ⟨by have := HK1.out; omega⟩, ⟨by (with_reducible repeat (first | apply Kd.R_alloc | apply Kd.R_drewN | apply Kd.R_drew)); exact HO114.out⟩, ⟨by (with_reducible repeat (first | apply Kd.R_alloc | apply Kd.R_drewN | apply Kd.R_drew)); exact Kd.R_mono HO_7.out (fun _ hk => hk.2)⟩, ⟨by repeat (first | (with_reducible first | exact HB.out | apply below_alloc | apply pw_below_drewN | apply below_drew1) | exact HB.out)⟩⟩
              · rw [if_neg c9] at H
                exact absurd H (by simp)
          · rw [if_neg c7] at H
            exact absurd H (by simp)
        · rw [if_neg c6] at H
          exact absurd H (by simp)
      · rw [if_neg c5] at H
        have c5b0 : decide (x9_1 < (t108.length : Int)) = false := decide_eq_false c5
        clear c5
        obtain rfl := Option.some.inj H
        go_wp2
        go_ret
        exact ⟨_, by first | rfl | (simp [errW_none, errW_some] <;> rfl) | (simp [*, errW_none, errW_some] <;> rfl), by (with_reducible repeat (first | apply Kd.R_alloc | apply Kd.R_drewN | apply Kd.R_drew)); exact Kd.R_mono HO_3.out (fun _ hk => trivial), by repeat (first | (with_reducible first | exact HB.out | apply below_alloc | apply pw_below_drewN | apply below_drew1) | exact HB.out)⟩

/-! ### spec_joined: function 49 -/
def spec_joined.l0 : Nat → ByteArray → ByteArray → List ByteArray → Int → Int → Option (ByteArray)
  | 0, _, _, _, _, _ => none
  | k + 1, x1, x5, x8, x9, x10 => if x10 < x9 then (if 0 ≤ x10 then (if x10 < (x8.length : Int) then (if x10 > 0 then (if x5.size + x1.size ≤ 9223372036854775807 then (if (x5 ++ x1).size + (rdOf ByteArray.empty x8 x10).size ≤ 9223372036854775807 then (spec_joined.l0 k x1 ((x5 ++ x1) ++ (rdOf ByteArray.empty x8 x10)) x8 x9 (wrap64 (x10 + 1))) else (none)) else (none)) else (if x5.size + (rdOf ByteArray.empty x8 x10).size ≤ 9223372036854775807 then (spec_joined.l0 k x1 (x5 ++ (rdOf ByteArray.empty x8 x10)) x8 x9 (wrap64 (x10 + 1))) else (none))) else (none)) else (none)) else (some x5)
def spec_joined.f (k : Nat) (l0 : List ByteArray) (a1 : ByteArray) : Option (ByteArray) := spec_joined.l0 k a1 (⟨#[]⟩ : ByteArray) l0 (l0.length : Int) 0
theorem spec_joined.mono_l : ∀ k, (∀ y0 y1 y2 y3 y4, LeO (spec_joined.l0 k y0 y1 y2 y3 y4) (spec_joined.l0 (k + 1) y0 y1 y2 y3 y4))
  | 0 => fun _ _ _ _ _ r h => by simp [spec_joined.l0] at h
  | k + 1 => by
    have ih0 := spec_joined.mono_l k
    · intro y0 y1 y2 y3 y4
      unfold spec_joined.l0
      repeat' first
      | (with_reducible exact ih0 _ _ _ _ _)
      | (with_reducible exact LeO.refl _)
      | (with_reducible exact LeO.none _)
      | (with_reducible refine LeO.ite ?_ ?_)
      | (with_reducible refine LeO.bind ?_ (fun _ => ?_))
      | exact ih0 _ _ _ _ _
      | exact LeO.none _
      | refine LeO.ite ?_ ?_
      | refine LeO.bind ?_ (fun _ => ?_)
theorem spec_joined.mono : ∀ a0 a1 k, LeO (spec_joined.f k a0 a1) (spec_joined.f (k + 1) a0 a1) := by
  intro a0 a1 k
  have ih0 := spec_joined.mono_l k
  unfold spec_joined.f
  repeat' first
      | (with_reducible exact ih0 _ _ _ _ _)
      | (with_reducible exact LeO.refl _)
      | (with_reducible exact LeO.none _)
      | (with_reducible refine LeO.ite ?_ ?_)
      | (with_reducible refine LeO.bind ?_ (fun _ => ?_))
      | exact ih0 _ _ _ _ _
      | exact LeO.none _
      | refine LeO.ite ?_ ?_
      | refine LeO.bind ?_ (fun _ => ?_)
set_option maxHeartbeats 8000000 in
set_option maxRecDepth 100000 in
theorem spec_joined.calls (k : Nat) (A0 : Option Addr) (c0 : Nat) (l0 : List ByteArray) (a1 : ByteArray) (r : ByteArray) (w : World) (hr0 : Kd.C Kd.string w A0 l0.length l0) (hc0 : l0.length ≤ c0) (h : spec_joined.f k l0 a1 = some r) :
    Calls Try.prog 49 #[.slice A0 l0.length c0, .string a1] w fun e w' => e = .returned (.string r) ∧ Drawn0 w w' := by
  have HR0 := Aside0.mk hr0
  have HC0 := Aside0.mk hc0
  clear hr0 hc0
  have H : (spec_joined.l0 k a1 (⟨#[]⟩ : ByteArray) l0 (l0.length : Int) 0) = some r := h
  clear h
  have H' := Aside0.mk H
  clear H
  go_enter Try.func49, Try.ntmps49
  go_wp2
  go_loopg [5, 10] k (fun kq v5 v10 w' => ∃ (x5_1 : ByteArray) (x10_1 : Int), v5 = .string x5_1 ∧ v10 = .int .i64 x10_1 ∧ Aside0 (spec_joined.l0 kq a1 x5_1 l0 (l0.length : Int) x10_1 = some r) ∧ Aside0 (kq ≤ k) ∧ Drawn0 w w')
  case atStart => exact ⟨((⟨#[]⟩ : ByteArray)), (0), (by first | rfl | (simp; done) | (simp [*]; done)), (by first | rfl | (simp; done) | (simp [*]; done)), H', ⟨Nat.le_refl _⟩, by repeat (first | exact Drawn0.refl _ | apply Drawn0.step)⟩
  case round =>
    clear H'
    try clear p2
    obtain ⟨x5_1, x10_1, rfl, rfl, HA, HK1, ⟨m1, rfl⟩⟩ := hrel
    cases gk with
    | zero => exact absurd HA.out (by simp [spec_joined.l0])
    | succ k1 =>
      have H := HA.out
      clear HA
      simp only [spec_joined.l0] at H
      by_cases c3 : x10_1 < (l0.length : Int)
      · rw [if_pos c3] at H
        have c3b0 : decide (x10_1 < (l0.length : Int)) = true := decide_eq_true c3
        clear c3
        by_cases c4 : 0 ≤ x10_1
        · rw [if_pos c4] at H
          have c4b0 : decide (0 ≤ x10_1) = true := decide_eq_true c4
          clear c4
          by_cases c5 : x10_1 < (l0.length : Int)
          · rw [if_pos c5] at H
            have c5b0 : decide (x10_1 < (l0.length : Int)) = true := decide_eq_true c5
            clear c5
            by_cases c6 : x10_1 > 0
            · rw [if_pos c6] at H
              have c6b0 : decide (0 < x10_1) = true := decide_eq_true c6
              clear c6
              by_cases c7 : x5_1.size + a1.size ≤ 9223372036854775807
              · rw [if_pos c7] at H
                have c7b0 := eq_true c7
                have c7b1 : decide (x5_1.size + a1.size ≤ 9223372036854775807) = true := decide_eq_true c7
                try have c7b2 : (9223372036854775807 < x5_1.size + a1.size) = False := eq_false (Nat.not_lt.2 c7)
                by_cases c8 : (x5_1 ++ a1).size + (rdOf ByteArray.empty l0 x10_1).size ≤ 9223372036854775807
                · rw [if_pos c8] at H
                  have c8b0 := eq_true c8
                  have c8b1 : decide ((x5_1 ++ a1).size + (rdOf ByteArray.empty l0 x10_1).size ≤ 9223372036854775807) = true := decide_eq_true c8
                  try have c8b2 : (9223372036854775807 < (x5_1 ++ a1).size + (rdOf ByteArray.empty l0 x10_1).size) = False := eq_false (Nat.not_lt.2 c8)
                  have H' := Aside0.mk H
                  clear H
                  have p115 : 0 ≤ (x10_1 : Int) := of_decide_eq_true (by first | (with_reducible assumption) | assumption)
                  have q115 : x10_1 < (l0.length : Int) := of_decide_eq_true (by first | (with_reducible assumption) | assumption)
                  obtain ⟨ad115, e115, hx115_0⟩ := Kd.at_string HR0.out x10_1 p115 q115
                  cases e115
                  replace p115 := eq_true p115
                  replace q115 := eq_true q115
                  go_wp2
                  go_roundg k1
                  case measure => have := HK1.out; omega
                  case rel => exact ⟨((x5_1 ++ a1) ++ (rdOf ByteArray.empty l0 x10_1)), (wrap64 (x10_1 + 1)), (by first | rfl | (simp; done) | (simp [*]; done)), (by first | rfl | (simp; done) | (simp [*]; done)), H', ⟨by have := HK1.out; omega⟩, by repeat (first | exact Drawn0.refl _ | apply Drawn0.step)⟩
                · rw [if_neg c8] at H
                  exact absurd H (by simp)
              · rw [if_neg c7] at H
                exact absurd H (by simp)
            · rw [if_neg c6] at H
              have c6b0 : decide (0 < x10_1) = false := decide_eq_false c6
              clear c6
              by_cases c9 : x5_1.size + (rdOf ByteArray.empty l0 x10_1).size ≤ 9223372036854775807
              · rw [if_pos c9] at H
                have c9b0 := eq_true c9
                have c9b1 : decide (x5_1.size + (rdOf ByteArray.empty l0 x10_1).size ≤ 9223372036854775807) = true := decide_eq_true c9
                try have c9b2 : (9223372036854775807 < x5_1.size + (rdOf ByteArray.empty l0 x10_1).size) = False := eq_false (Nat.not_lt.2 c9)
                have H' := Aside0.mk H
                clear H
                have p115 : 0 ≤ (x10_1 : Int) := of_decide_eq_true (by first | (with_reducible assumption) | assumption)
                have q115 : x10_1 < (l0.length : Int) := of_decide_eq_true (by first | (with_reducible assumption) | assumption)
                obtain ⟨ad115, e115, hx115_0⟩ := Kd.at_string HR0.out x10_1 p115 q115
                cases e115
                replace p115 := eq_true p115
                replace q115 := eq_true q115
                go_wp2
                go_roundg k1
                case measure => have := HK1.out; omega
                case rel => exact ⟨(x5_1 ++ (rdOf ByteArray.empty l0 x10_1)), (wrap64 (x10_1 + 1)), (by first | rfl | (simp; done) | (simp [*]; done)), (by first | rfl | (simp; done) | (simp [*]; done)), H', ⟨by have := HK1.out; omega⟩, by repeat (first | exact Drawn0.refl _ | apply Drawn0.step)⟩
              · rw [if_neg c9] at H
                exact absurd H (by simp)
          · rw [if_neg c5] at H
            exact absurd H (by simp)
        · rw [if_neg c4] at H
          exact absurd H (by simp)
      · rw [if_neg c3] at H
        have c3b0 : decide (x10_1 < (l0.length : Int)) = false := decide_eq_false c3
        clear c3
        obtain rfl := Option.some.inj H
        go_wp2
        go_ret
        exact ⟨by first | rfl | (simp; done) | (simp [*]; done), by repeat (first | exact Drawn0.refl _ | apply Drawn0.step)⟩

end Go.Proofs.Ytllmmnhgchidkaa.PFnPathParts
