-- PRINTED BY print.sh 35421559b90ae4d0a3588c463048766b98c2df88dd9212a6774a882060cdf62d: not written by this session
import Derived.Test.YtllmmnhgchidkaaPFnPathHiddenx0
namespace Go.Proofs.Ytllmmnhgchidkaa.PFnPathHidden
open Go.RowKit Go.Proofs.YtllmmnhgchidkaaW.PrintWords Go.Proofs.YtllmmnhgchidkaaW.PrintLast Go.Proofs.YtllmmnhgchidkaaW.PrintMore
attribute [local go_sem] max2_int min2_int max_two min_two max_three min_three max_four min_four   -- for this text's walks alone
set_option linter.unusedVariables false
set_option linter.unusedSimpArgs false

/-! ### filesys_zzBase: function 74 -/
mutual
def filesys_zzBase.j1 : Nat → ByteArray → Option (ByteArray)
  | 0, _ => none
  | k + 1, x0 => filesys_zzBase.l1 k x0 (wrap64 ((x0.size : Int) - 1))
def filesys_zzBase.j3 : Nat → ByteArray → Int → Option (ByteArray)
  | 0, _, _ => none
  | k + 1, x0, x3 => if x3 ≥ 0 then (if 0 ≤ (wrap64 (x3 + 1)) then (if (wrap64 (x3 + 1)) ≤ (x0.size : Int) then (if (x0.extract ((wrap64 (x3 + 1)) : Int).toNat x0.size).toList = ([] : List UInt8) then (some (⟨#[47]⟩ : ByteArray)) else (some (x0.extract ((wrap64 (x3 + 1)) : Int).toNat x0.size))) else (none)) else (none)) else (if x0.toList = ([] : List UInt8) then (some (⟨#[47]⟩ : ByteArray)) else (some x0))
def filesys_zzBase.l1 : Nat → ByteArray → Int → Option (ByteArray)
  | 0, _, _ => none
  | k + 1, x0, x3 => if x3 ≥ 0 then (if 0 ≤ x3 then (if x3 < (x0.size : Int) then (if (bt x0 x3) = 47 then (filesys_zzBase.j3 k x0 x3) else (filesys_zzBase.l1 k x0 (wrap64 (x3 - 1)))) else (none)) else (none)) else (filesys_zzBase.j3 k x0 x3)
def filesys_zzBase.l0 : Nat → ByteArray → Option (ByteArray)
  | 0, _ => none
  | k + 1, x0 => if (x0.size : Int) > 0 then (if 0 ≤ (wrap64 ((x0.size : Int) - 1)) then (if (wrap64 ((x0.size : Int) - 1)) < (x0.size : Int) then (if (bt x0 (wrap64 ((x0.size : Int) - 1))) = 47 then (if (wrap64 ((x0.size : Int) - 1)) ≤ (x0.size : Int) then (filesys_zzBase.l0 k (x0.extract 0 ((wrap64 ((x0.size : Int) - 1)) : Int).toNat)) else (none)) else (filesys_zzBase.j1 k x0)) else (none)) else (none)) else (filesys_zzBase.j1 k x0)
end
def filesys_zzBase.f (k : Nat) (a0 : ByteArray) : Option (ByteArray) := if a0.toList = ([] : List UInt8) then (some (⟨#[46]⟩ : ByteArray)) else (filesys_zzBase.l0 k a0)
theorem filesys_zzBase.mono_l : ∀ k, (∀ y0, LeO (filesys_zzBase.j1 k y0) (filesys_zzBase.j1 (k + 1) y0)) ∧ (∀ y0 y1, LeO (filesys_zzBase.j3 k y0 y1) (filesys_zzBase.j3 (k + 1) y0 y1)) ∧ (∀ y0 y1, LeO (filesys_zzBase.l1 k y0 y1) (filesys_zzBase.l1 (k + 1) y0 y1)) ∧ (∀ y0, LeO (filesys_zzBase.l0 k y0) (filesys_zzBase.l0 (k + 1) y0))
  | 0 => ⟨fun _ r h => by simp [filesys_zzBase.j1] at h, fun _ _ r h => by simp [filesys_zzBase.j3] at h, fun _ _ r h => by simp [filesys_zzBase.l1] at h, fun _ r h => by simp [filesys_zzBase.l0] at h⟩
  | k + 1 => by
    obtain ⟨ih0, ih1, ih2, ih3⟩ := filesys_zzBase.mono_l k
    refine ⟨?_, ?_, ?_, ?_⟩
    · intro y0
      unfold filesys_zzBase.j1
      repeat' first
      | (with_reducible exact ih0 _)
      | (with_reducible exact ih1 _ _)
      | (with_reducible exact ih2 _ _)
      | (with_reducible exact ih3 _)
      | (with_reducible exact LeO.refl _)
      | (with_reducible exact LeO.none _)
      | (with_reducible refine LeO.ite ?_ ?_)
      | (with_reducible refine LeO.bind ?_ (fun _ => ?_))
      | exact ih0 _
      | exact ih1 _ _
      | exact ih2 _ _
      | exact ih3 _
      | exact LeO.none _
      | refine LeO.ite ?_ ?_
      | refine LeO.bind ?_ (fun _ => ?_)
    · intro y0 y1
      unfold filesys_zzBase.j3
      repeat' first
      | (with_reducible exact ih0 _)
      | (with_reducible exact ih1 _ _)
      | (with_reducible exact ih2 _ _)
      | (with_reducible exact ih3 _)
      | (with_reducible exact LeO.refl _)
      | (with_reducible exact LeO.none _)
      | (with_reducible refine LeO.ite ?_ ?_)
      | (with_reducible refine LeO.bind ?_ (fun _ => ?_))
      | exact ih0 _
      | exact ih1 _ _
      | exact ih2 _ _
      | exact ih3 _
      | exact LeO.none _
      | refine LeO.ite ?_ ?_
      | refine LeO.bind ?_ (fun _ => ?_)
    · intro y0 y1
      unfold filesys_zzBase.l1
      repeat' first
      | (with_reducible exact ih0 _)
      | (with_reducible exact ih1 _ _)
      | (with_reducible exact ih2 _ _)
      | (with_reducible exact ih3 _)
      | (with_reducible exact LeO.refl _)
      | (with_reducible exact LeO.none _)
      | (with_reducible refine LeO.ite ?_ ?_)
      | (with_reducible refine LeO.bind ?_ (fun _ => ?_))
      | exact ih0 _
      | exact ih1 _ _
      | exact ih2 _ _
      | exact ih3 _
      | exact LeO.none _
      | refine LeO.ite ?_ ?_
      | refine LeO.bind ?_ (fun _ => ?_)
    · intro y0
      unfold filesys_zzBase.l0
      repeat' first
      | (with_reducible exact ih0 _)
      | (with_reducible exact ih1 _ _)
      | (with_reducible exact ih2 _ _)
      | (with_reducible exact ih3 _)
      | (with_reducible exact LeO.refl _)
      | (with_reducible exact LeO.none _)
      | (with_reducible refine LeO.ite ?_ ?_)
      | (with_reducible refine LeO.bind ?_ (fun _ => ?_))
      | exact ih0 _
      | exact ih1 _ _
      | exact ih2 _ _
      | exact ih3 _
      | exact LeO.none _
      | refine LeO.ite ?_ ?_
      | refine LeO.bind ?_ (fun _ => ?_)
theorem filesys_zzBase.mono : ∀ a0 k, LeO (filesys_zzBase.f k a0) (filesys_zzBase.f (k + 1) a0) := by
  intro a0 k
  obtain ⟨ih0, ih1, ih2, ih3⟩ := filesys_zzBase.mono_l k
  unfold filesys_zzBase.f
  repeat' first
      | (with_reducible exact ih0 _)
      | (with_reducible exact ih1 _ _)
      | (with_reducible exact ih2 _ _)
      | (with_reducible exact ih3 _)
      | (with_reducible exact LeO.refl _)
      | (with_reducible exact LeO.none _)
      | (with_reducible refine LeO.ite ?_ ?_)
      | (with_reducible refine LeO.bind ?_ (fun _ => ?_))
      | exact ih0 _
      | exact ih1 _ _
      | exact ih2 _ _
      | exact ih3 _
      | exact LeO.none _
      | refine LeO.ite ?_ ?_
      | refine LeO.bind ?_ (fun _ => ?_)
set_option maxHeartbeats 8000000 in
set_option maxRecDepth 100000 in
theorem filesys_zzBase.calls (k : Nat) (a0 : ByteArray) (r : ByteArray) (w : World) (h : filesys_zzBase.f k a0 = some r) :
    Calls Try.prog 74 #[.string a0] w fun e w' => e = .returned (.string r) ∧ Drawn0 w w' := by
  have H : (if a0.toList = ([] : List UInt8) then (some (⟨#[46]⟩ : ByteArray)) else (filesys_zzBase.l0 k a0)) = some r := h
  clear h
  by_cases c2 : a0.toList = ([] : List UInt8)
  · rw [if_pos c2] at H
    have c2b0 : (a0.toList == ([] : List UInt8)) = true := beq_iff_eq.mpr c2
    have c2b1 : (a0.toList != ([] : List UInt8)) = false := bne_eq_false_iff_eq.mpr c2
    clear c2
    obtain rfl := Option.some.inj H
    go_enter Try.func74, Try.ntmps74
    go_wp2
    go_ret
    exact ⟨by first | rfl | (simp; done) | (simp [*]; done), by repeat (first | exact Drawn0.refl _ | apply Drawn0.step)⟩
  · rw [if_neg c2] at H
    have c2b0 : (a0.toList == ([] : List UInt8)) = false := beq_eq_false_iff_ne.mpr c2
    have c2b1 : (a0.toList != ([] : List UInt8)) = true := bne_iff_ne.mpr c2
    have HC3 := Aside0.mk H
    clear H
    go_enter Try.func74, Try.ntmps74
    go_upto_block 0 with (fail)
    go_cut [0] (fun v0 wc => ∃ (kq : Nat) (x0_2 : ByteArray), v0 = .string x0_2 ∧ Aside0 (filesys_zzBase.j1 kq x0_2 = some r) ∧ Aside0 (kq ≤ k) ∧ Drawn0 w wc)
    case first =>
      have H := HC3.out
      clear HC3
      have H' := Aside0.mk H
      clear H
      go_wp2
      go_loopg [0] k (fun kq v0 w' => ∃ (x0_1 : ByteArray), v0 = .string x0_1 ∧ Aside0 (filesys_zzBase.l0 kq x0_1 = some r) ∧ Aside0 (kq ≤ k) ∧ Drawn0 w w')
      case atStart => exact ⟨(a0), (by first | rfl | (simp; done) | (simp [*]; done)), H', ⟨Nat.le_refl _⟩, by repeat (first | exact Drawn0.refl _ | apply Drawn0.step)⟩
      case round =>
        clear H'
        try clear c2
        try clear c2b0
        try clear c2b1
        try clear p2
        obtain ⟨x0_1, rfl, HA, HK1, ⟨m1, rfl⟩⟩ := hrel
        cases gk with
        | zero => exact absurd HA.out (by simp [filesys_zzBase.l0])
        | succ k1 =>
          have H := HA.out
          clear HA
          simp only [filesys_zzBase.l0] at H
          by_cases c4 : (x0_1.size : Int) > 0
          · rw [if_pos c4] at H
            have c4b0 : decide (0 < (x0_1.size : Int)) = true := decide_eq_true c4
            have c4b1 : decide (0 < x0_1.size) = true := decide_eq_true (by omega)
            clear c4
            (first | rw [c4b0] | (simp only [i64_w, i32_w]; rw [c4b0]) | skip)
            obtain ⟨ji5, hji5⟩ : ∃ j_ : Int, (wrap64 ((x0_1.size : Int) - 1)) = j_ := ⟨_, rfl⟩
            replace H : (if 0 ≤ (ji5) then (if (ji5) < (x0_1.size : Int) then (if (bt x0_1 (ji5)) = 47 then (if (ji5) ≤ (x0_1.size : Int) then (filesys_zzBase.l0 k1 (x0_1.extract 0 ((ji5) : Int).toNat)) else (none)) else (filesys_zzBase.j1 k1 x0_1)) else (none)) else (none)) = some r := by first | (rw [hji5] at H; exact H) | (simp only [hji5] at H ⊢; exact H)
            have hji5w : (IntKind.i64.wrap ((x0_1.size : Int) - 1)) = ji5 := (i64_w _).trans hji5
            by_cases c6 : 0 ≤ (ji5)
            · rw [if_pos c6] at H
              have c6b0 : decide (0 ≤ (ji5)) = true := decide_eq_true c6
              clear c6
              by_cases c7 : (ji5) < (x0_1.size : Int)
              · rw [if_pos c7] at H
                have c7b0 : decide ((ji5) < (x0_1.size : Int)) = true := decide_eq_true c7
                clear c7
                by_cases c9 : (bt x0_1 (ji5)) = 47
                · rw [if_pos c9] at H
                  have c9b0 : ((bt x0_1 (ji5)) == 47) = true := beq_iff_eq.mpr c9
                  have c9b1 : ((bt x0_1 (ji5)) != 47) = false := bne_eq_false_iff_eq.mpr c9
                  clear c9
                  have c10b0 := eq_true (of_decide_eq_true (by first | (with_reducible assumption) | assumption) : 0 ≤ (ji5))
                  by_cases c11 : (ji5) ≤ (x0_1.size : Int)
                  · rw [if_pos c11] at H
                    have c11b0 := eq_true c11
                    have c11b1 : decide ((ji5) ≤ (x0_1.size : Int)) = true := decide_eq_true c11
                    clear c11
                    have H' := Aside0.mk H
                    clear H
                    have p8 : 0 ≤ ((ji5) : Int) := of_decide_eq_true (by first | (with_reducible assumption) | assumption)
                    have q8 : (ji5) < (x0_1.size : Int) := of_decide_eq_true (by first | (with_reducible assumption) | assumption)
                    have hx8 := bt_at x0_1 (ji5)
                    replace p8 := eq_true p8
                    replace q8 := eq_true q8
                    go_wp2
                    go_roundg k1
                    case measure => have := HK1.out; omega
                    case rel => exact ⟨(x0_1.extract 0 ((ji5) : Int).toNat), (by first | rfl | (simp; done) | (simp only [← hji5] <;> (first | rfl | simp)) | (simp [*]; done)), H', ⟨by have := HK1.out; omega⟩, by repeat (first | exact Drawn0.refl _ | apply Drawn0.step)⟩
                  · rw [if_neg c11] at H
                    exact absurd H (by simp)
                · rw [if_neg c9] at H
                  have c9b0 : ((bt x0_1 (ji5)) == 47) = false := beq_eq_false_iff_ne.mpr c9
                  have c9b1 : ((bt x0_1 (ji5)) != 47) = true := bne_iff_ne.mpr c9
                  have H' := Aside0.mk H
                  clear H
                  have p8 : 0 ≤ ((ji5) : Int) := of_decide_eq_true (by first | (with_reducible assumption) | assumption)
                  have q8 : (ji5) < (x0_1.size : Int) := of_decide_eq_true (by first | (with_reducible assumption) | assumption)
                  have hx8 := bt_at x0_1 (ji5)
                  replace p8 := eq_true p8
                  replace q8 := eq_true q8
                  go_wp2
                  go_meet
                  case rel => exact ⟨_, (x0_1), (by first | rfl | (simp; done) | (simp [*]; done)), H', ⟨by have := HK1.out; first | omega | exact Nat.le_refl _⟩, by repeat (first | exact Drawn0.refl _ | apply Drawn0.step)⟩
              · rw [if_neg c7] at H
                exact absurd H (by simp)
            · rw [if_neg c6] at H
              exact absurd H (by simp)
          · rw [if_neg c4] at H
            have c4b0 : decide (0 < (x0_1.size : Int)) = false := decide_eq_false c4
            have c4b1 : decide (0 < x0_1.size) = false := decide_eq_false (by omega)
            clear c4
            (first | rw [c4b0] | (simp only [i64_w, i32_w]; rw [c4b0]) | skip)
            have H' := Aside0.mk H
            clear H
            go_wp2
            go_meet
            case rel => exact ⟨_, (x0_1), (by first | rfl | (simp; done) | (simp [*]; done)), H', ⟨by have := HK1.out; first | omega | exact Nat.le_refl _⟩, by repeat (first | exact Drawn0.refl _ | apply Drawn0.step)⟩
    case rest =>
      clear HC3
      try clear c1
      try clear c2
      try clear c2b0
      try clear c2b1
      try clear p2
      try clear c4
      try clear c4b0
      try clear c4b1
      try clear c6
      try clear c6b0
      try clear p6
      try clear c7
      try clear c7b0
      try clear p8
      try clear q8
      try clear hx8
      try clear c9
      try clear c9b0
      try clear c9b1
      try clear c10
      try clear c10b0
      try clear c11
      try clear c11b0
      try clear c11b1
      try clear p2
      try clear p8
      try clear q8
      obtain ⟨kq, x0_2, rfl, HA, HJ2, ⟨mc2, rfl⟩⟩ := hcut
      cases kq with
      | zero => exact absurd HA.out (by simp [filesys_zzBase.j1])
      | succ kj2 =>
        have H := HA.out
        clear HA
        simp only [filesys_zzBase.j1] at H
        have HC12 := Aside0.mk H
        clear H
        go_upto_block 2 with (fail)
        go_cut [3] (fun v3 wc => ∃ (kq : Nat) (x3_11 : Int), v3 = .int .i64 x3_11 ∧ Aside0 (filesys_zzBase.j3 kq x0_2 x3_11 = some r) ∧ Aside0 (kq ≤ kj2) ∧ Drawn0 w wc)
        case first =>
          have H := HC12.out
          clear HC12
          have H' := Aside0.mk H
          clear H
          go_wp2
          go_loopg [3] kj2 (fun kq v3 w' => ∃ (x3_2 : Int), v3 = .int .i64 x3_2 ∧ Aside0 (filesys_zzBase.l1 kq x0_2 x3_2 = some r) ∧ Aside0 (kq ≤ kj2) ∧ Drawn0 w w')
          case atStart => exact ⟨(wrap64 ((x0_2.size : Int) - 1)), (by first | rfl | (simp; done) | (simp [*]; done)), H', ⟨Nat.le_refl _⟩, by repeat (first | exact Drawn0.refl _ | apply Drawn0.step)⟩
          case round =>
            clear H'
            try clear c1
            try clear c2
            try clear c2b0
            try clear c2b1
            try clear p2
            try clear c4
            try clear c4b0
            try clear c4b1
            try clear c6
            try clear c6b0
            try clear p6
            try clear c7
            try clear c7b0
            try clear p8
            try clear q8
            try clear hx8
            try clear c9
            try clear c9b0
            try clear c9b1
            try clear c10
            try clear c10b0
            try clear c11
            try clear c11b0
            try clear c11b1
            try clear p2
            try clear p6
            try clear p8
            try clear q8
            obtain ⟨x3_2, rfl, HA, HK2, ⟨m2, rfl⟩⟩ := hrel
            cases gk with
            | zero => exact absurd HA.out (by simp [filesys_zzBase.l1])
            | succ k2 =>
              have H := HA.out
              clear HA
              simp only [filesys_zzBase.l1] at H
              by_cases c13 : x3_2 ≥ 0
              · rw [if_pos c13] at H
                have c13b0 : decide (0 ≤ x3_2) = true := decide_eq_true c13
                clear c13
                (first | rw [c13b0] | (simp only [i64_w, i32_w]; rw [c13b0]) | skip)
                by_cases c14 : 0 ≤ x3_2
                · rw [if_pos c14] at H
                  have c14b0 : decide (0 ≤ x3_2) = true := decide_eq_true c14
                  clear c14
                  by_cases c15 : x3_2 < (x0_2.size : Int)
                  · rw [if_pos c15] at H
                    have c15b0 : decide (x3_2 < (x0_2.size : Int)) = true := decide_eq_true c15
                    clear c15
                    by_cases c17 : (bt x0_2 x3_2) = 47
                    · rw [if_pos c17] at H
                      have c17b0 : ((bt x0_2 x3_2) == 47) = true := beq_iff_eq.mpr c17
                      have c17b1 : ((bt x0_2 x3_2) != 47) = false := bne_eq_false_iff_eq.mpr c17
                      clear c17
                      have H' := Aside0.mk H
                      clear H
                      have p16 : 0 ≤ (x3_2 : Int) := of_decide_eq_true (by first | (with_reducible assumption) | assumption)
                      have q16 : x3_2 < (x0_2.size : Int) := of_decide_eq_true (by first | (with_reducible assumption) | assumption)
                      have hx16 := bt_at x0_2 x3_2
                      replace p16 := eq_true p16
                      replace q16 := eq_true q16
                      go_wp2
                      go_meet
                      case rel => exact ⟨_, (x3_2), (by first | rfl | (simp; done) | (simp [*]; done)), H', ⟨by have := HJ2.out; have := HK2.out; first | omega | exact Nat.le_refl _⟩, by repeat (first | exact Drawn0.refl _ | apply Drawn0.step)⟩
                    · rw [if_neg c17] at H
                      have c17b0 : ((bt x0_2 x3_2) == 47) = false := beq_eq_false_iff_ne.mpr c17
                      have c17b1 : ((bt x0_2 x3_2) != 47) = true := bne_iff_ne.mpr c17
                      have H' := Aside0.mk H
                      clear H
                      have p16 : 0 ≤ (x3_2 : Int) := of_decide_eq_true (by first | (with_reducible assumption) | assumption)
                      have q16 : x3_2 < (x0_2.size : Int) := of_decide_eq_true (by first | (with_reducible assumption) | assumption)
                      have hx16 := bt_at x0_2 x3_2
                      replace p16 := eq_true p16
                      replace q16 := eq_true q16
                      go_wp2
                      go_roundg k2
                      case measure => have := HJ2.out; have := HK2.out; omega
                      case rel => exact ⟨(wrap64 (x3_2 - 1)), (by first | rfl | (simp; done) | (simp [*]; done)), H', ⟨by have := HJ2.out; have := HK2.out; omega⟩, by repeat (first | exact Drawn0.refl _ | apply Drawn0.step)⟩
                  · rw [if_neg c15] at H
                    exact absurd H (by simp)
                · rw [if_neg c14] at H
                  exact absurd H (by simp)
              · rw [if_neg c13] at H
                have c13b0 : decide (0 ≤ x3_2) = false := decide_eq_false c13
                clear c13
                (first | rw [c13b0] | (simp only [i64_w, i32_w]; rw [c13b0]) | skip)
                have H' := Aside0.mk H
                clear H
                go_wp2
                go_meet
                case rel => exact ⟨_, (x3_2), (by first | rfl | (simp; done) | (simp [*]; done)), H', ⟨by have := HJ2.out; have := HK2.out; first | omega | exact Nat.le_refl _⟩, by repeat (first | exact Drawn0.refl _ | apply Drawn0.step)⟩
        case rest =>
          clear HC12
          try clear c1
          try clear p1
          try clear q1
          try clear hx1
          try clear c2
          try clear c2b0
          try clear c2b1
          try clear p2
          try clear c4
          try clear c4b0
          try clear c4b1
          try clear c6
          try clear c6b0
          try clear p6
          try clear c7
          try clear c7b0
          try clear p8
          try clear q8
          try clear hx8
          try clear c9
          try clear c9b0
          try clear c9b1
          try clear c10
          try clear c10b0
          try clear c11
          try clear c11b0
          try clear c11b1
          try clear c13
          try clear c13b0
          try clear c14
          try clear c14b0
          try clear c15
          try clear c15b0
          try clear p16
          try clear q16
          try clear hx16
          try clear c17
          try clear c17b0
          try clear c17b1
          try clear p16
          try clear p2
          try clear p6
          try clear p8
          try clear q16
          try clear q8
          obtain ⟨kq, x3_11, rfl, HA, HJ11, ⟨mc11, rfl⟩⟩ := hcut
          cases kq with
          | zero => exact absurd HA.out (by simp [filesys_zzBase.j3])
          | succ kj11 =>
            have H := HA.out
            clear HA
            simp only [filesys_zzBase.j3] at H
            by_cases c18 : x3_11 ≥ 0
            · rw [if_pos c18] at H
              have c18b0 : decide (0 ≤ x3_11) = true := decide_eq_true c18
              clear c18
              obtain ⟨ji19, hji19⟩ : ∃ j_ : Int, (wrap64 (x3_11 + 1)) = j_ := ⟨_, rfl⟩
              replace H : (if 0 ≤ (ji19) then (if (ji19) ≤ (x0_2.size : Int) then (if (x0_2.extract ((ji19) : Int).toNat x0_2.size).toList = ([] : List UInt8) then (some (⟨#[47]⟩ : ByteArray)) else (some (x0_2.extract ((ji19) : Int).toNat x0_2.size))) else (none)) else (none)) = some r := by first | (rw [hji19] at H; exact H) | (simp only [hji19] at H ⊢; exact H)
              have hji19w : (IntKind.i64.wrap (x3_11 + 1)) = ji19 := (i64_w _).trans hji19
              by_cases c20 : 0 ≤ (ji19)
              · rw [if_pos c20] at H
                have c20b0 := eq_true c20
                have c20b1 : decide (0 ≤ (ji19)) = true := decide_eq_true c20
                clear c20
                by_cases c21 : (ji19) ≤ (x0_2.size : Int)
                · rw [if_pos c21] at H
                  have c21b0 := eq_true c21
                  have c21b1 : decide ((ji19) ≤ (x0_2.size : Int)) = true := decide_eq_true c21
                  clear c21
                  by_cases c22 : (x0_2.extract ((ji19) : Int).toNat x0_2.size).toList = ([] : List UInt8)
                  · rw [if_pos c22] at H
                    have c22b0 : ((x0_2.extract ((ji19) : Int).toNat x0_2.size).toList == ([] : List UInt8)) = true := beq_iff_eq.mpr c22
                    have c22b1 : ((x0_2.extract ((ji19) : Int).toNat x0_2.size).toList != ([] : List UInt8)) = false := bne_eq_false_iff_eq.mpr c22
                    clear c22
                    obtain rfl := Option.some.inj H
                    go_wp2
                    go_ret
                    exact ⟨by first | rfl | (simp; done) | (simp only [← hji19] <;> (first | rfl | simp)) | (simp [*]; done), by repeat (first | exact Drawn0.refl _ | apply Drawn0.step)⟩
                  · rw [if_neg c22] at H
                    have c22b0 : ((x0_2.extract ((ji19) : Int).toNat x0_2.size).toList == ([] : List UInt8)) = false := beq_eq_false_iff_ne.mpr c22
                    have c22b1 : ((x0_2.extract ((ji19) : Int).toNat x0_2.size).toList != ([] : List UInt8)) = true := bne_iff_ne.mpr c22
                    obtain rfl := Option.some.inj H
                    go_wp2
                    go_ret
                    exact ⟨by first | rfl | (simp; done) | (simp only [← hji19] <;> (first | rfl | simp)) | (simp [*]; done), by repeat (first | exact Drawn0.refl _ | apply Drawn0.step)⟩
                · rw [if_neg c21] at H
                  exact absurd H (by simp)
              · rw [if_neg c20] at H
                exact absurd H (by simp)
            · rw [if_neg c18] at H
              have c18b0 : decide (0 ≤ x3_11) = false := decide_eq_false c18
              clear c18
              by_cases c23 : x0_2.toList = ([] : List UInt8)
              · rw [if_pos c23] at H
                have c23b0 : (x0_2.toList == ([] : List UInt8)) = true := beq_iff_eq.mpr c23
                have c23b1 : (x0_2.toList != ([] : List UInt8)) = false := bne_eq_false_iff_eq.mpr c23
                clear c23
                obtain rfl := Option.some.inj H
                go_wp2
                go_ret
                exact ⟨by first | rfl | (simp; done) | (simp [*]; done), by repeat (first | exact Drawn0.refl _ | apply Drawn0.step)⟩
              · rw [if_neg c23] at H
                have c23b0 : (x0_2.toList == ([] : List UInt8)) = false := beq_eq_false_iff_ne.mpr c23
                have c23b1 : (x0_2.toList != ([] : List UInt8)) = true := bne_iff_ne.mpr c23
                obtain rfl := Option.some.inj H
                go_wp2
                go_ret
                exact ⟨by first | rfl | (simp; done) | (simp [*]; done), by repeat (first | exact Drawn0.refl _ | apply Drawn0.step)⟩

/-! ### filesys_IsHiddenFilePath: function 60 -/
def filesys_IsHiddenFilePath.f (k : Nat) (a0 : ByteArray) : Option (Bool) := (filesys_zzBase.f k a0).bind fun t155 => (if 0 < (t155.size : Int) then (some ((bt t155 0) == 46)) else (none))
theorem filesys_IsHiddenFilePath.mono : ∀ a0 k, LeO (filesys_IsHiddenFilePath.f k a0) (filesys_IsHiddenFilePath.f (k + 1) a0) := by
  intro a0 k
  unfold filesys_IsHiddenFilePath.f
  repeat' first
      | (with_reducible exact filesys_zzBase.mono _ _)
      | (with_reducible exact LeO.refl _)
      | (with_reducible exact LeO.none _)
      | (with_reducible refine LeO.ite ?_ ?_)
      | (with_reducible refine LeO.bind ?_ (fun _ => ?_))
      | exact filesys_zzBase.mono _ _
      | exact LeO.none _
      | refine LeO.ite ?_ ?_
      | refine LeO.bind ?_ (fun _ => ?_)
set_option maxHeartbeats 8000000 in
set_option maxRecDepth 100000 in
theorem filesys_IsHiddenFilePath.calls (k : Nat) (a0 : ByteArray) (r : Bool) (w : World) (h : filesys_IsHiddenFilePath.f k a0 = some r) :
    Calls Try.prog 60 #[.string a0] w fun e w' => e = .returned (.bool r) ∧ Drawn0 w w' := by
  have H : ((filesys_zzBase.f k a0).bind fun t155 => (if 0 < (t155.size : Int) then (some ((bt t155 0) == 46)) else (none))) = some r := h
  clear h
  replace H := Option.bind_eq_some_iff.mp H
  obtain ⟨t155, A20, H⟩ := H
  replace H : (if 0 < (t155.size : Int) then (some ((bt t155 0) == 46)) else (none)) = some r := H
  have A2 := Aside0.mk A20
  clear A20
  by_cases c3 : 0 < (t155.size : Int)
  · rw [if_pos c3] at H
    have c3b0 : decide (0 < (t155.size : Int)) = true := decide_eq_true c3
    have c3b1 : decide (0 < t155.size) = true := decide_eq_true (by omega)
    clear c3
    obtain rfl := Option.some.inj H
    go_enter Try.func60, Try.ntmps60
    go_wp2_with (first | ((with_reducible refine gate_callee (f := 74) rfl ?_); refine goesL_ (some 4) rfl rfl Try.func74 (by kernel_rfl) rfl #[.string a0] rfl (by (try simp only [List.map_toArray, List.map_cons, List.map_nil]); first | done | rfl | (simp only [List.length_drop, List.length_take]; rfl)) ?_; (with_reducible refine (filesys_zzBase.calls k a0 t155 _ A2.out).mono ?_); rintro e w' ⟨rfl, ⟨nd, rfl⟩⟩; refine ⟨_, rfl, ?_⟩; have p4 : 0 ≤ (0 : Int) := (by omega); have q4 : 0 < t155.size := (by have : (0 : Int) < (t155.size : Int) := of_decide_eq_true (by first | (with_reducible assumption) | assumption); omega); have hx4 : ∀ h : 0 < t155.size, ((t155[0]'h).toNat : Int) = bt t155 0 := bt_at t155 0; clear p4; have qi4 : (0 < (t155.size : Int)) = True := eq_true (of_decide_eq_true (by first | (with_reducible assumption) | assumption)); replace q4 := eq_true q4))
    go_ret
    exact ⟨by first | rfl | (simp; done) | (simp [*]; done), by repeat (first | exact Drawn0.refl _ | apply Drawn0.step)⟩
  · rw [if_neg c3] at H
    exact absurd H (by simp)

/-! ### impl_HiddenPath: function 35 -/
def impl_HiddenPath.f (k : Nat) (a0 : ByteArray) : Option (Bool) := (filesys_IsHiddenFilePath.f k a0).bind fun t156 => (some t156)
theorem impl_HiddenPath.mono : ∀ a0 k, LeO (impl_HiddenPath.f k a0) (impl_HiddenPath.f (k + 1) a0) := by
  intro a0 k
  unfold impl_HiddenPath.f
  repeat' first
      | (with_reducible exact filesys_IsHiddenFilePath.mono _ _)
      | (with_reducible exact LeO.refl _)
      | (with_reducible exact LeO.none _)
      | (with_reducible refine LeO.ite ?_ ?_)
      | (with_reducible refine LeO.bind ?_ (fun _ => ?_))
      | exact filesys_IsHiddenFilePath.mono _ _
      | exact LeO.none _
      | refine LeO.ite ?_ ?_
      | refine LeO.bind ?_ (fun _ => ?_)
set_option maxHeartbeats 8000000 in
set_option maxRecDepth 100000 in
theorem impl_HiddenPath.calls (k : Nat) (a0 : ByteArray) (r : Bool) (w : World) (h : impl_HiddenPath.f k a0 = some r) :
    Calls Try.prog 35 #[.string a0] w fun e w' => e = .returned (.bool r) ∧ Drawn0 w w' := by
  have H : ((filesys_IsHiddenFilePath.f k a0).bind fun t156 => (some t156)) = some r := h
  clear h
  replace H := Option.bind_eq_some_iff.mp H
  obtain ⟨t156, A20, H⟩ := H
  replace H : (some t156) = some r := H
  have A2 := Aside0.mk A20
  clear A20
  obtain rfl := Option.some.inj H
  go_enter Try.func35, Try.ntmps35
  go_wp2_with (first | ((with_reducible refine gate_callee (f := 60) rfl ?_); refine goesL_ (some 4) rfl rfl Try.func60 (by kernel_rfl) rfl #[.string a0] rfl (by (try simp only [List.map_toArray, List.map_cons, List.map_nil]); first | done | rfl | (simp only [List.length_drop, List.length_take]; rfl)) ?_; (with_reducible refine (filesys_IsHiddenFilePath.calls k a0 t156 _ A2.out).mono ?_); rintro e w' ⟨rfl, ⟨nd, rfl⟩⟩; refine ⟨_, rfl, ?_⟩))
  go_ret
  exact ⟨by first | rfl | (simp; done) | (simp [*]; done), by repeat (first | exact Drawn0.refl _ | apply Drawn0.step)⟩

/-! ### laws_epSame: function 36 -/
def laws_epSame.l0 : Nat → List ByteArray → List ByteArray → Int → Int → Option (Bool)
  | 0, _, _, _, _ => none
  | k + 1, x0, x1, x12, x13 => if x13 < x12 then (if 0 ≤ x13 then (if x13 < (x0.length : Int) then (if x13 < (x1.length : Int) then (if (rdOf ByteArray.empty x0 x13).toList = (rdOf ByteArray.empty x1 x13).toList then (laws_epSame.l0 k x0 x1 x12 (wrap64 (x13 + 1))) else (some false)) else (none)) else (none)) else (none)) else (some true)
def laws_epSame.f (k : Nat) (l0 : List ByteArray) (l1 : List ByteArray) : Option (Bool) := if (l0.length : Int) = (l1.length : Int) then (laws_epSame.l0 k l0 l1 (l0.length : Int) 0) else (some false)
theorem laws_epSame.mono_l : ∀ k, (∀ y0 y1 y2 y3, LeO (laws_epSame.l0 k y0 y1 y2 y3) (laws_epSame.l0 (k + 1) y0 y1 y2 y3))
  | 0 => fun _ _ _ _ r h => by simp [laws_epSame.l0] at h
  | k + 1 => by
    have ih0 := laws_epSame.mono_l k
    · intro y0 y1 y2 y3
      unfold laws_epSame.l0
      repeat' first
      | (with_reducible exact ih0 _ _ _ _)
      | (with_reducible exact LeO.refl _)
      | (with_reducible exact LeO.none _)
      | (with_reducible refine LeO.ite ?_ ?_)
      | (with_reducible refine LeO.bind ?_ (fun _ => ?_))
      | exact ih0 _ _ _ _
      | exact LeO.none _
      | refine LeO.ite ?_ ?_
      | refine LeO.bind ?_ (fun _ => ?_)
theorem laws_epSame.mono : ∀ a0 a1 k, LeO (laws_epSame.f k a0 a1) (laws_epSame.f (k + 1) a0 a1) := by
  intro a0 a1 k
  have ih0 := laws_epSame.mono_l k
  unfold laws_epSame.f
  repeat' first
      | (with_reducible exact ih0 _ _ _ _)
      | (with_reducible exact LeO.refl _)
      | (with_reducible exact LeO.none _)
      | (with_reducible refine LeO.ite ?_ ?_)
      | (with_reducible refine LeO.bind ?_ (fun _ => ?_))
      | exact ih0 _ _ _ _
      | exact LeO.none _
      | refine LeO.ite ?_ ?_
      | refine LeO.bind ?_ (fun _ => ?_)
set_option maxHeartbeats 8000000 in
set_option maxRecDepth 100000 in
theorem laws_epSame.calls (k : Nat) (A0 : Option Addr) (c0 : Nat) (l0 : List ByteArray) (A1 : Option Addr) (c1 : Nat) (l1 : List ByteArray) (r : Bool) (w : World) (hr0 : Kd.C Kd.string w A0 l0.length l0) (hc0 : l0.length ≤ c0) (hr1 : Kd.C Kd.string w A1 l1.length l1) (hc1 : l1.length ≤ c1) (h : laws_epSame.f k l0 l1 = some r) :
    Calls Try.prog 36 #[.slice A0 l0.length c0, .slice A1 l1.length c1] w fun e w' => e = .returned (.bool r) ∧ Drawn0 w w' := by
  have HR0 := Aside0.mk hr0
  have HC0 := Aside0.mk hc0
  clear hr0 hc0
  have HR1 := Aside0.mk hr1
  have HC1 := Aside0.mk hc1
  clear hr1 hc1
  have H : (if (l0.length : Int) = (l1.length : Int) then (laws_epSame.l0 k l0 l1 (l0.length : Int) 0) else (some false)) = some r := h
  clear h
  by_cases c3 : (l0.length : Int) = (l1.length : Int)
  · rw [if_pos c3] at H
    have c3b0 : ((l0.length : Int) == (l1.length : Int)) = true := beq_iff_eq.mpr c3
    have c3b1 : ((l0.length : Int) != (l1.length : Int)) = false := bne_eq_false_iff_eq.mpr c3
    have c3b2 : (l0.length == l1.length) = true := by first | simpa using c3 | (simp at c3 ⊢; omega)
    clear c3
    have H' := Aside0.mk H
    clear H
    go_enter Try.func36, Try.ntmps36
    go_wp2
    repeat (go_quiet (fail); try go_wp2)
    go_loopg [13] k (fun kq v13 w' => ∃ (x13_1 : Int), v13 = .int .i64 x13_1 ∧ Aside0 (laws_epSame.l0 kq l0 l1 (l0.length : Int) x13_1 = some r) ∧ Aside0 (kq ≤ k) ∧ Drawn0 w w')
    case atStart => exact ⟨(0), (by first | rfl | (simp; done) | (simp [*]; done)), H', ⟨Nat.le_refl _⟩, by repeat (first | exact Drawn0.refl _ | apply Drawn0.step)⟩
    case round =>
      clear H'
      try clear c1
      try clear p2
      try clear c3
      try clear c3b0
      try clear c3b1
      try clear c3b2
      obtain ⟨x13_1, rfl, HA, HK1, ⟨m1, rfl⟩⟩ := hrel
      cases gk with
      | zero => exact absurd HA.out (by simp [laws_epSame.l0])
      | succ k1 =>
        have H := HA.out
        clear HA
        simp only [laws_epSame.l0] at H
        by_cases c4 : x13_1 < (l0.length : Int)
        · rw [if_pos c4] at H
          have c4b0 : decide (x13_1 < (l0.length : Int)) = true := decide_eq_true c4
          clear c4
          by_cases c5 : 0 ≤ x13_1
          · rw [if_pos c5] at H
            have c5b0 : decide (0 ≤ x13_1) = true := decide_eq_true c5
            clear c5
            by_cases c6 : x13_1 < (l0.length : Int)
            · rw [if_pos c6] at H
              have c6b0 : decide (x13_1 < (l0.length : Int)) = true := decide_eq_true c6
              clear c6
              by_cases c7 : x13_1 < (l1.length : Int)
              · rw [if_pos c7] at H
                have c7b0 : decide (x13_1 < (l1.length : Int)) = true := decide_eq_true c7
                clear c7
                by_cases c8 : (rdOf ByteArray.empty l0 x13_1).toList = (rdOf ByteArray.empty l1 x13_1).toList
                · rw [if_pos c8] at H
                  have c8b0 : ((rdOf ByteArray.empty l0 x13_1).toList == (rdOf ByteArray.empty l1 x13_1).toList) = true := beq_iff_eq.mpr c8
                  have c8b1 : ((rdOf ByteArray.empty l0 x13_1).toList != (rdOf ByteArray.empty l1 x13_1).toList) = false := bne_eq_false_iff_eq.mpr c8
                  clear c8
                  have H' := Aside0.mk H
                  clear H
                  have p157 : 0 ≤ (x13_1 : Int) := of_decide_eq_true (by first | (with_reducible assumption) | assumption)
                  have q157 : x13_1 < (l0.length : Int) := of_decide_eq_true (by first | (with_reducible assumption) | assumption)
                  obtain ⟨ad157, e157, hx157_0⟩ := Kd.at_string HR0.out x13_1 p157 q157
                  cases e157
                  replace p157 := eq_true p157
                  replace q157 := eq_true q157
                  have p158 : 0 ≤ (x13_1 : Int) := of_decide_eq_true (by first | (with_reducible assumption) | assumption)
                  have q158 : x13_1 < (l1.length : Int) := of_decide_eq_true (by first | (with_reducible assumption) | assumption)
                  obtain ⟨ad158, e158, hx158_0⟩ := Kd.at_string HR1.out x13_1 p158 q158
                  cases e158
                  replace p158 := eq_true p158
                  replace q158 := eq_true q158
                  go_wp2
                  repeat (go_quiet (fail); try go_wp2)
                  go_roundg k1
                  case measure => have := HK1.out; omega
                  case rel => exact ⟨(wrap64 (x13_1 + 1)), (by first | rfl | (simp; done) | (simp [*]; done)), H', ⟨by have := HK1.out; omega⟩, by repeat (first | exact Drawn0.refl _ | apply Drawn0.step)⟩
                · rw [if_neg c8] at H
                  have c8b0 : ((rdOf ByteArray.empty l0 x13_1).toList == (rdOf ByteArray.empty l1 x13_1).toList) = false := beq_eq_false_iff_ne.mpr c8
                  have c8b1 : ((rdOf ByteArray.empty l0 x13_1).toList != (rdOf ByteArray.empty l1 x13_1).toList) = true := bne_iff_ne.mpr c8
                  obtain rfl := Option.some.inj H
                  have p157 : 0 ≤ (x13_1 : Int) := of_decide_eq_true (by first | (with_reducible assumption) | assumption)
                  have q157 : x13_1 < (l0.length : Int) := of_decide_eq_true (by first | (with_reducible assumption) | assumption)
                  obtain ⟨ad157, e157, hx157_0⟩ := Kd.at_string HR0.out x13_1 p157 q157
                  cases e157
                  replace p157 := eq_true p157
                  replace q157 := eq_true q157
                  have p158 : 0 ≤ (x13_1 : Int) := of_decide_eq_true (by first | (with_reducible assumption) | assumption)
                  have q158 : x13_1 < (l1.length : Int) := of_decide_eq_true (by first | (with_reducible assumption) | assumption)
                  obtain ⟨ad158, e158, hx158_0⟩ := Kd.at_string HR1.out x13_1 p158 q158
                  cases e158
                  replace p158 := eq_true p158
                  replace q158 := eq_true q158
                  go_wp2
                  repeat (go_quiet (fail); try go_wp2)
                  go_ret
                  exact ⟨by first | rfl | (simp; done) | (simp [*]; done), by repeat (first | exact Drawn0.refl _ | apply Drawn0.step)⟩
              · rw [if_neg c7] at H
                exact absurd H (by simp)
            · rw [if_neg c6] at H
              exact absurd H (by simp)
          · rw [if_neg c5] at H
            exact absurd H (by simp)
        · rw [if_neg c4] at H
          have c4b0 : decide (x13_1 < (l0.length : Int)) = false := decide_eq_false c4
          clear c4
          obtain rfl := Option.some.inj H
          go_wp2
          repeat (go_quiet (fail); try go_wp2)
          go_ret
          exact ⟨by first | rfl | (simp; done) | (simp [*]; done), by repeat (first | exact Drawn0.refl _ | apply Drawn0.step)⟩
  · rw [if_neg c3] at H
    have c3b0 : ((l0.length : Int) == (l1.length : Int)) = false := beq_eq_false_iff_ne.mpr c3
    have c3b1 : ((l0.length : Int) != (l1.length : Int)) = true := bne_iff_ne.mpr c3
    have c3b2 : (l0.length == l1.length) = false := by first | simpa using c3 | (simp at c3 ⊢; omega)
    obtain rfl := Option.some.inj H
    go_enter Try.func36, Try.ntmps36
    go_wp2
    repeat (go_quiet (fail); try go_wp2)
    go_ret
    exact ⟨by first | rfl | (simp; done) | (simp [*]; done), by repeat (first | exact Drawn0.refl _ | apply Drawn0.step)⟩

/-! ### filesys_RemoveHiddenFiles: function 61 -/
def filesys_RemoveHiddenFiles.l0 : Nat → List ByteArray → List ByteArray → Int → Int → Option (List ByteArray)
  | 0, _, _, _, _ => none
  | k + 1, x3, x10, x11, x12 => if x12 < x11 then (if 0 ≤ x12 then (if x12 < (x10.length : Int) then ((filesys_IsHiddenFilePath.f k (rdOf ByteArray.empty x10 x12)).bind fun t160 => (if t160 = true then (filesys_RemoveHiddenFiles.l0 k x3 x10 x11 (wrap64 (x12 + 1))) else (if x3.length < 8796093022208 then (filesys_RemoveHiddenFiles.l0 k (x3 ++ [rdOf ByteArray.empty x10 x12]) x10 x11 (wrap64 (x12 + 1))) else (none)))) else (none)) else (none)) else (some x3)
def filesys_RemoveHiddenFiles.f (k : Nat) (l0 : List ByteArray) : Option (List ByteArray) := if (l0.length : Int) = 0 then (some l0) else (filesys_RemoveHiddenFiles.l0 k ([] : List ByteArray) l0 (l0.length : Int) 0)
theorem filesys_RemoveHiddenFiles.mono_l : ∀ k, (∀ y0 y1 y2 y3, LeO (filesys_RemoveHiddenFiles.l0 k y0 y1 y2 y3) (filesys_RemoveHiddenFiles.l0 (k + 1) y0 y1 y2 y3))
  | 0 => fun _ _ _ _ r h => by simp [filesys_RemoveHiddenFiles.l0] at h
  | k + 1 => by
    have ih0 := filesys_RemoveHiddenFiles.mono_l k
    · intro y0 y1 y2 y3
      unfold filesys_RemoveHiddenFiles.l0
      repeat' first
      | (with_reducible exact ih0 _ _ _ _)
      | (with_reducible exact filesys_IsHiddenFilePath.mono _ _)
      | (with_reducible exact LeO.refl _)
      | (with_reducible exact LeO.none _)
      | (with_reducible refine LeO.ite ?_ ?_)
      | (with_reducible refine LeO.bind ?_ (fun _ => ?_))
      | exact ih0 _ _ _ _
      | exact filesys_IsHiddenFilePath.mono _ _
      | exact LeO.none _
      | refine LeO.ite ?_ ?_
      | refine LeO.bind ?_ (fun _ => ?_)
theorem filesys_RemoveHiddenFiles.mono : ∀ a0 k, LeO (filesys_RemoveHiddenFiles.f k a0) (filesys_RemoveHiddenFiles.f (k + 1) a0) := by
  intro a0 k
  have ih0 := filesys_RemoveHiddenFiles.mono_l k
  unfold filesys_RemoveHiddenFiles.f
  repeat' first
      | (with_reducible exact ih0 _ _ _ _)
      | (with_reducible exact filesys_IsHiddenFilePath.mono _ _)
      | (with_reducible exact LeO.refl _)
      | (with_reducible exact LeO.none _)
      | (with_reducible refine LeO.ite ?_ ?_)
      | (with_reducible refine LeO.bind ?_ (fun _ => ?_))
      | exact ih0 _ _ _ _
      | exact filesys_IsHiddenFilePath.mono _ _
      | exact LeO.none _
      | refine LeO.ite ?_ ?_
      | refine LeO.bind ?_ (fun _ => ?_)
set_option maxHeartbeats 8000000 in
set_option maxRecDepth 100000 in
theorem filesys_RemoveHiddenFiles.calls (k : Nat) (P0_ : Nat → Prop) (u9000_ : Value) (l0 : List ByteArray) (r : List ByteArray) (w0 w : World) (hB : Below w0.heap.size w0 w) (ho0 : Kd.R Kd.string 9 w w0.heap.size P0_ u9000_ l0) (h : filesys_RemoveHiddenFiles.f k l0 = some r) :
    Calls Try.prog 61 #[u9000_] w fun e w' => ∃ v0_ : Value, e = .returned (v0_) ∧ Kd.R Kd.string 9 w' w0.heap.size (fun k_ => (P0_ k_ ∨ w.heap.size ≤ k_)) v0_ r ∧ Below w0.heap.size w0 w' ∧ Kept w w' (fun k_ => P0_ k_) := by
  have HO0 := Aside0.mk (show Kd.R Kd.string 9 w w0.heap.size (fun k_ => (P0_ k_ ∨ w.heap.size ≤ k_)) u9000_ l0 from Kd.R_mono ho0 (fun k_ hk => (.inl hk)))
  have HK := Aside0.mk (Kept.refl w (fun k_ => P0_ k_))
  have HW0 := Aside0.mk hB.size
  have HB := Aside0.mk hB
  clear hB
  have H : (if (l0.length : Int) = 0 then (some l0) else (filesys_RemoveHiddenFiles.l0 k ([] : List ByteArray) l0 (l0.length : Int) 0)) = some r := h
  clear h
  by_cases c2 : (l0.length : Int) = 0
  · rw [if_pos c2] at H
    have c2b0 : ((l0.length : Int) == 0) = true := beq_iff_eq.mpr c2
    have c2b1 : ((l0.length : Int) != 0) = false := bne_eq_false_iff_eq.mpr c2
    clear c2
    obtain rfl := Option.some.inj H
    obtain ⟨Ao3, co3, eo3⟩ := Kd.R_slice HO0.out
    subst eo3
    go_enter Try.func61, Try.ntmps61
    go_wp2
    go_ret
    exact ⟨_, by first | rfl | (simp [errW_none, errW_some] <;> rfl) | (simp [*, errW_none, errW_some] <;> rfl), by (with_reducible repeat (first | apply Kd.R_alloc | apply Kd.R_drewN | apply Kd.R_drew)); exact HO0.out, by repeat (first | (with_reducible first | exact HB.out | apply below_alloc | apply pw_below_drewN | apply below_drew1) | exact HB.out), by repeat (first | (with_reducible first | exact HK.out | apply Kept.alloc | apply Kept.drewN | apply Kept.drew) | exact HK.out)⟩
  · rw [if_neg c2] at H
    have c2b0 : ((l0.length : Int) == 0) = false := beq_eq_false_iff_ne.mpr c2
    have c2b1 : ((l0.length : Int) != 0) = true := bne_iff_ne.mpr c2
    have c2b2 : ¬ (l0 = []) := fun h_ => c2 (by rw [h_]; rfl)
    have H' := Aside0.mk H
    clear H
    obtain ⟨Ao4, co4, eo4⟩ := Kd.R_slice HO0.out
    subst eo4
    go_enter Try.func61, Try.ntmps61
    go_wp2
    go_loopg [3, 12] k (fun kq v3 v12 w' => ∃ (x3_1 : List ByteArray) (x12_1 : Int), v12 = .int .i64 x12_1 ∧ Aside0 (filesys_RemoveHiddenFiles.l0 kq x3_1 l0 (l0.length : Int) x12_1 = some r) ∧ Aside0 (kq ≤ k) ∧ Aside0 (Kd.R Kd.string 9 w' w0.heap.size (fun k_ => (P0_ k_ ∨ w.heap.size ≤ k_) ∧ some k_ ≠ ((.slice Ao4 l0.length co4) : Value).ownBlock) v3 x3_1) ∧ Aside0 (Kd.R Kd.string 9 w' w0.heap.size (fun k_ => (P0_ k_ ∨ w.heap.size ≤ k_) ∧ some k_ ≠ (v3 : Value).ownBlock) (.slice Ao4 l0.length co4) l0) ∧ Aside0 (Kept w w' (fun k_ => P0_ k_)) ∧ Aside0 (Below w0.heap.size w0 w'))
    case atStart => exact ⟨(([] : List ByteArray)), (0), (by first | rfl | (simp; done) | (simp [*]; done)), H', ⟨Nat.le_refl _⟩, ⟨by first | exact Kd.R_nil _ _ _ _ _ | exact Kd.N_nil _ _ _ _ _ | exact Kd.V_nil _ _ _ _ _ | exact Kd.Q_nil _ _ _ _ _ | exact Kd.S_nil _ _ _ _ _⟩, ⟨by (with_reducible repeat (first | apply Kd.R_alloc | apply Kd.R_drewN | apply Kd.R_drew)); exact Kd.R_mono HO0.out (fun _ hk => ⟨hk, (by simp [Value.ownBlock])⟩)⟩, ⟨by repeat (first | (with_reducible first | exact HK.out | apply Kept.alloc | apply Kept.drewN | apply Kept.drew) | exact HK.out)⟩, ⟨by repeat (first | (with_reducible first | exact HB.out | apply below_alloc | apply pw_below_drewN | apply below_drew1) | exact HB.out)⟩⟩
    case round =>
      clear H'
      try clear c2
      try clear c2b0
      try clear c2b1
      try clear c2b2
      try clear p2
      obtain ⟨x3_1, x12_1, rfl, HA, HK1, HO_3, HO_10, HK, HB⟩ := hrel
      cases gk with
      | zero => exact absurd HA.out (by simp [filesys_RemoveHiddenFiles.l0])
      | succ k1 =>
        have H := HA.out
        clear HA
        simp only [filesys_RemoveHiddenFiles.l0] at H
        by_cases c5 : x12_1 < (l0.length : Int)
        · rw [if_pos c5] at H
          have c5b0 : decide (x12_1 < (l0.length : Int)) = true := decide_eq_true c5
          clear c5
          by_cases c6 : 0 ≤ x12_1
          · rw [if_pos c6] at H
            have c6b0 : decide (0 ≤ x12_1) = true := decide_eq_true c6
            clear c6
            by_cases c7 : x12_1 < (l0.length : Int)
            · rw [if_pos c7] at H
              have c7b0 : decide (x12_1 < (l0.length : Int)) = true := decide_eq_true c7
              clear c7
              replace H := Option.bind_eq_some_iff.mp H
              obtain ⟨t160, A80, H⟩ := H
              replace H : (if t160 = true then (filesys_RemoveHiddenFiles.l0 k1 x3_1 l0 (l0.length : Int) (wrap64 (x12_1 + 1))) else (if x3_1.length < 8796093022208 then (filesys_RemoveHiddenFiles.l0 k1 (x3_1 ++ [rdOf ByteArray.empty l0 x12_1]) l0 (l0.length : Int) (wrap64 (x12_1 + 1))) else (none))) = some r := H
              have A8 := Aside0.mk A80
              clear A80
              by_cases c9 : t160 = true
              · subst c9
                have H1 : (filesys_RemoveHiddenFiles.l0 k1 x3_1 l0 (l0.length : Int) (wrap64 (x12_1 + 1))) = some r := by rw [if_pos rfl] at H; exact H
                clear H
                have H := H1
                clear H1
                have H' := Aside0.mk H
                clear H
                have p159 : 0 ≤ (x12_1 : Int) := of_decide_eq_true (by first | (with_reducible assumption) | assumption)
                have q159 : x12_1 < (l0.length : Int) := of_decide_eq_true (by first | (with_reducible assumption) | assumption)
                obtain ⟨ad159, e159, hx159_0⟩ := Kd.at_string (Kd.R_reads' HO_10.out).2.2 x12_1 p159 q159
                cases e159
                replace p159 := eq_true p159
                replace q159 := eq_true q159
                go_wp2_with (first | ((with_reducible refine gate_callee (f := 60) rfl ?_); refine goesL_ (some 17) rfl rfl Try.func60 (by kernel_rfl) rfl #[.string (rdOf ByteArray.empty l0 x12_1)] rfl (by (try simp only [List.map_toArray, List.map_cons, List.map_nil]); first | done | rfl | (simp only [List.length_drop, List.length_take]; rfl)) ?_; (with_reducible refine (filesys_IsHiddenFilePath.calls k1 (rdOf ByteArray.empty l0 x12_1) true _ A8.out).mono ?_); rintro e w' ⟨rfl, ⟨nd, rfl⟩⟩; refine ⟨_, rfl, ?_⟩))
                go_roundg k1
                case measure => have := HK1.out; omega
                case rel => exact ⟨(x3_1), (wrap64 (x12_1 + 1)), (by first | rfl | (simp; done) | (simp [*]; done)), H', ⟨by have := HK1.out; omega⟩, ⟨by (with_reducible repeat (first | apply Kd.R_alloc | apply Kd.R_drewN | apply Kd.R_drew)); exact HO_3.out⟩, ⟨by (with_reducible repeat (first | apply Kd.R_alloc | apply Kd.R_drewN | apply Kd.R_drew)); exact HO_10.out⟩, ⟨by repeat (first | (with_reducible first | exact HK.out | apply Kept.alloc | apply Kept.drewN | apply Kept.drew) | exact HK.out)⟩, ⟨by repeat (first | (with_reducible first | exact HB.out | apply below_alloc | apply pw_below_drewN | apply below_drew1) | exact HB.out)⟩⟩
              · replace c9 := Bool.eq_false_iff.mpr c9
                subst c9
                have H1 : (if x3_1.length < 8796093022208 then (filesys_RemoveHiddenFiles.l0 k1 (x3_1 ++ [rdOf ByteArray.empty l0 x12_1]) l0 (l0.length : Int) (wrap64 (x12_1 + 1))) else (none)) = some r := by rw [if_neg (show ¬ (false = true) by decide)] at H; exact H
                clear H
                have H := H1
                clear H1
                by_cases c10 : x3_1.length < 8796093022208
                · rw [if_pos c10] at H
                  have LMc10 := Aside0.mk c10
                  clear c10
                  obtain ⟨y161, hy161⟩ : ∃ y_ : List ByteArray, y_ = (x3_1 ++ [rdOf ByteArray.empty l0 x12_1]) := ⟨_, rfl⟩
                  replace H : (filesys_RemoveHiddenFiles.l0 k1 y161 l0 (l0.length : Int) (wrap64 (x12_1 + 1))) = some r := by first | (rw [hy161]; with_reducible exact H) | (have H2_ := (Option.bind_some _ _).symm.trans H; rw [hy161]; with_reducible exact H2_) | (have H2_ := (Option.bind_some _ _).symm.trans H; with_reducible exact H2_) | with_reducible exact H | (rw [hy161]; exact H) | exact H
                  have Ny161 := Aside0.mk hy161
                  clear hy161
                  have H' := Aside0.mk H
                  clear H
                  have p159 : 0 ≤ (x12_1 : Int) := of_decide_eq_true (by first | (with_reducible assumption) | assumption)
                  have q159 : x12_1 < (l0.length : Int) := of_decide_eq_true (by first | (with_reducible assumption) | assumption)
                  obtain ⟨ad159, e159, hx159_0⟩ := Kd.at_string (Kd.R_reads' HO_10.out).2.2 x12_1 p159 q159
                  cases e159
                  replace p159 := eq_true p159
                  replace q159 := eq_true q159
                  go_wp2_with (first | ((with_reducible refine gate_callee (f := 60) rfl ?_); refine goesL_ (some 17) rfl rfl Try.func60 (by kernel_rfl) rfl #[.string (rdOf ByteArray.empty l0 x12_1)] rfl (by (try simp only [List.map_toArray, List.map_cons, List.map_nil]); first | done | rfl | (simp only [List.length_drop, List.length_take]; rfl)) ?_; (with_reducible refine (filesys_IsHiddenFilePath.calls k1 (rdOf ByteArray.empty l0 x12_1) false _ A8.out).mono ?_); rintro e w' ⟨rfl, ⟨nd, rfl⟩⟩; refine ⟨_, rfl, ?_⟩) | ((with_reducible refine gate_builtin (b := .append) (xs := #[.tmp 19, .tmp 21]) rfl ?_); at_builtin; refine Kd.R_append Kd.string (w0 := w0) w0.heap.size rfl (.tmp 19) (.tmp 21) 22 9 (.string ⟨#[]⟩) 16 rfl Try.underlying22 info9 rfl (by decide) (by omega) u3 x3_1 (rdOf ByteArray.empty l0 x12_1) [.string (rdOf ByteArray.empty l0 x12_1)] (fun k_ => (P0_ k_ ∨ w.heap.size ≤ k_) ∧ some k_ ≠ (.slice (some ad159) l0.length co4 : Value).ownBlock) (fun _ => False) rfl rfl ?aP (fun _ hk => hk.elim) ?aF ?aO ?aB ?aS ?aL ?_; (case aP => exact rfl); (case aB => exact (by repeat (first | (with_reducible first | exact HB.out | apply below_alloc | apply pw_below_drewN | apply below_drew1) | exact HB.out))); (case aF => exact (fun k_ hk => ⟨(.inr (Nat.le_trans (by first | exact HK.out.1 | exact (show Kept w _ (fun k_ => P0_ k_) from by repeat (first | (with_reducible first | exact HK.out | apply Kept.alloc | apply Kept.drewN | apply Kept.drew) | exact HK.out)).1) hk)), Kd.fresh' (Kd.R_lt (by (with_reducible repeat (first | apply Kd.R_alloc | apply Kd.R_drewN | apply Kd.R_drew)); exact HO_10.out)) k_ hk⟩)); (case aO => exact (by (with_reducible repeat (first | apply Kd.R_alloc | apply Kd.R_drewN | apply Kd.R_drew)); exact HO_3.out)); (case aS => exact (below_size (by repeat (first | (with_reducible first | exact HB.out | apply below_alloc | apply pw_below_drewN | apply below_drew1) | exact HB.out)))); (case aL => have := LMc10.out; omega); intro v162 w11 ho hb hg hat; rw [← Ny161.out] at ho; have n0_ := Aside0.mk (Kd.R_after (ok := (fun k_ => (P0_ k_ ∨ w.heap.size ≤ k_))) (by (with_reducible repeat (first | apply Kd.R_alloc | apply Kd.R_drewN | apply Kd.R_drew)); exact HO_10.out) hg hat); have n1_ := Aside0.mk (hb); have n2_ := Aside0.mk (Kept.of_grown (S := (fun k_ => P0_ k_)) hg (by repeat (first | (with_reducible first | exact HK.out | apply Kept.alloc | apply Kept.drewN | apply Kept.drew) | exact HK.out)) (fun k_ e_ => (HO_3.out.1 k_ e_).1)); have n3_ := Aside0.mk (ho); clear HO_10; clear HB; clear HK; clear HO_3; have HO_10 := n0_; have HB := n1_; have HK := n2_; have HO163 := n3_; clear n0_ n1_ n2_ n3_; clear ho hb hg hat))
                  go_roundg k1
                  case measure => have := HK1.out; omega
                  case rel => exact ⟨(y161), (wrap64 (x12_1 + 1)), (by first | rfl | (simp; done) | (simp [*]; done)), H', ⟨by have := HK1.out; omega⟩, ⟨by (with_reducible repeat (first | apply Kd.R_alloc | apply Kd.R_drewN | apply Kd.R_drew)); exact HO163.out⟩, ⟨by (with_reducible repeat (first | apply Kd.R_alloc | apply Kd.R_drewN | apply Kd.R_drew)); exact HO_10.out⟩, ⟨by repeat (first | (with_reducible first | exact HK.out | apply Kept.alloc | apply Kept.drewN | apply Kept.drew) | exact HK.out)⟩, ⟨by repeat (first | (with_reducible first | exact HB.out | apply below_alloc | apply pw_below_drewN | apply below_drew1) | exact HB.out)⟩⟩
                · rw [if_neg c10] at H
                  exact absurd H (by simp)
            · rw [if_neg c7] at H
              exact absurd H (by simp)
          · rw [if_neg c6] at H
            exact absurd H (by simp)
        · rw [if_neg c5] at H
          have c5b0 : decide (x12_1 < (l0.length : Int)) = false := decide_eq_false c5
          clear c5
          obtain rfl := Option.some.inj H
          go_wp2
          go_ret
          exact ⟨_, by first | rfl | (simp [errW_none, errW_some] <;> rfl) | (simp [*, errW_none, errW_some] <;> rfl), by (with_reducible repeat (first | apply Kd.R_alloc | apply Kd.R_drewN | apply Kd.R_drew)); exact Kd.R_mono HO_3.out (fun _ hk => hk.1), by repeat (first | (with_reducible first | exact HB.out | apply below_alloc | apply pw_below_drewN | apply below_drew1) | exact HB.out), by repeat (first | (with_reducible first | exact HK.out | apply Kept.alloc | apply Kept.drewN | apply Kept.drew) | exact HK.out)⟩

end Go.Proofs.Ytllmmnhgchidkaa.PFnPathHidden
