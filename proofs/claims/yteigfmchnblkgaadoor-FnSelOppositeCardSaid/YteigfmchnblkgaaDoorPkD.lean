/- Functions of the program as Lean functions, with their contracts (the lines are print.sh's): validation_prefixEach. -/
import Derived.Test.YteigfmchnblkgaaDoorHd
namespace Go.Proofs.YteigfmchnblkgaaDoor.PFnSelOpposite
open Go.RowKit Go.Proofs.YteigfmchnblkgaaDoorW.PrintWords Go.Proofs.YteigfmchnblkgaaDoorW.PrintLast Go.Proofs.YteigfmchnblkgaaDoorW.PrintMore
set_option linter.unusedVariables false
set_option linter.unusedSimpArgs false


/-! ### validation_prefixEach: function 47 -/
def validation_prefixEach.l0 : Nat → List ByteArray → ByteArray → Int → Int → Option (List ByteArray)
  | 0, _, _, _, _ => none
  | k + 1, x0, x1, x7, x8 => if x8 < x7 then (if 0 ≤ x8 then (if x8 < (x0.length : Int) then (if x1.size + (rdOf ByteArray.empty x0 x8).size ≤ 9223372036854775807 then (validation_prefixEach.l0 k (x0.set (x8 : Int).toNat (x1 ++ (rdOf ByteArray.empty x0 x8))) x1 x7 (wrap64 (x8 + 1))) else (none)) else (none)) else (none)) else (some x0)
def validation_prefixEach.f (k : Nat) (l0 : List ByteArray) (a1 : ByteArray) : Option (List ByteArray) := validation_prefixEach.l0 k l0 a1 (l0.length : Int) 0
theorem validation_prefixEach.mono_l : ∀ k, (∀ y0 y1 y2 y3, LeO (validation_prefixEach.l0 k y0 y1 y2 y3) (validation_prefixEach.l0 (k + 1) y0 y1 y2 y3))
  | 0 => fun _ _ _ _ r h => by simp [validation_prefixEach.l0] at h
  | k + 1 => by
    have ih0 := validation_prefixEach.mono_l k
    · intro y0 y1 y2 y3
      unfold validation_prefixEach.l0
      repeat' first
      | (with_reducible exact ih0 _ _ _ _)
      | (with_reducible exact LeO.refl _)
      | (with_reducible exact LeO.none _)
      | (with_reducible refine LeO.ite ?_ ?_)
      | (with_reducible refine LeO.bind ?_ (fun _ => ?_))
      | exact ih0 _ _ _ _
      | exact LeO.none _
      | refine LeO.ite ?_ ?_
      | refine LeO.bind ?_ (fun _ => ?_)
theorem validation_prefixEach.mono : ∀ a0 a1 k, LeO (validation_prefixEach.f k a0 a1) (validation_prefixEach.f (k + 1) a0 a1) := by
  intro a0 a1 k
  have ih0 := validation_prefixEach.mono_l k
  unfold validation_prefixEach.f
  repeat' first
      | (with_reducible exact ih0 _ _ _ _)
      | (with_reducible exact LeO.refl _)
      | (with_reducible exact LeO.none _)
      | (with_reducible refine LeO.ite ?_ ?_)
      | (with_reducible refine LeO.bind ?_ (fun _ => ?_))
      | exact ih0 _ _ _ _
      | exact LeO.none _
      | refine LeO.ite ?_ ?_
      | refine LeO.bind ?_ (fun _ => ?_)
set_option maxHeartbeats 8000000 in
set_option maxRecDepth 100000 in
theorem validation_prefixEach.calls (k : Nat) (P0_ : Nat → Prop) (u9000_ : Value) (l0 : List ByteArray) (a1 : ByteArray) (r : List ByteArray) (w0 w : World) (hB : Below w0.heap.size w0 w) (ho0 : Kd.R Kd.string 9 w w0.heap.size P0_ u9000_ l0) (h : validation_prefixEach.f k l0 a1 = some r) :
    Calls Tryd.prog 47 #[u9000_, .string a1] w fun e w' => ∃ v0_ : Value, e = .returned (v0_) ∧ Kd.R Kd.string 9 w' w0.heap.size (fun k_ => (P0_ k_ ∨ w.heap.size ≤ k_)) v0_ r ∧ Below w0.heap.size w0 w' ∧ Kept w w' (fun k_ => P0_ k_) := by
  have HO0 := Aside0.mk (show Kd.R Kd.string 9 w w0.heap.size (fun k_ => (P0_ k_ ∨ w.heap.size ≤ k_)) u9000_ l0 from Kd.R_mono ho0 (fun k_ hk => (.inl hk)))
  have HK := Aside0.mk (Kept.refl w (fun k_ => P0_ k_))
  have HW0 := Aside0.mk hB.size
  have HB := Aside0.mk hB
  clear hB
  have H : (validation_prefixEach.l0 k l0 a1 (l0.length : Int) 0) = some r := h
  clear h
  have H' := Aside0.mk H
  clear H
  obtain ⟨Ao3, co3, eo3⟩ := Kd.R_slice HO0.out
  subst eo3
  go_enter Tryd.func47, Tryd.ntmps47
  go_wp2
  go_loopg [8] k (fun kq v8 w' => ∃ (x0_1 : List ByteArray) (x8_1 : Int), v8 = .int .i64 x8_1 ∧ Aside0 (validation_prefixEach.l0 kq x0_1 a1 (l0.length : Int) x8_1 = some r) ∧ Aside0 (kq ≤ k) ∧ Aside0 (Kd.R Kd.string 9 w' w0.heap.size (fun k_ => (P0_ k_ ∨ w.heap.size ≤ k_)) (.slice Ao3 l0.length co3) x0_1) ∧ Aside0 (Kept w w' (fun k_ => P0_ k_)) ∧ Aside0 (Below w0.heap.size w0 w'))
  case atStart => exact ⟨(l0), (0), (by first | rfl | (simp; done) | (simp [*]; done)), H', ⟨Nat.le_refl _⟩, ⟨by (with_reducible repeat (first | apply Kd.R_alloc | apply Kd.R_drewN | apply Kd.R_drew)); exact HO0.out⟩, ⟨by repeat (first | (with_reducible first | exact HK.out | apply Kept.alloc | apply Kept.drewN | apply Kept.drew) | exact HK.out)⟩, ⟨by repeat (first | (with_reducible first | exact HB.out | apply below_alloc | apply pw_below_drewN | apply below_drew1) | exact HB.out)⟩⟩
  case round =>
    clear H'
    try clear p2
    obtain ⟨x0_1, x8_1, rfl, HA, HK1, HO_0, HK, HB⟩ := hrel
    have hl0_1 := (Kd.R_reads' HO_0.out).1
    rw [hl0_1] at HO_0
    (try simp only [hl0_1])
    cases gk with
    | zero => exact absurd HA.out (by simp [validation_prefixEach.l0])
    | succ k1 =>
      have H := HA.out
      clear HA
      simp only [validation_prefixEach.l0] at H
      by_cases c4 : x8_1 < (l0.length : Int)
      · rw [if_pos c4] at H
        have c4b0 : decide (x8_1 < (l0.length : Int)) = true := decide_eq_true c4
        clear c4
        by_cases c5 : 0 ≤ x8_1
        · rw [if_pos c5] at H
          have c5b0 : decide (0 ≤ x8_1) = true := decide_eq_true c5
          clear c5
          by_cases c6 : x8_1 < (x0_1.length : Int)
          · rw [if_pos c6] at H
            have c6b0 : decide (x8_1 < (x0_1.length : Int)) = true := decide_eq_true c6
            clear c6
            by_cases c7 : a1.size + (rdOf ByteArray.empty x0_1 x8_1).size ≤ 9223372036854775807
            · rw [if_pos c7] at H
              have c7b0 := eq_true c7
              have c7b1 : decide (a1.size + (rdOf ByteArray.empty x0_1 x8_1).size ≤ 9223372036854775807) = true := decide_eq_true c7
              try have c7b2 : (9223372036854775807 < a1.size + (rdOf ByteArray.empty x0_1 x8_1).size) = False := eq_false (Nat.not_lt.2 c7)
              obtain ⟨y192, hy192⟩ : ∃ y_ : List ByteArray, y_ = (x0_1.set (x8_1 : Int).toNat (a1 ++ (rdOf ByteArray.empty x0_1 x8_1))) := ⟨_, rfl⟩
              replace H : (validation_prefixEach.l0 k1 y192 a1 (l0.length : Int) (wrap64 (x8_1 + 1))) = some r := by first | (rw [hy192]; with_reducible exact H) | (have H2_ := (Option.bind_some _ _).symm.trans H; rw [hy192]; with_reducible exact H2_) | (have H2_ := (Option.bind_some _ _).symm.trans H; with_reducible exact H2_) | with_reducible exact H | (rw [hy192]; exact H) | exact H
              have Ny192 := Aside0.mk hy192
              clear hy192
              have H' := Aside0.mk H
              clear H
              have p191 : 0 ≤ (x8_1 : Int) := of_decide_eq_true (by first | (with_reducible assumption) | assumption)
              have q191 : x8_1 < (x0_1.length : Int) := of_decide_eq_true (by first | (with_reducible assumption) | assumption)
              obtain ⟨ad191, e191, hx191_0⟩ := Kd.at_string (Kd.R_reads' HO_0.out).2.2 x8_1 p191 q191
              cases e191
              replace p191 := eq_true p191
              replace q191 := eq_true q191
              have p8 : 0 ≤ (x8_1 : Int) := of_decide_eq_true (by first | (with_reducible assumption) | assumption)
              have q8 : (x8_1 : Int) < ((x0_1.length : Int) : Int) := of_decide_eq_true (by first | (with_reducible assumption) | assumption)
              obtain ⟨go8, co8, eo8, gb8, gl8, cl8, HG8⟩ := Kd.R_form HO_0.out (by omega)
              (first | cases eo8 | (injection eo8 with ea_ en_ ec_; (first | subst ea_ | (injection ea_ with ea_; subst ea_)); subst ec_; clear en_))
              have GB8 := Aside0.mk gb8
              have GG8 := Aside0.mk HG8
              clear gb8 gl8 HG8
              have HMgo8 := Aside0.mk (show (P0_ go8 ∨ w.heap.size ≤ go8) from (HO_0.out.1 _ rfl))
              (first | simp only [add_plain] at hx191_0 | skip)
              obtain ⟨hx8_0, hf8_0⟩ := Kd.R_celln (⟨#[]⟩ : ByteArray) HO_0.out (x8_1 : Int) p8 q8
              replace p8 := eq_true p8
              replace q8 := eq_true q8
              have HP9 := Kd.R_putg HO_0.out (x8_1 : Int) (a1 ++ (rdOf ByteArray.empty x0_1 x8_1))
              go_wp2_with (first | ((with_reducible refine gate_store (t := 9) (p := 19) rfl ?_); refine store_event (t := 9) (p := 19) (v := ?vo_w10) (w1 := (wr.setCell ⟨go8, (x8_1 : Int).toNat, none⟩ (.string (a1 ++ (rdOf ByteArray.empty x0_1 x8_1))))) ?hg ?ho ?hn ?hr ?_; (case ho => rfl); (case hg => rfl); (case hn => rfl); (case hr => first | (go_simp; done) | (go_simp; rfl)); intro w10 hw; have hg : wr.grownBy w10 (some go8) := (by rw [hw]; exact HP9.2); have hp_ : Kd.R Kd.string 9 w10 w0.heap.size (fun k_ => (P0_ k_ ∨ w.heap.size ≤ k_)) (.slice (some ⟨go8, 0, none⟩) x0_1.length co3) y192 := (by rw [hw, Ny192.out]; exact HP9.1); clear HP9; have n0_ := Aside0.mk (hp_); have n1_ := Aside0.mk ((by rw [hw]; exact below_set (HB.out) GB8.out : Below w0.heap.size w0 w10)); have n2_ := Aside0.mk (Kept.of_grown (S := (fun k_ => P0_ k_)) hg (by repeat (first | (with_reducible first | exact HK.out | apply Kept.alloc | apply Kept.drewN | apply Kept.drew) | exact HK.out)) (fun k_ e_ => (HO_0.out.1 k_ e_))); clear HO_0; clear HB; clear HK; have HO_0 := n0_; have HB := n1_; have HK := n2_; clear n0_ n1_ n2_; clear hg hw hp_))
              (try simp only [← hl0_1])
              go_roundg k1
              case measure => have := HK1.out; omega
              case rel => exact ⟨(y192), (wrap64 (x8_1 + 1)), (by first | rfl | (simp; done) | (simp [*]; done)), H', ⟨by have := HK1.out; omega⟩, ⟨by (try simp only [hl0_1]); (with_reducible repeat (first | apply Kd.R_alloc | apply Kd.R_drewN | apply Kd.R_drew)); exact HO_0.out⟩, ⟨by repeat (first | (with_reducible first | exact HK.out | apply Kept.alloc | apply Kept.drewN | apply Kept.drew) | exact HK.out)⟩, ⟨by repeat (first | (with_reducible first | exact HB.out | apply below_alloc | apply pw_below_drewN | apply below_drew1) | exact HB.out)⟩⟩
            · rw [if_neg c7] at H
              exact absurd H (by simp)
          · rw [if_neg c6] at H
            exact absurd H (by simp)
        · rw [if_neg c5] at H
          exact absurd H (by simp)
      · rw [if_neg c4] at H
        have c4b0 : decide (x8_1 < (l0.length : Int)) = false := decide_eq_false c4
        clear c4
        rw [hl0_1] at c4b0
        obtain rfl := Option.some.inj H
        go_wp2
        go_ret
        exact ⟨_, by first | rfl | (simp [errW_none, errW_some] <;> rfl) | (simp [*, errW_none, errW_some] <;> rfl), by (with_reducible repeat (first | apply Kd.R_alloc | apply Kd.R_drewN | apply Kd.R_drew)); exact HO_0.out, by repeat (first | (with_reducible first | exact HB.out | apply below_alloc | apply pw_below_drewN | apply below_drew1) | exact HB.out), by repeat (first | (with_reducible first | exact HK.out | apply Kept.alloc | apply Kept.drewN | apply Kept.drew) | exact HK.out)⟩

end Go.Proofs.YteigfmchnblkgaaDoor.PFnSelOpposite
