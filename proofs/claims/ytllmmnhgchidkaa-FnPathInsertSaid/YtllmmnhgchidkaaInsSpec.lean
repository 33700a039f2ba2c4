/- Functions of the program as Lean functions, with their contracts (the lines are print.sh's): spec_Inserted. -/
import Derived.Test.YtllmmnhgchidkaaPFnPathInsertx0
namespace Go.Proofs.Ytllmmnhgchidkaa.PFnPathInsert
open Go.RowKit Go.Proofs.YtllmmnhgchidkaaW.PrintWords Go.Proofs.YtllmmnhgchidkaaW.PrintLast Go.Proofs.YtllmmnhgchidkaaW.PrintMore
attribute [local go_sem] max2_int min2_int max_two min_two max_three min_three max_four min_four   -- for this text's walks alone
set_option linter.unusedVariables false
set_option linter.unusedSimpArgs false


/-! ### spec_Inserted: function 40 -/
def spec_Inserted.f (l0 : List ByteArray) (a1 : Int) (a2 : ByteArray) : Option (List ByteArray) := (some (([] : List ByteArray) : List ByteArray)).bind fun y160 => (if 0 ≤ (mx 0 (mn a1 (l0.length : Int))) then (if (mx 0 (mn a1 (l0.length : Int))) ≤ (l0.length : Int) then (if y160.length + (l0.take ((mx 0 (mn a1 (l0.length : Int))) : Int).toNat).length < 8796093022208 then ((some (y160 ++ (l0.take ((mx 0 (mn a1 (l0.length : Int))) : Int).toNat) : List ByteArray)).bind fun y164 => ((some (([a2] : List ByteArray) : List ByteArray)).bind fun y167 => (if y164.length + y167.length < 8796093022208 then ((some (y164 ++ y167 : List ByteArray)).bind fun y170 => (if y170.length + (l0.drop ((mx 0 (mn a1 (l0.length : Int))) : Int).toNat).length < 8796093022208 then (some (y170 ++ (l0.drop ((mx 0 (mn a1 (l0.length : Int))) : Int).toNat))) else (none))) else (none)))) else (none)) else (none)) else (none))
def spec_Inserted.T2 : Bool × List (List Nat × List Nat) := (true, [([], []), ([], []), ([], []), ([1, 2], [1, 2]), ([0, 3], [0, 3]), ([], []), ([5], [5]), ([4, 6, 4], [4, 6]), ([], []), ([], []), ([8, 9], [8, 9]), ([7, 10, 7], [7, 10]), ([11, 11, 0, 1, 2, 3, 4, 5, 6, 7, 8, 9, 10, 11], [11])])
def spec_Inserted.B2 : List Nat := [0, 0, 0, 6, 15, 0, 32, 127, 0, 0, 768, 2047, 4095]
theorem spec_Inserted.tab2 : rtab .any (opsOf Try.f40 2) = spec_Inserted.T2 := by kernel_rfl
theorem spec_Inserted.bits2 : waitsOk spec_Inserted.T2.2 spec_Inserted.B2 = true := by kernel_rfl
set_option maxHeartbeats 8000000 in
set_option maxRecDepth 100000 in
theorem spec_Inserted.calls (A0 : Option Addr) (c0 : Nat) (l0 : List ByteArray) (a1 : Int) (a2 : ByteArray) (r : List ByteArray) (w : World) (hr0 : Kd.C Kd.string w A0 l0.length l0) (hc0 : l0.length ≤ c0) (h : spec_Inserted.f l0 a1 a2 = some r) :
    Calls Try.prog 40 #[.slice A0 l0.length c0, .int .i64 a1, .string a2] w fun e w' => ∃ v0_ : Value, e = .returned (v0_) ∧ Kd.R Kd.string 9 w' w.heap.size (fun _ => True) v0_ r ∧ Below w.heap.size w w' := by
  have HR0 := Aside0.mk hr0
  have HC0 := Aside0.mk hc0
  clear hr0 hc0
  have HB := Aside0.mk (Below.refl w.heap.size w)
  have H : ((some (([] : List ByteArray) : List ByteArray)).bind fun y160 => (if 0 ≤ (mx 0 (mn a1 (l0.length : Int))) then (if (mx 0 (mn a1 (l0.length : Int))) ≤ (l0.length : Int) then (if y160.length + (l0.take ((mx 0 (mn a1 (l0.length : Int))) : Int).toNat).length < 8796093022208 then ((some (y160 ++ (l0.take ((mx 0 (mn a1 (l0.length : Int))) : Int).toNat) : List ByteArray)).bind fun y164 => ((some (([a2] : List ByteArray) : List ByteArray)).bind fun y167 => (if y164.length + y167.length < 8796093022208 then ((some (y164 ++ y167 : List ByteArray)).bind fun y170 => (if y170.length + (l0.drop ((mx 0 (mn a1 (l0.length : Int))) : Int).toNat).length < 8796093022208 then (some (y170 ++ (l0.drop ((mx 0 (mn a1 (l0.length : Int))) : Int).toNat))) else (none))) else (none)))) else (none)) else (none)) else (none))) = some r := h
  clear h
  obtain ⟨ji4, hji4⟩ : ∃ j_ : Int, (mn a1 (l0.length : Int)) = j_ := ⟨_, rfl⟩
  replace H : ((some (([] : List ByteArray) : List ByteArray)).bind fun y160 => (if 0 ≤ (mx 0 (ji4)) then (if (mx 0 (ji4)) ≤ (l0.length : Int) then (if y160.length + (l0.take ((mx 0 (ji4)) : Int).toNat).length < 8796093022208 then ((some (y160 ++ (l0.take ((mx 0 (ji4)) : Int).toNat) : List ByteArray)).bind fun y164 => ((some (([a2] : List ByteArray) : List ByteArray)).bind fun y167 => (if y164.length + y167.length < 8796093022208 then ((some (y164 ++ y167 : List ByteArray)).bind fun y170 => (if y170.length + (l0.drop ((mx 0 (ji4)) : Int).toNat).length < 8796093022208 then (some (y170 ++ (l0.drop ((mx 0 (ji4)) : Int).toNat))) else (none))) else (none)))) else (none)) else (none)) else (none))) = some r := by first | (rw [hji4] at H; exact H) | (simp only [hji4] at H ⊢; exact H)
  have hji4_ : (if (l0.length : Int) < a1 then (l0.length : Int) else a1) = ji4 := hji4
  obtain ⟨ji5, hji5⟩ : ∃ j_ : Int, (mx 0 (ji4)) = j_ := ⟨_, rfl⟩
  replace H : ((some (([] : List ByteArray) : List ByteArray)).bind fun y160 => (if 0 ≤ (ji5) then (if (ji5) ≤ (l0.length : Int) then (if y160.length + (l0.take ((ji5) : Int).toNat).length < 8796093022208 then ((some (y160 ++ (l0.take ((ji5) : Int).toNat) : List ByteArray)).bind fun y164 => ((some (([a2] : List ByteArray) : List ByteArray)).bind fun y167 => (if y164.length + y167.length < 8796093022208 then ((some (y164 ++ y167 : List ByteArray)).bind fun y170 => (if y170.length + (l0.drop ((ji5) : Int).toNat).length < 8796093022208 then (some (y170 ++ (l0.drop ((ji5) : Int).toNat))) else (none))) else (none)))) else (none)) else (none)) else (none))) = some r := by first | (rw [hji5] at H; exact H) | (simp only [hji5] at H ⊢; exact H)
  have hji5_ : (if 0 < (ji4) then (ji4) else 0) = ji5 := hji5
  obtain ⟨y160, hy160⟩ : ∃ y_ : List ByteArray, y_ = (([] : List ByteArray)) := ⟨_, rfl⟩
  replace H : (if 0 ≤ (ji5) then (if (ji5) ≤ (l0.length : Int) then (if y160.length + (l0.take ((ji5) : Int).toNat).length < 8796093022208 then ((some (y160 ++ (l0.take ((ji5) : Int).toNat) : List ByteArray)).bind fun y164 => ((some (([a2] : List ByteArray) : List ByteArray)).bind fun y167 => (if y164.length + y167.length < 8796093022208 then ((some (y164 ++ y167 : List ByteArray)).bind fun y170 => (if y170.length + (l0.drop ((ji5) : Int).toNat).length < 8796093022208 then (some (y170 ++ (l0.drop ((ji5) : Int).toNat))) else (none))) else (none)))) else (none)) else (none)) else (none)) = some r := by first | (rw [hy160]; with_reducible exact H) | (have H2_ := (Option.bind_some _ _).symm.trans H; rw [hy160]; with_reducible exact H2_) | (have H2_ := (Option.bind_some _ _).symm.trans H; with_reducible exact H2_) | with_reducible exact H | (rw [hy160]; exact H) | exact H
  have Ny160 := Aside0.mk hy160
  clear hy160
  by_cases c6 : 0 ≤ (ji5)
  · rw [if_pos c6] at H
    have c6b0 := eq_true c6
    have c6b1 : decide (0 ≤ (ji5)) = true := decide_eq_true c6
    clear c6
    by_cases c7 : (ji5) ≤ (l0.length : Int)
    · rw [if_pos c7] at H
      have c7b0 := eq_true c7
      have c7b1 : decide ((ji5) ≤ (l0.length : Int)) = true := decide_eq_true c7
      clear c7
      by_cases c8 : y160.length + (l0.take ((ji5) : Int).toNat).length < 8796093022208
      · rw [if_pos c8] at H
        have LMc8 := Aside0.mk c8
        clear c8
        obtain ⟨y164, hy164⟩ : ∃ y_ : List ByteArray, y_ = (y160 ++ (l0.take ((ji5) : Int).toNat)) := ⟨_, rfl⟩
        replace H : ((some (([a2] : List ByteArray) : List ByteArray)).bind fun y167 => (if y164.length + y167.length < 8796093022208 then ((some (y164 ++ y167 : List ByteArray)).bind fun y170 => (if y170.length + (l0.drop ((ji5) : Int).toNat).length < 8796093022208 then (some (y170 ++ (l0.drop ((ji5) : Int).toNat))) else (none))) else (none))) = some r := by first | (rw [hy164]; with_reducible exact H) | (have H2_ := (Option.bind_some _ _).symm.trans H; rw [hy164]; with_reducible exact H2_) | (have H2_ := (Option.bind_some _ _).symm.trans H; with_reducible exact H2_) | with_reducible exact H | (rw [hy164]; exact H) | exact H
        have Ny164 := Aside0.mk hy164
        clear hy164
        obtain ⟨y167, hy167⟩ : ∃ y_ : List ByteArray, y_ = (([a2] : List ByteArray)) := ⟨_, rfl⟩
        replace H : (if y164.length + y167.length < 8796093022208 then ((some (y164 ++ y167 : List ByteArray)).bind fun y170 => (if y170.length + (l0.drop ((ji5) : Int).toNat).length < 8796093022208 then (some (y170 ++ (l0.drop ((ji5) : Int).toNat))) else (none))) else (none)) = some r := by first | (rw [hy167]; with_reducible exact H) | (have H2_ := (Option.bind_some _ _).symm.trans H; rw [hy167]; with_reducible exact H2_) | (have H2_ := (Option.bind_some _ _).symm.trans H; with_reducible exact H2_) | with_reducible exact H | (rw [hy167]; exact H) | exact H
        have Ny167 := Aside0.mk hy167
        clear hy167
        by_cases c9 : y164.length + y167.length < 8796093022208
        · rw [if_pos c9] at H
          have LMc9 := Aside0.mk c9
          clear c9
          obtain ⟨y170, hy170⟩ : ∃ y_ : List ByteArray, y_ = (y164 ++ y167) := ⟨_, rfl⟩
          replace H : (if y170.length + (l0.drop ((ji5) : Int).toNat).length < 8796093022208 then (some (y170 ++ (l0.drop ((ji5) : Int).toNat))) else (none)) = some r := by first | (rw [hy170]; with_reducible exact H) | (have H2_ := (Option.bind_some _ _).symm.trans H; rw [hy170]; with_reducible exact H2_) | (have H2_ := (Option.bind_some _ _).symm.trans H; with_reducible exact H2_) | with_reducible exact H | (rw [hy170]; exact H) | exact H
          have Ny170 := Aside0.mk hy170
          clear hy170
          have c10b0 := eq_true (of_decide_eq_true (by first | (with_reducible assumption) | assumption) : 0 ≤ (ji5))
          have c11b0 := eq_true (of_decide_eq_true (by first | (with_reducible assumption) | assumption) : (ji5) ≤ (l0.length : Int))
          by_cases c12 : y170.length + (l0.drop ((ji5) : Int).toNat).length < 8796093022208
          · rw [if_pos c12] at H
            have LMc12 := Aside0.mk c12
            clear c12
            obtain ⟨y174, hy174⟩ : ∃ y_ : List ByteArray, y_ = (y170 ++ (l0.drop ((ji5) : Int).toNat)) := ⟨_, rfl⟩
            replace H : (some y174) = some r := by first | (rw [hy174]; with_reducible exact H) | (have H2_ := (Option.bind_some _ _).symm.trans H; rw [hy174]; with_reducible exact H2_) | (have H2_ := (Option.bind_some _ _).symm.trans H; with_reducible exact H2_) | with_reducible exact H | (rw [hy174]; exact H) | exact H
            have Ny174 := Aside0.mk hy174
            clear hy174
            obtain rfl := Option.some.inj H
            go_enter Try.func40, Try.ntmps40
            try go_wp2
            have n0_ := Aside0.mk (below_drew1 HB.out)
            clear HB
            have HB := n0_
            clear n0_
            obtain ⟨i014, hi014, _, hsz14, _⟩ := info_parts info9
            obtain ⟨hcut14, hA14, hC14⟩ := print_take_of (P := Try.prog) Value.string (⟨#[]⟩ : ByteArray) 22 9 .i64 Try.underlying22 hi014 hsz14 A0 c0 l0 (ji5) (of_decide_eq_true (by first | (with_reducible assumption) | assumption)) (of_decide_eq_true (by first | (with_reducible assumption) | assumption)) HC0.out
            have HR163 := Aside0.mk (Kd.C_of_reads (h1 := fun _ => rfl) (hA14 _ (Kd.reads_of_C HR0.out)))
            have HC163 := Aside0.mk hC14
            clear hA14 hC14 hi014 hsz14
            obtain ⟨i015, hi015, _, hsz15, _⟩ := info_parts info9
            obtain ⟨A15, hcut15, hA15, hC15⟩ := print_drop_of (P := Try.prog) Value.string (⟨#[]⟩ : ByteArray) 22 9 .i64 Try.underlying22 hi015 hsz15 A0 c0 l0 (ji5) (of_decide_eq_true (by first | (with_reducible assumption) | assumption)) (of_decide_eq_true (by first | (with_reducible assumption) | assumption)) HC0.out
            have HR173 := Aside0.mk (Kd.C_of_reads (h1 := fun _ => rfl) (hA15 _ (Kd.reads_of_C HR0.out)))
            have HC173 := Aside0.mk hC15
            clear hA15 hC15 hi015 hsz15
            refine start_ (n := 13) (S := fun w' => True) (ds := []) #[false, false, false, false, false, false, false, false, false, false, false, false, false] (by kernel_rfl) rfl rfl trivial (fun hHeld => ?_); refine with_tabW spec_Inserted.tab2 spec_Inserted.bits2 (fun HT_ HW_ => ?_)
            generalize w.drew = w13 at HB HR163 HR173 hHeld ⊢
            refine pure_ (i := 1) (N := some 13) (v := ?_) (a' := ?_) #[false, true, false, false, false, false, false, false, false, false, false, false, false] rfl rfl (any_of HT_.out (by kernel_rfl)) (fun _ _ _ h => h) (Or.inl ⟨by rfl, ?_⟩) ?_ ?_
            rotate_left
            · intro w'
              go_simp
              with_reducible rfl
            rotate_left
            · simp only [Act.put, List.setIfInBounds_toArray, List.set_cons_zero, List.set_cons_succ, i64_w, i32_w]
              rfl
            refine pure_ (i := 2) (N := some 14) (v := ?_) (a' := ?_) #[false, true, true, false, false, false, false, false, false, false, false, false, false] rfl rfl (any_of HT_.out (by kernel_rfl)) (fun _ _ _ h => h) (Or.inl ⟨by rfl, ?_⟩) ?_ ?_
            rotate_left
            · intro w'
              go_simp
              with_reducible rfl
            rotate_left
            · simp only [Act.put, List.setIfInBounds_toArray, List.set_cons_zero, List.set_cons_succ, i64_w, i32_w]
              rfl
            refine pure_ (i := 3) (N := some 15) (v := ?_) (a' := ?_) #[false, true, true, true, false, false, false, false, false, false, false, false, false] rfl rfl (any_of HT_.out (by kernel_rfl)) (fun _ _ _ h => h) (Or.inl ⟨by rfl, ?_⟩) ?_ ?_
            rotate_left
            · intro w'
              go_simp
              with_reducible rfl
            rotate_left
            · simp only [Act.put, List.setIfInBounds_toArray, List.set_cons_zero, List.set_cons_succ, i64_w, i32_w]
              rfl
            refine pure_ (i := 5) (N := some 17) (v := ?_) (a' := ?_) #[false, true, true, true, false, true, false, false, false, false, false, false, false] rfl rfl (any_of HT_.out (by kernel_rfl)) (fun _ _ _ h => h) (Or.inl ⟨by rfl, ?_⟩) ?_ ?_
            rotate_left
            · intro w'
              go_simp
              with_reducible rfl
            rotate_left
            · simp only [Act.put, List.setIfInBounds_toArray, List.set_cons_zero, List.set_cons_succ, i64_w, i32_w]
              rfl
            refine pure_ (i := 8) (N := some 20) (v := ?_) (a' := ?_) #[false, true, true, true, false, true, false, false, true, false, false, false, false] rfl rfl (any_of HT_.out (by kernel_rfl)) (fun _ _ _ h => h) (Or.inl ⟨by rfl, ?_⟩) ?_ ?_
            rotate_left
            · intro w'
              go_simp
              with_reducible rfl
            rotate_left
            · simp only [Act.put, List.setIfInBounds_toArray, List.set_cons_zero, List.set_cons_succ, i64_w, i32_w]
              rfl
            refine pure_ (i := 9) (N := some 21) (v := ?_) (a' := ?_) #[false, true, true, true, false, true, false, false, true, true, false, false, false] rfl rfl (any_of HT_.out (by kernel_rfl)) (fun _ _ _ h => h) (Or.inl ⟨by rfl, ?_⟩) ?_ ?_
            rotate_left
            · intro w'
              go_simp
              with_reducible rfl
            rotate_left
            · simp only [Act.put, List.setIfInBounds_toArray, List.set_cons_zero, List.set_cons_succ, i64_w, i32_w]
              rfl
            refine pure_ (i := 10) (N := some 22) (v := ?_) (a' := ?_) #[false, true, true, true, false, true, false, false, true, true, true, false, false] rfl rfl (any_of HT_.out (by kernel_rfl)) (fun _ _ _ h => h) (Or.inl ⟨by rfl, ?_⟩) ?_ ?_
            rotate_left
            · intro w'
              go_simp
              with_reducible rfl
            rotate_left
            · simp only [Act.put, List.setIfInBounds_toArray, List.set_cons_zero, List.set_cons_succ, i64_w, i32_w]
              rfl
            refine join_ (σ := Value × Value × Value) 3 #[true, true, true, true, true, true, true, false, true, true, true, false, false] (fun s_ => [(12, s_.1), (16, s_.2.1), (18, s_.2.2)]) (fun s_ w' => (Kd.R Kd.string 9 w' w.heap.size (fun k_ => some k_ ≠ (s_.2.2 : Value).ownBlock) s_.2.1 y164) ∧ (Kd.R Kd.string 9 w' w.heap.size (fun k_ => some k_ ≠ (s_.2.1 : Value).ownBlock) s_.2.2 y167) ∧ (Below w.heap.size w w')) ?_ ?_
            rotate_left
            · intro hCont
              refine two_ (i := 0) (j := 6) (Ni := some 12) (Nj := some 18) #[true, true, true, true, false, true, false, false, true, true, true, false, false] #[false, true, true, true, false, true, true, false, true, true, true, false, false] rfl rfl rfl rfl (two_of HT_.out (by kernel_rfl)) (by decide) (by decide) (fun K hK => ?_) (fun K hK => ?_)
              · skip
                refine Kd.R_lit_step Kd.string _ 9 ?hg (N := 12) ?hd (xs := ([] : List ByteArray)) (inner := []) (ok := fun _ => True) (okp := fun _ => True) ?hr ?hp (fun _ hk => hk) trivial (Below.refl _ _) (Nat.le_refl _) (by simp) ?_; (case hd => rfl); (case hg => rfl); (case hr => first | (go_simp; done) | (go_simp; rfl)); (case hp => exact (Reps.none _ _))
                intro v161 w16 ho17 hb hg_ hnew_
                clear hg_ hnew_
                (first | rw [← Ny160.out] at ho17 | (simp only [Int.reduceToNat] at ho17; rw [← Ny160.out] at ho17))
                have n0_ := Aside0.mk (Kd.R_lower ho17 (below_size (by repeat (first | (with_reducible first | exact HB.out | apply below_alloc | apply pw_below_drewN | apply below_drew1) | exact HB.out))))
                have n1_ := Aside0.mk (below_step (by repeat (first | (with_reducible first | exact HB.out | apply below_alloc | apply pw_below_drewN | apply below_drew1) | exact HB.out)) hb)
                clear HB
                have HO162 := n0_
                have HB := n1_
                clear n0_ n1_
                clear hb ho17
                refine hK.out _ _ trivial (fun hHeld => ?_)
                clear hK K
                refine norm_ (a' := ?_) ?_ ?_
                rotate_left
                · show Act.put _ (some 12) _ = _
                  simp only [Act.put, List.setIfInBounds_toArray, List.set_cons_zero, List.set_cons_succ, i64_w, i32_w]
                  rfl
                refine two_ (i := 4) (j := 6) (Ni := some 16) (Nj := some 18) #[true, true, true, true, true, true, false, false, true, true, true, false, false] #[true, true, true, true, false, true, true, false, true, true, true, false, false] rfl rfl rfl rfl (two_of HT_.out (by kernel_rfl)) (by decide) (by decide) (fun K hK => ?_) (fun K hK => ?_)
                · skip
                  refine Kd.R_append_rows_step Kd.string (w0 := w) w.heap.size (by rfl) (.tmp 12) (.tmp 15) 22 9 (.string ⟨#[]⟩) 16 rfl Try.underlying22 info9 rfl (by decide) (by omega) v161 y160 (l0.take ((ji5) : Int).toNat) _ _ _ (fun _ => True) (fun _ => False) rfl rfl ?aO ?aR (fun _ _ h => h) (fun _ h => h.elim) ?aF ?aB ?aS ?aL ?_
                  (case aR => first | (rw [← show (l0.take ((ji5) : Int).toNat).length = (ji5).toNat from (by rw [List.length_take]; have h_ : ((ji5) : Int) ≤ (l0.length : Int) := of_decide_eq_true (by first | (with_reducible assumption) | assumption); omega), show l0.take (l0.take ((ji5) : Int).toNat).length = l0.take ((ji5) : Int).toNat from (by rw [List.length_take]; congr 1; have h_ : ((ji5) : Int) ≤ (l0.length : Int) := of_decide_eq_true (by first | (with_reducible assumption) | assumption); omega)]; repeat (first | exact (Kd.C_below HR163.out HB.out) | (with_reducible refine Kd.C_alloc ?_ _) | (with_reducible refine Kd.C_drewN ?_ _) | (with_reducible refine Kd.C_drew ?_))) | (repeat (first | exact (Kd.C_below HR163.out HB.out) | (with_reducible refine Kd.C_alloc ?_ _) | (with_reducible refine Kd.C_drewN ?_ _) | (with_reducible refine Kd.C_drew ?_))))
                  (case aB => exact (by repeat (first | (with_reducible first | exact HB.out | apply below_alloc | apply pw_below_drewN | apply below_drew1) | exact HB.out)))
                  (case aF => exact (fun _ _ => trivial))
                  (case aO => exact (by (with_reducible repeat (first | apply Kd.R_alloc | apply Kd.R_drewN | apply Kd.R_drew)); exact HO162.out))
                  (case aS => exact (below_size (by repeat (first | (with_reducible first | exact HB.out | apply below_alloc | apply pw_below_drewN | apply below_drew1) | exact HB.out))))
                  (case aL => have := LMc8.out; have hlx_ := (show (l0.take ((ji5) : Int).toNat).length = (ji5).toNat from (by rw [List.length_take]; have h_ : ((ji5) : Int) ≤ (l0.length : Int) := of_decide_eq_true (by first | (with_reducible assumption) | assumption); omega)); omega)
                  intro v165 w18 ho hb hg hat
                  rw [← Ny164.out] at ho
                  have n0_ := Aside0.mk (hb)
                  have n1_ := Aside0.mk (ho)
                  clear HB
                  clear HO162
                  have HB := n0_
                  have HO166 := n1_
                  clear n0_ n1_
                  clear ho hb hg hat
                  refine hK.out _ _ trivial (fun hHeld => ?_)
                  clear hK K
                  refine norm_ (a' := ?_) ?_ ?_
                  rotate_left
                  · show Act.put _ (some 16) _ = _
                    simp only [Act.put, List.setIfInBounds_toArray, List.set_cons_zero, List.set_cons_succ, i64_w, i32_w]
                    rfl
                  refine one_ (i := 6) (N := some 18) #[true, true, true, true, true, true, true, false, true, true, true, false, false] rfl rfl (one_of HT_.out (by kernel_rfl)) (by decide) (fun K hK => ?_)
                  refine Kd.R_lit_step Kd.string _ 9 ?hg (N := 18) ?hd (xs := ([a2] : List ByteArray)) (inner := [.string a2]) (ok := fun _ => True) (okp := fun _ => True) ?hr ?hp (fun _ hk => hk) trivial (Below.refl _ _) (Nat.le_refl _) (by simp) ?_; (case hd => rfl); (case hg => rfl); (case hr => first | (go_simp; done) | (go_simp; rfl)); (case hp => exact (Reps.one (show Kd.M Kd.string _ _ _ a2 [.string a2] from rfl) (Reps.none _ _)))
                  intro v168 w19 ho20 hb hg_ hnew_
                  clear hg_ hnew_
                  (first | rw [← Ny167.out] at ho20 | (simp only [Int.reduceToNat] at ho20; rw [← Ny167.out] at ho20))
                  have n0_ := Aside0.mk (Kd.R_elder' (by (with_reducible repeat (first | apply Kd.R_alloc | apply Kd.R_drewN | apply Kd.R_drew)); exact HO166.out) (Kd.R_base ho20) hb)
                  have n1_ := Aside0.mk (Kd.R_lower (Kd.R_new' ho20 (Kd.R_lt (by (with_reducible repeat (first | apply Kd.R_alloc | apply Kd.R_drewN | apply Kd.R_drew)); exact HO166.out))) (below_size (by repeat (first | (with_reducible first | exact HB.out | apply below_alloc | apply pw_below_drewN | apply below_drew1) | exact HB.out))))
                  have n2_ := Aside0.mk (below_step (by repeat (first | (with_reducible first | exact HB.out | apply below_alloc | apply pw_below_drewN | apply below_drew1) | exact HB.out)) hb)
                  clear HO166
                  clear HB
                  have HO166 := n0_
                  have HO169 := n1_
                  have HB := n2_
                  clear n0_ n1_ n2_
                  clear hb ho20
                  refine hK.out _ _ trivial (fun hHeld => ?_)
                  clear hK K
                  refine norm_ (a' := ?_) ?_ ?_
                  rotate_left
                  · show Act.put _ (some 18) _ = _
                    simp only [Act.put, List.setIfInBounds_toArray, List.set_cons_zero, List.set_cons_succ, i64_w, i32_w]
                    rfl
                  exact norm_ (by simp only [putAll, Act.put, List.setIfInBounds_toArray, List.set_cons_zero, List.set_cons_succ]) (hCont (v161, v165, v168) _ ⟨(by (with_reducible repeat (first | apply Kd.R_alloc | apply Kd.R_drewN | apply Kd.R_drew)); exact Kd.R_mono HO166.out (fun _ hk => hk.2)), (by (with_reducible repeat (first | apply Kd.R_alloc | apply Kd.R_drewN | apply Kd.R_drew)); exact Kd.R_mono HO169.out (fun _ hk => hk.2)), (by repeat (first | (with_reducible first | exact HB.out | apply below_alloc | apply pw_below_drewN | apply below_drew1) | exact HB.out))⟩)
                · skip
                  refine Kd.R_lit_step Kd.string _ 9 ?hg (N := 18) ?hd (xs := ([a2] : List ByteArray)) (inner := [.string a2]) (ok := fun _ => True) (okp := fun _ => True) ?hr ?hp (fun _ hk => hk) trivial (Below.refl _ _) (Nat.le_refl _) (by simp) ?_; (case hd => rfl); (case hg => rfl); (case hr => first | (go_simp; done) | (go_simp; rfl)); (case hp => exact (Reps.one (show Kd.M Kd.string _ _ _ a2 [.string a2] from rfl) (Reps.none _ _)))
                  intro v168 w18 ho19 hb hg_ hnew_
                  clear hg_ hnew_
                  (first | rw [← Ny167.out] at ho19 | (simp only [Int.reduceToNat] at ho19; rw [← Ny167.out] at ho19))
                  have n0_ := Aside0.mk (Kd.R_elder' (by (with_reducible repeat (first | apply Kd.R_alloc | apply Kd.R_drewN | apply Kd.R_drew)); exact HO162.out) (Kd.R_base ho19) hb)
                  have n1_ := Aside0.mk (Kd.R_lower (Kd.R_new' ho19 (Kd.R_lt (by (with_reducible repeat (first | apply Kd.R_alloc | apply Kd.R_drewN | apply Kd.R_drew)); exact HO162.out))) (below_size (by repeat (first | (with_reducible first | exact HB.out | apply below_alloc | apply pw_below_drewN | apply below_drew1) | exact HB.out))))
                  have n2_ := Aside0.mk (below_step (by repeat (first | (with_reducible first | exact HB.out | apply below_alloc | apply pw_below_drewN | apply below_drew1) | exact HB.out)) hb)
                  clear HO162
                  clear HB
                  have HO162 := n0_
                  have HO169 := n1_
                  have HB := n2_
                  clear n0_ n1_ n2_
                  clear hb ho19
                  refine hK.out _ _ trivial (fun hHeld => ?_)
                  clear hK K
                  refine norm_ (a' := ?_) ?_ ?_
                  rotate_left
                  · show Act.put _ (some 18) _ = _
                    simp only [Act.put, List.setIfInBounds_toArray, List.set_cons_zero, List.set_cons_succ, i64_w, i32_w]
                    rfl
                  refine one_ (i := 4) (N := some 16) #[true, true, true, true, true, true, true, false, true, true, true, false, false] rfl rfl (one_of HT_.out (by kernel_rfl)) (by decide) (fun K hK => ?_)
                  refine Kd.R_append_rows_step Kd.string (w0 := w) w.heap.size (by rfl) (.tmp 12) (.tmp 15) 22 9 (.string ⟨#[]⟩) 16 rfl Try.underlying22 info9 rfl (by decide) (by omega) v161 y160 (l0.take ((ji5) : Int).toNat) _ _ _ (fun k_ => some k_ ≠ (v168 : Value).ownBlock) (fun _ => False) rfl rfl ?aO ?aR (fun _ _ h => h) (fun _ h => h.elim) ?aF ?aB ?aS ?aL ?_
                  (case aR => first | (rw [← show (l0.take ((ji5) : Int).toNat).length = (ji5).toNat from (by rw [List.length_take]; have h_ : ((ji5) : Int) ≤ (l0.length : Int) := of_decide_eq_true (by first | (with_reducible assumption) | assumption); omega), show l0.take (l0.take ((ji5) : Int).toNat).length = l0.take ((ji5) : Int).toNat from (by rw [List.length_take]; congr 1; have h_ : ((ji5) : Int) ≤ (l0.length : Int) := of_decide_eq_true (by first | (with_reducible assumption) | assumption); omega)]; repeat (first | exact (Kd.C_below HR163.out HB.out) | (with_reducible refine Kd.C_alloc ?_ _) | (with_reducible refine Kd.C_drewN ?_ _) | (with_reducible refine Kd.C_drew ?_))) | (repeat (first | exact (Kd.C_below HR163.out HB.out) | (with_reducible refine Kd.C_alloc ?_ _) | (with_reducible refine Kd.C_drewN ?_ _) | (with_reducible refine Kd.C_drew ?_))))
                  (case aB => exact (by repeat (first | (with_reducible first | exact HB.out | apply below_alloc | apply pw_below_drewN | apply below_drew1) | exact HB.out)))
                  (case aF => exact (fun k_ hk => Kd.fresh' (Kd.R_lt (by (with_reducible repeat (first | apply Kd.R_alloc | apply Kd.R_drewN | apply Kd.R_drew)); exact HO169.out)) k_ hk))
                  (case aO => exact (by (with_reducible repeat (first | apply Kd.R_alloc | apply Kd.R_drewN | apply Kd.R_drew)); exact Kd.R_mono HO162.out (fun _ hk => hk.2)))
                  (case aS => exact (below_size (by repeat (first | (with_reducible first | exact HB.out | apply below_alloc | apply pw_below_drewN | apply below_drew1) | exact HB.out))))
                  (case aL => have := LMc8.out; have hlx_ := (show (l0.take ((ji5) : Int).toNat).length = (ji5).toNat from (by rw [List.length_take]; have h_ : ((ji5) : Int) ≤ (l0.length : Int) := of_decide_eq_true (by first | (with_reducible assumption) | assumption); omega)); omega)
                  intro v165 w20 ho hb hg hat
                  rw [← Ny164.out] at ho
                  have n0_ := Aside0.mk (Kd.R_after (ok := (fun _ => True)) (by (with_reducible repeat (first | apply Kd.R_alloc | apply Kd.R_drewN | apply Kd.R_drew)); exact HO169.out) hg hat)
                  have n1_ := Aside0.mk (hb)
                  have n2_ := Aside0.mk (ho)
                  clear HO169
                  clear HB
                  clear HO162
                  have HO169 := n0_
                  have HB := n1_
                  have HO166 := n2_
                  clear n0_ n1_ n2_
                  clear ho hb hg hat
                  refine hK.out _ _ trivial (fun hHeld => ?_)
                  clear hK K
                  refine norm_ (a' := ?_) ?_ ?_
                  rotate_left
                  · show Act.put _ (some 16) _ = _
                    simp only [Act.put, List.setIfInBounds_toArray, List.set_cons_zero, List.set_cons_succ, i64_w, i32_w]
                    rfl
                  exact norm_ (by simp only [putAll, Act.put, List.setIfInBounds_toArray, List.set_cons_zero, List.set_cons_succ]) (hCont (v161, v165, v168) _ ⟨(by (with_reducible repeat (first | apply Kd.R_alloc | apply Kd.R_drewN | apply Kd.R_drew)); exact HO166.out), (by (with_reducible repeat (first | apply Kd.R_alloc | apply Kd.R_drewN | apply Kd.R_drew)); exact Kd.R_mono HO169.out (fun _ hk => hk.2)), (by repeat (first | (with_reducible first | exact HB.out | apply below_alloc | apply pw_below_drewN | apply below_drew1) | exact HB.out))⟩)
              · skip
                refine Kd.R_lit_step Kd.string _ 9 ?hg (N := 18) ?hd (xs := ([a2] : List ByteArray)) (inner := [.string a2]) (ok := fun _ => True) (okp := fun _ => True) ?hr ?hp (fun _ hk => hk) trivial (Below.refl _ _) (Nat.le_refl _) (by simp) ?_; (case hd => rfl); (case hg => rfl); (case hr => first | (go_simp; done) | (go_simp; rfl)); (case hp => exact (Reps.one (show Kd.M Kd.string _ _ _ a2 [.string a2] from rfl) (Reps.none _ _)))
                intro v168 w16 ho17 hb hg_ hnew_
                clear hg_ hnew_
                (first | rw [← Ny167.out] at ho17 | (simp only [Int.reduceToNat] at ho17; rw [← Ny167.out] at ho17))
                have n0_ := Aside0.mk (Kd.R_lower ho17 (below_size (by repeat (first | (with_reducible first | exact HB.out | apply below_alloc | apply pw_below_drewN | apply below_drew1) | exact HB.out))))
                have n1_ := Aside0.mk (below_step (by repeat (first | (with_reducible first | exact HB.out | apply below_alloc | apply pw_below_drewN | apply below_drew1) | exact HB.out)) hb)
                clear HB
                have HO169 := n0_
                have HB := n1_
                clear n0_ n1_
                clear hb ho17
                refine hK.out _ _ trivial (fun hHeld => ?_)
                clear hK K
                refine norm_ (a' := ?_) ?_ ?_
                rotate_left
                · show Act.put _ (some 18) _ = _
                  simp only [Act.put, List.setIfInBounds_toArray, List.set_cons_zero, List.set_cons_succ, i64_w, i32_w]
                  rfl
                refine one_ (i := 0) (N := some 12) #[true, true, true, true, false, true, true, false, true, true, true, false, false] rfl rfl (one_of HT_.out (by kernel_rfl)) (by decide) (fun K hK => ?_)
                refine Kd.R_lit_step Kd.string _ 9 ?hg (N := 12) ?hd (xs := ([] : List ByteArray)) (inner := []) (ok := fun _ => True) (okp := fun _ => True) ?hr ?hp (fun _ hk => hk) trivial (Below.refl _ _) (Nat.le_refl _) (by simp) ?_; (case hd => rfl); (case hg => rfl); (case hr => first | (go_simp; done) | (go_simp; rfl)); (case hp => exact (Reps.none _ _))
                intro v161 w18 ho19 hb hg_ hnew_
                clear hg_ hnew_
                (first | rw [← Ny160.out] at ho19 | (simp only [Int.reduceToNat] at ho19; rw [← Ny160.out] at ho19))
                have n0_ := Aside0.mk (Kd.R_elder' (by (with_reducible repeat (first | apply Kd.R_alloc | apply Kd.R_drewN | apply Kd.R_drew)); exact HO169.out) (Kd.R_base ho19) hb)
                have n1_ := Aside0.mk (Kd.R_lower (Kd.R_new' ho19 (Kd.R_lt (by (with_reducible repeat (first | apply Kd.R_alloc | apply Kd.R_drewN | apply Kd.R_drew)); exact HO169.out))) (below_size (by repeat (first | (with_reducible first | exact HB.out | apply below_alloc | apply pw_below_drewN | apply below_drew1) | exact HB.out))))
                have n2_ := Aside0.mk (below_step (by repeat (first | (with_reducible first | exact HB.out | apply below_alloc | apply pw_below_drewN | apply below_drew1) | exact HB.out)) hb)
                clear HO169
                clear HB
                have HO169 := n0_
                have HO162 := n1_
                have HB := n2_
                clear n0_ n1_ n2_
                clear hb ho19
                refine hK.out _ _ trivial (fun hHeld => ?_)
                clear hK K
                refine norm_ (a' := ?_) ?_ ?_
                rotate_left
                · show Act.put _ (some 12) _ = _
                  simp only [Act.put, List.setIfInBounds_toArray, List.set_cons_zero, List.set_cons_succ, i64_w, i32_w]
                  rfl
                refine one_ (i := 4) (N := some 16) #[true, true, true, true, true, true, true, false, true, true, true, false, false] rfl rfl (one_of HT_.out (by kernel_rfl)) (by decide) (fun K hK => ?_)
                refine Kd.R_append_rows_step Kd.string (w0 := w) w.heap.size (by rfl) (.tmp 12) (.tmp 15) 22 9 (.string ⟨#[]⟩) 16 rfl Try.underlying22 info9 rfl (by decide) (by omega) v161 y160 (l0.take ((ji5) : Int).toNat) _ _ _ (fun k_ => some k_ ≠ (v168 : Value).ownBlock) (fun _ => False) rfl rfl ?aO ?aR (fun _ _ h => h) (fun _ h => h.elim) ?aF ?aB ?aS ?aL ?_
                (case aR => first | (rw [← show (l0.take ((ji5) : Int).toNat).length = (ji5).toNat from (by rw [List.length_take]; have h_ : ((ji5) : Int) ≤ (l0.length : Int) := of_decide_eq_true (by first | (with_reducible assumption) | assumption); omega), show l0.take (l0.take ((ji5) : Int).toNat).length = l0.take ((ji5) : Int).toNat from (by rw [List.length_take]; congr 1; have h_ : ((ji5) : Int) ≤ (l0.length : Int) := of_decide_eq_true (by first | (with_reducible assumption) | assumption); omega)]; repeat (first | exact (Kd.C_below HR163.out HB.out) | (with_reducible refine Kd.C_alloc ?_ _) | (with_reducible refine Kd.C_drewN ?_ _) | (with_reducible refine Kd.C_drew ?_))) | (repeat (first | exact (Kd.C_below HR163.out HB.out) | (with_reducible refine Kd.C_alloc ?_ _) | (with_reducible refine Kd.C_drewN ?_ _) | (with_reducible refine Kd.C_drew ?_))))
                (case aB => exact (by repeat (first | (with_reducible first | exact HB.out | apply below_alloc | apply pw_below_drewN | apply below_drew1) | exact HB.out)))
                (case aF => exact (fun k_ hk => Kd.fresh' (Kd.R_lt (by (with_reducible repeat (first | apply Kd.R_alloc | apply Kd.R_drewN | apply Kd.R_drew)); exact HO169.out)) k_ hk))
                (case aO => exact (by (with_reducible repeat (first | apply Kd.R_alloc | apply Kd.R_drewN | apply Kd.R_drew)); exact Kd.R_mono HO162.out (fun _ hk => hk.2)))
                (case aS => exact (below_size (by repeat (first | (with_reducible first | exact HB.out | apply below_alloc | apply pw_below_drewN | apply below_drew1) | exact HB.out))))
                (case aL => have := LMc8.out; have hlx_ := (show (l0.take ((ji5) : Int).toNat).length = (ji5).toNat from (by rw [List.length_take]; have h_ : ((ji5) : Int) ≤ (l0.length : Int) := of_decide_eq_true (by first | (with_reducible assumption) | assumption); omega)); omega)
                intro v165 w20 ho hb hg hat
                rw [← Ny164.out] at ho
                have n0_ := Aside0.mk (Kd.R_after (ok := (fun _ => True)) (by (with_reducible repeat (first | apply Kd.R_alloc | apply Kd.R_drewN | apply Kd.R_drew)); exact HO169.out) hg hat)
                have n1_ := Aside0.mk (hb)
                have n2_ := Aside0.mk (ho)
                clear HO169
                clear HB
                clear HO162
                have HO169 := n0_
                have HB := n1_
                have HO166 := n2_
                clear n0_ n1_ n2_
                clear ho hb hg hat
                refine hK.out _ _ trivial (fun hHeld => ?_)
                clear hK K
                refine norm_ (a' := ?_) ?_ ?_
                rotate_left
                · show Act.put _ (some 16) _ = _
                  simp only [Act.put, List.setIfInBounds_toArray, List.set_cons_zero, List.set_cons_succ, i64_w, i32_w]
                  rfl
                exact norm_ (by simp only [putAll, Act.put, List.setIfInBounds_toArray, List.set_cons_zero, List.set_cons_succ]) (hCont (v161, v165, v168) _ ⟨(by (with_reducible repeat (first | apply Kd.R_alloc | apply Kd.R_drewN | apply Kd.R_drew)); exact HO166.out), (by (with_reducible repeat (first | apply Kd.R_alloc | apply Kd.R_drewN | apply Kd.R_drew)); exact Kd.R_mono HO169.out (fun _ hk => hk.2)), (by repeat (first | (with_reducible first | exact HB.out | apply below_alloc | apply pw_below_drewN | apply below_drew1) | exact HB.out))⟩)
            rintro ⟨v161, v165, v168⟩ w21 ⟨h0_, h1_, h2_⟩
            have n0_ : Aside0 (Kd.R Kd.string 9 w21 w.heap.size (fun k_ => some k_ ≠ (v168 : Value).ownBlock) v165 y164) := ⟨h0_⟩
            have n1_ : Aside0 (Kd.R Kd.string 9 w21 w.heap.size (fun k_ => some k_ ≠ (v165 : Value).ownBlock) v168 y167) := ⟨h1_⟩
            have n2_ : Aside0 (Below w.heap.size w w21) := ⟨h2_⟩
            clear HB
            clear h0_ h1_ h2_
            have HO166 := n0_
            have HO169 := n1_
            have HB := n2_
            clear n0_ n1_ n2_
            have hHeld := trivial
            obtain ⟨Ao23, co23, eo23⟩ := Kd.R_slice HO169.out
            (first | subst eo23 | (injection eo23 with f1_ f2_ f3_; have f4_ := f1_.symm; have f5_ := f3_.symm; clear f1_ f2_ f3_; subst f4_; subst f5_))
            refine norm_ (a' := ?_) ?_ ?_
            rotate_left
            · simp only [putAll, Act.put, List.setIfInBounds_toArray, List.set_cons_zero, List.set_cons_succ]
              rfl
            refine one_ (i := 7) (N := some 19) #[true, true, true, true, true, true, true, true, true, true, true, false, false] rfl rfl (one_of HT_.out (by kernel_rfl)) (by decide) (fun K hK => ?_)
            refine Kd.R_append_rows_step Kd.string (w0 := w) w.heap.size (by rfl) (.tmp 16) (.tmp 18) 22 9 (.string ⟨#[]⟩) 16 rfl Try.underlying22 info9 rfl (by decide) (by omega) v165 y164 y167 _ _ _ (fun k_ => some k_ ≠ (.slice Ao23 y167.length co23 : Value).ownBlock) (fun _ => False) rfl rfl ?aO ?aR (fun _ _ h => h) (fun _ h => h.elim) ?aF ?aB ?aS ?aL ?_
            (case aR => repeat (first | exact (Kd.R_reads' HO169.out).2.2 | (with_reducible refine Kd.C_alloc ?_ _) | (with_reducible refine Kd.C_drewN ?_ _) | (with_reducible refine Kd.C_drew ?_)))
            (case aB => exact (by repeat (first | (with_reducible first | exact HB.out | apply below_alloc | apply pw_below_drewN | apply below_drew1) | exact HB.out)))
            (case aF => exact (fun k_ hk => Kd.fresh' (Kd.R_lt (by (with_reducible repeat (first | apply Kd.R_alloc | apply Kd.R_drewN | apply Kd.R_drew)); exact HO169.out)) k_ hk))
            (case aO => exact (by (with_reducible repeat (first | apply Kd.R_alloc | apply Kd.R_drewN | apply Kd.R_drew)); exact HO166.out))
            (case aS => exact (below_size (by repeat (first | (with_reducible first | exact HB.out | apply below_alloc | apply pw_below_drewN | apply below_drew1) | exact HB.out))))
            (case aL => have := LMc9.out; omega)
            intro v171 w22 ho hb hg hat
            rw [← Ny170.out] at ho
            have n0_ := Aside0.mk (Kd.R_after (ok := (fun _ => True)) (by (with_reducible repeat (first | apply Kd.R_alloc | apply Kd.R_drewN | apply Kd.R_drew)); exact Kd.R_mono HO169.out (fun _ hk => ⟨trivial, hk⟩)) hg hat)
            have n1_ := Aside0.mk (hb)
            have n2_ := Aside0.mk (ho)
            clear HO169
            clear HB
            clear HO166
            have HO169 := n0_
            have HB := n1_
            have HO172 := n2_
            clear n0_ n1_ n2_
            clear ho hb hg hat
            refine hK.out _ _ trivial (fun hHeld => ?_)
            clear hK K
            refine norm_ (a' := ?_) ?_ ?_
            rotate_left
            · show Act.put _ (some 19) _ = _
              simp only [Act.put, List.setIfInBounds_toArray, List.set_cons_zero, List.set_cons_succ, i64_w, i32_w]
              rfl
            refine one_ (i := 11) (N := some 23) #[true, true, true, true, true, true, true, true, true, true, true, true, false] rfl rfl (one_of HT_.out (by kernel_rfl)) (by decide) (fun K hK => ?_)
            refine Kd.R_append_rows_step Kd.string (w0 := w) w.heap.size (by rfl) (.tmp 19) (.tmp 22) 22 9 (.string ⟨#[]⟩) 16 rfl Try.underlying22 info9 rfl (by decide) (by omega) v171 y170 (l0.drop ((ji5) : Int).toNat) _ _ _ (fun k_ => some k_ ≠ (.slice Ao23 y167.length co23 : Value).ownBlock) (fun _ => False) rfl rfl ?aO ?aR (fun _ _ h => h) (fun _ h => h.elim) ?aF ?aB ?aS ?aL ?_
            (case aR => first | (rw [← show (l0.drop ((ji5) : Int).toNat).length = (l0.length - (ji5).toNat) from List.length_drop]; repeat (first | exact (Kd.C_below HR173.out HB.out) | (with_reducible refine Kd.C_alloc ?_ _) | (with_reducible refine Kd.C_drewN ?_ _) | (with_reducible refine Kd.C_drew ?_))) | (repeat (first | exact (Kd.C_below HR173.out HB.out) | (with_reducible refine Kd.C_alloc ?_ _) | (with_reducible refine Kd.C_drewN ?_ _) | (with_reducible refine Kd.C_drew ?_))))
            (case aB => exact (by repeat (first | (with_reducible first | exact HB.out | apply below_alloc | apply pw_below_drewN | apply below_drew1) | exact HB.out)))
            (case aF => exact (fun k_ hk => Kd.fresh' (Kd.R_lt (by (with_reducible repeat (first | apply Kd.R_alloc | apply Kd.R_drewN | apply Kd.R_drew)); exact HO169.out)) k_ hk))
            (case aO => exact (by (with_reducible repeat (first | apply Kd.R_alloc | apply Kd.R_drewN | apply Kd.R_drew)); exact HO172.out))
            (case aS => exact (below_size (by repeat (first | (with_reducible first | exact HB.out | apply below_alloc | apply pw_below_drewN | apply below_drew1) | exact HB.out))))
            (case aL => have := LMc12.out; have hlx_ := (show (l0.drop ((ji5) : Int).toNat).length = (l0.length - (ji5).toNat) from List.length_drop); omega)
            intro v175 w24 ho hb hg hat
            rw [← Ny174.out] at ho
            have n0_ := Aside0.mk (Kd.R_after (ok := (fun _ => True)) (by (with_reducible repeat (first | apply Kd.R_alloc | apply Kd.R_drewN | apply Kd.R_drew)); exact HO169.out) hg hat)
            have n1_ := Aside0.mk (hb)
            have n2_ := Aside0.mk (ho)
            clear HO169
            clear HB
            clear HO172
            have HO169 := n0_
            have HB := n1_
            have HO176 := n2_
            clear n0_ n1_ n2_
            clear ho hb hg hat
            refine hK.out _ _ trivial (fun hHeld => ?_)
            clear hK K
            refine norm_ (a' := ?_) ?_ ?_
            rotate_left
            · show Act.put _ (some 23) _ = _
              simp only [Act.put, List.setIfInBounds_toArray, List.set_cons_zero, List.set_cons_succ, i64_w, i32_w]
              rfl
            refine pure_ (i := 12) (N := some 6) (v := ?_) (a' := ?_) #[true, true, true, true, true, true, true, true, true, true, true, true, true] rfl rfl (any_of HT_.out (by kernel_rfl)) (fun _ _ _ h => h) (Or.inl ⟨by rfl, ?_⟩) ?_ ?_
            rotate_left
            · intro w'
              go_simp
              with_reducible rfl
            rotate_left
            · simp only [Act.put, List.setIfInBounds_toArray, List.set_cons_zero, List.set_cons_succ, i64_w, i32_w]
              rfl
            refine done_ (done_of HT_.out (by kernel_rfl)) ?_
            try go_wp2
            go_ret
            exact ⟨_, by first | rfl | (simp [errW_none, errW_some] <;> rfl) | (simp only [← hji4, ← hji5]; first | rfl | (simp [errW_none, errW_some] <;> rfl)) | (simp [*, errW_none, errW_some] <;> rfl), by (with_reducible repeat (first | apply Kd.R_alloc | apply Kd.R_drewN | apply Kd.R_drew)); exact Kd.R_mono HO176.out (fun _ hk => trivial), by repeat (first | (with_reducible first | exact HB.out | apply below_alloc | apply pw_below_drewN | apply below_drew1) | exact HB.out)⟩
          · rw [if_neg c12] at H
            exact absurd H (by simp)
        · rw [if_neg c9] at H
          exact absurd H (by simp)
      · rw [if_neg c8] at H
        exact absurd H (by simp)
    · rw [if_neg c7] at H
      exact absurd H (by simp)
  · rw [if_neg c6] at H
    exact absurd H (by simp)

end Go.Proofs.Ytllmmnhgchidkaa.PFnPathInsert
