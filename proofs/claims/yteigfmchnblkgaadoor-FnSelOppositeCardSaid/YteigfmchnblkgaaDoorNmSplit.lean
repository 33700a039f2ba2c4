/- zzSplit at one byte, Pieces: a text's parts between a byte. -/
import Derived.Test.YteigfmchnblkgaaDoorNmSpec
namespace Go.Proofs.YteigfmchnblkgaaDoor.Hand
open Go.RowKit Go.Proofs.YteigfmchnblkgaaDoor.PFnSelOpposite Go.Proofs.YteigfmchnblkgaaDoorW.PrintWords Go.Proofs.YteigfmchnblkgaaDoorW.PrintLast Go.Proofs.YteigfmchnblkgaaDoorW.PrintMore Go.Proofs.YteigfmchnblkgaaDoor.Base
set_option linter.unusedVariables false
set_option linter.unusedSimpArgs false
set_option maxRecDepth 100000

/-- Pieces. -/
theorem pieces_l0 (x : L) (c : UInt8) (hx : x.length ≤ 140737488351232) :
    ∀ (d i f : Nat) (out : List L), i + d = x.length → f ≤ i → out.length ≤ i → x.length < 8796093022208 →
      Ev (fun k => spec_Pieces.l0 k (mk x) (c.toNat : Int) (out.map mk) f (x.length : Int) i) ((out ++ glue ((x.take i).drop f) (pieces c (x.drop i))).map mk) := by
  intro d
  induction d with
  | zero =>
    intro i f out hi hf ho hb
    have e : x.drop i = [] := List.drop_eq_nil_of_le (by omega)
    have e2 : i = x.length := by omega
    rw [e]
    refine Ev.step (f := fun _ => some ((out ++ glue ((x.take i).drop f) (pieces c [])).map mk)) (fun k => ?_) (Ev.now _)
    simp only [spec_Pieces.l0]
    rw [if_neg (by omega), if_pos (by omega), if_pos (by rw [mk_size]; omega), if_pos (by rw [List.length_map]; omega), mk_size, extract_mk]
    simp [glue, pieces, e2]
  | succ d ih =>
    intro i f out hi hf ho hb
    have hlt : i < x.length := by omega
    rw [drop_cons hlt, pieces]
    by_cases h : x.getD i 0 = c
    · rw [if_pos h]
      have h1 := ih (i + 1) (i + 1) (out ++ [(x.take i).drop f]) (by omega) (by omega) (by simp; omega) hb
      have e : (x.take (i + 1)).drop (i + 1) = [] := List.drop_eq_nil_of_le (by simp; omega)
      rw [e, glue_pieces_nil] at h1
      have e3 : (out ++ glue ((x.take i).drop f) ([] :: pieces c (x.drop (i + 1)))).map mk = (out ++ [(x.take i).drop f] ++ pieces c (x.drop (i + 1))).map mk := by simp [glue]
      rw [e3]
      exact Ev.step (fun k => by
        simp only [spec_Pieces.l0]
        rw [if_pos (by omega), if_pos (by omega), if_pos (by rw [mk_size]; omega), bt_mk, Int.toNat_natCast, if_pos (by rw [h]), if_pos (by omega), if_pos (by omega), if_pos (by rw [mk_size]; omega), if_pos (by rw [List.length_map]; omega), wrap_id (by omega) (by omega), extract_mk]
        simp) h1
    · rw [if_neg h, glue_glue, ← take_drop_snoc hlt hf]
      have h1 := ih (i + 1) f out (by omega) (by omega) (by omega) hb
      exact Ev.step (fun k => by
        simp only [spec_Pieces.l0]
        rw [if_pos (by omega), if_pos (by omega), if_pos (by rw [mk_size]; omega), bt_mk, Int.toNat_natCast, if_neg (fun e => h (UInt8.toNat_inj.1 (by omega))), wrap_id (by omega) (by omega)]
        rfl) h1
theorem pieces_ev (x : L) (c : UInt8) (hx : x.length < 8796093022208) : Ev (fun k => spec_Pieces.f k (mk x) (c.toNat : Int)) ((pieces c x).map mk) := by
  have h := pieces_l0 x c (by omega) x.length 0 0 [] (by omega) (by omega) (by simp) hx
  simp only [List.take_zero, List.drop_nil, List.drop_zero, List.nil_append, glue_pieces_nil] at h
  refine Ev.congr (fun k => ?_) h
  unfold spec_Pieces.f; rw [mk_size]; rfl


theorem pieces_cons (c : UInt8) (x : L) (i : Nat) (h : i < x.length) : glue (x.take i) (pieces c (x.drop i)) = if x.getD i 0 = c then x.take i :: pieces c (x.drop (i + 1)) else glue (x.take (i + 1)) (pieces c (x.drop (i + 1))) := by
  rw [drop_cons h, pieces]
  by_cases e : x.getD i 0 = c
  · rw [if_pos e, if_pos e]; simp [glue]
  · rw [if_neg e, if_neg e, glue_glue]
    congr 1
    have := take_drop_snoc (f := 0) h (by omega)
    simpa using this.symm
theorem zzSplit_l0 (c : UInt8) :
    ∀ (d : Nat) (x : L) (i : Nat) (out : List L), i + d = x.length → out.length + d + 1 < 8796093022208 → x.length ≤ 140737488351232 →
      Ev (fun k => validation_zzSplit.l0 k (mk x) (mk [c]) (out.map mk) i) ((out ++ glue (x.take i) (pieces c (x.drop i))).map mk) := by
  intro d
  induction d with
  | zero =>
    intro x i out hi ho hx
    have e : x.drop i = [] := List.drop_eq_nil_of_le (by omega)
    have e1 : wrap64 ((i : Int) + ((mk [c]).size : Int)) = (i : Int) + 1 := by rw [mk_size]; exact wrap_id (by simp; omega) (by simp; omega)
    refine Ev.step (f := fun _ => some ((out ++ glue (x.take i) (pieces c (x.drop i))).map mk)) (fun k => ?_) (Ev.now _)
    simp only [validation_zzSplit.l0]
    rw [e1, if_neg (by rw [mk_size]; omega), if_pos (by rw [List.length_map]; omega), e]
    simp [glue, pieces, List.take_of_length_le (show x.length ≤ i by omega)]
  | succ d ih =>
    intro x i out hi ho hx
    have hlt : i < x.length := by omega
    have e1 : wrap64 ((i : Int) + ((mk [c]).size : Int)) = (i : Int) + 1 := by rw [mk_size]; exact wrap_id (by simp; omega) (by simp; omega)
    have e2 : (mk x).extract (i : Int).toNat ((i : Int) + 1).toNat = mk [x.getD i 0] := by
      rw [extract_mk, show ((i : Int) + 1).toNat = i + 1 by omega, Int.toNat_natCast]
      congr 1
      rw [take_drop_snoc hlt (Nat.le_refl i)]
      simp
    rw [pieces_cons c x i hlt]
    by_cases h : x.getD i 0 = c
    · rw [if_pos h]
      have h1 := ih (x.drop (i + 1)) 0 (out ++ [x.take i]) (by simp; omega) (by simp; omega) (by simp; omega)
      simp only [List.take_zero, List.drop_zero, glue_pieces_nil] at h1
      have e3 : (out ++ [x.take i] ++ pieces c (x.drop (i + 1))).map mk = (out ++ x.take i :: pieces c (x.drop (i + 1))).map mk := by simp
      rw [e3] at h1
      refine Ev.step (fun k => ?_) h1
      simp only [validation_zzSplit.l0]
      rw [e1, if_pos (by rw [mk_size]; omega), if_pos (by omega), if_pos (by omega), e2, h, if_pos rfl, if_pos (by rw [mk_size]; omega), if_pos (by rw [List.length_map]; omega), if_pos (by omega), extract_mk, extract_mk, mk_size]
      rw [show ((i : Int) + 1).toNat = i + 1 by omega, Int.toNat_natCast]
      simp
    · rw [if_neg h]
      have h1 := ih x (i + 1) out (by omega) (by omega) hx
      refine Ev.step (fun k => ?_) h1
      simp only [validation_zzSplit.l0]
      rw [e1, if_pos (by rw [mk_size]; omega), if_pos (by omega), if_pos (by omega), e2, if_neg (by rw [mk_toList, mk_toList]; intro e; exact h (by simpa using e)), wrap_id (by omega) (by omega)]
      rfl
theorem split_ev (c : UInt8) (x : L) (hx : x.length ≤ 8000000000000) : Ev (fun k => validation_zzSplit.f k (mk x) (mk [c])) ((pieces c x).map mk) := by
  have h := zzSplit_l0 c x.length x 0 [] (by omega) (by simp; omega) (by omega)
  simp only [List.take_zero, List.drop_zero, List.nil_append, glue_pieces_nil] at h
  exact h
theorem Split_calls (c : UInt8) (s : ByteArray) (hs : s.size ≤ 8000000000000) (w : World) :
    Calls Tryd.prog 44 #[.string s, .string (mk [c])] w fun e w' => ∃ v0_ : Value, e = .returned (v0_) ∧ Kd.R Kd.string 9 w' w.heap.size (fun _ => True) v0_ ((pieces c s.data.toList).map mk) ∧ Below w.heap.size w w' := by
  obtain ⟨x, hx, hxs⟩ : ∃ x : L, s = mk x ∧ s.size = x.length := exists_mk s
  obtain ⟨k, hk⟩ := (split_ev c x (by omega)).rounds
  rw [show s.data.toList = x by rw [hx]; rfl, hx]
  exact validation_zzSplit.calls k (mk x) (mk [c]) _ w hk
theorem Pieces_calls (c : UInt8) (s : ByteArray) (hs : s.size ≤ 8000000000000) (w : World) :
    Calls Tryd.prog 26 #[.string s, .int .u8 (c.toNat : Int)] w fun e w' => ∃ v0_ : Value, e = .returned (v0_) ∧ Kd.R Kd.string 9 w' w.heap.size (fun _ => True) v0_ ((pieces c s.data.toList).map mk) ∧ Below w.heap.size w w' := by
  obtain ⟨x, hx, hxs⟩ : ∃ x : L, s = mk x ∧ s.size = x.length := exists_mk s
  obtain ⟨k, hk⟩ := (pieces_ev x c (by omega)).rounds
  rw [show s.data.toList = x by rw [hx]; rfl, hx]
  exact spec_Pieces.calls k (mk x) (c.toNat : Int) _ w hk
end Go.Proofs.YteigfmchnblkgaaDoor.Hand
