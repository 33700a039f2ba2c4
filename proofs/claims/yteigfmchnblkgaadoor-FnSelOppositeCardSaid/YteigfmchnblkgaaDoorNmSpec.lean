/- What the reference asks of names. -/
import Derived.Test.YteigfmchnblkgaaDoorNmWords
namespace Go.Proofs.YteigfmchnblkgaaDoor.Hand
open Go.RowKit Go.Proofs.YteigfmchnblkgaaDoorW.PrintWords Go.Proofs.YteigfmchnblkgaaDoorW.PrintLast Go.Proofs.YteigfmchnblkgaaDoorW.PrintMore Go.Proofs.YteigfmchnblkgaaDoor.Base
set_option linter.unusedVariables false
set_option linter.unusedSimpArgs false
set_option maxRecDepth 100000

def pLabel (x : L) : Bool := most 63 x && label x
def pOld (x : L) : Bool := most 63 x && old x
def pValue (x : L) : Bool := most 63 x && labelValue x
def pHeader (x : L) : Bool := allF alnum [45] x
def dot (x : L) : Bool := x == [46] || (decide (1 < x.length) && x.take 2 == [46, 46])
def pEnv (x : L) : Bool := env x && !(dot x)

theorem label_small {x : L} (h : label x = true) : small (x.getD 0 0) = true := endsF_first h
theorem LabelText_calls (s : ByteArray) (hs : s.size ≤ 140737488351232) (w : World) : Calls Tryd.prog 18 #[.string s] w fun e w' => e = .returned (.bool (pValue s.data.toList)) ∧ w = w' := by
  obtain ⟨x, hx, hxs⟩ : ∃ x : L, s = mk x ∧ s.size = x.length := exists_mk s
  have H1 : Aside0 (∀ w, Calls Tryd.prog 24 #[.string s, .func (.func 25) #[] #[], .string ⟨#[45, 95, 46]⟩] w fun e w' => e = .returned (.bool (qual s.data.toList)) ∧ w = w') := ⟨fun w => ended55_calls Alnum_calls s ⟨#[45, 95, 46]⟩ hs (by decide) w⟩
  rw [show s.data.toList = x by rw [hx]; rfl] at H1 ⊢
  have sl : s.toList = x := by rw [hx, mk_toList]
  have hr : pValue x = (decide (s.size ≤ 63) && labelValue x) := by unfold pValue most; rw [hxs]
  by_cases h0 : x = []
  · have t0 : (s.toList == ([] : List UInt8)) = true := by rw [sl, h0]; rfl
    have HR : Aside0 (pValue x = true) := ⟨by rw [h0]; decide⟩
    clear h0 hr hx hxs sl
    go_enter Tryd.func18, Tryd.ntmps18
    go_wp2_with (first | ((with_reducible refine (H1.out _).mono ?_); rintro e w' ⟨rfl, rfl⟩))
    go_ret
    exact ⟨by rw [HR.out]; first | rfl | exact congrArg (fun b : Bool => Ending.returned (Value.bool b)) (by simp; omega), rfl⟩
  · have t0 : (s.toList == ([] : List UInt8)) = false := by rw [sl]; exact beq_eq_false_iff_ne.2 h0
    have hv : labelValue x = qual x := by unfold labelValue; rw [show (x == []) = false from beq_eq_false_iff_ne.2 h0]; rfl
    clear h0 hx hxs sl
    by_cases h : s.size ≤ 63
    · have HR : Aside0 (pValue x = qual x) := ⟨by rw [hr, hv]; simp [h]⟩
      clear hr hv
      go_enter Tryd.func18, Tryd.ntmps18
      go_wp2_with (first | ((with_reducible refine (H1.out _).mono ?_); rintro e w' ⟨rfl, rfl⟩))
      go_ret
      exact ⟨by rw [HR.out]; first | rfl | exact congrArg (fun b : Bool => Ending.returned (Value.bool b)) (by simp; omega), rfl⟩
    · have HR : Aside0 (pValue x = false) := ⟨by rw [hr]; simp [h]⟩
      clear hr hv
      go_enter Tryd.func18, Tryd.ntmps18
      go_wp2_with (first | ((with_reducible refine (H1.out _).mono ?_); rintro e w' ⟨rfl, rfl⟩))
      go_ret
      exact ⟨by rw [HR.out]; first | rfl | exact congrArg (fun b : Bool => Ending.returned (Value.bool b)) (by simp; omega), rfl⟩
theorem alnum_low {c : UInt8} (h : alnum c = true) : 48 ≤ c.toNat := by
  unfold alnum small at h
  simp only [Bool.or_eq_true, decide_eq_true_eq] at h
  omega

/-- CName: a byte at its place. -/
def cOk (c : UInt8) (first : Bool) : Bool := c == 95 || (alnum c && !(first && digit c))
theorem cid_split (x : L) (hne : x ≠ []) : cid x = (cOk (x.getD 0 0) true && (x.drop 1).all (fun c => cOk c false)) := by
  cases x with
  | nil => exact absurd rfl hne
  | cons a x =>
    have e1 : ∀ c, cOk c false = (alnum c || inSet c [95]) := by
      intro c; unfold cOk inSet; simp only [Bool.false_and, Bool.not_false, Bool.and_true, List.any_cons, List.any_nil, Bool.or_false]
      rw [Bool.or_comm]; congr 1; rw [Bool.eq_iff_iff, beq_iff_eq, beq_iff_eq]; exact eq_comm
    have e2 : cOk a true = ((alnum a || inSet a [95]) && !(digit a)) := by
      rw [← e1]; unfold cOk
      by_cases h : a = 95
      · subst h; decide
      · rw [show (a == 95) = false by simpa using h]; simp
    unfold cid allF
    simp only [List.all_cons, List.drop_succ_cons, List.drop_zero, List.getD_cons_zero]
    rw [e2, show (a :: x == []) = false from rfl, show (fun c => cOk c false) = (fun c => alnum c || inSet c [95]) from funext e1]
    cases (alnum a || inSet a [95]) <;> cases digit a <;> simp
theorem cid_step (x : L) (i : Nat) (h : i < x.length) : (x.drop i).all (fun c => cOk c false) = (cOk (x.getD i 0) false && (x.drop (i + 1)).all (fun c => cOk c false)) := by
  rw [drop_cons h, List.all_cons]
end Go.Proofs.YteigfmchnblkgaaDoor.Hand
