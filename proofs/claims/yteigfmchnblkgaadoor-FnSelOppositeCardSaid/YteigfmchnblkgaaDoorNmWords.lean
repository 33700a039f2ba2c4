/- The words of names: what the texts' expressions ask (zzLabel ..), and what the reference asks. -/
import Derived.Test.YteigfmchnblkgaaDoorNmEnds91
import Derived.Test.YteigfmchnblkgaaDoorNmEnds81
import Derived.Test.YteigfmchnblkgaaDoorNmEnded52
import Derived.Test.YteigfmchnblkgaaDoorNmEnded55
namespace Go.Proofs.YteigfmchnblkgaaDoor.Hand
open Go.RowKit Go.Proofs.YteigfmchnblkgaaDoorW.PrintWords Go.Proofs.YteigfmchnblkgaaDoorW.PrintLast Go.Proofs.YteigfmchnblkgaaDoorW.PrintMore Go.Proofs.YteigfmchnblkgaaDoor.Base
set_option linter.unusedVariables false
set_option linter.unusedSimpArgs false
set_option maxRecDepth 100000

def label (x : L) : Bool := endsF small [45] x
def qual (x : L) : Bool := endsF alnum [45, 95, 46] x
def labelValue (x : L) : Bool := x == [] || qual x
def old (x : L) : Bool := label x && decide (97 ≤ (x.getD 0 0).toNat)
def cid (x : L) : Bool := allF alnum [95] x && !(digit (x.getD 0 0))
def env (x : L) : Bool := allF alnum [45, 46, 95] x && !(digit (x.getD 0 0))
def pct (x : L) : Bool := !(x == []) && (x.getD (x.length - 1) 0 == 37 && allF digit [] (x.take (x.length - 1)))
def most (n : Nat) (x : L) : Bool := decide (x.length ≤ n)

theorem allF_pos {p : UInt8 → Bool} {set x : L} (h : allF p set x = true) : 0 < x.length := by
  cases x with
  | nil => simp [allF] at h
  | cons c x => simp
theorem endsF_all {p : UInt8 → Bool} {set x : L} (h : endsF p set x = true) : allF p set x = true := by
  unfold endsF at h; simp only [Bool.and_eq_true] at h; exact h.1
theorem endsF_first {p : UInt8 → Bool} {set x : L} (h : endsF p set x = true) : p (x.getD 0 0) = true := by
  unfold endsF at h; simp only [Bool.and_eq_true] at h; exact h.2.1

theorem zzLabel_calls (s : ByteArray) (hs : s.size ≤ 140737488351232) (w : World) : Calls Tryd.prog 57 #[.string s] w fun e w' => e = .returned (.bool (label s.data.toList)) ∧ w = w' := by
  have H1 : Aside0 (∀ w, Calls Tryd.prog 54 #[.string s, .func (.func 59) #[] #[], .string ⟨#[45]⟩] w fun e w' => e = .returned (.bool (label s.data.toList)) ∧ w = w') := ⟨fun w => zzEnds91_calls zzLower_calls s ⟨#[45]⟩ hs (by decide) w⟩
  go_enter Tryd.func57, Tryd.ntmps57
  go_wp2_with (first | ((with_reducible refine (H1.out _).mono ?_); rintro e w' ⟨rfl, rfl⟩))
  go_ret
  exact ⟨rfl, rfl⟩
theorem zzQualified_calls (s : ByteArray) (hs : s.size ≤ 140737488351232) (w : World) : Calls Tryd.prog 50 #[.string s] w fun e w' => e = .returned (.bool (qual s.data.toList)) ∧ w = w' := by
  have H1 : Aside0 (∀ w, Calls Tryd.prog 54 #[.string s, .func (.func 55) #[] #[], .string ⟨#[45, 95, 46]⟩] w fun e w' => e = .returned (.bool (qual s.data.toList)) ∧ w = w') := ⟨fun w => zzEnds81_calls zzWord_calls s ⟨#[45, 95, 46]⟩ hs (by decide) w⟩
  go_enter Tryd.func50, Tryd.ntmps50
  go_wp2_with (first | ((with_reducible refine (H1.out _).mono ?_); rintro e w' ⟨rfl, rfl⟩))
  go_ret
  exact ⟨rfl, rfl⟩
theorem zzLabelValue_calls (s : ByteArray) (hs : s.size ≤ 140737488351232) (w : World) : Calls Tryd.prog 51 #[.string s] w fun e w' => e = .returned (.bool (labelValue s.data.toList)) ∧ w = w' := by
  have H1 : Aside0 (∀ w, Calls Tryd.prog 50 #[.string s] w fun e w' => e = .returned (.bool (qual s.data.toList)) ∧ w = w') := ⟨fun w => zzQualified_calls s hs w⟩
  by_cases h0 : s.toList = []
  · have t0 : (s.toList == ([] : List UInt8)) = true := beq_iff_eq.2 h0
    have HR : Aside0 (labelValue s.data.toList = true) := ⟨by unfold labelValue; rw [← toList_eq, h0]; rfl⟩
    clear h0
    go_enter Tryd.func51, Tryd.ntmps51
    go_wp2_with (first | ((with_reducible refine (H1.out _).mono ?_); rintro e w' ⟨rfl, rfl⟩))
    go_ret
    exact ⟨by rw [HR.out]; first | rfl | exact congrArg (fun b : Bool => Ending.returned (Value.bool b)) (by simp; omega), rfl⟩
  · have t0 : (s.toList == ([] : List UInt8)) = false := beq_eq_false_iff_ne.2 h0
    have HR : Aside0 (labelValue s.data.toList = qual s.data.toList) := ⟨by unfold labelValue; rw [← toList_eq, t0]; rfl⟩
    clear h0
    go_enter Tryd.func51, Tryd.ntmps51
    go_wp2_with (first | ((with_reducible refine (H1.out _).mono ?_); rintro e w' ⟨rfl, rfl⟩))
    go_ret
    exact ⟨by rw [HR.out]; first | rfl | exact congrArg (fun b : Bool => Ending.returned (Value.bool b)) (by simp; omega), rfl⟩
end Go.Proofs.YteigfmchnblkgaaDoor.Hand
