/- The words of names: what the texts' expressions ask (zzLabel ..), and what the reference asks. -/
import Derived.Test.YtdledchhpjkilaaDoorNmEnds91
import Derived.Test.YtdledchhpjkilaaDoorNmEnds81
import Derived.Test.YtdledchhpjkilaaDoorNmEnded52
import Derived.Test.YtdledchhpjkilaaDoorNmEnded55
import Derived.Test.YtdledchhpjkilaaDoorNmSAll55
import Derived.Test.YtdledchhpjkilaaDoorNmSAll58
import Derived.Test.YtdledchhpjkilaaDoorNmAll103
import Derived.Test.YtdledchhpjkilaaDoorPFnNameConfigKeyx2
namespace Go.Proofs.YtdledchhpjkilaaDoor.Hand
open Go.RowKit Go.Proofs.YtdledchhpjkilaaDoorW.PrintWords Go.Proofs.YtdledchhpjkilaaDoorW.PrintLast Go.Proofs.YtdledchhpjkilaaDoorW.PrintMore Go.Proofs.YtdledchhpjkilaaDoor.Base
set_option linter.unusedVariables false
set_option linter.unusedSimpArgs false
set_option maxRecDepth 100000

def label (x : L) : Bool := endsF small [45] x
def qual (x : L) : Bool := endsF alnum [45, 95, 46] x
def labelValue (x : L) : Bool := x == [] || qual x
def old (x : L) : Bool := label x && decide (97 ≤ (x.getD 0 0).toNat)
def cid (x : L) : Bool := allF alnum [95] x && !(digit (x.getD 0 0))
def env (x : L) : Bool := allF alnum [45, 46, 95] x && !(digit (x.getD 0 0))
def pct (x : L) : Bool := !(x == []) && (x.getD (x.length - 1) 0 == 37 && allF digit [] (x.take (x.length - 1)))
def most (n : Nat) (x : L) : Bool := decide (x.length ≤ n)

theorem allF_pos {p : UInt8 → Bool} {set x : L} (h : allF p set x = true) : 0 < x.length := by
  cases x with
  | nil => simp [allF] at h
  | cons c x => simp
theorem endsF_all {p : UInt8 → Bool} {set x : L} (h : endsF p set x = true) : allF p set x = true := by
  unfold endsF at h; simp only [Bool.and_eq_true] at h; exact h.1
theorem endsF_first {p : UInt8 → Bool} {set x : L} (h : endsF p set x = true) : p (x.getD 0 0) = true := by
  unfold endsF at h; simp only [Bool.and_eq_true] at h; exact h.2.1

theorem zzLabel_calls (s : ByteArray) (hs : s.size ≤ 140737488351232) (w : World) : Calls Tryd.prog 78 #[.string s] w fun e w' => e = .returned (.bool (label s.data.toList)) ∧ w = w' := by
  have H1 : Aside0 (∀ w, Calls Tryd.prog 101 #[.string s, .func (.func 91) #[] #[], .string ⟨#[45]⟩] w fun e w' => e = .returned (.bool (label s.data.toList)) ∧ w = w') := ⟨fun w => zzEnds91_calls zzLower_calls s ⟨#[45]⟩ hs (by decide) w⟩
  go_enter Tryd.func78, Tryd.ntmps78
  go_wp2_with (first | ((with_reducible refine (H1.out _).mono ?_); rintro e w' ⟨rfl, rfl⟩))
  go_ret
  exact ⟨rfl, rfl⟩
theorem zzQualified_calls (s : ByteArray) (hs : s.size ≤ 140737488351232) (w : World) : Calls Tryd.prog 99 #[.string s] w fun e w' => e = .returned (.bool (qual s.data.toList)) ∧ w = w' := by
  have H1 : Aside0 (∀ w, Calls Tryd.prog 101 #[.string s, .func (.func 81) #[] #[], .string ⟨#[45, 95, 46]⟩] w fun e w' => e = .returned (.bool (qual s.data.toList)) ∧ w = w') := ⟨fun w => zzEnds81_calls zzWord_calls s ⟨#[45, 95, 46]⟩ hs (by decide) w⟩
  go_enter Tryd.func99, Tryd.ntmps99
  go_wp2_with (first | ((with_reducible refine (H1.out _).mono ?_); rintro e w' ⟨rfl, rfl⟩))
  go_ret
  exact ⟨rfl, rfl⟩
theorem zzLabelValue_calls (s : ByteArray) (hs : s.size ≤ 140737488351232) (w : World) : Calls Tryd.prog 85 #[.string s] w fun e w' => e = .returned (.bool (labelValue s.data.toList)) ∧ w = w' := by
  have H1 : Aside0 (∀ w, Calls Tryd.prog 99 #[.string s] w fun e w' => e = .returned (.bool (qual s.data.toList)) ∧ w = w') := ⟨fun w => zzQualified_calls s hs w⟩
  by_cases h0 : s.toList = []
  · have t0 : (s.toList == ([] : List UInt8)) = true := beq_iff_eq.2 h0
    have HR : Aside0 (labelValue s.data.toList = true) := ⟨by unfold labelValue; rw [← toList_eq, h0]; rfl⟩
    clear h0
    go_enter Tryd.func85, Tryd.ntmps85
    go_wp2_with (first | ((with_reducible refine (H1.out _).mono ?_); rintro e w' ⟨rfl, rfl⟩))
    go_ret
    exact ⟨by rw [HR.out]; first | rfl | exact congrArg (fun b : Bool => Ending.returned (Value.bool b)) (by simp; omega), rfl⟩
  · have t0 : (s.toList == ([] : List UInt8)) = false := beq_eq_false_iff_ne.2 h0
    have HR : Aside0 (labelValue s.data.toList = qual s.data.toList) := ⟨by unfold labelValue; rw [← toList_eq, t0]; rfl⟩
    clear h0
    go_enter Tryd.func85, Tryd.ntmps85
    go_wp2_with (first | ((with_reducible refine (H1.out _).mono ?_); rintro e w' ⟨rfl, rfl⟩))
    go_ret
    exact ⟨by rw [HR.out]; first | rfl | exact congrArg (fun b : Bool => Ending.returned (Value.bool b)) (by simp; omega), rfl⟩
theorem zzLabel1035_calls (s : ByteArray) (hs : s.size ≤ 140737488351232) (w : World) : Calls Tryd.prog 84 #[.string s] w fun e w' => e = .returned (.bool (old s.data.toList)) ∧ w = w' := by
  obtain ⟨x, hx, hxs⟩ : ∃ x : L, s = mk x ∧ s.size = x.length := exists_mk s
  have h1 : ∀ w, Calls Tryd.prog 78 #[.string s] w fun e w' => e = .returned (.bool (label s.data.toList)) ∧ w = w' := fun w => zzLabel_calls s hs w
  rw [show s.data.toList = x by rw [hx]; rfl] at h1 ⊢
  cases hl : label x with
  | false =>
    rw [hl] at h1
    have HR : Aside0 (old x = false) := ⟨by unfold old; rw [hl]; rfl⟩
    have H1 := Aside0.mk h1; clear h1 hl hx hxs
    go_enter Tryd.func84, Tryd.ntmps84
    go_wp2_with (first | ((with_reducible refine (H1.out _).mono ?_); rintro e w' ⟨rfl, rfl⟩))
    go_ret
    exact ⟨by rw [HR.out]; first | rfl | exact congrArg (fun b : Bool => Ending.returned (Value.bool b)) (by simp; omega), rfl⟩
  | true =>
    rw [hl] at h1
    have hpos : 0 < s.size := by rw [hxs]; exact allF_pos (endsF_all hl)
    obtain ⟨c, hc⟩ : ∃ c, s[0]'hpos = c := ⟨_, rfl⟩
    have hce : ∀ h : 0 < s.size, s[0]'h = c := fun _ => hc
    have hcx : x.getD 0 0 = c := by rw [← hc]; exact (getB hx 0 hpos).symm
    have HR : Aside0 (old x = decide (97 ≤ c.toNat)) := ⟨by unfold old; rw [hl, hcx]; rfl⟩
    have H1 := Aside0.mk h1; clear h1 hl hx hxs hc hcx
    by_cases h97 : 97 ≤ c.toNat
    · have HQ : Aside0 (old x = true) := ⟨by rw [HR.out]; simpa using h97⟩
      go_enter Tryd.func84, Tryd.ntmps84
      go_wp2_with (first | ((with_reducible refine (H1.out _).mono ?_); rintro e w' ⟨rfl, rfl⟩))
      go_ret
      exact ⟨by rw [HQ.out]; first | rfl | exact congrArg (fun b : Bool => Ending.returned (Value.bool b)) (by simp; omega), rfl⟩
    · have HQ : Aside0 (old x = false) := ⟨by rw [HR.out]; simpa using h97⟩
      go_enter Tryd.func84, Tryd.ntmps84
      go_wp2_with (first | ((with_reducible refine (H1.out _).mono ?_); rintro e w' ⟨rfl, rfl⟩))
      go_ret
      exact ⟨by rw [HQ.out]; first | rfl | exact congrArg (fun b : Bool => Ending.returned (Value.bool b)) (by simp; omega), rfl⟩
theorem zzCIdentifier_calls (s : ByteArray) (hs : s.size ≤ 140737488351232) (w : World) : Calls Tryd.prog 82 #[.string s] w fun e w' => e = .returned (.bool (cid s.data.toList)) ∧ w = w' := by
  obtain ⟨x, hx, hxs⟩ : ∃ x : L, s = mk x ∧ s.size = x.length := exists_mk s
  have h1 : ∀ w, Calls Tryd.prog 80 #[.string s, .func (.func 81) #[] #[], .string ⟨#[95]⟩] w fun e w' => e = .returned (.bool (allF alnum [95] s.data.toList)) ∧ w = w' := fun w => zzAll81_calls zzWord_calls s ⟨#[95]⟩ hs (by decide) w
  rw [show s.data.toList = x by rw [hx]; rfl] at h1 ⊢
  cases hl : allF alnum [95] x with
  | false =>
    rw [hl] at h1
    have HR : Aside0 (cid x = false) := ⟨by unfold cid; rw [hl]; rfl⟩
    have H1 := Aside0.mk h1; clear h1 hl hx hxs
    go_enter Tryd.func82, Tryd.ntmps82
    go_wp2_with (first | ((with_reducible refine (H1.out _).mono ?_); rintro e w' ⟨rfl, rfl⟩))
    go_ret
    exact ⟨by rw [HR.out]; first | rfl | exact congrArg (fun b : Bool => Ending.returned (Value.bool b)) (by simp; omega), rfl⟩
  | true =>
    rw [hl] at h1
    have hpos : 0 < s.size := by rw [hxs]; exact allF_pos hl
    obtain ⟨c, hc⟩ : ∃ c, s[0]'hpos = c := ⟨_, rfl⟩
    have hce : ∀ h : 0 < s.size, s[0]'h = c := fun _ => hc
    have hcx : x.getD 0 0 = c := by rw [← hc]; exact (getB hx 0 hpos).symm
    have hr : cid x = !(digit c) := by unfold cid; rw [hl, hcx]; rfl
    have H1 := Aside0.mk h1; clear h1 hl hx hxs hc hcx
    rcases digit_cases c with ⟨g1, g⟩ | ⟨g1, g2, g⟩ | ⟨g1, g⟩
    all_goals
      rw [g] at hr
      have HR := Aside0.mk hr
      clear hr g
      go_enter Tryd.func82, Tryd.ntmps82
      go_wp2_with (first | ((with_reducible refine (H1.out _).mono ?_); rintro e w' ⟨rfl, rfl⟩))
      go_ret
      exact ⟨by rw [HR.out]; first | rfl | exact congrArg (fun b : Bool => Ending.returned (Value.bool b)) (by simp; omega), rfl⟩
theorem zzEnv_calls (s : ByteArray) (hs : s.size ≤ 140737488351232) (w : World) : Calls Tryd.prog 86 #[.string s] w fun e w' => e = .returned (.bool (env s.data.toList)) ∧ w = w' := by
  obtain ⟨x, hx, hxs⟩ : ∃ x : L, s = mk x ∧ s.size = x.length := exists_mk s
  have h1 : ∀ w, Calls Tryd.prog 80 #[.string s, .func (.func 81) #[] #[], .string ⟨#[45, 46, 95]⟩] w fun e w' => e = .returned (.bool (allF alnum [45, 46, 95] s.data.toList)) ∧ w = w' := fun w => zzAll81_calls zzWord_calls s ⟨#[45, 46, 95]⟩ hs (by decide) w
  rw [show s.data.toList = x by rw [hx]; rfl] at h1 ⊢
  cases hl : allF alnum [45, 46, 95] x with
  | false =>
    rw [hl] at h1
    have HR : Aside0 (env x = false) := ⟨by unfold env; rw [hl]; rfl⟩
    have H1 := Aside0.mk h1; clear h1 hl hx hxs
    go_enter Tryd.func86, Tryd.ntmps86
    go_wp2_with (first | ((with_reducible refine (H1.out _).mono ?_); rintro e w' ⟨rfl, rfl⟩))
    go_ret
    exact ⟨by rw [HR.out]; first | rfl | exact congrArg (fun b : Bool => Ending.returned (Value.bool b)) (by simp; omega), rfl⟩
  | true =>
    rw [hl] at h1
    have hpos : 0 < s.size := by rw [hxs]; exact allF_pos hl
    obtain ⟨c, hc⟩ : ∃ c, s[0]'hpos = c := ⟨_, rfl⟩
    have hce : ∀ h : 0 < s.size, s[0]'h = c := fun _ => hc
    have hcx : x.getD 0 0 = c := by rw [← hc]; exact (getB hx 0 hpos).symm
    have hr : env x = !(digit c) := by unfold env; rw [hl, hcx]; rfl
    have H1 := Aside0.mk h1; clear h1 hl hx hxs hc hcx
    rcases digit_cases c with ⟨g1, g⟩ | ⟨g1, g2, g⟩ | ⟨g1, g⟩
    all_goals
      rw [g] at hr
      have HR := Aside0.mk hr
      clear hr g
      go_enter Tryd.func86, Tryd.ntmps86
      go_wp2_with (first | ((with_reducible refine (H1.out _).mono ?_); rintro e w' ⟨rfl, rfl⟩))
      go_ret
      exact ⟨by rw [HR.out]; first | rfl | exact congrArg (fun b : Bool => Ending.returned (Value.bool b)) (by simp; omega), rfl⟩

set_option maxHeartbeats 1000000 in
theorem zzPercent_calls (s : ByteArray) (hs : s.size ≤ 140737488351232) (w : World) : Calls Tryd.prog 83 #[.string s] w fun e w' => e = .returned (.bool (pct s.data.toList)) ∧ w = w' := by
  obtain ⟨x, hx, hxs⟩ : ∃ x : L, s = mk x ∧ s.size = x.length := exists_mk s
  rw [show s.data.toList = x by rw [hx]; rfl]
  have sl : s.toList = x := by rw [hx, mk_toList]
  by_cases h0 : x = []
  · have t0 : (s.toList == ([] : List UInt8)) = true := by rw [sl, h0]; rfl
    have HR : Aside0 (pct x = false) := ⟨by rw [h0]; rfl⟩
    clear h0 sl hx hxs
    go_enter Tryd.func83, Tryd.ntmps83
    go_wp2
    go_ret
    exact ⟨by rw [HR.out]; first | rfl | exact congrArg (fun b : Bool => Ending.returned (Value.bool b)) (by simp; omega), rfl⟩
  · have t0 : (s.toList == ([] : List UInt8)) = false := by rw [sl]; exact beq_eq_false_iff_ne.2 h0
    have hpos : 0 < s.size := by rw [hxs]; exact List.length_pos_iff.2 h0
    have hlast : s.size - 1 < s.size := by omega
    have hb := byteIs hx (s.size - 1) 37
    have hp : pct x = (x.getD (s.size - 1) 0 == 37 && allF digit [] (x.take (s.size - 1))) := by unfold pct; rw [hxs, show (x == []) = false from beq_eq_false_iff_ne.2 h0]; rfl
    by_cases h37 : x.getD (s.size - 1) 0 = 37
    · have hb2 : ∀ h : s.size - 1 < s.size, (((s[s.size - 1]'h).toNat : Int) == 37) = true := fun h => (hb h).trans (by simpa using h37)
      obtain ⟨q, hq, hqz⟩ : ∃ q, s.extract 0 (s.size - 1) = q ∧ q.data.toList = x.take (s.size - 1) := ⟨_, rfl, by rw [hx, extract_mk]; simp [mk]⟩
      have hqs : q.size ≤ s.size := by rw [← hq]; simp
      have h1 : ∀ w, Calls Tryd.prog 80 #[.string q, .func (.func 103) #[] #[], .string ⟨#[]⟩] w fun e w' => e = .returned (.bool (allF digit [] (x.take (s.size - 1)))) ∧ w = w' := fun w => by
        have h := zzAll103_calls digit103_calls q ⟨#[]⟩ (by omega) (by decide) w
        rw [hqz] at h; exact h
      have HR : Aside0 (pct x = allF digit [] (x.take (s.size - 1))) := ⟨by rw [hp, h37]; rfl⟩
      have H1 := Aside0.mk h1
      clear h0 sl hx hxs hb hp h37 h1 hqz
      go_enter Tryd.func83, Tryd.ntmps83
      go_wp2_with (first | ((with_reducible refine (H1.out _).mono ?_); rintro e w' ⟨rfl, rfl⟩))
      go_ret
      exact ⟨by rw [HR.out]; first | rfl | exact congrArg (fun b : Bool => Ending.returned (Value.bool b)) (by simp; omega), rfl⟩
    · have hb2 : ∀ h : s.size - 1 < s.size, (((s[s.size - 1]'h).toNat : Int) == 37) = false := fun h => (hb h).trans (by simpa using h37)
      have HR : Aside0 (pct x = false) := ⟨by rw [hp, show (x.getD (s.size - 1) 0 == 37) = false by simpa using h37]; rfl⟩
      clear h0 sl hx hxs hb hp h37
      go_enter Tryd.func83, Tryd.ntmps83
      go_wp2
      go_ret
      exact ⟨by rw [HR.out]; first | rfl | exact congrArg (fun b : Bool => Ending.returned (Value.bool b)) (by simp; omega), rfl⟩
end Go.Proofs.YtdledchhpjkilaaDoor.Hand
