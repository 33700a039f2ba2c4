import Derived.Test.YtdledchhpjkilaaDoorNmKit
import Derived.Test.YtdledchhpjkilaaDoorShelf
import Derived.Test.YtdledchhpjkilaaDoorPFnNameConfigKeyx2
import Derived.Lib.AppendIntMem
/- RegexError and MaxLenError: some text of bounded length. -/
namespace Go.Proofs.YtdledchhpjkilaaDoor.Hand
open Go.RowKit Go.Proofs.YtdledchhpjkilaaDoorW.PrintWords Go.Proofs.YtdledchhpjkilaaDoorW.PrintLast Go.Proofs.YtdledchhpjkilaaDoorW.PrintMore Go.Proofs.YtdledchhpjkilaaDoor.Base
set_option linter.unusedVariables false
set_option linter.unusedSimpArgs false
set_option maxRecDepth 100000

theorem app_size (a b : ByteArray) : (a ++ b).size = a.size + b.size := by simp

set_option maxHeartbeats 4000000 in
theorem RegexError_calls (a f : ByteArray) (ha : a.size ≤ 600) (hf : f.size ≤ 600) (A : Option Addr) (c : Nat) (xs : List ByteArray) (w : World) (hn : xs.length ≤ 3) (hx : ∀ p ∈ xs, p.size ≤ 100) (hr : Kd.C Kd.string w A xs.length xs) (hc : xs.length ≤ c) :
    Calls Tryd.prog 79 #[.string a, .string f, .slice A xs.length c] w fun e w' => ∃ m, e = .returned (.string m) ∧ m.size ≤ 4000 ∧ w = w' := by
  have HA := Aside0.mk hr
  have HX := Aside0.mk hx
  clear hr hx
  by_cases h0 : xs.length = 0
  · have b1 : (a.size + 32 ≤ 9223372036854775807) = True := eq_true (by omega)
    have b2 : (9223372036854775807 < a.size + 32) = False := eq_false (by omega)
    have b3 : (a.size + 32 + f.size ≤ 9223372036854775807) = True := eq_true (by omega)
    have b4 : (9223372036854775807 < a.size + 32 + f.size) = False := eq_false (by omega)
    have b5 : (a.size + 32 + f.size + 2 ≤ 9223372036854775807) = True := eq_true (by omega)
    have b6 : (9223372036854775807 < a.size + 32 + f.size + 2) = False := eq_false (by omega)
    have e0 : (((xs.length : Nat) : Int) == 0) = true := by rw [beq_iff_eq]; omega
    go_enter Tryd.func79, Tryd.ntmps79
    go_wp2
    go_ret
    refine ⟨_, rfl, ?_, rfl⟩
    simp only [app_size]
    have z1 : ∀ d : Array UInt8, (ByteArray.mk d).size = d.size := fun _ => rfl
    simp only [z1]
    simp
    omega
  · have e0 : (((xs.length : Nat) : Int) == 0) = false := by rw [beq_eq_false_iff_ne]; omega
    have b1 : (a.size + 7 ≤ 9223372036854775807) = True := eq_true (by omega)
    have b2 : (9223372036854775807 < a.size + 7) = False := eq_false (by omega)
    go_enter Tryd.func79, Tryd.ntmps79
    go_wp2
    clear e0 b1 b2
    go_loopg [0, 7, 20] (xs.length) (fun g v0 v7 v20 w' => ∃ (i : Nat) (m : ByteArray), v0 = .string m ∧ v20 = .int .i64 i ∧ w = w' ∧ Aside0 (g + i = xs.length) ∧ Aside0 (m.size ≤ 1000 + i * 200))
    case atStart => exact ⟨0, _, rfl, rfl, rfl, ⟨by omega⟩, ⟨by rw [app_size]; have : (ByteArray.mk #[32, 40, 101, 46, 103, 46, 32]).size = 7 := rfl; omega⟩⟩
    case round =>
      obtain ⟨i, m, rfl, rfl, rfl, HI, HM⟩ := hrel
      have hi : i ≤ xs.length := by have := HI.out; omega
      have hm : m.size ≤ 2000 := by have := HM.out; omega
      by_cases hlt : i < xs.length
      · obtain ⟨ad, eA, hcell⟩ := Kd.at_string HA.out (i : Int) (by omega) (by omega)
        subst eA
        obtain ⟨p, hp⟩ : ∃ p, xs[i] = p := ⟨_, rfl⟩
        rw [show rdOf ByteArray.empty xs (i : Int) = p by unfold rdOf; rw [Int.toNat_natCast, getD_of _ _ hlt]; exact hp, Int.toNat_natCast] at hcell
        have hps : p.size ≤ 100 := by rw [← hp]; exact HX.out _ (List.getElem_mem hlt)
        clear hp
        have c1 : (1 + p.size ≤ 9223372036854775807) = True := eq_true (by omega)
        have c2 : (9223372036854775807 < 1 + p.size) = False := eq_false (by omega)
        have c3 : (1 + p.size + 3 ≤ 9223372036854775807) = True := eq_true (by omega)
        have c4 : (9223372036854775807 < 1 + p.size + 3) = False := eq_false (by omega)
        by_cases hi0 : 0 < i
        · have c5 : (m.size + 4 ≤ 9223372036854775807) = True := eq_true (by omega)
          have c6 : (9223372036854775807 < m.size + 4) = False := eq_false (by omega)
          have c7 : (m.size + 4 + (1 + p.size + 3) ≤ 9223372036854775807) = True := eq_true (by omega)
          have c8 : (9223372036854775807 < m.size + 4 + (1 + p.size + 3)) = False := eq_false (by omega)
          go_wp2
          go_roundg (gk - 1)
          case measure => have := HI.out; omega
          case rel =>
            refine ⟨i + 1, _, rfl, by go_num, rfl, ⟨by have := HI.out; omega⟩, ⟨?_⟩⟩
            have := HM.out
            have z1 : ∀ d : Array UInt8, (ByteArray.mk d).size = d.size := fun _ => rfl
            simp only [app_size, z1]
            simp
            omega
        · have c7 : (m.size + (1 + p.size + 3) ≤ 9223372036854775807) = True := eq_true (by omega)
          have c8 : (9223372036854775807 < m.size + (1 + p.size + 3)) = False := eq_false (by omega)
          go_wp2
          go_roundg (gk - 1)
          case measure => have := HI.out; omega
          case rel =>
            refine ⟨i + 1, _, rfl, by go_num, rfl, ⟨by have := HI.out; omega⟩, ⟨?_⟩⟩
            have := HM.out
            have z1 : ∀ d : Array UInt8, (ByteArray.mk d).size = d.size := fun _ => rfl
            simp only [app_size, z1]
            simp
            omega
      · have c1 : (30 + f.size ≤ 9223372036854775807) = True := eq_true (by omega)
        have c2 : (9223372036854775807 < 30 + f.size) = False := eq_false (by omega)
        have c3 : (30 + f.size + 2 ≤ 9223372036854775807) = True := eq_true (by omega)
        have c4 : (9223372036854775807 < 30 + f.size + 2) = False := eq_false (by omega)
        have c5 : (m.size + (30 + f.size + 2) ≤ 9223372036854775807) = True := eq_true (by omega)
        have c6 : (9223372036854775807 < m.size + (30 + f.size + 2)) = False := eq_false (by omega)
        go_wp2
        go_ret
        refine ⟨_, rfl, ?_, rfl⟩
        have z1 : ∀ d : Array UInt8, (ByteArray.mk d).size = d.size := fun _ => rfl
        simp only [app_size, z1]
        simp
        omega

theorem MaxLen_small (n : Nat) (hn : n < 100) (w : World) :
    Calls Tryd.prog 77 #[.int .i64 n] w fun e w' => ∃ m, e = .returned (.string m) ∧ m.size ≤ 4000 ∧ w = w' := by
  obtain ⟨d, hd, hdz⟩ : ∃ d : ByteArray, (⟨(Lib.decDigits n).toArray⟩ : ByteArray) = d ∧ d.size ≤ 100 := by
    refine ⟨_, rfl, ?_⟩
    have : (⟨(Lib.decDigits n).toArray⟩ : ByteArray).size = (Lib.decDigits n).length := by simp [ByteArray.size]
    rw [this]
    have hall : ∀ m : Fin 100, (Lib.decDigits m.val).length ≤ 100 := by decide +kernel
    exact hall ⟨n, hn⟩
  have h1 : ∀ w, Calls Tryd.prog 100 #[.int .i64 n] w fun e w' => e = .returned (.string d) ∧ w = w' := fun w => by
    have h := Tryd.strconv_Itoa_small n hn w
    rw [hd] at h
    exact h.mono fun e w' ⟨h1, h2⟩ => ⟨h1, h2.symm⟩
  have H1 := Aside0.mk h1
  clear h1 hd
  have c1 : (21 + d.size ≤ 9223372036854775807) = True := eq_true (by omega)
  have c2 : (9223372036854775807 < 21 + d.size) = False := eq_false (by omega)
  have c3 : (21 + d.size + 11 ≤ 9223372036854775807) = True := eq_true (by omega)
  have c4 : (9223372036854775807 < 21 + d.size + 11) = False := eq_false (by omega)
  go_enter Tryd.func77, Tryd.ntmps77
  go_wp2_with (first | ((with_reducible refine (H1.out _).mono ?_); rintro e w' ⟨rfl, rfl⟩))
  go_ret
  refine ⟨_, rfl, ?_, rfl⟩
  have z1 : ∀ d : Array UInt8, (ByteArray.mk d).size = d.size := fun _ => rfl
  simp only [app_size, z1]
  simp
  omega
end Go.Proofs.YtdledchhpjkilaaDoor.Hand

/- The words of names: what the texts' expressions ask (zzLabel ..), and what the reference asks. -/
namespace Go.Proofs.YtdledchhpjkilaaDoor.Hand
open Go.RowKit Go.Proofs.YtdledchhpjkilaaDoorW.PrintWords Go.Proofs.YtdledchhpjkilaaDoorW.PrintLast Go.Proofs.YtdledchhpjkilaaDoorW.PrintMore Go.Proofs.YtdledchhpjkilaaDoor.Base
set_option linter.unusedVariables false
set_option linter.unusedSimpArgs false
set_option maxRecDepth 100000

def label (x : L) : Bool := endsF small [45] x
def qual (x : L) : Bool := endsF alnum [45, 95, 46] x
def labelValue (x : L) : Bool := x == [] || qual x
def old (x : L) : Bool := label x && decide (97 ≤ (x.getD 0 0).toNat)
def cid (x : L) : Bool := allF alnum [95] x && !(digit (x.getD 0 0))
def env (x : L) : Bool := allF alnum [45, 46, 95] x && !(digit (x.getD 0 0))
def pct (x : L) : Bool := !(x == []) && (x.getD (x.length - 1) 0 == 37 && allF digit [] (x.take (x.length - 1)))
def most (n : Nat) (x : L) : Bool := decide (x.length ≤ n)

theorem allF_pos {p : UInt8 → Bool} {set x : L} (h : allF p set x = true) : 0 < x.length := by
  cases x with
  | nil => simp [allF] at h
  | cons c x => simp
theorem endsF_all {p : UInt8 → Bool} {set x : L} (h : endsF p set x = true) : allF p set x = true := by
  unfold endsF at h; simp only [Bool.and_eq_true] at h; exact h.1
theorem endsF_first {p : UInt8 → Bool} {set x : L} (h : endsF p set x = true) : p (x.getD 0 0) = true := by
  unfold endsF at h; simp only [Bool.and_eq_true] at h; exact h.2.1

theorem zzLabel_calls (s : ByteArray) (hs : s.size ≤ 140737488351232) (w : World) : Calls Tryd.prog 78 #[.string s] w fun e w' => e = .returned (.bool (label s.data.toList)) ∧ w = w' := by
  have H1 : Aside0 (∀ w, Calls Tryd.prog 101 #[.string s, .func (.func 91) #[] #[], .string ⟨#[45]⟩] w fun e w' => e = .returned (.bool (label s.data.toList)) ∧ w = w') := ⟨fun w => zzEnds91_calls zzLower_calls s ⟨#[45]⟩ hs (by decide) w⟩
  go_enter Tryd.func78, Tryd.ntmps78
  go_wp2_with (first | ((with_reducible refine (H1.out _).mono ?_); rintro e w' ⟨rfl, rfl⟩))
  go_ret
  exact ⟨rfl, rfl⟩
theorem zzQualified_calls (s : ByteArray) (hs : s.size ≤ 140737488351232) (w : World) : Calls Tryd.prog 99 #[.string s] w fun e w' => e = .returned (.bool (qual s.data.toList)) ∧ w = w' := by
  have H1 : Aside0 (∀ w, Calls Tryd.prog 101 #[.string s, .func (.func 81) #[] #[], .string ⟨#[45, 95, 46]⟩] w fun e w' => e = .returned (.bool (qual s.data.toList)) ∧ w = w') := ⟨fun w => zzEnds81_calls zzWord_calls s ⟨#[45, 95, 46]⟩ hs (by decide) w⟩
  go_enter Tryd.func99, Tryd.ntmps99
  go_wp2_with (first | ((with_reducible refine (H1.out _).mono ?_); rintro e w' ⟨rfl, rfl⟩))
  go_ret
  exact ⟨rfl, rfl⟩
theorem zzLabelValue_calls (s : ByteArray) (hs : s.size ≤ 140737488351232) (w : World) : Calls Tryd.prog 85 #[.string s] w fun e w' => e = .returned (.bool (labelValue s.data.toList)) ∧ w = w' := by
  have H1 : Aside0 (∀ w, Calls Tryd.prog 99 #[.string s] w fun e w' => e = .returned (.bool (qual s.data.toList)) ∧ w = w') := ⟨fun w => zzQualified_calls s hs w⟩
  by_cases h0 : s.toList = []
  · have t0 : (s.toList == ([] : List UInt8)) = true := beq_iff_eq.2 h0
    have HR : Aside0 (labelValue s.data.toList = true) := ⟨by unfold labelValue; rw [← toList_eq, h0]; rfl⟩
    clear h0
    go_enter Tryd.func85, Tryd.ntmps85
    go_wp2_with (first | ((with_reducible refine (H1.out _).mono ?_); rintro e w' ⟨rfl, rfl⟩))
    go_ret
    exact ⟨by rw [HR.out]; first | rfl | exact congrArg (fun b : Bool => Ending.returned (Value.bool b)) (by simp; omega), rfl⟩
  · have t0 : (s.toList == ([] : List UInt8)) = false := beq_eq_false_iff_ne.2 h0
    have HR : Aside0 (labelValue s.data.toList = qual s.data.toList) := ⟨by unfold labelValue; rw [← toList_eq, t0]; rfl⟩
    clear h0
    go_enter Tryd.func85, Tryd.ntmps85
    go_wp2_with (first | ((with_reducible refine (H1.out _).mono ?_); rintro e w' ⟨rfl, rfl⟩))
    go_ret
    exact ⟨by rw [HR.out]; first | rfl | exact congrArg (fun b : Bool => Ending.returned (Value.bool b)) (by simp; omega), rfl⟩
theorem zzLabel1035_calls (s : ByteArray) (hs : s.size ≤ 140737488351232) (w : World) : Calls Tryd.prog 84 #[.string s] w fun e w' => e = .returned (.bool (old s.data.toList)) ∧ w = w' := by
  obtain ⟨x, hx, hxs⟩ : ∃ x : L, s = mk x ∧ s.size = x.length := exists_mk s
  have h1 : ∀ w, Calls Tryd.prog 78 #[.string s] w fun e w' => e = .returned (.bool (label s.data.toList)) ∧ w = w' := fun w => zzLabel_calls s hs w
  rw [show s.data.toList = x by rw [hx]; rfl] at h1 ⊢
  cases hl : label x with
  | false =>
    rw [hl] at h1
    have HR : Aside0 (old x = false) := ⟨by unfold old; rw [hl]; rfl⟩
    have H1 := Aside0.mk h1; clear h1 hl hx hxs
    go_enter Tryd.func84, Tryd.ntmps84
    go_wp2_with (first | ((with_reducible refine (H1.out _).mono ?_); rintro e w' ⟨rfl, rfl⟩))
    go_ret
    exact ⟨by rw [HR.out]; first | rfl | exact congrArg (fun b : Bool => Ending.returned (Value.bool b)) (by simp; omega), rfl⟩
  | true =>
    rw [hl] at h1
    have hpos : 0 < s.size := by rw [hxs]; exact allF_pos (endsF_all hl)
    obtain ⟨c, hc⟩ : ∃ c, s[0]'hpos = c := ⟨_, rfl⟩
    have hce : ∀ h : 0 < s.size, s[0]'h = c := fun _ => hc
    have hcx : x.getD 0 0 = c := by rw [← hc]; exact (getB hx 0 hpos).symm
    have HR : Aside0 (old x = decide (97 ≤ c.toNat)) := ⟨by unfold old; rw [hl, hcx]; rfl⟩
    have H1 := Aside0.mk h1; clear h1 hl hx hxs hc hcx
    by_cases h97 : 97 ≤ c.toNat
    · have HQ : Aside0 (old x = true) := ⟨by rw [HR.out]; simpa using h97⟩
      go_enter Tryd.func84, Tryd.ntmps84
      go_wp2_with (first | ((with_reducible refine (H1.out _).mono ?_); rintro e w' ⟨rfl, rfl⟩))
      go_ret
      exact ⟨by rw [HQ.out]; first | rfl | exact congrArg (fun b : Bool => Ending.returned (Value.bool b)) (by simp; omega), rfl⟩
    · have HQ : Aside0 (old x = false) := ⟨by rw [HR.out]; simpa using h97⟩
      go_enter Tryd.func84, Tryd.ntmps84
      go_wp2_with (first | ((with_reducible refine (H1.out _).mono ?_); rintro e w' ⟨rfl, rfl⟩))
      go_ret
      exact ⟨by rw [HQ.out]; first | rfl | exact congrArg (fun b : Bool => Ending.returned (Value.bool b)) (by simp; omega), rfl⟩
theorem zzCIdentifier_calls (s : ByteArray) (hs : s.size ≤ 140737488351232) (w : World) : Calls Tryd.prog 82 #[.string s] w fun e w' => e = .returned (.bool (cid s.data.toList)) ∧ w = w' := by
  obtain ⟨x, hx, hxs⟩ : ∃ x : L, s = mk x ∧ s.size = x.length := exists_mk s
  have h1 : ∀ w, Calls Tryd.prog 80 #[.string s, .func (.func 81) #[] #[], .string ⟨#[95]⟩] w fun e w' => e = .returned (.bool (allF alnum [95] s.data.toList)) ∧ w = w' := fun w => zzAll81_calls zzWord_calls s ⟨#[95]⟩ hs (by decide) w
  rw [show s.data.toList = x by rw [hx]; rfl] at h1 ⊢
  cases hl : allF alnum [95] x with
  | false =>
    rw [hl] at h1
    have HR : Aside0 (cid x = false) := ⟨by unfold cid; rw [hl]; rfl⟩
    have H1 := Aside0.mk h1; clear h1 hl hx hxs
    go_enter Tryd.func82, Tryd.ntmps82
    go_wp2_with (first | ((with_reducible refine (H1.out _).mono ?_); rintro e w' ⟨rfl, rfl⟩))
    go_ret
    exact ⟨by rw [HR.out]; first | rfl | exact congrArg (fun b : Bool => Ending.returned (Value.bool b)) (by simp; omega), rfl⟩
  | true =>
    rw [hl] at h1
    have hpos : 0 < s.size := by rw [hxs]; exact allF_pos hl
    obtain ⟨c, hc⟩ : ∃ c, s[0]'hpos = c := ⟨_, rfl⟩
    have hce : ∀ h : 0 < s.size, s[0]'h = c := fun _ => hc
    have hcx : x.getD 0 0 = c := by rw [← hc]; exact (getB hx 0 hpos).symm
    have hr : cid x = !(digit c) := by unfold cid; rw [hl, hcx]; rfl
    have H1 := Aside0.mk h1; clear h1 hl hx hxs hc hcx
    rcases digit_cases c with ⟨g1, g⟩ | ⟨g1, g2, g⟩ | ⟨g1, g⟩
    all_goals
      rw [g] at hr
      have HR := Aside0.mk hr
      clear hr g
      go_enter Tryd.func82, Tryd.ntmps82
      go_wp2_with (first | ((with_reducible refine (H1.out _).mono ?_); rintro e w' ⟨rfl, rfl⟩))
      go_ret
      exact ⟨by rw [HR.out]; first | rfl | exact congrArg (fun b : Bool => Ending.returned (Value.bool b)) (by simp; omega), rfl⟩
theorem zzEnv_calls (s : ByteArray) (hs : s.size ≤ 140737488351232) (w : World) : Calls Tryd.prog 86 #[.string s] w fun e w' => e = .returned (.bool (env s.data.toList)) ∧ w = w' := by
  obtain ⟨x, hx, hxs⟩ : ∃ x : L, s = mk x ∧ s.size = x.length := exists_mk s
  have h1 : ∀ w, Calls Tryd.prog 80 #[.string s, .func (.func 81) #[] #[], .string ⟨#[45, 46, 95]⟩] w fun e w' => e = .returned (.bool (allF alnum [45, 46, 95] s.data.toList)) ∧ w = w' := fun w => zzAll81_calls zzWord_calls s ⟨#[45, 46, 95]⟩ hs (by decide) w
  rw [show s.data.toList = x by rw [hx]; rfl] at h1 ⊢
  cases hl : allF alnum [45, 46, 95] x with
  | false =>
    rw [hl] at h1
    have HR : Aside0 (env x = false) := ⟨by unfold env; rw [hl]; rfl⟩
    have H1 := Aside0.mk h1; clear h1 hl hx hxs
    go_enter Tryd.func86, Tryd.ntmps86
    go_wp2_with (first | ((with_reducible refine (H1.out _).mono ?_); rintro e w' ⟨rfl, rfl⟩))
    go_ret
    exact ⟨by rw [HR.out]; first | rfl | exact congrArg (fun b : Bool => Ending.returned (Value.bool b)) (by simp; omega), rfl⟩
  | true =>
    rw [hl] at h1
    have hpos : 0 < s.size := by rw [hxs]; exact allF_pos hl
    obtain ⟨c, hc⟩ : ∃ c, s[0]'hpos = c := ⟨_, rfl⟩
    have hce : ∀ h : 0 < s.size, s[0]'h = c := fun _ => hc
    have hcx : x.getD 0 0 = c := by rw [← hc]; exact (getB hx 0 hpos).symm
    have hr : env x = !(digit c) := by unfold env; rw [hl, hcx]; rfl
    have H1 := Aside0.mk h1; clear h1 hl hx hxs hc hcx
    rcases digit_cases c with ⟨g1, g⟩ | ⟨g1, g2, g⟩ | ⟨g1, g⟩
    all_goals
      rw [g] at hr
      have HR := Aside0.mk hr
      clear hr g
      go_enter Tryd.func86, Tryd.ntmps86
      go_wp2_with (first | ((with_reducible refine (H1.out _).mono ?_); rintro e w' ⟨rfl, rfl⟩))
      go_ret
      exact ⟨by rw [HR.out]; first | rfl | exact congrArg (fun b : Bool => Ending.returned (Value.bool b)) (by simp; omega), rfl⟩

set_option maxHeartbeats 1000000 in
theorem zzPercent_calls (s : ByteArray) (hs : s.size ≤ 140737488351232) (w : World) : Calls Tryd.prog 83 #[.string s] w fun e w' => e = .returned (.bool (pct s.data.toList)) ∧ w = w' := by
  obtain ⟨x, hx, hxs⟩ : ∃ x : L, s = mk x ∧ s.size = x.length := exists_mk s
  rw [show s.data.toList = x by rw [hx]; rfl]
  have sl : s.toList = x := by rw [hx, mk_toList]
  by_cases h0 : x = []
  · have t0 : (s.toList == ([] : List UInt8)) = true := by rw [sl, h0]; rfl
    have HR : Aside0 (pct x = false) := ⟨by rw [h0]; rfl⟩
    clear h0 sl hx hxs
    go_enter Tryd.func83, Tryd.ntmps83
    go_wp2
    go_ret
    exact ⟨by rw [HR.out]; first | rfl | exact congrArg (fun b : Bool => Ending.returned (Value.bool b)) (by simp; omega), rfl⟩
  · have t0 : (s.toList == ([] : List UInt8)) = false := by rw [sl]; exact beq_eq_false_iff_ne.2 h0
    have hpos : 0 < s.size := by rw [hxs]; exact List.length_pos_iff.2 h0
    have hlast : s.size - 1 < s.size := by omega
    have hb := byteIs hx (s.size - 1) 37
    have hp : pct x = (x.getD (s.size - 1) 0 == 37 && allF digit [] (x.take (s.size - 1))) := by unfold pct; rw [hxs, show (x == []) = false from beq_eq_false_iff_ne.2 h0]; rfl
    by_cases h37 : x.getD (s.size - 1) 0 = 37
    · have hb2 : ∀ h : s.size - 1 < s.size, (((s[s.size - 1]'h).toNat : Int) == 37) = true := fun h => (hb h).trans (by simpa using h37)
      obtain ⟨q, hq, hqz⟩ : ∃ q, s.extract 0 (s.size - 1) = q ∧ q.data.toList = x.take (s.size - 1) := ⟨_, rfl, by rw [hx, extract_mk]; simp [mk]⟩
      have hqs : q.size ≤ s.size := by rw [← hq]; simp
      have h1 : ∀ w, Calls Tryd.prog 80 #[.string q, .func (.func 103) #[] #[], .string ⟨#[]⟩] w fun e w' => e = .returned (.bool (allF digit [] (x.take (s.size - 1)))) ∧ w = w' := fun w => by
        have h := zzAll103_calls digit103_calls q ⟨#[]⟩ (by omega) (by decide) w
        rw [hqz] at h; exact h
      have HR : Aside0 (pct x = allF digit [] (x.take (s.size - 1))) := ⟨by rw [hp, h37]; rfl⟩
      have H1 := Aside0.mk h1
      clear h0 sl hx hxs hb hp h37 h1 hqz
      go_enter Tryd.func83, Tryd.ntmps83
      go_wp2_with (first | ((with_reducible refine (H1.out _).mono ?_); rintro e w' ⟨rfl, rfl⟩))
      go_ret
      exact ⟨by rw [HR.out]; first | rfl | exact congrArg (fun b : Bool => Ending.returned (Value.bool b)) (by simp; omega), rfl⟩
    · have hb2 : ∀ h : s.size - 1 < s.size, (((s[s.size - 1]'h).toNat : Int) == 37) = false := fun h => (hb h).trans (by simpa using h37)
      have HR : Aside0 (pct x = false) := ⟨by rw [hp, show (x.getD (s.size - 1) 0 == 37) = false by simpa using h37]; rfl⟩
      clear h0 sl hx hxs hb hp h37
      go_enter Tryd.func83, Tryd.ntmps83
      go_wp2
      go_ret
      exact ⟨by rw [HR.out]; first | rfl | exact congrArg (fun b : Bool => Ending.returned (Value.bool b)) (by simp; omega), rfl⟩
end Go.Proofs.YtdledchhpjkilaaDoor.Hand

/- What the reference asks of names. -/
namespace Go.Proofs.YtdledchhpjkilaaDoor.Hand
open Go.RowKit Go.Proofs.YtdledchhpjkilaaDoorW.PrintWords Go.Proofs.YtdledchhpjkilaaDoorW.PrintLast Go.Proofs.YtdledchhpjkilaaDoorW.PrintMore Go.Proofs.YtdledchhpjkilaaDoor.Base
set_option linter.unusedVariables false
set_option linter.unusedSimpArgs false
set_option maxRecDepth 100000

def pLabel (x : L) : Bool := most 63 x && label x
def pOld (x : L) : Bool := most 63 x && old x
def pValue (x : L) : Bool := most 63 x && labelValue x
def pHeader (x : L) : Bool := allF alnum [45] x
def dot (x : L) : Bool := x == [46] || (decide (1 < x.length) && x.take 2 == [46, 46])
def pEnv (x : L) : Bool := env x && !(dot x)

theorem DnsLabel_calls (s : ByteArray) (hs : s.size ≤ 140737488351232) (w : World) : Calls Tryd.prog 20 #[.string s] w fun e w' => e = .returned (.bool (pLabel s.data.toList)) ∧ w = w' := by
  obtain ⟨x, hx, hxs⟩ : ∃ x : L, s = mk x ∧ s.size = x.length := exists_mk s
  have H1 : Aside0 (∀ w, Calls Tryd.prog 51 #[.string s, .func (.func 52) #[] #[], .string ⟨#[45]⟩] w fun e w' => e = .returned (.bool (label s.data.toList)) ∧ w = w') := ⟨fun w => ended52_calls Small_calls s ⟨#[45]⟩ hs (by decide) w⟩
  rw [show s.data.toList = x by rw [hx]; rfl] at H1 ⊢
  have hr : pLabel x = (decide (s.size ≤ 63) && label x) := by unfold pLabel most; rw [hxs]
  clear hx hxs
  by_cases h : s.size ≤ 63
  · have HR : Aside0 (pLabel x = label x) := ⟨by rw [hr]; simp [h]⟩
    clear hr
    go_enter Tryd.func20, Tryd.ntmps20
    go_wp2_with (first | ((with_reducible refine (H1.out _).mono ?_); rintro e w' ⟨rfl, rfl⟩))
    go_ret
    exact ⟨by rw [HR.out]; first | rfl | exact congrArg (fun b : Bool => Ending.returned (Value.bool b)) (by simp; omega), rfl⟩
  · have HR : Aside0 (pLabel x = false) := ⟨by rw [hr]; simp [h]⟩
    clear hr
    go_enter Tryd.func20, Tryd.ntmps20
    go_wp2_with (first | ((with_reducible refine (H1.out _).mono ?_); rintro e w' ⟨rfl, rfl⟩))
    go_ret
    exact ⟨by rw [HR.out]; first | rfl | exact congrArg (fun b : Bool => Ending.returned (Value.bool b)) (by simp; omega), rfl⟩
theorem Header_calls (s : ByteArray) (hs : s.size ≤ 140737488351232) (w : World) : Calls Tryd.prog 22 #[.string s] w fun e w' => e = .returned (.bool (pHeader s.data.toList)) ∧ w = w' := by
  have H1 : Aside0 (∀ w, Calls Tryd.prog 54 #[.string s, .func (.func 55) #[] #[], .string ⟨#[45]⟩] w fun e w' => e = .returned (.bool (pHeader s.data.toList)) ∧ w = w') := ⟨fun w => sAll55_calls Alnum_calls s ⟨#[45]⟩ hs (by decide) w⟩
  go_enter Tryd.func22, Tryd.ntmps22
  go_wp2_with (first | ((with_reducible refine (H1.out _).mono ?_); rintro e w' ⟨rfl, rfl⟩))
  go_ret
  exact ⟨rfl, rfl⟩
theorem label_small {x : L} (h : label x = true) : small (x.getD 0 0) = true := endsF_first h
set_option maxHeartbeats 1000000 in
theorem DnsOld_calls (s : ByteArray) (hs : s.size ≤ 140737488351232) (w : World) : Calls Tryd.prog 28 #[.string s] w fun e w' => e = .returned (.bool (pOld s.data.toList)) ∧ w = w' := by
  obtain ⟨x, hx, hxs⟩ : ∃ x : L, s = mk x ∧ s.size = x.length := exists_mk s
  have h1 : ∀ w, Calls Tryd.prog 20 #[.string s] w fun e w' => e = .returned (.bool (pLabel s.data.toList)) ∧ w = w' := fun w => DnsLabel_calls s hs w
  rw [show s.data.toList = x by rw [hx]; rfl] at h1 ⊢
  have hpo : pOld x = (pLabel x && decide (97 ≤ (x.getD 0 0).toNat)) := by unfold pOld pLabel old; rw [Bool.and_assoc]
  cases hl : pLabel x with
  | false =>
    rw [hl] at h1
    have HR : Aside0 (pOld x = false) := ⟨by rw [hpo, hl]; rfl⟩
    have H1 := Aside0.mk h1; clear h1 hl hx hxs hpo
    go_enter Tryd.func28, Tryd.ntmps28
    go_wp2_with (first | ((with_reducible refine (H1.out _).mono ?_); rintro e w' ⟨rfl, rfl⟩))
    go_ret
    exact ⟨by rw [HR.out]; first | rfl | exact congrArg (fun b : Bool => Ending.returned (Value.bool b)) (by simp; omega), rfl⟩
  | true =>
    rw [hl] at h1
    have hl2 : label x = true := by unfold pLabel at hl; simp only [Bool.and_eq_true] at hl; exact hl.2
    have hpos : 0 < s.size := by rw [hxs]; exact allF_pos (endsF_all hl2)
    obtain ⟨c, hc⟩ : ∃ c, s[0]'hpos = c := ⟨_, rfl⟩
    have hce : ∀ h : 0 < s.size, s[0]'h = c := fun _ => hc
    have hcx : x.getD 0 0 = c := by rw [← hc]; exact (getB hx 0 hpos).symm
    have hsm := label_small hl2
    rw [hcx] at hsm
    have HR : Aside0 (pOld x = decide (97 ≤ c.toNat)) := ⟨by rw [hpo, hl, hcx]; rfl⟩
    have H1 := Aside0.mk h1; clear h1 hl hl2 hx hxs hc hcx hpo
    rcases small_cases c with ⟨g1, g2, g⟩ | ⟨g1, g⟩ | ⟨g1, g2, g⟩ | ⟨g1, g2, g⟩ | ⟨g1, g⟩
    · have HQ : Aside0 (pOld x = true) := ⟨by rw [HR.out]; simpa using g1⟩
      clear g hsm
      have g3 : 57 < c.toNat := by omega
      go_enter Tryd.func28, Tryd.ntmps28
      go_wp2_with (first | ((with_reducible refine (H1.out _).mono ?_); rintro e w' ⟨rfl, rfl⟩))
      go_ret
      exact ⟨by rw [HQ.out]; first | rfl | exact congrArg (fun b : Bool => Ending.returned (Value.bool b)) (by simp; omega), rfl⟩
    · rw [g] at hsm; exact absurd hsm (by decide)
    · rw [g] at hsm; exact absurd hsm (by decide)
    · have HQ : Aside0 (pOld x = false) := ⟨by rw [HR.out]; simp; omega⟩
      clear g hsm
      go_enter Tryd.func28, Tryd.ntmps28
      go_wp2_with (first | ((with_reducible refine (H1.out _).mono ?_); rintro e w' ⟨rfl, rfl⟩))
      go_ret
      exact ⟨by rw [HQ.out]; first | rfl | exact congrArg (fun b : Bool => Ending.returned (Value.bool b)) (by simp; omega), rfl⟩
    · rw [g] at hsm; exact absurd hsm (by decide)
theorem LabelText_calls (s : ByteArray) (hs : s.size ≤ 140737488351232) (w : World) : Calls Tryd.prog 30 #[.string s] w fun e w' => e = .returned (.bool (pValue s.data.toList)) ∧ w = w' := by
  obtain ⟨x, hx, hxs⟩ : ∃ x : L, s = mk x ∧ s.size = x.length := exists_mk s
  have H1 : Aside0 (∀ w, Calls Tryd.prog 51 #[.string s, .func (.func 55) #[] #[], .string ⟨#[45, 95, 46]⟩] w fun e w' => e = .returned (.bool (qual s.data.toList)) ∧ w = w') := ⟨fun w => ended55_calls Alnum_calls s ⟨#[45, 95, 46]⟩ hs (by decide) w⟩
  rw [show s.data.toList = x by rw [hx]; rfl] at H1 ⊢
  have sl : s.toList = x := by rw [hx, mk_toList]
  have hr : pValue x = (decide (s.size ≤ 63) && labelValue x) := by unfold pValue most; rw [hxs]
  by_cases h0 : x = []
  · have t0 : (s.toList == ([] : List UInt8)) = true := by rw [sl, h0]; rfl
    have HR : Aside0 (pValue x = true) := ⟨by rw [h0]; decide⟩
    clear h0 hr hx hxs sl
    go_enter Tryd.func30, Tryd.ntmps30
    go_wp2_with (first | ((with_reducible refine (H1.out _).mono ?_); rintro e w' ⟨rfl, rfl⟩))
    go_ret
    exact ⟨by rw [HR.out]; first | rfl | exact congrArg (fun b : Bool => Ending.returned (Value.bool b)) (by simp; omega), rfl⟩
  · have t0 : (s.toList == ([] : List UInt8)) = false := by rw [sl]; exact beq_eq_false_iff_ne.2 h0
    have hv : labelValue x = qual x := by unfold labelValue; rw [show (x == []) = false from beq_eq_false_iff_ne.2 h0]; rfl
    clear h0 hx hxs sl
    by_cases h : s.size ≤ 63
    · have HR : Aside0 (pValue x = qual x) := ⟨by rw [hr, hv]; simp [h]⟩
      clear hr hv
      go_enter Tryd.func30, Tryd.ntmps30
      go_wp2_with (first | ((with_reducible refine (H1.out _).mono ?_); rintro e w' ⟨rfl, rfl⟩))
      go_ret
      exact ⟨by rw [HR.out]; first | rfl | exact congrArg (fun b : Bool => Ending.returned (Value.bool b)) (by simp; omega), rfl⟩
    · have HR : Aside0 (pValue x = false) := ⟨by rw [hr]; simp [h]⟩
      clear hr hv
      go_enter Tryd.func30, Tryd.ntmps30
      go_wp2_with (first | ((with_reducible refine (H1.out _).mono ?_); rintro e w' ⟨rfl, rfl⟩))
      go_ret
      exact ⟨by rw [HR.out]; first | rfl | exact congrArg (fun b : Bool => Ending.returned (Value.bool b)) (by simp; omega), rfl⟩
set_option maxHeartbeats 1000000 in
theorem Percentage_calls (s : ByteArray) (hs : s.size ≤ 140737488351232) (w : World) : Calls Tryd.prog 26 #[.string s] w fun e w' => e = .returned (.bool (pct s.data.toList)) ∧ w = w' := by
  obtain ⟨x, hx, hxs⟩ : ∃ x : L, s = mk x ∧ s.size = x.length := exists_mk s
  rw [show s.data.toList = x by rw [hx]; rfl]
  have sl : s.toList = x := by rw [hx, mk_toList]
  by_cases h0 : x = []
  · have t0 : (s.toList == ([] : List UInt8)) = true := by rw [sl, h0]; rfl
    have HR : Aside0 (pct x = false) := ⟨by rw [h0]; rfl⟩
    clear h0 sl hx hxs
    go_enter Tryd.func26, Tryd.ntmps26
    go_wp2
    go_ret
    exact ⟨by rw [HR.out]; first | rfl | exact congrArg (fun b : Bool => Ending.returned (Value.bool b)) (by simp; omega), rfl⟩
  · have t0 : (s.toList == ([] : List UInt8)) = false := by rw [sl]; exact beq_eq_false_iff_ne.2 h0
    have hpos : 0 < s.size := by rw [hxs]; exact List.length_pos_iff.2 h0
    have hlast : s.size - 1 < s.size := by omega
    have hb := byteIs hx (s.size - 1) 37
    have hp : pct x = (x.getD (s.size - 1) 0 == 37 && allF digit [] (x.take (s.size - 1))) := by unfold pct; rw [hxs, show (x == []) = false from beq_eq_false_iff_ne.2 h0]; rfl
    by_cases h37 : x.getD (s.size - 1) 0 = 37
    · have hb2 : ∀ h : s.size - 1 < s.size, (((s[s.size - 1]'h).toNat : Int) == 37) = true := fun h => (hb h).trans (by simpa using h37)
      obtain ⟨q, hq, hqz⟩ : ∃ q, s.extract 0 (s.size - 1) = q ∧ q.data.toList = x.take (s.size - 1) := ⟨_, rfl, by rw [hx, extract_mk]; simp [mk]⟩
      have hqs : q.size ≤ s.size := by rw [← hq]; simp
      have h1 : ∀ w, Calls Tryd.prog 54 #[.string q, .func (.func 58) #[] #[], .string ⟨#[]⟩] w fun e w' => e = .returned (.bool (allF digit [] (x.take (s.size - 1)))) ∧ w = w' := fun w => by
        have h := sAll58_calls digit58_calls q ⟨#[]⟩ (by omega) (by decide) w
        rw [hqz] at h; exact h
      have HR : Aside0 (pct x = allF digit [] (x.take (s.size - 1))) := ⟨by rw [hp, h37]; rfl⟩
      have H1 := Aside0.mk h1
      clear h0 sl hx hxs hb hp h37 h1 hqz
      go_enter Tryd.func26, Tryd.ntmps26
      go_wp2_with (first | ((with_reducible refine (H1.out _).mono ?_); rintro e w' ⟨rfl, rfl⟩))
      go_ret
      exact ⟨by rw [HR.out]; first | rfl | exact congrArg (fun b : Bool => Ending.returned (Value.bool b)) (by simp; omega), rfl⟩
    · have hb2 : ∀ h : s.size - 1 < s.size, (((s[s.size - 1]'h).toNat : Int) == 37) = false := fun h => (hb h).trans (by simpa using h37)
      have HR : Aside0 (pct x = false) := ⟨by rw [hp, show (x.getD (s.size - 1) 0 == 37) = false by simpa using h37]; rfl⟩
      clear h0 sl hx hxs hb hp h37
      go_enter Tryd.func26, Tryd.ntmps26
      go_wp2
      go_ret
      exact ⟨by rw [HR.out]; first | rfl | exact congrArg (fun b : Bool => Ending.returned (Value.bool b)) (by simp; omega), rfl⟩

theorem alnum_low {c : UInt8} (h : alnum c = true) : 48 ≤ c.toNat := by
  unfold alnum small at h
  simp only [Bool.or_eq_true, decide_eq_true_eq] at h
  omega

/-- CName: a byte at its place. -/
def cOk (c : UInt8) (first : Bool) : Bool := c == 95 || (alnum c && !(first && digit c))
theorem cid_split (x : L) (hne : x ≠ []) : cid x = (cOk (x.getD 0 0) true && (x.drop 1).all (fun c => cOk c false)) := by
  cases x with
  | nil => exact absurd rfl hne
  | cons a x =>
    have e1 : ∀ c, cOk c false = (alnum c || inSet c [95]) := by
      intro c; unfold cOk inSet; simp only [Bool.false_and, Bool.not_false, Bool.and_true, List.any_cons, List.any_nil, Bool.or_false]
      rw [Bool.or_comm]; congr 1; rw [Bool.eq_iff_iff, beq_iff_eq, beq_iff_eq]; exact eq_comm
    have e2 : cOk a true = ((alnum a || inSet a [95]) && !(digit a)) := by
      rw [← e1]; unfold cOk
      by_cases h : a = 95
      · subst h; decide
      · rw [show (a == 95) = false by simpa using h]; simp
    unfold cid allF
    simp only [List.all_cons, List.drop_succ_cons, List.drop_zero, List.getD_cons_zero]
    rw [e2, show (a :: x == []) = false from rfl, show (fun c => cOk c false) = (fun c => alnum c || inSet c [95]) from funext e1]
    cases (alnum a || inSet a [95]) <;> cases digit a <;> simp
theorem cid_step (x : L) (i : Nat) (h : i < x.length) : (x.drop i).all (fun c => cOk c false) = (cOk (x.getD i 0) false && (x.drop (i + 1)).all (fun c => cOk c false)) := by
  rw [drop_cons h, List.all_cons]
set_option maxHeartbeats 2000000 in
theorem CName_calls (s : ByteArray) (hs : s.size ≤ 140737488351232) (w : World) : Calls Tryd.prog 24 #[.string s] w fun e w' => e = .returned (.bool (cid s.data.toList)) ∧ w = w' := by
  obtain ⟨x, hx, hxs⟩ : ∃ x : L, s = mk x ∧ s.size = x.length := exists_mk s
  rw [show s.data.toList = x by rw [hx]; rfl]
  have sl : s.toList = x := by rw [hx, mk_toList]
  by_cases h0 : x = []
  · have t0 : (s.toList == ([] : List UInt8)) = true := by rw [sl, h0]; rfl
    have hz : s.size = 0 := by rw [hxs, h0]; rfl
    have HR : Aside0 (cid x = false) := ⟨by rw [h0]; rfl⟩
    clear h0 sl hx hxs
    go_enter Tryd.func24, Tryd.ntmps24
    go_wp2
    go_loopg [3, 4, 7] 0 (fun g v3 v4 v7 w' => v7 = .int .i64 0 ∧ w = w')
    case atStart => exact ⟨rfl, rfl⟩
    case round =>
      obtain ⟨rfl, rfl⟩ := hrel
      go_wp2
      go_ret
      exact ⟨by rw [HR.out]; first | rfl | exact congrArg (fun b : Bool => Ending.returned (Value.bool b)) (by simp; omega), rfl⟩
  · have t0 : (s.toList == ([] : List UInt8)) = false := by rw [sl]; exact beq_eq_false_iff_ne.2 h0
    have hpos : 0 < s.size := by rw [hxs]; exact List.length_pos_iff.2 h0
    have HS := Aside0.mk (cid_split x h0)
    have HX := Aside0.mk (And.intro hx hxs)
    clear h0 sl hx hxs
    go_enter Tryd.func24, Tryd.ntmps24
    go_wp2
    go_loopg [3, 4, 7] (s.size) (fun g v3 v4 v7 w' => ∃ i : Nat, v7 = .int .i64 i ∧ w = w' ∧ Aside0 (g + i = s.size) ∧ Aside0 (0 < i → cid x = (x.drop i).all (fun c => cOk c false)))
    case atStart => exact ⟨0, rfl, rfl, ⟨by omega⟩, ⟨fun h => absurd h (by omega)⟩⟩
    case round =>
      obtain ⟨i, rfl, rfl, HI, HC⟩ := hrel
      have hi : i ≤ s.size := by have := HI.out; omega
      by_cases hlt : i < s.size
      · obtain ⟨c, hc⟩ : ∃ c, s[i]'hlt = c := ⟨_, rfl⟩
        have hce : ∀ h : i < s.size, s[i]'h = c := fun _ => hc
        have hcx : x.getD i 0 = c := by rw [← hc]; exact (getB HX.out.1 i hlt).symm
        have hil : i < x.length := by have := HX.out.2; omega
        have hst : cid x = (cOk c (i == 0) && (x.drop (i + 1)).all (fun c => cOk c false)) := by
          by_cases hi0 : i = 0
          · subst hi0; rw [HS.out, hcx]; rfl
          · rw [HC.out (by omega), cid_step x i hil, hcx, show (i == 0) = false by simpa using hi0]
        have h1 : ∀ w, Calls Tryd.prog 55 #[.int .u8 ((c.toNat : Nat) : Int)] w fun e w' => e = .returned (.bool (alnum c)) ∧ w = w' := fun w => Alnum_calls c w
        clear hc hcx hil
        by_cases h95 : c = 95
        · have HR : Aside0 (cid x = (x.drop (i + 1)).all (fun c => cOk c false)) := ⟨by rw [hst, h95]; cases (i == 0) <;> simp [cOk]⟩
          subst h95
          clear hst h1
          go_wp2
          go_roundg (gk - 1)
          case measure => have := HI.out; omega
          case rel => exact ⟨i + 1, by go_num, rfl, ⟨by have := HI.out; omega⟩, ⟨fun _ => HR.out⟩⟩
        · have h95b : (((c.toNat : Nat) : Int) == 95) = false := by
            rw [beq_eq_false_iff_ne]; intro h; exact h95 (UInt8.toNat_inj.1 (by simpa using (by omega : c.toNat = 95)))
          have h95c : (((c.toNat : Nat) : Int) != 95) = true := by rw [bne, h95b]; rfl
          have hck : cOk c (i == 0) = (alnum c && !((i == 0) && digit c)) := by unfold cOk; rw [show (c == 95) = false by simpa using h95]; rfl
          rw [hck] at hst
          clear hck h95
          cases ha : alnum c with
          | false =>
            rw [ha] at h1
            have HR : Aside0 (cid x = false) := ⟨by rw [hst, ha]; rfl⟩
            have H1 := Aside0.mk h1
            clear hst h1 ha
            go_wp2_with (first | ((with_reducible refine (H1.out _).mono ?_); rintro e w' ⟨rfl, rfl⟩))
            go_ret
            exact ⟨by rw [HR.out]; first | rfl | exact congrArg (fun b : Bool => Ending.returned (Value.bool b)) (by simp; omega), rfl⟩
          | true =>
            rw [ha] at h1
            rw [ha] at hst
            have hlow := alnum_low ha
            have H1 := Aside0.mk h1
            clear h1 ha
            by_cases hi0 : i = 0
            · subst hi0
              rcases digit_cases c with ⟨g1, g⟩ | ⟨g1, g2, g⟩ | ⟨g1, g⟩
              · exact absurd hlow (by omega)
              · rw [g] at hst
                have HR : Aside0 (cid x = false) := ⟨by rw [hst]; rfl⟩
                clear hst g
                go_wp2_with (first | ((with_reducible refine (H1.out _).mono ?_); rintro e w' ⟨rfl, rfl⟩))
                go_ret
                exact ⟨by rw [HR.out]; first | rfl | exact congrArg (fun b : Bool => Ending.returned (Value.bool b)) (by simp; omega), rfl⟩
              · rw [g] at hst
                have HR : Aside0 (cid x = (x.drop (0 + 1)).all (fun c => cOk c false)) := ⟨by rw [hst]; simp⟩
                clear hst g
                go_wp2_with (first | ((with_reducible refine (H1.out _).mono ?_); rintro e w' ⟨rfl, rfl⟩))
                go_roundg (gk - 1)
                case measure => have := HI.out; omega
                case rel => exact ⟨1, by go_num, rfl, ⟨by have := HI.out; omega⟩, ⟨fun _ => HR.out⟩⟩
            · have HR : Aside0 (cid x = (x.drop (i + 1)).all (fun c => cOk c false)) := ⟨by rw [hst, show (i == 0) = false by simpa using hi0]; simp⟩
              have e1 : (((i : Nat) : Int) == 0) = false := by rw [beq_eq_false_iff_ne]; omega
              clear hst hi0
              go_wp2_with (first | ((with_reducible refine (H1.out _).mono ?_); rintro e w' ⟨rfl, rfl⟩))
              go_roundg (gk - 1)
              case measure => have := HI.out; omega
              case rel => exact ⟨i + 1, by go_num, rfl, ⟨by have := HI.out; omega⟩, ⟨fun _ => HR.out⟩⟩
      · have HR : Aside0 (cid x = true) := ⟨by rw [HC.out (by omega), List.drop_eq_nil_of_le (by have := HX.out.2; omega)]; rfl⟩
        go_wp2
        go_ret
        exact ⟨by rw [HR.out]; first | rfl | exact congrArg (fun b : Bool => Ending.returned (Value.bool b)) (by simp; omega), rfl⟩

theorem dotted_f (s : ByteArray) : PFnNameConfigKey.spec_dotted.f s = some (dot s.data.toList) := by
  unfold PFnNameConfigKey.spec_dotted.f dot
  obtain ⟨x, hx, hxs⟩ : ∃ x : L, s = mk x ∧ s.size = x.length := exists_mk s
  rw [show s.data.toList = x by rw [hx]; rfl, show s.toList = x by rw [hx, mk_toList]]
  by_cases h1 : x = [46]
  · rw [if_pos h1, h1]; rfl
  · rw [if_neg h1, show (x == [46]) = false from beq_eq_false_iff_ne.2 h1]
    by_cases h2 : 1 < x.length
    · rw [if_pos (by omega), if_pos (by decide), if_pos (by omega), hx, extract_mk, mk_toList]
      simp [h2]
    · rw [if_neg (by omega)]; simp [h2]
theorem dotted_calls (s : ByteArray) (w : World) : Calls Tryd.prog 62 #[.string s] w fun e w' => e = .returned (.bool (dot s.data.toList)) ∧ Drawn0 w w' :=
  PFnNameConfigKey.spec_dotted.calls s _ w (dotted_f s)
theorem chdir_f (s : ByteArray) : ∃ r, PFnNameConfigKey.validation_hasChDirPrefix.f s = some r ∧ (r == []) = !(dot s.data.toList) ∧ r.length ≤ 1 ∧ ∀ p ∈ r, p.size ≤ 4000 := by
  unfold PFnNameConfigKey.validation_hasChDirPrefix.f dot
  obtain ⟨x, hx, hxs⟩ : ∃ x : L, s = mk x ∧ s.size = x.length := exists_mk s
  rw [show s.data.toList = x by rw [hx]; rfl, show s.toList = x by rw [hx, mk_toList]]
  by_cases h1 : x = [46]
  · rw [if_pos h1, if_pos (by decide), h1]; exact ⟨_, rfl, rfl, by decide, by decide⟩
  · rw [if_neg h1, show (x == [46]) = false from beq_eq_false_iff_ne.2 h1]
    by_cases h2 : x = [46, 46]
    · rw [if_pos h2, if_pos (by decide), h2]; exact ⟨_, rfl, rfl, by decide, by decide⟩
    · rw [if_neg h2]
      by_cases h3 : 2 ≤ x.length
      · rw [if_pos (by omega), if_pos (by decide), if_pos (by omega), hx, extract_mk, mk_toList]
        by_cases h4 : (x.take 2).drop 0 = [46, 46]
        · rw [if_pos h4, if_pos (by decide)]
          refine ⟨_, rfl, ?_, by decide, by decide⟩
          rw [List.drop_zero] at h4
          rw [h4, show decide (1 < x.length) = true by simp; omega]; rfl
        · rw [if_neg h4]
          refine ⟨_, rfl, ?_, by decide, by decide⟩
          rw [List.drop_zero] at h4
          rw [show (x.take 2 == [46, 46]) = false from beq_eq_false_iff_ne.2 h4]; simp
      · rw [if_neg (by omega)]
        refine ⟨_, rfl, ?_, by decide, by decide⟩
        rw [show decide (1 < x.length) = false by simp; omega]; rfl

set_option maxHeartbeats 1000000 in
theorem Env_calls (s : ByteArray) (hs : s.size ≤ 140737488351232) (w : World) : Calls Tryd.prog 32 #[.string s] w fun e w' => e = .returned (.bool (pEnv s.data.toList)) ∧ Drawn0 w w' := by
  obtain ⟨x, hx, hxs⟩ : ∃ x : L, s = mk x ∧ s.size = x.length := exists_mk s
  have h1 : ∀ w, Calls Tryd.prog 54 #[.string s, .func (.func 55) #[] #[], .string ⟨#[45, 46, 95]⟩] w fun e w' => e = .returned (.bool (allF alnum [45, 46, 95] s.data.toList)) ∧ w = w' := fun w => sAll55_calls Alnum_calls s ⟨#[45, 46, 95]⟩ hs (by decide) w
  have h2 : ∀ w, Calls Tryd.prog 62 #[.string s] w fun e w' => e = .returned (.bool (dot s.data.toList)) ∧ Drawn0 w w' := fun w => dotted_calls s w
  rw [show s.data.toList = x by rw [hx]; rfl] at h1 h2 ⊢
  have H2 := Aside0.mk h2; clear h2
  cases hl : allF alnum [45, 46, 95] x with
  | false =>
    rw [hl] at h1
    have HR : Aside0 (pEnv x = false) := ⟨by unfold pEnv env; rw [hl]; rfl⟩
    have H1 := Aside0.mk h1; clear h1 hl hx hxs
    go_enter Tryd.func32, Tryd.ntmps32
    go_wp2_with (first | ((with_reducible refine (H1.out _).mono ?_); rintro e w' ⟨rfl, rfl⟩))
    go_ret
    exact ⟨by rw [HR.out]; rfl, by repeat (first | exact Drawn0.refl _ | apply Drawn0.step)⟩
  | true =>
    rw [hl] at h1
    have hpos : 0 < s.size := by rw [hxs]; exact allF_pos hl
    obtain ⟨c, hc⟩ : ∃ c, s[0]'hpos = c := ⟨_, rfl⟩
    have hce : ∀ h : 0 < s.size, s[0]'h = c := fun _ => hc
    have hcx : x.getD 0 0 = c := by rw [← hc]; exact (getB hx 0 hpos).symm
    have h3 : ∀ w, Calls Tryd.prog 58 #[.int .u8 ((c.toNat : Nat) : Int)] w fun e w' => e = .returned (.bool (digit c)) ∧ w = w' := fun w => digit58_calls c w
    have hr : pEnv x = (!(digit c) && !(dot x)) := by unfold pEnv env; rw [hl, hcx]; rfl
    have H1 := Aside0.mk h1; clear h1 hl hx hxs hc hcx
    cases hd : digit c with
    | true =>
      rw [hd] at h3 hr
      have H3 := Aside0.mk h3; have HR : Aside0 (pEnv x = false) := ⟨hr⟩
      clear h3 hr hd
      go_enter Tryd.func32, Tryd.ntmps32
      go_wp2_with (first | ((with_reducible refine (H1.out _).mono ?_); rintro e w' ⟨rfl, rfl⟩) | ((with_reducible refine (H3.out _).mono ?_); rintro e w' ⟨rfl, rfl⟩))
      go_ret
      exact ⟨by rw [HR.out]; rfl, by repeat (first | exact Drawn0.refl _ | apply Drawn0.step)⟩
    | false =>
      rw [hd] at h3 hr
      have H3 := Aside0.mk h3; have HR : Aside0 (pEnv x = !(dot x)) := ⟨hr⟩
      clear h3 hr hd
      go_enter Tryd.func32, Tryd.ntmps32
      go_wp2_with (first | ((with_reducible refine (H1.out _).mono ?_); rintro e w' ⟨rfl, rfl⟩) | ((with_reducible refine (H3.out _).mono ?_); rintro e w' ⟨rfl, rfl⟩) | ((with_reducible refine (H2.out _).mono ?_); rintro e w' ⟨rfl, ⟨nd, rfl⟩⟩))
      go_ret
      exact ⟨by rw [HR.out]; rfl, by repeat (first | exact Drawn0.refl _ | exact ⟨nd, rfl⟩ | apply Drawn0.step)⟩
end Go.Proofs.YtdledchhpjkilaaDoor.Hand

/- What a check of a name answers: a list of texts that is empty just if nothing is wrong. -/
namespace Go.Proofs.YtdledchhpjkilaaDoor.Hand
open Go.RowKit Go.Proofs.YtdledchhpjkilaaDoorW.PrintWords Go.Proofs.YtdledchhpjkilaaDoorW.PrintLast Go.Proofs.YtdledchhpjkilaaDoorW.PrintMore Go.Proofs.YtdledchhpjkilaaDoor.Base
set_option linter.unusedVariables false
set_option linter.unusedSimpArgs false
set_option maxRecDepth 100000

/-- The list, with nothing in it just if P. -/
def Errs (P : Bool) (w : World) (e : Ending) (w' : World) : Prop :=
  ∃ (v0 : Value) (xs : List ByteArray), e = .returned v0 ∧ Kd.R Kd.string 9 w' w.heap.size (fun _ => True) v0 xs ∧ (xs == []) = P ∧ xs.length ≤ 10 ∧ (∀ p ∈ xs, p.size ≤ 5000) ∧ Below w.heap.size w w'
theorem Errs.snoc {xs ys : List ByteArray} {m : ByteArray} (h : xs ++ [m] = ys) : (ys == []) = false := by
  subst h; cases xs <;> rfl
end Go.Proofs.YtdledchhpjkilaaDoor.Hand

/- MaxLenError of 253: it asks for the table of powers of ten. -/
namespace Go.Proofs.YtdledchhpjkilaaDoor.Hand
open Go.RowKit Go.Proofs.YtdledchhpjkilaaDoorW.PrintWords Go.Proofs.YtdledchhpjkilaaDoorW.PrintLast Go.Proofs.YtdledchhpjkilaaDoorW.PrintMore Go.Proofs.YtdledchhpjkilaaDoor.Base
set_option linter.unusedVariables false
set_option linter.unusedSimpArgs false
set_option maxRecDepth 100000

/-- The table of powers of ten. -/
abbrev Tab (w : World) : Prop := Lib.TabIs Tryd.prog w "internal/strconv.uint64pow10" .u64 Lib.pow10Tab
theorem Tab.below {w w' : World} (h : Tab w) (hb : Below w.heap.size w w') : Tab w' := Lib.tabBelow_of_tabIs h w' hb

/-- As Errs, of longer texts. -/
def Errs2 (P : Bool) (w : World) (e : Ending) (w' : World) : Prop :=
  ∃ (v0 : Value) (xs : List ByteArray), e = .returned v0 ∧ Kd.R Kd.string 9 w' w.heap.size (fun _ => True) v0 xs ∧ (xs == []) = P ∧ xs.length ≤ 20 ∧ (∀ p ∈ xs, p.size ≤ 2000000) ∧ Below w.heap.size w w'
theorem MaxLen_tab (w : World) (hT : Tab w) :
    Calls Tryd.prog 77 #[.int .i64 253] w fun e w' => ∃ m, e = .returned (.string m) ∧ m.size ≤ 4000 ∧ Below w.heap.size w w' := by
  have HB := Aside0.mk (Below.refl w.heap.size w)
  obtain ⟨d, hd, hdz⟩ : ∃ d : ByteArray, (⟨(Lib.itoa 253).toArray⟩ : ByteArray) = d ∧ d.size ≤ 100 := ⟨_, rfl, by decide +kernel⟩
  have h1 : ∀ w', Tab w' → Calls Tryd.prog 100 #[.int .i64 253] w' fun e w2 => e = .returned (.string d) ∧ Below w'.heap.size w' w2 := fun w' hT' => by
    have h := Tryd.strconv_Itoa 253 (by decide) (by decide) w' hT'
    rw [hd] at h
    exact h.mono fun e w2 ⟨h1, k, os, h2⟩ => ⟨h1, by rw [h2]; exact Lib.below_grow _ _ (Nat.le_refl _) k os⟩
  have H1 := Aside0.mk h1
  have HT := Aside0.mk hT
  clear h1 hd hT
  have c1 : (21 + d.size ≤ 9223372036854775807) = True := eq_true (by omega)
  have c2 : (9223372036854775807 < 21 + d.size) = False := eq_false (by omega)
  have c3 : (21 + d.size + 11 ≤ 9223372036854775807) = True := eq_true (by omega)
  have c4 : (9223372036854775807 < 21 + d.size + 11) = False := eq_false (by omega)
  go_enter Tryd.func77, Tryd.ntmps77
  go_wp2_with (first | ((with_reducible refine (H1.out _ (HT.out.below (by repeat (first | (with_reducible first | exact HB.out | apply below_alloc | apply pw_below_drewN | apply below_drew1) | exact HB.out)))).mono ?_); rintro e w' ⟨rfl, hb⟩; have nb_ := Aside0.mk (below_step (by repeat (first | (with_reducible first | exact HB.out | apply below_alloc | apply pw_below_drewN | apply below_drew1) | exact HB.out)) hb); clear HB; have HB := nb_; clear nb_; (try clear hb)))
  go_ret
  refine ⟨_, rfl, ?_, (by repeat (first | (with_reducible first | exact HB.out | apply below_alloc | apply pw_below_drewN | apply below_drew1) | exact HB.out))⟩
  have z1 : ∀ d : Array UInt8, (ByteArray.mk d).size = d.size := fun _ => rfl
  simp only [app_size, z1]
  simp
  omega
end Go.Proofs.YtdledchhpjkilaaDoor.Hand
