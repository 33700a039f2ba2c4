import Derived.Test.YtdledchhpjkilaaDoorClean
import Derived.Test.YtdledchhpjkilaaDoorPFnNameConfigKeyx0
/- Names: classes of bytes, texts that are of a class, and the walks of zzAll, zzEnds, ended, all, zzIn, among. -/
namespace Go.Proofs.YtdledchhpjkilaaDoor.Hand
open Go.RowKit Go.Proofs.YtdledchhpjkilaaDoorW.PrintWords Go.Proofs.YtdledchhpjkilaaDoorW.PrintLast Go.Proofs.YtdledchhpjkilaaDoorW.PrintMore Go.Proofs.YtdledchhpjkilaaDoor.Base
set_option linter.unusedVariables false
set_option linter.unusedSimpArgs false
set_option maxRecDepth 100000
theorem infoS : (Tryd.prog.info? 9).map (fun i => (i.zero, i.size, i.bytes)) = some (some (.string ⟨#[]⟩), 1, 16) := by kernel_rfl

def small (c : UInt8) : Bool := decide (97 ≤ c.toNat ∧ c.toNat ≤ 122) || decide (48 ≤ c.toNat ∧ c.toNat ≤ 57)
def alnum (c : UInt8) : Bool := small c || decide (65 ≤ c.toNat ∧ c.toNat ≤ 90)
def digit (c : UInt8) : Bool := decide (48 ≤ c.toNat ∧ c.toNat ≤ 57)
def inSet (c : UInt8) (set : L) : Bool := set.any (fun d => d == c)
def allF (p : UInt8 → Bool) (set x : L) : Bool := x.all (fun c => p c || inSet c set) && !(x == [])
def endsF (p : UInt8 → Bool) (set x : L) : Bool := allF p set x && (p (x.getD 0 0) && p (x.getD (x.length - 1) 0))
/-- What ended asks of the byte at a place. -/
def endOk (p : UInt8 → Bool) (set x : L) (i : Nat) : Bool := p (x.getD i 0) || (!(i == 0) && (!(i == x.length - 1) && inSet (x.getD i 0) set))

theorem getD_of {α : Type} (x : List α) (d : α) {i : Nat} (h : i < x.length) : x.getD i d = x[i] := by
  rw [List.getD_eq_getElem?_getD, List.getElem?_eq_getElem h, Option.getD_some]
theorem ends_ended (p : UInt8 → Bool) (set x : L) : ((∀ i, i < x.length → endOk p set x i = true) ∧ x ≠ []) ↔ endsF p set x = true := by
  unfold endsF allF
  simp only [Bool.and_eq_true, List.all_eq_true, Bool.or_eq_true, Bool.not_eq_true', beq_eq_false_iff_ne]
  constructor
  · rintro ⟨h1, h2⟩
    have hp := List.length_pos_iff.2 h2
    have h3 := h1 0 hp
    have h4 := h1 (x.length - 1) (by omega)
    unfold endOk at h3 h4
    simp only [beq_self_eq_true, Bool.not_true, Bool.false_and, Bool.or_false, Bool.and_false] at h3 h4
    refine ⟨⟨fun c hc => ?_, h2⟩, h3, h4⟩
    obtain ⟨i, hi, rfl⟩ := List.getElem_of_mem hc
    have h5 := h1 i hi
    unfold endOk at h5
    rw [getD_of x 0 hi] at h5
    simp only [Bool.or_eq_true, Bool.and_eq_true] at h5
    rcases h5 with h5 | h5
    · exact .inl h5
    · exact .inr h5.2.2
  · rintro ⟨⟨h1, h2⟩, h3, h4⟩
    refine ⟨fun i hi => ?_, h2⟩
    unfold endOk
    simp only [Bool.or_eq_true, Bool.and_eq_true, Bool.not_eq_true', beq_eq_false_iff_ne]
    by_cases e1 : i = 0
    · left; rw [e1]; exact h3
    · by_cases e2 : i = x.length - 1
      · left; rw [e2]; exact h4
      · rw [getD_of x 0 hi]
        rcases h1 x[i] (List.getElem_mem hi) with h5 | h5
        · exact .inl h5
        · exact .inr ⟨e1, e2, h5⟩

/-- A class of bytes as a function of the program. -/
def Cls (f : FuncId) (p : UInt8 → Bool) : Prop := ∀ (c : UInt8) (w : World), Calls Tryd.prog f #[.int .u8 ((c.toNat : Nat) : Int)] w fun e w' => e = .returned (.bool (p c)) ∧ w = w'

theorem small_cases (c : UInt8) : (97 ≤ c.toNat ∧ c.toNat ≤ 122 ∧ small c = true) ∨ (122 < c.toNat ∧ small c = false) ∨ (57 < c.toNat ∧ c.toNat < 97 ∧ small c = false) ∨ (48 ≤ c.toNat ∧ c.toNat ≤ 57 ∧ small c = true) ∨ (c.toNat < 48 ∧ small c = false) := by
  unfold small
  by_cases h1 : 97 ≤ c.toNat
  · by_cases h2 : c.toNat ≤ 122
    · exact .inl ⟨h1, h2, by simp [h1, h2]⟩
    · exact .inr (.inl ⟨by omega, by simp; omega⟩)
  · by_cases h3 : 48 ≤ c.toNat
    · by_cases h4 : c.toNat ≤ 57
      · exact .inr (.inr (.inr (.inl ⟨h3, h4, by simp [h3, h4]⟩)))
      · exact .inr (.inr (.inl ⟨by omega, by omega, by simp; omega⟩))
    · exact .inr (.inr (.inr (.inr ⟨by omega, by simp; omega⟩)))

theorem Small_calls : Cls 52 small := by
  intro c w
  rcases small_cases c with ⟨h1, h2, h⟩ | ⟨h1, h⟩ | ⟨h1, h2, h⟩ | ⟨h1, h2, h⟩ | ⟨h1, h⟩
  all_goals
    rw [h]
    clear h
    go_enter Tryd.func52, Tryd.ntmps52
    go_wp2
    go_ret
    exact ⟨by first | rfl | exact congrArg (fun b : Bool => Ending.returned (Value.bool b)) (by simp; omega), rfl⟩
theorem zzLower_calls : Cls 91 small := by
  intro c w
  rcases small_cases c with ⟨h1, h2, h⟩ | ⟨h1, h⟩ | ⟨h1, h2, h⟩ | ⟨h1, h2, h⟩ | ⟨h1, h⟩
  all_goals
    rw [h]
    clear h
    go_enter Tryd.func91, Tryd.ntmps91
    go_wp2
    go_ret
    exact ⟨by first | rfl | exact congrArg (fun b : Bool => Ending.returned (Value.bool b)) (by simp; omega), rfl⟩
theorem Alnum_calls : Cls 55 alnum := by
  intro c w
  have hs := fun w => Small_calls c w
  cases h : small c with
  | true =>
    rw [h] at hs
    have HR : Aside0 (alnum c = true) := ⟨by unfold alnum; rw [h]; rfl⟩
    have HS := Aside0.mk hs; clear hs h
    go_enter Tryd.func55, Tryd.ntmps55
    go_wp2_with (first | (go_at_call 52; refine (HS.out _).mono ?_; rintro e w' ⟨rfl, rfl⟩))
    go_ret
    exact ⟨by rw [HR.out]; rfl, rfl⟩
  | false =>
    rw [h] at hs
    have HR : Aside0 (alnum c = decide (65 ≤ c.toNat ∧ c.toNat ≤ 90)) := ⟨by unfold alnum; rw [h]; rfl⟩
    have HS := Aside0.mk hs; clear hs h
    by_cases h1 : 65 ≤ c.toNat
    · by_cases h2 : c.toNat ≤ 90
      · have HQ : Aside0 (alnum c = true) := ⟨by rw [HR.out]; simp [h1, h2]⟩
        go_enter Tryd.func55, Tryd.ntmps55
        go_wp2_with (first | (go_at_call 52; refine (HS.out _).mono ?_; rintro e w' ⟨rfl, rfl⟩))
        go_ret
        exact ⟨by rw [HQ.out]; first | rfl | exact congrArg (fun b : Bool => Ending.returned (Value.bool b)) (by simp; omega), rfl⟩
      · have HQ : Aside0 (alnum c = false) := ⟨by rw [HR.out]; simp; omega⟩
        go_enter Tryd.func55, Tryd.ntmps55
        go_wp2_with (first | (go_at_call 52; refine (HS.out _).mono ?_; rintro e w' ⟨rfl, rfl⟩))
        go_ret
        exact ⟨by rw [HQ.out]; first | rfl | exact congrArg (fun b : Bool => Ending.returned (Value.bool b)) (by simp; omega), rfl⟩
    · have HQ : Aside0 (alnum c = false) := ⟨by rw [HR.out]; simp; omega⟩
      go_enter Tryd.func55, Tryd.ntmps55
      go_wp2_with (first | (go_at_call 52; refine (HS.out _).mono ?_; rintro e w' ⟨rfl, rfl⟩))
      go_ret
      exact ⟨by rw [HQ.out]; first | rfl | exact congrArg (fun b : Bool => Ending.returned (Value.bool b)) (by simp; omega), rfl⟩
theorem zzWord_calls : Cls 81 alnum := by
  intro c w
  have hs := fun w => zzLower_calls c w
  cases h : small c with
  | true =>
    rw [h] at hs
    have HR : Aside0 (alnum c = true) := ⟨by unfold alnum; rw [h]; rfl⟩
    have HS := Aside0.mk hs; clear hs h
    go_enter Tryd.func81, Tryd.ntmps81
    go_wp2_with (first | (go_at_call 91; refine (HS.out _).mono ?_; rintro e w' ⟨rfl, rfl⟩))
    go_ret
    exact ⟨by rw [HR.out]; rfl, rfl⟩
  | false =>
    rw [h] at hs
    have HR : Aside0 (alnum c = decide (65 ≤ c.toNat ∧ c.toNat ≤ 90)) := ⟨by unfold alnum; rw [h]; rfl⟩
    have HS := Aside0.mk hs; clear hs h
    by_cases h1 : 65 ≤ c.toNat
    · by_cases h2 : c.toNat ≤ 90
      · have HQ : Aside0 (alnum c = true) := ⟨by rw [HR.out]; simp [h1, h2]⟩
        go_enter Tryd.func81, Tryd.ntmps81
        go_wp2_with (first | (go_at_call 91; refine (HS.out _).mono ?_; rintro e w' ⟨rfl, rfl⟩))
        go_ret
        exact ⟨by rw [HQ.out]; first | rfl | exact congrArg (fun b : Bool => Ending.returned (Value.bool b)) (by simp; omega), rfl⟩
      · have HQ : Aside0 (alnum c = false) := ⟨by rw [HR.out]; simp; omega⟩
        go_enter Tryd.func81, Tryd.ntmps81
        go_wp2_with (first | (go_at_call 91; refine (HS.out _).mono ?_; rintro e w' ⟨rfl, rfl⟩))
        go_ret
        exact ⟨by rw [HQ.out]; first | rfl | exact congrArg (fun b : Bool => Ending.returned (Value.bool b)) (by simp; omega), rfl⟩
    · have HQ : Aside0 (alnum c = false) := ⟨by rw [HR.out]; simp; omega⟩
      go_enter Tryd.func81, Tryd.ntmps81
      go_wp2_with (first | (go_at_call 91; refine (HS.out _).mono ?_; rintro e w' ⟨rfl, rfl⟩))
      go_ret
      exact ⟨by rw [HQ.out]; first | rfl | exact congrArg (fun b : Bool => Ending.returned (Value.bool b)) (by simp; omega), rfl⟩

theorem byteIs {s : ByteArray} {x : L} (hx : s = mk x) (i : Nat) (c : UInt8) : ∀ h : i < s.size, (((s[i]'h).toNat : Int) == ((c.toNat : Nat) : Int)) = (x.getD i 0 == c) := by
  intro h
  have e : ((s[i]'h).toNat : Int) = bt s i := bt_at s i h
  rw [e, hx, bt_mk, Int.toNat_natCast, Bool.eq_iff_iff, beq_iff_eq, beq_iff_eq]
  constructor
  · intro h; exact UInt8.toNat_inj.1 (by omega)
  · intro h; rw [h]
theorem getB {s : ByteArray} {x : L} (hx : s = mk x) (i : Nat) : ∀ h : i < s.size, s[i]'h = x.getD i 0 := by
  intro h
  subst hx
  rw [mk_size] at h
  rw [getD_of x 0 h]
  rfl

/-- zzIn, among. -/
theorem inSet_step (c : UInt8) (x : L) (i : Nat) (h : i < x.length) : inSet c (x.drop i) = ((x.getD i 0 == c) || inSet c (x.drop (i + 1))) := by
  unfold inSet; rw [drop_cons h, List.any_cons]
theorem zzIn_calls (c : UInt8) (s : ByteArray) (hs : s.size ≤ 140737488351232) (w : World) :
    Calls Tryd.prog 102 #[.int .u8 ((c.toNat : Nat) : Int), .string s] w fun e w' => e = .returned (.bool (inSet c s.data.toList)) ∧ w = w' := by
  obtain ⟨x, hx, hxs⟩ : ∃ x : L, s = mk x ∧ s.size = x.length := exists_mk s
  rw [show s.data.toList = x by rw [hx]; rfl]
  have HX := Aside0.mk (And.intro hx hxs); clear hx hxs
  go_enter Tryd.func102, Tryd.ntmps102
  go_wp2
  go_loopg [5] (s.size) (fun g v5 w' => ∃ i : Nat, v5 = .int .i64 i ∧ w = w' ∧ Aside0 (g + i = s.size ∧ inSet c x = inSet c (x.drop i)))
  case atStart => exact ⟨0, rfl, rfl, ⟨by omega, by simp⟩⟩
  case round =>
    obtain ⟨i, rfl, rfl, HI⟩ := hrel
    have hi : i ≤ s.size := by have := HI.out.1; omega
    by_cases hlt : i < s.size
    · have hb := byteIs HX.out.1 i c
      have hst := inSet_step c x i (by have := HX.out.2; omega)
      by_cases hc : x.getD i 0 = c
      · have hb2 : ∀ h : i < s.size, (((s[i]'h).toNat : Int) == ((c.toNat : Nat) : Int)) = true := fun h => (hb h).trans (by simpa using hc)
        have HR : Aside0 (inSet c x = true) := ⟨by rw [HI.out.2, hst, show (x.getD i 0 == c) = true by simpa using hc]; rfl⟩
        clear hb hst hc
        go_wp2
        go_ret
        exact ⟨by rw [HR.out]; rfl, rfl⟩
      · have hb2 : ∀ h : i < s.size, (((s[i]'h).toNat : Int) == ((c.toNat : Nat) : Int)) = false := fun h => (hb h).trans (by simpa using hc)
        have HR : Aside0 (inSet c x = inSet c (x.drop (i + 1))) := ⟨by rw [HI.out.2, hst, show (x.getD i 0 == c) = false by simpa using hc]; rfl⟩
        clear hb hst hc
        go_wp2
        go_roundg (gk - 1)
        case measure => have := HI.out.1; omega
        case rel => exact ⟨i + 1, by go_num, rfl, ⟨by have := HI.out.1; omega, HR.out⟩⟩
    · have HR : Aside0 (inSet c x = false) := ⟨by rw [HI.out.2, List.drop_eq_nil_of_le (by have := HX.out.2; omega)]; rfl⟩
      go_wp2
      go_ret
      exact ⟨by rw [HR.out]; rfl, rfl⟩
theorem among_calls (c : UInt8) (s : ByteArray) (hs : s.size ≤ 140737488351232) (w : World) :
    Calls Tryd.prog 75 #[.int .u8 ((c.toNat : Nat) : Int), .string s] w fun e w' => e = .returned (.bool (inSet c s.data.toList)) ∧ w = w' := by
  obtain ⟨x, hx, hxs⟩ : ∃ x : L, s = mk x ∧ s.size = x.length := exists_mk s
  rw [show s.data.toList = x by rw [hx]; rfl]
  have HX := Aside0.mk (And.intro hx hxs); clear hx hxs
  go_enter Tryd.func75, Tryd.ntmps75
  go_wp2
  go_loopg [8] (s.size) (fun g v5 w' => ∃ i : Nat, v5 = .int .i64 i ∧ w = w' ∧ Aside0 (g + i = s.size ∧ inSet c x = inSet c (x.drop i)))
  case atStart => exact ⟨0, rfl, rfl, ⟨by omega, by simp⟩⟩
  case round =>
    obtain ⟨i, rfl, rfl, HI⟩ := hrel
    have hi : i ≤ s.size := by have := HI.out.1; omega
    by_cases hlt : i < s.size
    · have hb := byteIs HX.out.1 i c
      have hst := inSet_step c x i (by have := HX.out.2; omega)
      by_cases hc : x.getD i 0 = c
      · have hb2 : ∀ h : i < s.size, (((s[i]'h).toNat : Int) == ((c.toNat : Nat) : Int)) = true := fun h => (hb h).trans (by simpa using hc)
        have HR : Aside0 (inSet c x = true) := ⟨by rw [HI.out.2, hst, show (x.getD i 0 == c) = true by simpa using hc]; rfl⟩
        clear hb hst hc
        go_wp2
        go_ret
        exact ⟨by rw [HR.out]; rfl, rfl⟩
      · have hb2 : ∀ h : i < s.size, (((s[i]'h).toNat : Int) == ((c.toNat : Nat) : Int)) = false := fun h => (hb h).trans (by simpa using hc)
        have HR : Aside0 (inSet c x = inSet c (x.drop (i + 1))) := ⟨by rw [HI.out.2, hst, show (x.getD i 0 == c) = false by simpa using hc]; rfl⟩
        clear hb hst hc
        go_wp2
        go_roundg (gk - 1)
        case measure => have := HI.out.1; omega
        case rel => exact ⟨i + 1, by go_num, rfl, ⟨by have := HI.out.1; omega, HR.out⟩⟩
    · have HR : Aside0 (inSet c x = false) := ⟨by rw [HI.out.2, List.drop_eq_nil_of_le (by have := HX.out.2; omega)]; rfl⟩
      go_wp2
      go_ret
      exact ⟨by rw [HR.out]; rfl, rfl⟩

/-- zzAll, all. -/
theorem allF_step (p : UInt8 → Bool) (set x : L) (i : Nat) (h : i < x.length) : (x.drop i).all (fun c => p c || inSet c set) = ((p (x.getD i 0) || inSet (x.getD i 0) set) && (x.drop (i + 1)).all (fun c => p c || inSet c set)) := by
  rw [drop_cons h, List.all_cons]

theorem digit_cases (c : UInt8) : (c.toNat < 48 ∧ digit c = false) ∨ (48 ≤ c.toNat ∧ c.toNat ≤ 57 ∧ digit c = true) ∨ (57 < c.toNat ∧ digit c = false) := by
  unfold digit
  by_cases h1 : 48 ≤ c.toNat
  · by_cases h2 : c.toNat ≤ 57
    · exact .inr (.inl ⟨h1, h2, by simp [h1, h2]⟩)
    · exact .inr (.inr ⟨by omega, by simp; omega⟩)
  · exact .inl ⟨by omega, by simp; omega⟩
theorem digit58_calls : Cls 58 digit := by
  intro c w
  rcases digit_cases c with ⟨h1, h⟩ | ⟨h1, h2, h⟩ | ⟨h1, h⟩
  all_goals
    rw [h]
    clear h
    go_enter Tryd.func58, Tryd.ntmps58
    go_wp2
    go_ret
    exact ⟨by first | rfl | exact congrArg (fun b : Bool => Ending.returned (Value.bool b)) (by simp; omega), rfl⟩
theorem digit103_calls : Cls 103 digit := by
  intro c w
  rcases digit_cases c with ⟨h1, h⟩ | ⟨h1, h2, h⟩ | ⟨h1, h⟩
  all_goals
    rw [h]
    clear h
    go_enter Tryd.func103, Tryd.ntmps103
    go_wp2
    go_ret
    exact ⟨by first | rfl | exact congrArg (fun b : Bool => Ending.returned (Value.bool b)) (by simp; omega), rfl⟩
end Go.Proofs.YtdledchhpjkilaaDoor.Hand

/- zzAll over a known class of bytes, by hand. -/
namespace Go.Proofs.YtdledchhpjkilaaDoor.Hand
open Go.RowKit Go.Proofs.YtdledchhpjkilaaDoorW.PrintWords Go.Proofs.YtdledchhpjkilaaDoorW.PrintLast Go.Proofs.YtdledchhpjkilaaDoorW.PrintMore Go.Proofs.YtdledchhpjkilaaDoor.Base
set_option linter.unusedVariables false
set_option linter.unusedSimpArgs false
set_option maxRecDepth 100000

set_option maxHeartbeats 1000000 in
theorem zzAll91_calls (hf : Cls 91 small) (s t : ByteArray) (hs : s.size ≤ 140737488351232) (ht : t.size ≤ 140737488351232) (w : World) :
    Calls Tryd.prog 80 #[.string s, .func (.func 91) #[] #[], .string t] w fun e w' => e = .returned (.bool (allF small t.data.toList s.data.toList)) ∧ w = w' := by
  obtain ⟨x, hx, hxs⟩ : ∃ x : L, s = mk x ∧ s.size = x.length := exists_mk s
  obtain ⟨set, hset⟩ : ∃ set, t.data.toList = set := ⟨_, rfl⟩
  rw [show s.data.toList = x by rw [hx]; rfl, hset]
  have HIN : Aside0 (∀ (c : UInt8) (w : World), Calls Tryd.prog 102 #[.int .u8 ((c.toNat : Nat) : Int), .string t] w fun e w' => e = .returned (.bool (inSet c set)) ∧ w = w') := ⟨fun c w => by have h := zzIn_calls c t ht w; rw [hset] at h; exact h⟩
  have HX := Aside0.mk (And.intro hx hxs); have HF := Aside0.mk hf; clear hx hxs hset hf
  go_enter Tryd.func80, Tryd.ntmps80
  go_wp2
  go_loopg [7] (s.size) (fun g v5 w' => ∃ i : Nat, v5 = .int .i64 i ∧ w = w' ∧ Aside0 (g + i = s.size ∧ allF small set x = ((x.drop i).all (fun c => small c || inSet c set) && !(x == []))))
  case atStart => exact ⟨0, rfl, rfl, ⟨by omega, by simp [allF]⟩⟩
  case round =>
    obtain ⟨i, rfl, rfl, HI⟩ := hrel
    have hi : i ≤ s.size := by have := HI.out.1; omega
    by_cases hlt : i < s.size
    · have hg := getB HX.out.1 i hlt
      have hst := allF_step small set x i (by have := HX.out.2; omega)
      obtain ⟨c, hc⟩ : ∃ c, s[i]'hlt = c := ⟨_, rfl⟩
      have hcx : x.getD i 0 = c := by rw [← hc]; exact hg.symm
      rw [hcx] at hst
      have hce : ∀ h : i < s.size, s[i]'h = c := fun _ => hc
      have h1 : ∀ w, Calls Tryd.prog 91 #[.int .u8 ((c.toNat : Nat) : Int)] w fun e w' => e = .returned (.bool (small c)) ∧ w = w' := fun w => HF.out c w
      have h2 : ∀ w, Calls Tryd.prog 102 #[.int .u8 ((c.toNat : Nat) : Int), .string t] w fun e w' => e = .returned (.bool (inSet c set)) ∧ w = w' := fun w => HIN.out c w
      have HST := Aside0.mk hst
      clear hg hcx hst hc
      cases hp : small c with
      | true =>
        rw [hp] at h1
        have HR : Aside0 (allF small set x = ((x.drop (i + 1)).all (fun c => small c || inSet c set) && !(x == []))) := ⟨by rw [HI.out.2, HST.out, hp]; simp⟩
        have H1 := Aside0.mk h1; clear h1 h2 hp
        go_wp2_with (first | ((with_reducible refine (H1.out _).mono ?_); rintro e w' ⟨rfl, rfl⟩))
        go_roundg (gk - 1)
        case measure => have := HI.out.1; omega
        case rel => exact ⟨i + 1, by go_num, rfl, ⟨by have := HI.out.1; omega, HR.out⟩⟩
      | false =>
        rw [hp] at h1
        cases hq : inSet c set with
        | true =>
          rw [hq] at h2
          have HR : Aside0 (allF small set x = ((x.drop (i + 1)).all (fun c => small c || inSet c set) && !(x == []))) := ⟨by rw [HI.out.2, HST.out, hp, hq]; simp⟩
          have H1 := Aside0.mk h1; have H2 := Aside0.mk h2; clear h1 h2 hp hq
          go_wp2_with (first | ((with_reducible refine (H1.out _).mono ?_); rintro e w' ⟨rfl, rfl⟩) | ((with_reducible refine (H2.out _).mono ?_); rintro e w' ⟨rfl, rfl⟩))
          go_roundg (gk - 1)
          case measure => have := HI.out.1; omega
          case rel => exact ⟨i + 1, by go_num, rfl, ⟨by have := HI.out.1; omega, HR.out⟩⟩
        | false =>
          rw [hq] at h2
          have HR : Aside0 (allF small set x = false) := ⟨by rw [HI.out.2, HST.out, hp, hq]; simp⟩
          have H1 := Aside0.mk h1; have H2 := Aside0.mk h2; clear h1 h2 hp hq
          go_wp2_with (first | ((with_reducible refine (H1.out _).mono ?_); rintro e w' ⟨rfl, rfl⟩) | ((with_reducible refine (H2.out _).mono ?_); rintro e w' ⟨rfl, rfl⟩))
          go_ret
          exact ⟨by rw [HR.out]; rfl, rfl⟩
    · have HR : Aside0 (allF small set x = !(x == [])) := ⟨by rw [HI.out.2, List.drop_eq_nil_of_le (by have := HX.out.2; omega)]; simp⟩
      have sl : s.toList = x := by rw [HX.out.1, mk_toList]
      by_cases he : x = []
      · have t1 : (s.toList == ([] : List UInt8)) = true := by rw [sl, he]; rfl
        have HQ : Aside0 (allF small set x = false) := ⟨by rw [HR.out, he]; rfl⟩
        clear sl he
        go_wp2
        go_ret
        exact ⟨by rw [HQ.out]; rfl, rfl⟩
      · have t1 : (s.toList == ([] : List UInt8)) = false := by rw [sl]; simpa using he
        have HQ : Aside0 (allF small set x = true) := ⟨by rw [HR.out]; simpa using he⟩
        clear sl he
        go_wp2
        go_ret
        exact ⟨by rw [HQ.out]; rfl, rfl⟩
end Go.Proofs.YtdledchhpjkilaaDoor.Hand

/- zzAll over a known class of bytes, by hand. -/
namespace Go.Proofs.YtdledchhpjkilaaDoor.Hand
open Go.RowKit Go.Proofs.YtdledchhpjkilaaDoorW.PrintWords Go.Proofs.YtdledchhpjkilaaDoorW.PrintLast Go.Proofs.YtdledchhpjkilaaDoorW.PrintMore Go.Proofs.YtdledchhpjkilaaDoor.Base
set_option linter.unusedVariables false
set_option linter.unusedSimpArgs false
set_option maxRecDepth 100000

set_option maxHeartbeats 1000000 in
theorem zzAll81_calls (hf : Cls 81 alnum) (s t : ByteArray) (hs : s.size ≤ 140737488351232) (ht : t.size ≤ 140737488351232) (w : World) :
    Calls Tryd.prog 80 #[.string s, .func (.func 81) #[] #[], .string t] w fun e w' => e = .returned (.bool (allF alnum t.data.toList s.data.toList)) ∧ w = w' := by
  obtain ⟨x, hx, hxs⟩ : ∃ x : L, s = mk x ∧ s.size = x.length := exists_mk s
  obtain ⟨set, hset⟩ : ∃ set, t.data.toList = set := ⟨_, rfl⟩
  rw [show s.data.toList = x by rw [hx]; rfl, hset]
  have HIN : Aside0 (∀ (c : UInt8) (w : World), Calls Tryd.prog 102 #[.int .u8 ((c.toNat : Nat) : Int), .string t] w fun e w' => e = .returned (.bool (inSet c set)) ∧ w = w') := ⟨fun c w => by have h := zzIn_calls c t ht w; rw [hset] at h; exact h⟩
  have HX := Aside0.mk (And.intro hx hxs); have HF := Aside0.mk hf; clear hx hxs hset hf
  go_enter Tryd.func80, Tryd.ntmps80
  go_wp2
  go_loopg [7] (s.size) (fun g v5 w' => ∃ i : Nat, v5 = .int .i64 i ∧ w = w' ∧ Aside0 (g + i = s.size ∧ allF alnum set x = ((x.drop i).all (fun c => alnum c || inSet c set) && !(x == []))))
  case atStart => exact ⟨0, rfl, rfl, ⟨by omega, by simp [allF]⟩⟩
  case round =>
    obtain ⟨i, rfl, rfl, HI⟩ := hrel
    have hi : i ≤ s.size := by have := HI.out.1; omega
    by_cases hlt : i < s.size
    · have hg := getB HX.out.1 i hlt
      have hst := allF_step alnum set x i (by have := HX.out.2; omega)
      obtain ⟨c, hc⟩ : ∃ c, s[i]'hlt = c := ⟨_, rfl⟩
      have hcx : x.getD i 0 = c := by rw [← hc]; exact hg.symm
      rw [hcx] at hst
      have hce : ∀ h : i < s.size, s[i]'h = c := fun _ => hc
      have h1 : ∀ w, Calls Tryd.prog 81 #[.int .u8 ((c.toNat : Nat) : Int)] w fun e w' => e = .returned (.bool (alnum c)) ∧ w = w' := fun w => HF.out c w
      have h2 : ∀ w, Calls Tryd.prog 102 #[.int .u8 ((c.toNat : Nat) : Int), .string t] w fun e w' => e = .returned (.bool (inSet c set)) ∧ w = w' := fun w => HIN.out c w
      have HST := Aside0.mk hst
      clear hg hcx hst hc
      cases hp : alnum c with
      | true =>
        rw [hp] at h1
        have HR : Aside0 (allF alnum set x = ((x.drop (i + 1)).all (fun c => alnum c || inSet c set) && !(x == []))) := ⟨by rw [HI.out.2, HST.out, hp]; simp⟩
        have H1 := Aside0.mk h1; clear h1 h2 hp
        go_wp2_with (first | ((with_reducible refine (H1.out _).mono ?_); rintro e w' ⟨rfl, rfl⟩))
        go_roundg (gk - 1)
        case measure => have := HI.out.1; omega
        case rel => exact ⟨i + 1, by go_num, rfl, ⟨by have := HI.out.1; omega, HR.out⟩⟩
      | false =>
        rw [hp] at h1
        cases hq : inSet c set with
        | true =>
          rw [hq] at h2
          have HR : Aside0 (allF alnum set x = ((x.drop (i + 1)).all (fun c => alnum c || inSet c set) && !(x == []))) := ⟨by rw [HI.out.2, HST.out, hp, hq]; simp⟩
          have H1 := Aside0.mk h1; have H2 := Aside0.mk h2; clear h1 h2 hp hq
          go_wp2_with (first | ((with_reducible refine (H1.out _).mono ?_); rintro e w' ⟨rfl, rfl⟩) | ((with_reducible refine (H2.out _).mono ?_); rintro e w' ⟨rfl, rfl⟩))
          go_roundg (gk - 1)
          case measure => have := HI.out.1; omega
          case rel => exact ⟨i + 1, by go_num, rfl, ⟨by have := HI.out.1; omega, HR.out⟩⟩
        | false =>
          rw [hq] at h2
          have HR : Aside0 (allF alnum set x = false) := ⟨by rw [HI.out.2, HST.out, hp, hq]; simp⟩
          have H1 := Aside0.mk h1; have H2 := Aside0.mk h2; clear h1 h2 hp hq
          go_wp2_with (first | ((with_reducible refine (H1.out _).mono ?_); rintro e w' ⟨rfl, rfl⟩) | ((with_reducible refine (H2.out _).mono ?_); rintro e w' ⟨rfl, rfl⟩))
          go_ret
          exact ⟨by rw [HR.out]; rfl, rfl⟩
    · have HR : Aside0 (allF alnum set x = !(x == [])) := ⟨by rw [HI.out.2, List.drop_eq_nil_of_le (by have := HX.out.2; omega)]; simp⟩
      have sl : s.toList = x := by rw [HX.out.1, mk_toList]
      by_cases he : x = []
      · have t1 : (s.toList == ([] : List UInt8)) = true := by rw [sl, he]; rfl
        have HQ : Aside0 (allF alnum set x = false) := ⟨by rw [HR.out, he]; rfl⟩
        clear sl he
        go_wp2
        go_ret
        exact ⟨by rw [HQ.out]; rfl, rfl⟩
      · have t1 : (s.toList == ([] : List UInt8)) = false := by rw [sl]; simpa using he
        have HQ : Aside0 (allF alnum set x = true) := ⟨by rw [HR.out]; simpa using he⟩
        clear sl he
        go_wp2
        go_ret
        exact ⟨by rw [HQ.out]; rfl, rfl⟩
end Go.Proofs.YtdledchhpjkilaaDoor.Hand

/- zzAll over a known class of bytes, by hand. -/
namespace Go.Proofs.YtdledchhpjkilaaDoor.Hand
open Go.RowKit Go.Proofs.YtdledchhpjkilaaDoorW.PrintWords Go.Proofs.YtdledchhpjkilaaDoorW.PrintLast Go.Proofs.YtdledchhpjkilaaDoorW.PrintMore Go.Proofs.YtdledchhpjkilaaDoor.Base
set_option linter.unusedVariables false
set_option linter.unusedSimpArgs false
set_option maxRecDepth 100000

set_option maxHeartbeats 1000000 in
theorem zzAll103_calls (hf : Cls 103 digit) (s t : ByteArray) (hs : s.size ≤ 140737488351232) (ht : t.size ≤ 140737488351232) (w : World) :
    Calls Tryd.prog 80 #[.string s, .func (.func 103) #[] #[], .string t] w fun e w' => e = .returned (.bool (allF digit t.data.toList s.data.toList)) ∧ w = w' := by
  obtain ⟨x, hx, hxs⟩ : ∃ x : L, s = mk x ∧ s.size = x.length := exists_mk s
  obtain ⟨set, hset⟩ : ∃ set, t.data.toList = set := ⟨_, rfl⟩
  rw [show s.data.toList = x by rw [hx]; rfl, hset]
  have HIN : Aside0 (∀ (c : UInt8) (w : World), Calls Tryd.prog 102 #[.int .u8 ((c.toNat : Nat) : Int), .string t] w fun e w' => e = .returned (.bool (inSet c set)) ∧ w = w') := ⟨fun c w => by have h := zzIn_calls c t ht w; rw [hset] at h; exact h⟩
  have HX := Aside0.mk (And.intro hx hxs); have HF := Aside0.mk hf; clear hx hxs hset hf
  go_enter Tryd.func80, Tryd.ntmps80
  go_wp2
  go_loopg [7] (s.size) (fun g v5 w' => ∃ i : Nat, v5 = .int .i64 i ∧ w = w' ∧ Aside0 (g + i = s.size ∧ allF digit set x = ((x.drop i).all (fun c => digit c || inSet c set) && !(x == []))))
  case atStart => exact ⟨0, rfl, rfl, ⟨by omega, by simp [allF]⟩⟩
  case round =>
    obtain ⟨i, rfl, rfl, HI⟩ := hrel
    have hi : i ≤ s.size := by have := HI.out.1; omega
    by_cases hlt : i < s.size
    · have hg := getB HX.out.1 i hlt
      have hst := allF_step digit set x i (by have := HX.out.2; omega)
      obtain ⟨c, hc⟩ : ∃ c, s[i]'hlt = c := ⟨_, rfl⟩
      have hcx : x.getD i 0 = c := by rw [← hc]; exact hg.symm
      rw [hcx] at hst
      have hce : ∀ h : i < s.size, s[i]'h = c := fun _ => hc
      have h1 : ∀ w, Calls Tryd.prog 103 #[.int .u8 ((c.toNat : Nat) : Int)] w fun e w' => e = .returned (.bool (digit c)) ∧ w = w' := fun w => HF.out c w
      have h2 : ∀ w, Calls Tryd.prog 102 #[.int .u8 ((c.toNat : Nat) : Int), .string t] w fun e w' => e = .returned (.bool (inSet c set)) ∧ w = w' := fun w => HIN.out c w
      have HST := Aside0.mk hst
      clear hg hcx hst hc
      cases hp : digit c with
      | true =>
        rw [hp] at h1
        have HR : Aside0 (allF digit set x = ((x.drop (i + 1)).all (fun c => digit c || inSet c set) && !(x == []))) := ⟨by rw [HI.out.2, HST.out, hp]; simp⟩
        have H1 := Aside0.mk h1; clear h1 h2 hp
        go_wp2_with (first | ((with_reducible refine (H1.out _).mono ?_); rintro e w' ⟨rfl, rfl⟩))
        go_roundg (gk - 1)
        case measure => have := HI.out.1; omega
        case rel => exact ⟨i + 1, by go_num, rfl, ⟨by have := HI.out.1; omega, HR.out⟩⟩
      | false =>
        rw [hp] at h1
        cases hq : inSet c set with
        | true =>
          rw [hq] at h2
          have HR : Aside0 (allF digit set x = ((x.drop (i + 1)).all (fun c => digit c || inSet c set) && !(x == []))) := ⟨by rw [HI.out.2, HST.out, hp, hq]; simp⟩
          have H1 := Aside0.mk h1; have H2 := Aside0.mk h2; clear h1 h2 hp hq
          go_wp2_with (first | ((with_reducible refine (H1.out _).mono ?_); rintro e w' ⟨rfl, rfl⟩) | ((with_reducible refine (H2.out _).mono ?_); rintro e w' ⟨rfl, rfl⟩))
          go_roundg (gk - 1)
          case measure => have := HI.out.1; omega
          case rel => exact ⟨i + 1, by go_num, rfl, ⟨by have := HI.out.1; omega, HR.out⟩⟩
        | false =>
          rw [hq] at h2
          have HR : Aside0 (allF digit set x = false) := ⟨by rw [HI.out.2, HST.out, hp, hq]; simp⟩
          have H1 := Aside0.mk h1; have H2 := Aside0.mk h2; clear h1 h2 hp hq
          go_wp2_with (first | ((with_reducible refine (H1.out _).mono ?_); rintro e w' ⟨rfl, rfl⟩) | ((with_reducible refine (H2.out _).mono ?_); rintro e w' ⟨rfl, rfl⟩))
          go_ret
          exact ⟨by rw [HR.out]; rfl, rfl⟩
    · have HR : Aside0 (allF digit set x = !(x == [])) := ⟨by rw [HI.out.2, List.drop_eq_nil_of_le (by have := HX.out.2; omega)]; simp⟩
      have sl : s.toList = x := by rw [HX.out.1, mk_toList]
      by_cases he : x = []
      · have t1 : (s.toList == ([] : List UInt8)) = true := by rw [sl, he]; rfl
        have HQ : Aside0 (allF digit set x = false) := ⟨by rw [HR.out, he]; rfl⟩
        clear sl he
        go_wp2
        go_ret
        exact ⟨by rw [HQ.out]; rfl, rfl⟩
      · have t1 : (s.toList == ([] : List UInt8)) = false := by rw [sl]; simpa using he
        have HQ : Aside0 (allF digit set x = true) := ⟨by rw [HR.out]; simpa using he⟩
        clear sl he
        go_wp2
        go_ret
        exact ⟨by rw [HQ.out]; rfl, rfl⟩
end Go.Proofs.YtdledchhpjkilaaDoor.Hand

/- zzEnds over a known class of bytes, by hand. -/
namespace Go.Proofs.YtdledchhpjkilaaDoor.Hand
open Go.RowKit Go.Proofs.YtdledchhpjkilaaDoorW.PrintWords Go.Proofs.YtdledchhpjkilaaDoorW.PrintLast Go.Proofs.YtdledchhpjkilaaDoorW.PrintMore Go.Proofs.YtdledchhpjkilaaDoor.Base
set_option linter.unusedVariables false
set_option linter.unusedSimpArgs false
set_option maxRecDepth 100000

set_option maxHeartbeats 2000000 in
theorem zzEnds91_calls (hf : Cls 91 small) (s t : ByteArray) (hs : s.size ≤ 140737488351232) (ht : t.size ≤ 140737488351232) (w : World) :
    Calls Tryd.prog 101 #[.string s, .func (.func 91) #[] #[], .string t] w fun e w' => e = .returned (.bool (endsF small t.data.toList s.data.toList)) ∧ w = w' := by
  obtain ⟨x, hx, hxs⟩ : ∃ x : L, s = mk x ∧ s.size = x.length := exists_mk s
  obtain ⟨set, hset⟩ : ∃ set, t.data.toList = set := ⟨_, rfl⟩
  have hsd : s.data.toList = x := by rw [hx]; rfl
  rw [hsd, hset]
  have h1 : ∀ w, Calls Tryd.prog 80 #[.string s, .func (.func 91) #[] #[], .string t] w fun e w' => e = .returned (.bool (allF small set x)) ∧ w = w' := fun w => by have h := zzAll91_calls hf s t hs ht w; rw [hsd, hset] at h; exact h
  have hres : endsF small set x = (allF small set x && (small (x.getD 0 0) && small (x.getD (x.length - 1) 0))) := rfl
  cases ha : allF small set x with
  | false =>
    rw [ha] at h1 hres
    have HR : Aside0 (endsF small set x = false) := ⟨by rw [hres]; rfl⟩
    have H1 := Aside0.mk h1; clear h1 ha hres hx hxs hsd hset hf
    go_enter Tryd.func101, Tryd.ntmps101
    go_wp2_with (first | ((with_reducible refine (H1.out _).mono ?_); rintro e w' ⟨rfl, rfl⟩))
    go_ret
    exact ⟨by rw [HR.out]; rfl, rfl⟩
  | true =>
    rw [ha] at h1 hres
    have hne : x ≠ [] := by
      intro h; rw [h] at ha; simp [allF] at ha
    have hpos : 0 < s.size := by rw [hxs]; exact List.length_pos_iff.2 hne
    have hlast : s.size - 1 < s.size := by omega
    have g1 := getB hx 0 hpos
    have g2 := getB hx (s.size - 1) hlast
    obtain ⟨c, hc⟩ : ∃ c, s[0]'hpos = c := ⟨_, rfl⟩
    obtain ⟨d, hd⟩ : ∃ d, s[s.size - 1]'hlast = d := ⟨_, rfl⟩
    have hce : ∀ h : 0 < s.size, s[0]'h = c := fun _ => hc
    have hde : ∀ h : s.size - 1 < s.size, s[s.size - 1]'h = d := fun _ => hd
    have k1 : ∀ w, Calls Tryd.prog 91 #[.int .u8 ((c.toNat : Nat) : Int)] w fun e w' => e = .returned (.bool (small c)) ∧ w = w' := fun w => hf c w
    have k2 : ∀ w, Calls Tryd.prog 91 #[.int .u8 ((d.toNat : Nat) : Int)] w fun e w' => e = .returned (.bool (small d)) ∧ w = w' := fun w => hf d w
    have hres2 : endsF small set x = (small c && small d) := by
      rw [hres, ← hc, ← hd, g1, g2, hxs]; rfl
    have HR := Aside0.mk hres2
    have H1 := Aside0.mk h1
    clear h1 ha hres hx hxs hsd hset hf g1 g2 hres2 hne hc hd
    cases hp : small c with
    | false =>
      rw [hp] at k1
      have HQ : Aside0 (endsF small set x = false) := ⟨by rw [HR.out, hp]; rfl⟩
      have K1 := Aside0.mk k1; clear k1 k2 hp
      go_enter Tryd.func101, Tryd.ntmps101
      go_wp2_with (first | ((with_reducible refine (H1.out _).mono ?_); rintro e w' ⟨rfl, rfl⟩) | ((with_reducible refine (K1.out _).mono ?_); rintro e w' ⟨rfl, rfl⟩))
      go_ret
      exact ⟨by rw [HQ.out]; rfl, rfl⟩
    | true =>
      rw [hp] at k1
      obtain ⟨b, hb⟩ : ∃ b, small d = b := ⟨_, rfl⟩
      rw [hb] at k2
      have HQ : Aside0 (endsF small set x = b) := ⟨by rw [HR.out, hp, hb]; rfl⟩
      have K1 := Aside0.mk k1; have K2 := Aside0.mk k2; clear k1 k2 hp hb
      go_enter Tryd.func101, Tryd.ntmps101
      go_wp2_with (first | ((with_reducible refine (H1.out _).mono ?_); rintro e w' ⟨rfl, rfl⟩) | ((with_reducible refine (K1.out _).mono ?_); rintro e w' ⟨rfl, rfl⟩) | ((with_reducible refine (K2.out _).mono ?_); rintro e w' ⟨rfl, rfl⟩))
      go_ret
      exact ⟨by rw [HQ.out]; rfl, rfl⟩
end Go.Proofs.YtdledchhpjkilaaDoor.Hand

/- zzEnds over a known class of bytes, by hand. -/
namespace Go.Proofs.YtdledchhpjkilaaDoor.Hand
open Go.RowKit Go.Proofs.YtdledchhpjkilaaDoorW.PrintWords Go.Proofs.YtdledchhpjkilaaDoorW.PrintLast Go.Proofs.YtdledchhpjkilaaDoorW.PrintMore Go.Proofs.YtdledchhpjkilaaDoor.Base
set_option linter.unusedVariables false
set_option linter.unusedSimpArgs false
set_option maxRecDepth 100000

set_option maxHeartbeats 2000000 in
theorem zzEnds81_calls (hf : Cls 81 alnum) (s t : ByteArray) (hs : s.size ≤ 140737488351232) (ht : t.size ≤ 140737488351232) (w : World) :
    Calls Tryd.prog 101 #[.string s, .func (.func 81) #[] #[], .string t] w fun e w' => e = .returned (.bool (endsF alnum t.data.toList s.data.toList)) ∧ w = w' := by
  obtain ⟨x, hx, hxs⟩ : ∃ x : L, s = mk x ∧ s.size = x.length := exists_mk s
  obtain ⟨set, hset⟩ : ∃ set, t.data.toList = set := ⟨_, rfl⟩
  have hsd : s.data.toList = x := by rw [hx]; rfl
  rw [hsd, hset]
  have h1 : ∀ w, Calls Tryd.prog 80 #[.string s, .func (.func 81) #[] #[], .string t] w fun e w' => e = .returned (.bool (allF alnum set x)) ∧ w = w' := fun w => by have h := zzAll81_calls hf s t hs ht w; rw [hsd, hset] at h; exact h
  have hres : endsF alnum set x = (allF alnum set x && (alnum (x.getD 0 0) && alnum (x.getD (x.length - 1) 0))) := rfl
  cases ha : allF alnum set x with
  | false =>
    rw [ha] at h1 hres
    have HR : Aside0 (endsF alnum set x = false) := ⟨by rw [hres]; rfl⟩
    have H1 := Aside0.mk h1; clear h1 ha hres hx hxs hsd hset hf
    go_enter Tryd.func101, Tryd.ntmps101
    go_wp2_with (first | ((with_reducible refine (H1.out _).mono ?_); rintro e w' ⟨rfl, rfl⟩))
    go_ret
    exact ⟨by rw [HR.out]; rfl, rfl⟩
  | true =>
    rw [ha] at h1 hres
    have hne : x ≠ [] := by
      intro h; rw [h] at ha; simp [allF] at ha
    have hpos : 0 < s.size := by rw [hxs]; exact List.length_pos_iff.2 hne
    have hlast : s.size - 1 < s.size := by omega
    have g1 := getB hx 0 hpos
    have g2 := getB hx (s.size - 1) hlast
    obtain ⟨c, hc⟩ : ∃ c, s[0]'hpos = c := ⟨_, rfl⟩
    obtain ⟨d, hd⟩ : ∃ d, s[s.size - 1]'hlast = d := ⟨_, rfl⟩
    have hce : ∀ h : 0 < s.size, s[0]'h = c := fun _ => hc
    have hde : ∀ h : s.size - 1 < s.size, s[s.size - 1]'h = d := fun _ => hd
    have k1 : ∀ w, Calls Tryd.prog 81 #[.int .u8 ((c.toNat : Nat) : Int)] w fun e w' => e = .returned (.bool (alnum c)) ∧ w = w' := fun w => hf c w
    have k2 : ∀ w, Calls Tryd.prog 81 #[.int .u8 ((d.toNat : Nat) : Int)] w fun e w' => e = .returned (.bool (alnum d)) ∧ w = w' := fun w => hf d w
    have hres2 : endsF alnum set x = (alnum c && alnum d) := by
      rw [hres, ← hc, ← hd, g1, g2, hxs]; rfl
    have HR := Aside0.mk hres2
    have H1 := Aside0.mk h1
    clear h1 ha hres hx hxs hsd hset hf g1 g2 hres2 hne hc hd
    cases hp : alnum c with
    | false =>
      rw [hp] at k1
      have HQ : Aside0 (endsF alnum set x = false) := ⟨by rw [HR.out, hp]; rfl⟩
      have K1 := Aside0.mk k1; clear k1 k2 hp
      go_enter Tryd.func101, Tryd.ntmps101
      go_wp2_with (first | ((with_reducible refine (H1.out _).mono ?_); rintro e w' ⟨rfl, rfl⟩) | ((with_reducible refine (K1.out _).mono ?_); rintro e w' ⟨rfl, rfl⟩))
      go_ret
      exact ⟨by rw [HQ.out]; rfl, rfl⟩
    | true =>
      rw [hp] at k1
      obtain ⟨b, hb⟩ : ∃ b, alnum d = b := ⟨_, rfl⟩
      rw [hb] at k2
      have HQ : Aside0 (endsF alnum set x = b) := ⟨by rw [HR.out, hp, hb]; rfl⟩
      have K1 := Aside0.mk k1; have K2 := Aside0.mk k2; clear k1 k2 hp hb
      go_enter Tryd.func101, Tryd.ntmps101
      go_wp2_with (first | ((with_reducible refine (H1.out _).mono ?_); rintro e w' ⟨rfl, rfl⟩) | ((with_reducible refine (K1.out _).mono ?_); rintro e w' ⟨rfl, rfl⟩) | ((with_reducible refine (K2.out _).mono ?_); rintro e w' ⟨rfl, rfl⟩))
      go_ret
      exact ⟨by rw [HQ.out]; rfl, rfl⟩
end Go.Proofs.YtdledchhpjkilaaDoor.Hand

/- ended over a known class of bytes, by hand. -/
namespace Go.Proofs.YtdledchhpjkilaaDoor.Hand
open Go.RowKit Go.Proofs.YtdledchhpjkilaaDoorW.PrintWords Go.Proofs.YtdledchhpjkilaaDoorW.PrintLast Go.Proofs.YtdledchhpjkilaaDoorW.PrintMore Go.Proofs.YtdledchhpjkilaaDoor.Base
set_option linter.unusedVariables false
set_option linter.unusedSimpArgs false
set_option maxRecDepth 100000

set_option maxHeartbeats 2000000 in
theorem ended52_calls (hf : Cls 52 small) (s t : ByteArray) (hs : s.size ≤ 140737488351232) (ht : t.size ≤ 140737488351232) (w : World) :
    Calls Tryd.prog 51 #[.string s, .func (.func 52) #[] #[], .string t] w fun e w' => e = .returned (.bool (endsF small t.data.toList s.data.toList)) ∧ w = w' := by
  obtain ⟨x, hx, hxs⟩ : ∃ x : L, s = mk x ∧ s.size = x.length := exists_mk s
  obtain ⟨set, hset⟩ : ∃ set, t.data.toList = set := ⟨_, rfl⟩
  rw [show s.data.toList = x by rw [hx]; rfl, hset]
  have HIN : Aside0 (∀ (c : UInt8) (w : World), Calls Tryd.prog 75 #[.int .u8 ((c.toNat : Nat) : Int), .string t] w fun e w' => e = .returned (.bool (inSet c set)) ∧ w = w') := ⟨fun c w => by have h := among_calls c t ht w; rw [hset] at h; exact h⟩
  have HX := Aside0.mk (And.intro hx hxs); have HF := Aside0.mk hf; clear hx hxs hset hf
  go_enter Tryd.func51, Tryd.ntmps51
  go_wp2
  go_loopg [10] (s.size) (fun g v5 w' => ∃ i : Nat, v5 = .int .i64 i ∧ w = w' ∧ Aside0 (g + i = s.size ∧ ∀ j, j < i → endOk small set x j = true))
  case atStart => exact ⟨0, rfl, rfl, ⟨by omega, fun j hj => by omega⟩⟩
  case round =>
    obtain ⟨i, rfl, rfl, HI⟩ := hrel
    have hi : i ≤ s.size := by have := HI.out.1; omega
    by_cases hlt : i < s.size
    · have hg := getB HX.out.1 i hlt
      obtain ⟨c, hc⟩ : ∃ c, s[i]'hlt = c := ⟨_, rfl⟩
      have hcx : x.getD i 0 = c := by rw [← hc]; exact hg.symm
      have hce : ∀ h : i < s.size, s[i]'h = c := fun _ => hc
      have h1 : ∀ w, Calls Tryd.prog 52 #[.int .u8 ((c.toNat : Nat) : Int)] w fun e w' => e = .returned (.bool (small c)) ∧ w = w' := fun w => HF.out c w
      have h2 : ∀ w, Calls Tryd.prog 75 #[.int .u8 ((c.toNat : Nat) : Int), .string t] w fun e w' => e = .returned (.bool (inSet c set)) ∧ w = w' := fun w => HIN.out c w
      have hek : endOk small set x i = (small c || (!(i == 0) && (!(i == s.size - 1) && inSet c set))) := by unfold endOk; rw [hcx, HX.out.2]
      have hno : endOk small set x i = false → endsF small set x = false := fun h => by
        rw [Bool.eq_false_iff]
        intro h3
        have h4 := ((ends_ended small set x).2 h3).1 i (by have := HX.out.2; omega)
        rw [h] at h4; exact absurd h4 (by decide)
      have hyes : endOk small set x i = true → ∀ j, j < i + 1 → endOk small set x j = true := fun h j hj => by
        by_cases e : j = i
        · rw [e]; exact h
        · exact HI.out.2 j (by omega)
      have HYES := Aside0.mk hyes; have HNO := Aside0.mk hno; have HEK := Aside0.mk hek
      clear hg hcx hc hek hno hyes
      cases hp : small c with
      | true =>
        rw [hp] at h1
        have HR : Aside0 (endOk small set x i = true) := ⟨by rw [HEK.out, hp]; rfl⟩
        have H1 := Aside0.mk h1; clear h1 h2 hp
        go_wp2_with (first | ((with_reducible refine (H1.out _).mono ?_); rintro e w' ⟨rfl, rfl⟩))
        go_roundg (gk - 1)
        case measure => have := HI.out.1; omega
        case rel => exact ⟨i + 1, by go_num, rfl, ⟨by have := HI.out.1; omega, HYES.out HR.out⟩⟩
      | false =>
        rw [hp] at h1
        by_cases hi0 : i = 0
        · subst hi0
          have HR : Aside0 (endsF small set x = false) := ⟨HNO.out (by rw [HEK.out, hp]; rfl)⟩
          have H1 := Aside0.mk h1; clear h1 h2 hp
          go_wp2_with (first | ((with_reducible refine (H1.out _).mono ?_); rintro e w' ⟨rfl, rfl⟩))
          go_ret
          exact ⟨by rw [HR.out]; rfl, rfl⟩
        · by_cases hil : i = s.size - 1
          · have HR : Aside0 (endsF small set x = false) := ⟨HNO.out (by rw [HEK.out, hp, show (i == s.size - 1) = true by simpa using hil]; simp)⟩
            have H1 := Aside0.mk h1
            have hil2 : s.size ≤ i + 1 := by omega
            have hi02 : 0 < i := by omega
            have e1 : (((i : Nat) : Int) == 0) = false := by rw [beq_eq_false_iff_ne]; omega
            have e2 : (((i : Nat) : Int) == ((s.size : Nat) : Int) - 1) = true := by rw [beq_iff_eq]; omega
            clear h1 h2 hp hil hi0
            go_wp2_with (first | ((with_reducible refine (H1.out _).mono ?_); rintro e w' ⟨rfl, rfl⟩))
            go_ret
            exact ⟨by rw [HR.out]; rfl, rfl⟩
          · have hil2 : i + 1 < s.size := by omega
            have hi02 : 0 < i := by omega
            have e1 : (((i : Nat) : Int) == 0) = false := by rw [beq_eq_false_iff_ne]; omega
            have e2 : (((i : Nat) : Int) == ((s.size : Nat) : Int) - 1) = false := by rw [beq_eq_false_iff_ne]; omega
            have hek2 : endOk small set x i = inSet c set := by
              rw [HEK.out, hp, show (i == 0) = false by simpa using hi0, show (i == s.size - 1) = false by simpa using hil]; simp
            cases hq : inSet c set with
            | true =>
              rw [hq] at h2 hek2
              have HR := Aside0.mk hek2
              have H1 := Aside0.mk h1; have H2 := Aside0.mk h2; clear h1 h2 hp hq hek2 hi0 hil
              go_wp2_with (first | ((with_reducible refine (H1.out _).mono ?_); rintro e w' ⟨rfl, rfl⟩) | ((with_reducible refine (H2.out _).mono ?_); rintro e w' ⟨rfl, rfl⟩))
              go_roundg (gk - 1)
              case measure => have := HI.out.1; omega
              case rel => exact ⟨i + 1, by go_num, rfl, ⟨by have := HI.out.1; omega, HYES.out HR.out⟩⟩
            | false =>
              rw [hq] at h2 hek2
              have HR : Aside0 (endsF small set x = false) := ⟨HNO.out hek2⟩
              have H1 := Aside0.mk h1; have H2 := Aside0.mk h2; clear h1 h2 hp hq hek2 hi0 hil
              go_wp2_with (first | ((with_reducible refine (H1.out _).mono ?_); rintro e w' ⟨rfl, rfl⟩) | ((with_reducible refine (H2.out _).mono ?_); rintro e w' ⟨rfl, rfl⟩))
              go_ret
              exact ⟨by rw [HR.out]; rfl, rfl⟩
    · have hall : ∀ j, j < x.length → endOk small set x j = true := fun j hj => HI.out.2 j (by have := HX.out.2; omega)
      have sl : s.toList = x := by rw [HX.out.1, mk_toList]
      by_cases he : x = []
      · have t1 : (s.toList == ([] : List UInt8)) = true := by rw [sl, he]; rfl
        have HQ : Aside0 (endsF small set x = false) := ⟨by rw [he]; rfl⟩
        clear sl he hall
        go_wp2
        go_ret
        exact ⟨by rw [HQ.out]; rfl, rfl⟩
      · have t1 : (s.toList == ([] : List UInt8)) = false := by rw [sl]; simpa using he
        have HQ : Aside0 (endsF small set x = true) := ⟨(ends_ended small set x).1 ⟨hall, he⟩⟩
        clear sl he hall
        go_wp2
        go_ret
        exact ⟨by rw [HQ.out]; rfl, rfl⟩
end Go.Proofs.YtdledchhpjkilaaDoor.Hand

/- ended over a known class of bytes, by hand. -/
namespace Go.Proofs.YtdledchhpjkilaaDoor.Hand
open Go.RowKit Go.Proofs.YtdledchhpjkilaaDoorW.PrintWords Go.Proofs.YtdledchhpjkilaaDoorW.PrintLast Go.Proofs.YtdledchhpjkilaaDoorW.PrintMore Go.Proofs.YtdledchhpjkilaaDoor.Base
set_option linter.unusedVariables false
set_option linter.unusedSimpArgs false
set_option maxRecDepth 100000

set_option maxHeartbeats 2000000 in
theorem ended55_calls (hf : Cls 55 alnum) (s t : ByteArray) (hs : s.size ≤ 140737488351232) (ht : t.size ≤ 140737488351232) (w : World) :
    Calls Tryd.prog 51 #[.string s, .func (.func 55) #[] #[], .string t] w fun e w' => e = .returned (.bool (endsF alnum t.data.toList s.data.toList)) ∧ w = w' := by
  obtain ⟨x, hx, hxs⟩ : ∃ x : L, s = mk x ∧ s.size = x.length := exists_mk s
  obtain ⟨set, hset⟩ : ∃ set, t.data.toList = set := ⟨_, rfl⟩
  rw [show s.data.toList = x by rw [hx]; rfl, hset]
  have HIN : Aside0 (∀ (c : UInt8) (w : World), Calls Tryd.prog 75 #[.int .u8 ((c.toNat : Nat) : Int), .string t] w fun e w' => e = .returned (.bool (inSet c set)) ∧ w = w') := ⟨fun c w => by have h := among_calls c t ht w; rw [hset] at h; exact h⟩
  have HX := Aside0.mk (And.intro hx hxs); have HF := Aside0.mk hf; clear hx hxs hset hf
  go_enter Tryd.func51, Tryd.ntmps51
  go_wp2
  go_loopg [10] (s.size) (fun g v5 w' => ∃ i : Nat, v5 = .int .i64 i ∧ w = w' ∧ Aside0 (g + i = s.size ∧ ∀ j, j < i → endOk alnum set x j = true))
  case atStart => exact ⟨0, rfl, rfl, ⟨by omega, fun j hj => by omega⟩⟩
  case round =>
    obtain ⟨i, rfl, rfl, HI⟩ := hrel
    have hi : i ≤ s.size := by have := HI.out.1; omega
    by_cases hlt : i < s.size
    · have hg := getB HX.out.1 i hlt
      obtain ⟨c, hc⟩ : ∃ c, s[i]'hlt = c := ⟨_, rfl⟩
      have hcx : x.getD i 0 = c := by rw [← hc]; exact hg.symm
      have hce : ∀ h : i < s.size, s[i]'h = c := fun _ => hc
      have h1 : ∀ w, Calls Tryd.prog 55 #[.int .u8 ((c.toNat : Nat) : Int)] w fun e w' => e = .returned (.bool (alnum c)) ∧ w = w' := fun w => HF.out c w
      have h2 : ∀ w, Calls Tryd.prog 75 #[.int .u8 ((c.toNat : Nat) : Int), .string t] w fun e w' => e = .returned (.bool (inSet c set)) ∧ w = w' := fun w => HIN.out c w
      have hek : endOk alnum set x i = (alnum c || (!(i == 0) && (!(i == s.size - 1) && inSet c set))) := by unfold endOk; rw [hcx, HX.out.2]
      have hno : endOk alnum set x i = false → endsF alnum set x = false := fun h => by
        rw [Bool.eq_false_iff]
        intro h3
        have h4 := ((ends_ended alnum set x).2 h3).1 i (by have := HX.out.2; omega)
        rw [h] at h4; exact absurd h4 (by decide)
      have hyes : endOk alnum set x i = true → ∀ j, j < i + 1 → endOk alnum set x j = true := fun h j hj => by
        by_cases e : j = i
        · rw [e]; exact h
        · exact HI.out.2 j (by omega)
      have HYES := Aside0.mk hyes; have HNO := Aside0.mk hno; have HEK := Aside0.mk hek
      clear hg hcx hc hek hno hyes
      cases hp : alnum c with
      | true =>
        rw [hp] at h1
        have HR : Aside0 (endOk alnum set x i = true) := ⟨by rw [HEK.out, hp]; rfl⟩
        have H1 := Aside0.mk h1; clear h1 h2 hp
        go_wp2_with (first | ((with_reducible refine (H1.out _).mono ?_); rintro e w' ⟨rfl, rfl⟩))
        go_roundg (gk - 1)
        case measure => have := HI.out.1; omega
        case rel => exact ⟨i + 1, by go_num, rfl, ⟨by have := HI.out.1; omega, HYES.out HR.out⟩⟩
      | false =>
        rw [hp] at h1
        by_cases hi0 : i = 0
        · subst hi0
          have HR : Aside0 (endsF alnum set x = false) := ⟨HNO.out (by rw [HEK.out, hp]; rfl)⟩
          have H1 := Aside0.mk h1; clear h1 h2 hp
          go_wp2_with (first | ((with_reducible refine (H1.out _).mono ?_); rintro e w' ⟨rfl, rfl⟩))
          go_ret
          exact ⟨by rw [HR.out]; rfl, rfl⟩
        · by_cases hil : i = s.size - 1
          · have HR : Aside0 (endsF alnum set x = false) := ⟨HNO.out (by rw [HEK.out, hp, show (i == s.size - 1) = true by simpa using hil]; simp)⟩
            have H1 := Aside0.mk h1
            have hil2 : s.size ≤ i + 1 := by omega
            have hi02 : 0 < i := by omega
            have e1 : (((i : Nat) : Int) == 0) = false := by rw [beq_eq_false_iff_ne]; omega
            have e2 : (((i : Nat) : Int) == ((s.size : Nat) : Int) - 1) = true := by rw [beq_iff_eq]; omega
            clear h1 h2 hp hil hi0
            go_wp2_with (first | ((with_reducible refine (H1.out _).mono ?_); rintro e w' ⟨rfl, rfl⟩))
            go_ret
            exact ⟨by rw [HR.out]; rfl, rfl⟩
          · have hil2 : i + 1 < s.size := by omega
            have hi02 : 0 < i := by omega
            have e1 : (((i : Nat) : Int) == 0) = false := by rw [beq_eq_false_iff_ne]; omega
            have e2 : (((i : Nat) : Int) == ((s.size : Nat) : Int) - 1) = false := by rw [beq_eq_false_iff_ne]; omega
            have hek2 : endOk alnum set x i = inSet c set := by
              rw [HEK.out, hp, show (i == 0) = false by simpa using hi0, show (i == s.size - 1) = false by simpa using hil]; simp
            cases hq : inSet c set with
            | true =>
              rw [hq] at h2 hek2
              have HR := Aside0.mk hek2
              have H1 := Aside0.mk h1; have H2 := Aside0.mk h2; clear h1 h2 hp hq hek2 hi0 hil
              go_wp2_with (first | ((with_reducible refine (H1.out _).mono ?_); rintro e w' ⟨rfl, rfl⟩) | ((with_reducible refine (H2.out _).mono ?_); rintro e w' ⟨rfl, rfl⟩))
              go_roundg (gk - 1)
              case measure => have := HI.out.1; omega
              case rel => exact ⟨i + 1, by go_num, rfl, ⟨by have := HI.out.1; omega, HYES.out HR.out⟩⟩
            | false =>
              rw [hq] at h2 hek2
              have HR : Aside0 (endsF alnum set x = false) := ⟨HNO.out hek2⟩
              have H1 := Aside0.mk h1; have H2 := Aside0.mk h2; clear h1 h2 hp hq hek2 hi0 hil
              go_wp2_with (first | ((with_reducible refine (H1.out _).mono ?_); rintro e w' ⟨rfl, rfl⟩) | ((with_reducible refine (H2.out _).mono ?_); rintro e w' ⟨rfl, rfl⟩))
              go_ret
              exact ⟨by rw [HR.out]; rfl, rfl⟩
    · have hall : ∀ j, j < x.length → endOk alnum set x j = true := fun j hj => HI.out.2 j (by have := HX.out.2; omega)
      have sl : s.toList = x := by rw [HX.out.1, mk_toList]
      by_cases he : x = []
      · have t1 : (s.toList == ([] : List UInt8)) = true := by rw [sl, he]; rfl
        have HQ : Aside0 (endsF alnum set x = false) := ⟨by rw [he]; rfl⟩
        clear sl he hall
        go_wp2
        go_ret
        exact ⟨by rw [HQ.out]; rfl, rfl⟩
      · have t1 : (s.toList == ([] : List UInt8)) = false := by rw [sl]; simpa using he
        have HQ : Aside0 (endsF alnum set x = true) := ⟨(ends_ended alnum set x).1 ⟨hall, he⟩⟩
        clear sl he hall
        go_wp2
        go_ret
        exact ⟨by rw [HQ.out]; rfl, rfl⟩
end Go.Proofs.YtdledchhpjkilaaDoor.Hand

/- all over a known class of bytes, by hand. -/
namespace Go.Proofs.YtdledchhpjkilaaDoor.Hand
open Go.RowKit Go.Proofs.YtdledchhpjkilaaDoorW.PrintWords Go.Proofs.YtdledchhpjkilaaDoorW.PrintLast Go.Proofs.YtdledchhpjkilaaDoorW.PrintMore Go.Proofs.YtdledchhpjkilaaDoor.Base
set_option linter.unusedVariables false
set_option linter.unusedSimpArgs false
set_option maxRecDepth 100000

set_option maxHeartbeats 1000000 in
theorem sAll55_calls (hf : Cls 55 alnum) (s t : ByteArray) (hs : s.size ≤ 140737488351232) (ht : t.size ≤ 140737488351232) (w : World) :
    Calls Tryd.prog 54 #[.string s, .func (.func 55) #[] #[], .string t] w fun e w' => e = .returned (.bool (allF alnum t.data.toList s.data.toList)) ∧ w = w' := by
  obtain ⟨x, hx, hxs⟩ : ∃ x : L, s = mk x ∧ s.size = x.length := exists_mk s
  obtain ⟨set, hset⟩ : ∃ set, t.data.toList = set := ⟨_, rfl⟩
  rw [show s.data.toList = x by rw [hx]; rfl, hset]
  have HIN : Aside0 (∀ (c : UInt8) (w : World), Calls Tryd.prog 75 #[.int .u8 ((c.toNat : Nat) : Int), .string t] w fun e w' => e = .returned (.bool (inSet c set)) ∧ w = w') := ⟨fun c w => by have h := among_calls c t ht w; rw [hset] at h; exact h⟩
  have HX := Aside0.mk (And.intro hx hxs); have HF := Aside0.mk hf; clear hx hxs hset hf
  go_enter Tryd.func54, Tryd.ntmps54
  go_wp2
  go_loopg [10] (s.size) (fun g v5 w' => ∃ i : Nat, v5 = .int .i64 i ∧ w = w' ∧ Aside0 (g + i = s.size ∧ allF alnum set x = ((x.drop i).all (fun c => alnum c || inSet c set) && !(x == []))))
  case atStart => exact ⟨0, rfl, rfl, ⟨by omega, by simp [allF]⟩⟩
  case round =>
    obtain ⟨i, rfl, rfl, HI⟩ := hrel
    have hi : i ≤ s.size := by have := HI.out.1; omega
    by_cases hlt : i < s.size
    · have hg := getB HX.out.1 i hlt
      have hst := allF_step alnum set x i (by have := HX.out.2; omega)
      obtain ⟨c, hc⟩ : ∃ c, s[i]'hlt = c := ⟨_, rfl⟩
      have hcx : x.getD i 0 = c := by rw [← hc]; exact hg.symm
      rw [hcx] at hst
      have hce : ∀ h : i < s.size, s[i]'h = c := fun _ => hc
      have h1 : ∀ w, Calls Tryd.prog 55 #[.int .u8 ((c.toNat : Nat) : Int)] w fun e w' => e = .returned (.bool (alnum c)) ∧ w = w' := fun w => HF.out c w
      have h2 : ∀ w, Calls Tryd.prog 75 #[.int .u8 ((c.toNat : Nat) : Int), .string t] w fun e w' => e = .returned (.bool (inSet c set)) ∧ w = w' := fun w => HIN.out c w
      have HST := Aside0.mk hst
      clear hg hcx hst hc
      cases hp : alnum c with
      | true =>
        rw [hp] at h1
        have HR : Aside0 (allF alnum set x = ((x.drop (i + 1)).all (fun c => alnum c || inSet c set) && !(x == []))) := ⟨by rw [HI.out.2, HST.out, hp]; simp⟩
        have H1 := Aside0.mk h1; clear h1 h2 hp
        go_wp2_with (first | ((with_reducible refine (H1.out _).mono ?_); rintro e w' ⟨rfl, rfl⟩))
        go_roundg (gk - 1)
        case measure => have := HI.out.1; omega
        case rel => exact ⟨i + 1, by go_num, rfl, ⟨by have := HI.out.1; omega, HR.out⟩⟩
      | false =>
        rw [hp] at h1
        cases hq : inSet c set with
        | true =>
          rw [hq] at h2
          have HR : Aside0 (allF alnum set x = ((x.drop (i + 1)).all (fun c => alnum c || inSet c set) && !(x == []))) := ⟨by rw [HI.out.2, HST.out, hp, hq]; simp⟩
          have H1 := Aside0.mk h1; have H2 := Aside0.mk h2; clear h1 h2 hp hq
          go_wp2_with (first | ((with_reducible refine (H1.out _).mono ?_); rintro e w' ⟨rfl, rfl⟩) | ((with_reducible refine (H2.out _).mono ?_); rintro e w' ⟨rfl, rfl⟩))
          go_roundg (gk - 1)
          case measure => have := HI.out.1; omega
          case rel => exact ⟨i + 1, by go_num, rfl, ⟨by have := HI.out.1; omega, HR.out⟩⟩
        | false =>
          rw [hq] at h2
          have HR : Aside0 (allF alnum set x = false) := ⟨by rw [HI.out.2, HST.out, hp, hq]; simp⟩
          have H1 := Aside0.mk h1; have H2 := Aside0.mk h2; clear h1 h2 hp hq
          go_wp2_with (first | ((with_reducible refine (H1.out _).mono ?_); rintro e w' ⟨rfl, rfl⟩) | ((with_reducible refine (H2.out _).mono ?_); rintro e w' ⟨rfl, rfl⟩))
          go_ret
          exact ⟨by rw [HR.out]; rfl, rfl⟩
    · have HR : Aside0 (allF alnum set x = !(x == [])) := ⟨by rw [HI.out.2, List.drop_eq_nil_of_le (by have := HX.out.2; omega)]; simp⟩
      have sl : s.toList = x := by rw [HX.out.1, mk_toList]
      by_cases he : x = []
      · have t1 : (s.toList == ([] : List UInt8)) = true := by rw [sl, he]; rfl
        have HQ : Aside0 (allF alnum set x = false) := ⟨by rw [HR.out, he]; rfl⟩
        clear sl he
        go_wp2
        go_ret
        exact ⟨by rw [HQ.out]; rfl, rfl⟩
      · have t1 : (s.toList == ([] : List UInt8)) = false := by rw [sl]; simpa using he
        have HQ : Aside0 (allF alnum set x = true) := ⟨by rw [HR.out]; simpa using he⟩
        clear sl he
        go_wp2
        go_ret
        exact ⟨by rw [HQ.out]; rfl, rfl⟩
end Go.Proofs.YtdledchhpjkilaaDoor.Hand

/- all over a known class of bytes, by hand. -/
namespace Go.Proofs.YtdledchhpjkilaaDoor.Hand
open Go.RowKit Go.Proofs.YtdledchhpjkilaaDoorW.PrintWords Go.Proofs.YtdledchhpjkilaaDoorW.PrintLast Go.Proofs.YtdledchhpjkilaaDoorW.PrintMore Go.Proofs.YtdledchhpjkilaaDoor.Base
set_option linter.unusedVariables false
set_option linter.unusedSimpArgs false
set_option maxRecDepth 100000

set_option maxHeartbeats 1000000 in
theorem sAll58_calls (hf : Cls 58 digit) (s t : ByteArray) (hs : s.size ≤ 140737488351232) (ht : t.size ≤ 140737488351232) (w : World) :
    Calls Tryd.prog 54 #[.string s, .func (.func 58) #[] #[], .string t] w fun e w' => e = .returned (.bool (allF digit t.data.toList s.data.toList)) ∧ w = w' := by
  obtain ⟨x, hx, hxs⟩ : ∃ x : L, s = mk x ∧ s.size = x.length := exists_mk s
  obtain ⟨set, hset⟩ : ∃ set, t.data.toList = set := ⟨_, rfl⟩
  rw [show s.data.toList = x by rw [hx]; rfl, hset]
  have HIN : Aside0 (∀ (c : UInt8) (w : World), Calls Tryd.prog 75 #[.int .u8 ((c.toNat : Nat) : Int), .string t] w fun e w' => e = .returned (.bool (inSet c set)) ∧ w = w') := ⟨fun c w => by have h := among_calls c t ht w; rw [hset] at h; exact h⟩
  have HX := Aside0.mk (And.intro hx hxs); have HF := Aside0.mk hf; clear hx hxs hset hf
  go_enter Tryd.func54, Tryd.ntmps54
  go_wp2
  go_loopg [10] (s.size) (fun g v5 w' => ∃ i : Nat, v5 = .int .i64 i ∧ w = w' ∧ Aside0 (g + i = s.size ∧ allF digit set x = ((x.drop i).all (fun c => digit c || inSet c set) && !(x == []))))
  case atStart => exact ⟨0, rfl, rfl, ⟨by omega, by simp [allF]⟩⟩
  case round =>
    obtain ⟨i, rfl, rfl, HI⟩ := hrel
    have hi : i ≤ s.size := by have := HI.out.1; omega
    by_cases hlt : i < s.size
    · have hg := getB HX.out.1 i hlt
      have hst := allF_step digit set x i (by have := HX.out.2; omega)
      obtain ⟨c, hc⟩ : ∃ c, s[i]'hlt = c := ⟨_, rfl⟩
      have hcx : x.getD i 0 = c := by rw [← hc]; exact hg.symm
      rw [hcx] at hst
      have hce : ∀ h : i < s.size, s[i]'h = c := fun _ => hc
      have h1 : ∀ w, Calls Tryd.prog 58 #[.int .u8 ((c.toNat : Nat) : Int)] w fun e w' => e = .returned (.bool (digit c)) ∧ w = w' := fun w => HF.out c w
      have h2 : ∀ w, Calls Tryd.prog 75 #[.int .u8 ((c.toNat : Nat) : Int), .string t] w fun e w' => e = .returned (.bool (inSet c set)) ∧ w = w' := fun w => HIN.out c w
      have HST := Aside0.mk hst
      clear hg hcx hst hc
      cases hp : digit c with
      | true =>
        rw [hp] at h1
        have HR : Aside0 (allF digit set x = ((x.drop (i + 1)).all (fun c => digit c || inSet c set) && !(x == []))) := ⟨by rw [HI.out.2, HST.out, hp]; simp⟩
        have H1 := Aside0.mk h1; clear h1 h2 hp
        go_wp2_with (first | ((with_reducible refine (H1.out _).mono ?_); rintro e w' ⟨rfl, rfl⟩))
        go_roundg (gk - 1)
        case measure => have := HI.out.1; omega
        case rel => exact ⟨i + 1, by go_num, rfl, ⟨by have := HI.out.1; omega, HR.out⟩⟩
      | false =>
        rw [hp] at h1
        cases hq : inSet c set with
        | true =>
          rw [hq] at h2
          have HR : Aside0 (allF digit set x = ((x.drop (i + 1)).all (fun c => digit c || inSet c set) && !(x == []))) := ⟨by rw [HI.out.2, HST.out, hp, hq]; simp⟩
          have H1 := Aside0.mk h1; have H2 := Aside0.mk h2; clear h1 h2 hp hq
          go_wp2_with (first | ((with_reducible refine (H1.out _).mono ?_); rintro e w' ⟨rfl, rfl⟩) | ((with_reducible refine (H2.out _).mono ?_); rintro e w' ⟨rfl, rfl⟩))
          go_roundg (gk - 1)
          case measure => have := HI.out.1; omega
          case rel => exact ⟨i + 1, by go_num, rfl, ⟨by have := HI.out.1; omega, HR.out⟩⟩
        | false =>
          rw [hq] at h2
          have HR : Aside0 (allF digit set x = false) := ⟨by rw [HI.out.2, HST.out, hp, hq]; simp⟩
          have H1 := Aside0.mk h1; have H2 := Aside0.mk h2; clear h1 h2 hp hq
          go_wp2_with (first | ((with_reducible refine (H1.out _).mono ?_); rintro e w' ⟨rfl, rfl⟩) | ((with_reducible refine (H2.out _).mono ?_); rintro e w' ⟨rfl, rfl⟩))
          go_ret
          exact ⟨by rw [HR.out]; rfl, rfl⟩
    · have HR : Aside0 (allF digit set x = !(x == [])) := ⟨by rw [HI.out.2, List.drop_eq_nil_of_le (by have := HX.out.2; omega)]; simp⟩
      have sl : s.toList = x := by rw [HX.out.1, mk_toList]
      by_cases he : x = []
      · have t1 : (s.toList == ([] : List UInt8)) = true := by rw [sl, he]; rfl
        have HQ : Aside0 (allF digit set x = false) := ⟨by rw [HR.out, he]; rfl⟩
        clear sl he
        go_wp2
        go_ret
        exact ⟨by rw [HQ.out]; rfl, rfl⟩
      · have t1 : (s.toList == ([] : List UInt8)) = false := by rw [sl]; simpa using he
        have HQ : Aside0 (allF digit set x = true) := ⟨by rw [HR.out]; simpa using he⟩
        clear sl he
        go_wp2
        go_ret
        exact ⟨by rw [HQ.out]; rfl, rfl⟩
end Go.Proofs.YtdledchhpjkilaaDoor.Hand
