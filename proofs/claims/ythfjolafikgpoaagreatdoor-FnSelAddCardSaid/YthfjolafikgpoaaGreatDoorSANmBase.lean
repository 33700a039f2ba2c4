/- Names: classes of bytes, texts that are of a class, and the walks of zzAll, zzEnds, ended, all, zzIn, among. -/
import Derived.Test.YthfjolafikgpoaaGreatDoorSAM4
import Derived.Test.YthfjolafikgpoaaGreatDoorSAGPk
namespace Go.Proofs.YthfjolafikgpoaaGreatDoor.Hand
open Go.RowKit Go.Proofs.YthfjolafikgpoaaGreatDoorW.PrintWords Go.Proofs.YthfjolafikgpoaaGreatDoorW.PrintLast Go.Proofs.YthfjolafikgpoaaGreatDoorW.PrintMore Go.Proofs.YthfjolafikgpoaaGreatDoor.Base
set_option linter.unusedVariables false
set_option linter.unusedSimpArgs false
set_option maxRecDepth 100000
theorem infoS : (Tryz.prog.info? 9).map (fun i => (i.zero, i.size, i.bytes)) = some (some (.string ⟨#[]⟩), 1, 16) := by kernel_rfl
def small (c : UInt8) : Bool := decide (97 ≤ c.toNat ∧ c.toNat ≤ 122) || decide (48 ≤ c.toNat ∧ c.toNat ≤ 57)
def alnum (c : UInt8) : Bool := small c || decide (65 ≤ c.toNat ∧ c.toNat ≤ 90)
def inSet (c : UInt8) (set : L) : Bool := set.any (fun d => d == c)
def allF (p : UInt8 → Bool) (set x : L) : Bool := x.all (fun c => p c || inSet c set) && !(x == [])
def endsF (p : UInt8 → Bool) (set x : L) : Bool := allF p set x && (p (x.getD 0 0) && p (x.getD (x.length - 1) 0))
def endOk (p : UInt8 → Bool) (set x : L) (i : Nat) : Bool := p (x.getD i 0) || (!(i == 0) && (!(i == x.length - 1) && inSet (x.getD i 0) set))
theorem getD_of {α : Type} (x : List α) (d : α) {i : Nat} (h : i < x.length) : x.getD i d = x[i] := by
 rw [List.getD_eq_getElem?_getD, List.getElem?_eq_getElem h, Option.getD_some]
theorem ends_ended (p : UInt8 → Bool) (set x : L) : ((∀ i, i < x.length → endOk p set x i = true) ∧ x ≠ []) ↔ endsF p set x = true := by
 unfold endsF allF
 simp only [Bool.and_eq_true, List.all_eq_true, Bool.or_eq_true, Bool.not_eq_true', beq_eq_false_iff_ne]
 constructor
 · rintro ⟨h1, h2⟩
   have hp := List.length_pos_iff.2 h2
   have h3 := h1 0 hp
   have h4 := h1 (x.length - 1) (by omega)
   unfold endOk at h3 h4
   simp only [beq_self_eq_true, Bool.not_true, Bool.false_and, Bool.or_false, Bool.and_false] at h3 h4
   refine ⟨⟨fun c hc => ?_, h2⟩, h3, h4⟩
   obtain ⟨i, hi, rfl⟩ := List.getElem_of_mem hc
   have h5 := h1 i hi
   unfold endOk at h5
   rw [getD_of x 0 hi] at h5
   simp only [Bool.or_eq_true, Bool.and_eq_true] at h5
   rcases h5 with h5 | h5
   · exact .inl h5
   · exact .inr h5.2.2
 · rintro ⟨⟨h1, h2⟩, h3, h4⟩
   refine ⟨fun i hi => ?_, h2⟩
   unfold endOk
   simp only [Bool.or_eq_true, Bool.and_eq_true, Bool.not_eq_true', beq_eq_false_iff_ne]
   by_cases e1 : i = 0
   · left; rw [e1]; exact h3
   · by_cases e2 : i = x.length - 1
     · left; rw [e2]; exact h4
     · rw [getD_of x 0 hi]
       rcases h1 x[i] (List.getElem_mem hi) with h5 | h5
       · exact .inl h5
       · exact .inr ⟨e1, e2, h5⟩
def Cls (f : FuncId) (p : UInt8 → Bool) : Prop := ∀ (c : UInt8) (w : World), Calls Tryz.prog f #[.int .u8 ((c.toNat : Nat) : Int)] w fun e w' => e = .returned (.bool (p c)) ∧ w = w'
theorem small_cases (c : UInt8) : (97 ≤ c.toNat ∧ c.toNat ≤ 122 ∧ small c = true) ∨ (122 < c.toNat ∧ small c = false) ∨ (57 < c.toNat ∧ c.toNat < 97 ∧ small c = false) ∨ (48 ≤ c.toNat ∧ c.toNat ≤ 57 ∧ small c = true) ∨ (c.toNat < 48 ∧ small c = false) := by
 unfold small
 by_cases h1 : 97 ≤ c.toNat
 · by_cases h2 : c.toNat ≤ 122
   · exact .inl ⟨h1, h2, by simp [h1, h2]⟩
   · exact .inr (.inl ⟨by omega, by simp; omega⟩)
 · by_cases h3 : 48 ≤ c.toNat
   · by_cases h4 : c.toNat ≤ 57
     · exact .inr (.inr (.inr (.inl ⟨h3, h4, by simp [h3, h4]⟩)))
     · exact .inr (.inr (.inl ⟨by omega, by omega, by simp; omega⟩))
   · exact .inr (.inr (.inr (.inr ⟨by omega, by simp; omega⟩)))
theorem Small_calls : Cls 76 small := by
 intro c w
 rcases small_cases c with ⟨h1, h2, h⟩ | ⟨h1, h⟩ | ⟨h1, h2, h⟩ | ⟨h1, h2, h⟩ | ⟨h1, h⟩
 all_goals
   rw [h]
   clear h
   go_enter Tryz.func76, Tryz.ntmps76
   go_wp2
   go_ret
   exact ⟨by first | rfl | exact congrArg (fun b : Bool => Ending.returned (Value.bool b)) (by simp; omega), rfl⟩
theorem zzLower_calls : Cls 184 small := by
 intro c w
 rcases small_cases c with ⟨h1, h2, h⟩ | ⟨h1, h⟩ | ⟨h1, h2, h⟩ | ⟨h1, h2, h⟩ | ⟨h1, h⟩
 all_goals
   rw [h]
   clear h
   go_enter Tryz.func184, Tryz.ntmps184
   go_wp2
   go_ret
   exact ⟨by first | rfl | exact congrArg (fun b : Bool => Ending.returned (Value.bool b)) (by simp; omega), rfl⟩
theorem Alnum_calls : Cls 39 alnum := by
 intro c w
 have hs := fun w => Small_calls c w
 cases h : small c with
 | true =>
   rw [h] at hs
   have HR : Aside0 (alnum c = true) := ⟨by unfold alnum; rw [h]; rfl⟩
   have HS := Aside0.mk hs; clear hs h
   go_enter Tryz.func39, Tryz.ntmps39
   go_wp2_with (first | (go_at_call 76; refine (HS.out _).mono ?_; rintro e w' ⟨rfl, rfl⟩))
   go_ret
   exact ⟨by rw [HR.out]; rfl, rfl⟩
 | false =>
   rw [h] at hs
   have HR : Aside0 (alnum c = decide (65 ≤ c.toNat ∧ c.toNat ≤ 90)) := ⟨by unfold alnum; rw [h]; rfl⟩
   have HS := Aside0.mk hs; clear hs h
   by_cases h1 : 65 ≤ c.toNat
   · by_cases h2 : c.toNat ≤ 90
     · have HQ : Aside0 (alnum c = true) := ⟨by rw [HR.out]; simp [h1, h2]⟩
       go_enter Tryz.func39, Tryz.ntmps39
       go_wp2_with (first | (go_at_call 76; refine (HS.out _).mono ?_; rintro e w' ⟨rfl, rfl⟩))
       go_ret
       exact ⟨by rw [HQ.out]; first | rfl | exact congrArg (fun b : Bool => Ending.returned (Value.bool b)) (by simp; omega), rfl⟩
     · have HQ : Aside0 (alnum c = false) := ⟨by rw [HR.out]; simp; omega⟩
       go_enter Tryz.func39, Tryz.ntmps39
       go_wp2_with (first | (go_at_call 76; refine (HS.out _).mono ?_; rintro e w' ⟨rfl, rfl⟩))
       go_ret
       exact ⟨by rw [HQ.out]; first | rfl | exact congrArg (fun b : Bool => Ending.returned (Value.bool b)) (by simp; omega), rfl⟩
   · have HQ : Aside0 (alnum c = false) := ⟨by rw [HR.out]; simp; omega⟩
     go_enter Tryz.func39, Tryz.ntmps39
     go_wp2_with (first | (go_at_call 76; refine (HS.out _).mono ?_; rintro e w' ⟨rfl, rfl⟩))
     go_ret
     exact ⟨by rw [HQ.out]; first | rfl | exact congrArg (fun b : Bool => Ending.returned (Value.bool b)) (by simp; omega), rfl⟩
theorem zzWord_calls : Cls 161 alnum := by
 intro c w
 have hs := fun w => zzLower_calls c w
 cases h : small c with
 | true =>
   rw [h] at hs
   have HR : Aside0 (alnum c = true) := ⟨by unfold alnum; rw [h]; rfl⟩
   have HS := Aside0.mk hs; clear hs h
   go_enter Tryz.func161, Tryz.ntmps161
   go_wp2_with (first | (go_at_call 184; refine (HS.out _).mono ?_; rintro e w' ⟨rfl, rfl⟩))
   go_ret
   exact ⟨by rw [HR.out]; rfl, rfl⟩
 | false =>
   rw [h] at hs
   have HR : Aside0 (alnum c = decide (65 ≤ c.toNat ∧ c.toNat ≤ 90)) := ⟨by unfold alnum; rw [h]; rfl⟩
   have HS := Aside0.mk hs; clear hs h
   by_cases h1 : 65 ≤ c.toNat
   · by_cases h2 : c.toNat ≤ 90
     · have HQ : Aside0 (alnum c = true) := ⟨by rw [HR.out]; simp [h1, h2]⟩
       go_enter Tryz.func161, Tryz.ntmps161
       go_wp2_with (first | (go_at_call 184; refine (HS.out _).mono ?_; rintro e w' ⟨rfl, rfl⟩))
       go_ret
       exact ⟨by rw [HQ.out]; first | rfl | exact congrArg (fun b : Bool => Ending.returned (Value.bool b)) (by simp; omega), rfl⟩
     · have HQ : Aside0 (alnum c = false) := ⟨by rw [HR.out]; simp; omega⟩
       go_enter Tryz.func161, Tryz.ntmps161
       go_wp2_with (first | (go_at_call 184; refine (HS.out _).mono ?_; rintro e w' ⟨rfl, rfl⟩))
       go_ret
       exact ⟨by rw [HQ.out]; first | rfl | exact congrArg (fun b : Bool => Ending.returned (Value.bool b)) (by simp; omega), rfl⟩
   · have HQ : Aside0 (alnum c = false) := ⟨by rw [HR.out]; simp; omega⟩
     go_enter Tryz.func161, Tryz.ntmps161
     go_wp2_with (first | (go_at_call 184; refine (HS.out _).mono ?_; rintro e w' ⟨rfl, rfl⟩))
     go_ret
     exact ⟨by rw [HQ.out]; first | rfl | exact congrArg (fun b : Bool => Ending.returned (Value.bool b)) (by simp; omega), rfl⟩
theorem byteIs {s : ByteArray} {x : L} (hx : s = mk x) (i : Nat) (c : UInt8) : ∀ h : i < s.size, (((s[i]'h).toNat : Int) == ((c.toNat : Nat) : Int)) = (x.getD i 0 == c) := by
 intro h
 have e : ((s[i]'h).toNat : Int) = bt s i := bt_at s i h
 rw [e, hx, bt_mk, Int.toNat_natCast, Bool.eq_iff_iff, beq_iff_eq, beq_iff_eq]
 constructor
 · intro h; exact UInt8.toNat_inj.1 (by omega)
 · intro h; rw [h]
theorem getB {s : ByteArray} {x : L} (hx : s = mk x) (i : Nat) : ∀ h : i < s.size, s[i]'h = x.getD i 0 := by
 intro h
 subst hx
 rw [mk_size] at h
 rw [getD_of x 0 h]
 rfl
theorem inSet_step (c : UInt8) (x : L) (i : Nat) (h : i < x.length) : inSet c (x.drop i) = ((x.getD i 0 == c) || inSet c (x.drop (i + 1))) := by
 unfold inSet; rw [drop_cons h, List.any_cons]
theorem zzIn_calls (c : UInt8) (s : ByteArray) (hs : s.size ≤ 140737488351232) (w : World) :
   Calls Tryz.prog 194 #[.int .u8 ((c.toNat : Nat) : Int), .string s] w fun e w' => e = .returned (.bool (inSet c s.data.toList)) ∧ w = w' := by
 obtain ⟨x, hx, hxs⟩ : ∃ x : L, s = mk x ∧ s.size = x.length := exists_mk s
 rw [show s.data.toList = x by rw [hx]; rfl]
 have HX := Aside0.mk (And.intro hx hxs); clear hx hxs
 go_enter Tryz.func194, Tryz.ntmps194
 go_wp2
 go_loopg [5] (s.size) (fun g v5 w' => ∃ i : Nat, v5 = .int .i64 i ∧ w = w' ∧ Aside0 (g + i = s.size ∧ inSet c x = inSet c (x.drop i)))
 case atStart => exact ⟨0, rfl, rfl, ⟨by omega, by simp⟩⟩
 case round =>
  obtain ⟨i, rfl, rfl, HI⟩ := hrel
  have hi : i ≤ s.size := by have := HI.out.1; omega
  by_cases hlt : i < s.size
  · have hb := byteIs HX.out.1 i c
    have hst := inSet_step c x i (by have := HX.out.2; omega)
    by_cases hc : x.getD i 0 = c
    · have hb2 : ∀ h : i < s.size, (((s[i]'h).toNat : Int) == ((c.toNat : Nat) : Int)) = true := fun h => (hb h).trans (by simpa using hc)
      have HR : Aside0 (inSet c x = true) := ⟨by rw [HI.out.2, hst, show (x.getD i 0 == c) = true by simpa using hc]; rfl⟩
      clear hb hst hc
      go_wp2
      go_ret
      exact ⟨by rw [HR.out]; rfl, rfl⟩
    · have hb2 : ∀ h : i < s.size, (((s[i]'h).toNat : Int) == ((c.toNat : Nat) : Int)) = false := fun h => (hb h).trans (by simpa using hc)
      have HR : Aside0 (inSet c x = inSet c (x.drop (i + 1))) := ⟨by rw [HI.out.2, hst, show (x.getD i 0 == c) = false by simpa using hc]; rfl⟩
      clear hb hst hc
      go_wp2
      go_roundg (gk - 1)
      case measure => have := HI.out.1; omega
      case rel => exact ⟨i + 1, by go_num, rfl, ⟨by have := HI.out.1; omega, HR.out⟩⟩
  · have HR : Aside0 (inSet c x = false) := ⟨by rw [HI.out.2, List.drop_eq_nil_of_le (by have := HX.out.2; omega)]; rfl⟩
    go_wp2
    go_ret
    exact ⟨by rw [HR.out]; rfl, rfl⟩
theorem among_calls (c : UInt8) (s : ByteArray) (hs : s.size ≤ 140737488351232) (w : World) :
   Calls Tryz.prog 83 #[.int .u8 ((c.toNat : Nat) : Int), .string s] w fun e w' => e = .returned (.bool (inSet c s.data.toList)) ∧ w = w' := by
 obtain ⟨x, hx, hxs⟩ : ∃ x : L, s = mk x ∧ s.size = x.length := exists_mk s
 rw [show s.data.toList = x by rw [hx]; rfl]
 have HX := Aside0.mk (And.intro hx hxs); clear hx hxs
 go_enter Tryz.func83, Tryz.ntmps83
 go_wp2
 go_loopg [8] (s.size) (fun g v5 w' => ∃ i : Nat, v5 = .int .i64 i ∧ w = w' ∧ Aside0 (g + i = s.size ∧ inSet c x = inSet c (x.drop i)))
 case atStart => exact ⟨0, rfl, rfl, ⟨by omega, by simp⟩⟩
 case round =>
  obtain ⟨i, rfl, rfl, HI⟩ := hrel
  have hi : i ≤ s.size := by have := HI.out.1; omega
  by_cases hlt : i < s.size
  · have hb := byteIs HX.out.1 i c
    have hst := inSet_step c x i (by have := HX.out.2; omega)
    by_cases hc : x.getD i 0 = c
    · have hb2 : ∀ h : i < s.size, (((s[i]'h).toNat : Int) == ((c.toNat : Nat) : Int)) = true := fun h => (hb h).trans (by simpa using hc)
      have HR : Aside0 (inSet c x = true) := ⟨by rw [HI.out.2, hst, show (x.getD i 0 == c) = true by simpa using hc]; rfl⟩
      clear hb hst hc
      go_wp2
      go_ret
      exact ⟨by rw [HR.out]; rfl, rfl⟩
    · have hb2 : ∀ h : i < s.size, (((s[i]'h).toNat : Int) == ((c.toNat : Nat) : Int)) = false := fun h => (hb h).trans (by simpa using hc)
      have HR : Aside0 (inSet c x = inSet c (x.drop (i + 1))) := ⟨by rw [HI.out.2, hst, show (x.getD i 0 == c) = false by simpa using hc]; rfl⟩
      clear hb hst hc
      go_wp2
      go_roundg (gk - 1)
      case measure => have := HI.out.1; omega
      case rel => exact ⟨i + 1, by go_num, rfl, ⟨by have := HI.out.1; omega, HR.out⟩⟩
  · have HR : Aside0 (inSet c x = false) := ⟨by rw [HI.out.2, List.drop_eq_nil_of_le (by have := HX.out.2; omega)]; rfl⟩
    go_wp2
    go_ret
    exact ⟨by rw [HR.out]; rfl, rfl⟩
theorem allF_step (p : UInt8 → Bool) (set x : L) (i : Nat) (h : i < x.length) : (x.drop i).all (fun c => p c || inSet c set) = ((p (x.getD i 0) || inSet (x.getD i 0) set) && (x.drop (i + 1)).all (fun c => p c || inSet c set)) := by
 rw [drop_cons h, List.all_cons]
end Go.Proofs.YthfjolafikgpoaaGreatDoor.Hand
