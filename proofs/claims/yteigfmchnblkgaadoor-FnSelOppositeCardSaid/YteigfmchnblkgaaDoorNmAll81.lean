/- zzAll over a known class of bytes, by hand. -/
import Derived.Test.YteigfmchnblkgaaDoorNmBase
namespace Go.Proofs.YteigfmchnblkgaaDoor.Hand
open Go.RowKit Go.Proofs.YteigfmchnblkgaaDoorW.PrintWords Go.Proofs.YteigfmchnblkgaaDoorW.PrintLast Go.Proofs.YteigfmchnblkgaaDoorW.PrintMore Go.Proofs.YteigfmchnblkgaaDoor.Base
set_option linter.unusedVariables false
set_option linter.unusedSimpArgs false
set_option maxRecDepth 100000

set_option maxHeartbeats 1000000 in
theorem zzAll81_calls (hf : Cls 55 alnum) (s t : ByteArray) (hs : s.size ≤ 140737488351232) (ht : t.size ≤ 140737488351232) (w : World) :
    Calls Tryd.prog 58 #[.string s, .func (.func 55) #[] #[], .string t] w fun e w' => e = .returned (.bool (allF alnum t.data.toList s.data.toList)) ∧ w = w' := by
  obtain ⟨x, hx, hxs⟩ : ∃ x : L, s = mk x ∧ s.size = x.length := exists_mk s
  obtain ⟨set, hset⟩ : ∃ set, t.data.toList = set := ⟨_, rfl⟩
  rw [show s.data.toList = x by rw [hx]; rfl, hset]
  have HIN : Aside0 (∀ (c : UInt8) (w : World), Calls Tryd.prog 64 #[.int .u8 ((c.toNat : Nat) : Int), .string t] w fun e w' => e = .returned (.bool (inSet c set)) ∧ w = w') := ⟨fun c w => by have h := zzIn_calls c t ht w; rw [hset] at h; exact h⟩
  have HX := Aside0.mk (And.intro hx hxs); have HF := Aside0.mk hf; clear hx hxs hset hf
  go_enter Tryd.func58, Tryd.ntmps58
  go_wp2
  go_loopg [7] (s.size) (fun g v5 w' => ∃ i : Nat, v5 = .int .i64 i ∧ w = w' ∧ Aside0 (g + i = s.size ∧ allF alnum set x = ((x.drop i).all (fun c => alnum c || inSet c set) && !(x == []))))
  case atStart => exact ⟨0, rfl, rfl, ⟨by omega, by simp [allF]⟩⟩
  case round =>
    obtain ⟨i, rfl, rfl, HI⟩ := hrel
    have hi : i ≤ s.size := by have := HI.out.1; omega
    by_cases hlt : i < s.size
    · have hg := getB HX.out.1 i hlt
      have hst := allF_step alnum set x i (by have := HX.out.2; omega)
      obtain ⟨c, hc⟩ : ∃ c, s[i]'hlt = c := ⟨_, rfl⟩
      have hcx : x.getD i 0 = c := by rw [← hc]; exact hg.symm
      rw [hcx] at hst
      have hce : ∀ h : i < s.size, s[i]'h = c := fun _ => hc
      have h1 : ∀ w, Calls Tryd.prog 55 #[.int .u8 ((c.toNat : Nat) : Int)] w fun e w' => e = .returned (.bool (alnum c)) ∧ w = w' := fun w => HF.out c w
      have h2 : ∀ w, Calls Tryd.prog 64 #[.int .u8 ((c.toNat : Nat) : Int), .string t] w fun e w' => e = .returned (.bool (inSet c set)) ∧ w = w' := fun w => HIN.out c w
      have HST := Aside0.mk hst
      clear hg hcx hst hc
      cases hp : alnum c with
      | true =>
        rw [hp] at h1
        have HR : Aside0 (allF alnum set x = ((x.drop (i + 1)).all (fun c => alnum c || inSet c set) && !(x == []))) := ⟨by rw [HI.out.2, HST.out, hp]; simp⟩
        have H1 := Aside0.mk h1; clear h1 h2 hp
        go_wp2_with (first | ((with_reducible refine (H1.out _).mono ?_); rintro e w' ⟨rfl, rfl⟩))
        go_roundg (gk - 1)
        case measure => have := HI.out.1; omega
        case rel => exact ⟨i + 1, by go_num, rfl, ⟨by have := HI.out.1; omega, HR.out⟩⟩
      | false =>
        rw [hp] at h1
        cases hq : inSet c set with
        | true =>
          rw [hq] at h2
          have HR : Aside0 (allF alnum set x = ((x.drop (i + 1)).all (fun c => alnum c || inSet c set) && !(x == []))) := ⟨by rw [HI.out.2, HST.out, hp, hq]; simp⟩
          have H1 := Aside0.mk h1; have H2 := Aside0.mk h2; clear h1 h2 hp hq
          go_wp2_with (first | ((with_reducible refine (H1.out _).mono ?_); rintro e w' ⟨rfl, rfl⟩) | ((with_reducible refine (H2.out _).mono ?_); rintro e w' ⟨rfl, rfl⟩))
          go_roundg (gk - 1)
          case measure => have := HI.out.1; omega
          case rel => exact ⟨i + 1, by go_num, rfl, ⟨by have := HI.out.1; omega, HR.out⟩⟩
        | false =>
          rw [hq] at h2
          have HR : Aside0 (allF alnum set x = false) := ⟨by rw [HI.out.2, HST.out, hp, hq]; simp⟩
          have H1 := Aside0.mk h1; have H2 := Aside0.mk h2; clear h1 h2 hp hq
          go_wp2_with (first | ((with_reducible refine (H1.out _).mono ?_); rintro e w' ⟨rfl, rfl⟩) | ((with_reducible refine (H2.out _).mono ?_); rintro e w' ⟨rfl, rfl⟩))
          go_ret
          exact ⟨by rw [HR.out]; rfl, rfl⟩
    · have HR : Aside0 (allF alnum set x = !(x == [])) := ⟨by rw [HI.out.2, List.drop_eq_nil_of_le (by have := HX.out.2; omega)]; simp⟩
      have sl : s.toList = x := by rw [HX.out.1, mk_toList]
      by_cases he : x = []
      · have t1 : (s.toList == ([] : List UInt8)) = true := by rw [sl, he]; rfl
        have HQ : Aside0 (allF alnum set x = false) := ⟨by rw [HR.out, he]; rfl⟩
        clear sl he
        go_wp2
        go_ret
        exact ⟨by rw [HQ.out]; rfl, rfl⟩
      · have t1 : (s.toList == ([] : List UInt8)) = false := by rw [sl]; simpa using he
        have HQ : Aside0 (allF alnum set x = true) := ⟨by rw [HR.out]; simpa using he⟩
        clear sl he
        go_wp2
        go_ret
        exact ⟨by rw [HQ.out]; rfl, rfl⟩
end Go.Proofs.YteigfmchnblkgaaDoor.Hand
