/- ended over a known class of bytes, by hand. -/
import Derived.Test.YteigfmchnblkgaaDoorNmBase
namespace Go.Proofs.YteigfmchnblkgaaDoor.Hand
open Go.RowKit Go.Proofs.YteigfmchnblkgaaDoorW.PrintWords Go.Proofs.YteigfmchnblkgaaDoorW.PrintLast Go.Proofs.YteigfmchnblkgaaDoorW.PrintMore Go.Proofs.YteigfmchnblkgaaDoor.Base
set_option linter.unusedVariables false
set_option linter.unusedSimpArgs false
set_option maxRecDepth 100000

set_option maxHeartbeats 2000000 in
theorem ended52_calls (hf : Cls 37 small) (s t : ByteArray) (hs : s.size ≤ 140737488351232) (ht : t.size ≤ 140737488351232) (w : World) :
    Calls Tryd.prog 24 #[.string s, .func (.func 37) #[] #[], .string t] w fun e w' => e = .returned (.bool (endsF small t.data.toList s.data.toList)) ∧ w = w' := by
  obtain ⟨x, hx, hxs⟩ : ∃ x : L, s = mk x ∧ s.size = x.length := exists_mk s
  obtain ⟨set, hset⟩ : ∃ set, t.data.toList = set := ⟨_, rfl⟩
  rw [show s.data.toList = x by rw [hx]; rfl, hset]
  have HIN : Aside0 (∀ (c : UInt8) (w : World), Calls Tryd.prog 36 #[.int .u8 ((c.toNat : Nat) : Int), .string t] w fun e w' => e = .returned (.bool (inSet c set)) ∧ w = w') := ⟨fun c w => by have h := among_calls c t ht w; rw [hset] at h; exact h⟩
  have HX := Aside0.mk (And.intro hx hxs); have HF := Aside0.mk hf; clear hx hxs hset hf
  go_enter Tryd.func24, Tryd.ntmps24
  go_wp2
  go_loopg [10] (s.size) (fun g v5 w' => ∃ i : Nat, v5 = .int .i64 i ∧ w = w' ∧ Aside0 (g + i = s.size ∧ ∀ j, j < i → endOk small set x j = true))
  case atStart => exact ⟨0, rfl, rfl, ⟨by omega, fun j hj => by omega⟩⟩
  case round =>
    obtain ⟨i, rfl, rfl, HI⟩ := hrel
    have hi : i ≤ s.size := by have := HI.out.1; omega
    by_cases hlt : i < s.size
    · have hg := getB HX.out.1 i hlt
      obtain ⟨c, hc⟩ : ∃ c, s[i]'hlt = c := ⟨_, rfl⟩
      have hcx : x.getD i 0 = c := by rw [← hc]; exact hg.symm
      have hce : ∀ h : i < s.size, s[i]'h = c := fun _ => hc
      have h1 : ∀ w, Calls Tryd.prog 37 #[.int .u8 ((c.toNat : Nat) : Int)] w fun e w' => e = .returned (.bool (small c)) ∧ w = w' := fun w => HF.out c w
      have h2 : ∀ w, Calls Tryd.prog 36 #[.int .u8 ((c.toNat : Nat) : Int), .string t] w fun e w' => e = .returned (.bool (inSet c set)) ∧ w = w' := fun w => HIN.out c w
      have hek : endOk small set x i = (small c || (!(i == 0) && (!(i == s.size - 1) && inSet c set))) := by unfold endOk; rw [hcx, HX.out.2]
      have hno : endOk small set x i = false → endsF small set x = false := fun h => by
        rw [Bool.eq_false_iff]
        intro h3
        have h4 := ((ends_ended small set x).2 h3).1 i (by have := HX.out.2; omega)
        rw [h] at h4; exact absurd h4 (by decide)
      have hyes : endOk small set x i = true → ∀ j, j < i + 1 → endOk small set x j = true := fun h j hj => by
        by_cases e : j = i
        · rw [e]; exact h
        · exact HI.out.2 j (by omega)
      have HYES := Aside0.mk hyes; have HNO := Aside0.mk hno; have HEK := Aside0.mk hek
      clear hg hcx hc hek hno hyes
      cases hp : small c with
      | true =>
        rw [hp] at h1
        have HR : Aside0 (endOk small set x i = true) := ⟨by rw [HEK.out, hp]; rfl⟩
        have H1 := Aside0.mk h1; clear h1 h2 hp
        go_wp2_with (first | ((with_reducible refine (H1.out _).mono ?_); rintro e w' ⟨rfl, rfl⟩))
        go_roundg (gk - 1)
        case measure => have := HI.out.1; omega
        case rel => exact ⟨i + 1, by go_num, rfl, ⟨by have := HI.out.1; omega, HYES.out HR.out⟩⟩
      | false =>
        rw [hp] at h1
        by_cases hi0 : i = 0
        · subst hi0
          have HR : Aside0 (endsF small set x = false) := ⟨HNO.out (by rw [HEK.out, hp]; rfl)⟩
          have H1 := Aside0.mk h1; clear h1 h2 hp
          go_wp2_with (first | ((with_reducible refine (H1.out _).mono ?_); rintro e w' ⟨rfl, rfl⟩))
          go_ret
          exact ⟨by rw [HR.out]; rfl, rfl⟩
        · by_cases hil : i = s.size - 1
          · have HR : Aside0 (endsF small set x = false) := ⟨HNO.out (by rw [HEK.out, hp, show (i == s.size - 1) = true by simpa using hil]; simp)⟩
            have H1 := Aside0.mk h1
            have hil2 : s.size ≤ i + 1 := by omega
            have hi02 : 0 < i := by omega
            have e1 : (((i : Nat) : Int) == 0) = false := by rw [beq_eq_false_iff_ne]; omega
            have e2 : (((i : Nat) : Int) == ((s.size : Nat) : Int) - 1) = true := by rw [beq_iff_eq]; omega
            clear h1 h2 hp hil hi0
            go_wp2_with (first | ((with_reducible refine (H1.out _).mono ?_); rintro e w' ⟨rfl, rfl⟩))
            go_ret
            exact ⟨by rw [HR.out]; rfl, rfl⟩
          · have hil2 : i + 1 < s.size := by omega
            have hi02 : 0 < i := by omega
            have e1 : (((i : Nat) : Int) == 0) = false := by rw [beq_eq_false_iff_ne]; omega
            have e2 : (((i : Nat) : Int) == ((s.size : Nat) : Int) - 1) = false := by rw [beq_eq_false_iff_ne]; omega
            have hek2 : endOk small set x i = inSet c set := by
              rw [HEK.out, hp, show (i == 0) = false by simpa using hi0, show (i == s.size - 1) = false by simpa using hil]; simp
            cases hq : inSet c set with
            | true =>
              rw [hq] at h2 hek2
              have HR := Aside0.mk hek2
              have H1 := Aside0.mk h1; have H2 := Aside0.mk h2; clear h1 h2 hp hq hek2 hi0 hil
              go_wp2_with (first | ((with_reducible refine (H1.out _).mono ?_); rintro e w' ⟨rfl, rfl⟩) | ((with_reducible refine (H2.out _).mono ?_); rintro e w' ⟨rfl, rfl⟩))
              go_roundg (gk - 1)
              case measure => have := HI.out.1; omega
              case rel => exact ⟨i + 1, by go_num, rfl, ⟨by have := HI.out.1; omega, HYES.out HR.out⟩⟩
            | false =>
              rw [hq] at h2 hek2
              have HR : Aside0 (endsF small set x = false) := ⟨HNO.out hek2⟩
              have H1 := Aside0.mk h1; have H2 := Aside0.mk h2; clear h1 h2 hp hq hek2 hi0 hil
              go_wp2_with (first | ((with_reducible refine (H1.out _).mono ?_); rintro e w' ⟨rfl, rfl⟩) | ((with_reducible refine (H2.out _).mono ?_); rintro e w' ⟨rfl, rfl⟩))
              go_ret
              exact ⟨by rw [HR.out]; rfl, rfl⟩
    · have hall : ∀ j, j < x.length → endOk small set x j = true := fun j hj => HI.out.2 j (by have := HX.out.2; omega)
      have sl : s.toList = x := by rw [HX.out.1, mk_toList]
      by_cases he : x = []
      · have t1 : (s.toList == ([] : List UInt8)) = true := by rw [sl, he]; rfl
        have HQ : Aside0 (endsF small set x = false) := ⟨by rw [he]; rfl⟩
        clear sl he hall
        go_wp2
        go_ret
        exact ⟨by rw [HQ.out]; rfl, rfl⟩
      · have t1 : (s.toList == ([] : List UInt8)) = false := by rw [sl]; simpa using he
        have HQ : Aside0 (endsF small set x = true) := ⟨(ends_ended small set x).1 ⟨hall, he⟩⟩
        clear sl he hall
        go_wp2
        go_ret
        exact ⟨by rw [HQ.out]; rfl, rfl⟩
end Go.Proofs.YteigfmchnblkgaaDoor.Hand
