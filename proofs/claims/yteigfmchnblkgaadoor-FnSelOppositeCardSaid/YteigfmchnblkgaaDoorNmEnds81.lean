/- zzEnds over a known class of bytes, by hand. -/
import Derived.Test.YteigfmchnblkgaaDoorNmAll81
namespace Go.Proofs.YteigfmchnblkgaaDoor.Hand
open Go.RowKit Go.Proofs.YteigfmchnblkgaaDoorW.PrintWords Go.Proofs.YteigfmchnblkgaaDoorW.PrintLast Go.Proofs.YteigfmchnblkgaaDoorW.PrintMore Go.Proofs.YteigfmchnblkgaaDoor.Base
set_option linter.unusedVariables false
set_option linter.unusedSimpArgs false
set_option maxRecDepth 100000

set_option maxHeartbeats 2000000 in
theorem zzEnds81_calls (hf : Cls 55 alnum) (s t : ByteArray) (hs : s.size ≤ 140737488351232) (ht : t.size ≤ 140737488351232) (w : World) :
    Calls Tryd.prog 54 #[.string s, .func (.func 55) #[] #[], .string t] w fun e w' => e = .returned (.bool (endsF alnum t.data.toList s.data.toList)) ∧ w = w' := by
  obtain ⟨x, hx, hxs⟩ : ∃ x : L, s = mk x ∧ s.size = x.length := exists_mk s
  obtain ⟨set, hset⟩ : ∃ set, t.data.toList = set := ⟨_, rfl⟩
  have hsd : s.data.toList = x := by rw [hx]; rfl
  rw [hsd, hset]
  have h1 : ∀ w, Calls Tryd.prog 58 #[.string s, .func (.func 55) #[] #[], .string t] w fun e w' => e = .returned (.bool (allF alnum set x)) ∧ w = w' := fun w => by have h := zzAll81_calls hf s t hs ht w; rw [hsd, hset] at h; exact h
  have hres : endsF alnum set x = (allF alnum set x && (alnum (x.getD 0 0) && alnum (x.getD (x.length - 1) 0))) := rfl
  cases ha : allF alnum set x with
  | false =>
    rw [ha] at h1 hres
    have HR : Aside0 (endsF alnum set x = false) := ⟨by rw [hres]; rfl⟩
    have H1 := Aside0.mk h1; clear h1 ha hres hx hxs hsd hset hf
    go_enter Tryd.func54, Tryd.ntmps54
    go_wp2_with (first | ((with_reducible refine (H1.out _).mono ?_); rintro e w' ⟨rfl, rfl⟩))
    go_ret
    exact ⟨by rw [HR.out]; rfl, rfl⟩
  | true =>
    rw [ha] at h1 hres
    have hne : x ≠ [] := by
      intro h; rw [h] at ha; simp [allF] at ha
    have hpos : 0 < s.size := by rw [hxs]; exact List.length_pos_iff.2 hne
    have hlast : s.size - 1 < s.size := by omega
    have g1 := getB hx 0 hpos
    have g2 := getB hx (s.size - 1) hlast
    obtain ⟨c, hc⟩ : ∃ c, s[0]'hpos = c := ⟨_, rfl⟩
    obtain ⟨d, hd⟩ : ∃ d, s[s.size - 1]'hlast = d := ⟨_, rfl⟩
    have hce : ∀ h : 0 < s.size, s[0]'h = c := fun _ => hc
    have hde : ∀ h : s.size - 1 < s.size, s[s.size - 1]'h = d := fun _ => hd
    have k1 : ∀ w, Calls Tryd.prog 55 #[.int .u8 ((c.toNat : Nat) : Int)] w fun e w' => e = .returned (.bool (alnum c)) ∧ w = w' := fun w => hf c w
    have k2 : ∀ w, Calls Tryd.prog 55 #[.int .u8 ((d.toNat : Nat) : Int)] w fun e w' => e = .returned (.bool (alnum d)) ∧ w = w' := fun w => hf d w
    have hres2 : endsF alnum set x = (alnum c && alnum d) := by
      rw [hres, ← hc, ← hd, g1, g2, hxs]; rfl
    have HR := Aside0.mk hres2
    have H1 := Aside0.mk h1
    clear h1 ha hres hx hxs hsd hset hf g1 g2 hres2 hne hc hd
    cases hp : alnum c with
    | false =>
      rw [hp] at k1
      have HQ : Aside0 (endsF alnum set x = false) := ⟨by rw [HR.out, hp]; rfl⟩
      have K1 := Aside0.mk k1; clear k1 k2 hp
      go_enter Tryd.func54, Tryd.ntmps54
      go_wp2_with (first | ((with_reducible refine (H1.out _).mono ?_); rintro e w' ⟨rfl, rfl⟩) | ((with_reducible refine (K1.out _).mono ?_); rintro e w' ⟨rfl, rfl⟩))
      go_ret
      exact ⟨by rw [HQ.out]; rfl, rfl⟩
    | true =>
      rw [hp] at k1
      obtain ⟨b, hb⟩ : ∃ b, alnum d = b := ⟨_, rfl⟩
      rw [hb] at k2
      have HQ : Aside0 (endsF alnum set x = b) := ⟨by rw [HR.out, hp, hb]; rfl⟩
      have K1 := Aside0.mk k1; have K2 := Aside0.mk k2; clear k1 k2 hp hb
      go_enter Tryd.func54, Tryd.ntmps54
      go_wp2_with (first | ((with_reducible refine (H1.out _).mono ?_); rintro e w' ⟨rfl, rfl⟩) | ((with_reducible refine (K1.out _).mono ?_); rintro e w' ⟨rfl, rfl⟩) | ((with_reducible refine (K2.out _).mono ?_); rintro e w' ⟨rfl, rfl⟩))
      go_ret
      exact ⟨by rw [HQ.out]; rfl, rfl⟩
end Go.Proofs.YteigfmchnblkgaaDoor.Hand
