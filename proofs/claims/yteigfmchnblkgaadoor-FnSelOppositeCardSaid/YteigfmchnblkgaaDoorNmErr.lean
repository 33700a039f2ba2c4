/- RegexError and MaxLenError: some text of bounded length. -/
import Derived.Test.YteigfmchnblkgaaDoorNmBase
import Derived.Test.YteigfmchnblkgaaDoorShelf
namespace Go.Proofs.YteigfmchnblkgaaDoor.Hand
open Go.RowKit Go.Proofs.YteigfmchnblkgaaDoorW.PrintWords Go.Proofs.YteigfmchnblkgaaDoorW.PrintLast Go.Proofs.YteigfmchnblkgaaDoorW.PrintMore Go.Proofs.YteigfmchnblkgaaDoor.Base
set_option linter.unusedVariables false
set_option linter.unusedSimpArgs false
set_option maxRecDepth 100000

theorem app_size (a b : ByteArray) : (a ++ b).size = a.size + b.size := by simp

set_option maxHeartbeats 4000000 in
theorem RegexError_calls (a f : ByteArray) (ha : a.size ≤ 600) (hf : f.size ≤ 600) (A : Option Addr) (c : Nat) (xs : List ByteArray) (w : World) (hn : xs.length ≤ 3) (hx : ∀ p ∈ xs, p.size ≤ 100) (hr : Kd.C Kd.string w A xs.length xs) (hc : xs.length ≤ c) :
    Calls Tryd.prog 48 #[.string a, .string f, .slice A xs.length c] w fun e w' => ∃ m, e = .returned (.string m) ∧ m.size ≤ 4000 ∧ w = w' := by
  have HA := Aside0.mk hr
  have HX := Aside0.mk hx
  clear hr hx
  by_cases h0 : xs.length = 0
  · have b1 : (a.size + 32 ≤ 9223372036854775807) = True := eq_true (by omega)
    have b2 : (9223372036854775807 < a.size + 32) = False := eq_false (by omega)
    have b3 : (a.size + 32 + f.size ≤ 9223372036854775807) = True := eq_true (by omega)
    have b4 : (9223372036854775807 < a.size + 32 + f.size) = False := eq_false (by omega)
    have b5 : (a.size + 32 + f.size + 2 ≤ 9223372036854775807) = True := eq_true (by omega)
    have b6 : (9223372036854775807 < a.size + 32 + f.size + 2) = False := eq_false (by omega)
    have e0 : (((xs.length : Nat) : Int) == 0) = true := by rw [beq_iff_eq]; omega
    go_enter Tryd.func48, Tryd.ntmps48
    go_wp2
    go_ret
    refine ⟨_, rfl, ?_, rfl⟩
    simp only [app_size]
    have z1 : ∀ d : Array UInt8, (ByteArray.mk d).size = d.size := fun _ => rfl
    simp only [z1]
    simp
    omega
  · have e0 : (((xs.length : Nat) : Int) == 0) = false := by rw [beq_eq_false_iff_ne]; omega
    have b1 : (a.size + 7 ≤ 9223372036854775807) = True := eq_true (by omega)
    have b2 : (9223372036854775807 < a.size + 7) = False := eq_false (by omega)
    go_enter Tryd.func48, Tryd.ntmps48
    go_wp2
    clear e0 b1 b2
    go_loopg [0, 7, 20] (xs.length) (fun g v0 v7 v20 w' => ∃ (i : Nat) (m : ByteArray), v0 = .string m ∧ v20 = .int .i64 i ∧ w = w' ∧ Aside0 (g + i = xs.length) ∧ Aside0 (m.size ≤ 1000 + i * 200))
    case atStart => exact ⟨0, _, rfl, rfl, rfl, ⟨by omega⟩, ⟨by rw [app_size]; have : (ByteArray.mk #[32, 40, 101, 46, 103, 46, 32]).size = 7 := rfl; omega⟩⟩
    case round =>
      obtain ⟨i, m, rfl, rfl, rfl, HI, HM⟩ := hrel
      have hi : i ≤ xs.length := by have := HI.out; omega
      have hm : m.size ≤ 2000 := by have := HM.out; omega
      by_cases hlt : i < xs.length
      · obtain ⟨ad, eA, hcell⟩ := Kd.at_string HA.out (i : Int) (by omega) (by omega)
        subst eA
        obtain ⟨p, hp⟩ : ∃ p, xs[i] = p := ⟨_, rfl⟩
        rw [show rdOf ByteArray.empty xs (i : Int) = p by unfold rdOf; rw [Int.toNat_natCast, getD_of _ _ hlt]; exact hp, Int.toNat_natCast] at hcell
        have hps : p.size ≤ 100 := by rw [← hp]; exact HX.out _ (List.getElem_mem hlt)
        clear hp
        have c1 : (1 + p.size ≤ 9223372036854775807) = True := eq_true (by omega)
        have c2 : (9223372036854775807 < 1 + p.size) = False := eq_false (by omega)
        have c3 : (1 + p.size + 3 ≤ 9223372036854775807) = True := eq_true (by omega)
        have c4 : (9223372036854775807 < 1 + p.size + 3) = False := eq_false (by omega)
        by_cases hi0 : 0 < i
        · have c5 : (m.size + 4 ≤ 9223372036854775807) = True := eq_true (by omega)
          have c6 : (9223372036854775807 < m.size + 4) = False := eq_false (by omega)
          have c7 : (m.size + 4 + (1 + p.size + 3) ≤ 9223372036854775807) = True := eq_true (by omega)
          have c8 : (9223372036854775807 < m.size + 4 + (1 + p.size + 3)) = False := eq_false (by omega)
          go_wp2
          go_roundg (gk - 1)
          case measure => have := HI.out; omega
          case rel =>
            refine ⟨i + 1, _, rfl, by go_num, rfl, ⟨by have := HI.out; omega⟩, ⟨?_⟩⟩
            have := HM.out
            have z1 : ∀ d : Array UInt8, (ByteArray.mk d).size = d.size := fun _ => rfl
            simp only [app_size, z1]
            simp
            omega
        · have c7 : (m.size + (1 + p.size + 3) ≤ 9223372036854775807) = True := eq_true (by omega)
          have c8 : (9223372036854775807 < m.size + (1 + p.size + 3)) = False := eq_false (by omega)
          go_wp2
          go_roundg (gk - 1)
          case measure => have := HI.out; omega
          case rel =>
            refine ⟨i + 1, _, rfl, by go_num, rfl, ⟨by have := HI.out; omega⟩, ⟨?_⟩⟩
            have := HM.out
            have z1 : ∀ d : Array UInt8, (ByteArray.mk d).size = d.size := fun _ => rfl
            simp only [app_size, z1]
            simp
            omega
      · have c1 : (30 + f.size ≤ 9223372036854775807) = True := eq_true (by omega)
        have c2 : (9223372036854775807 < 30 + f.size) = False := eq_false (by omega)
        have c3 : (30 + f.size + 2 ≤ 9223372036854775807) = True := eq_true (by omega)
        have c4 : (9223372036854775807 < 30 + f.size + 2) = False := eq_false (by omega)
        have c5 : (m.size + (30 + f.size + 2) ≤ 9223372036854775807) = True := eq_true (by omega)
        have c6 : (9223372036854775807 < m.size + (30 + f.size + 2)) = False := eq_false (by omega)
        go_wp2
        go_ret
        refine ⟨_, rfl, ?_, rfl⟩
        have z1 : ∀ d : Array UInt8, (ByteArray.mk d).size = d.size := fun _ => rfl
        simp only [app_size, z1]
        simp
        omega

theorem MaxLen_small (n : Nat) (hn : n < 100) (w : World) :
    Calls Tryd.prog 49 #[.int .i64 n] w fun e w' => ∃ m, e = .returned (.string m) ∧ m.size ≤ 4000 ∧ w = w' := by
  obtain ⟨d, hd, hdz⟩ : ∃ d : ByteArray, (⟨(Lib.decDigits n).toArray⟩ : ByteArray) = d ∧ d.size ≤ 100 := by
    refine ⟨_, rfl, ?_⟩
    have : (⟨(Lib.decDigits n).toArray⟩ : ByteArray).size = (Lib.decDigits n).length := by simp [ByteArray.size]
    rw [this]
    have hall : ∀ m : Fin 100, (Lib.decDigits m.val).length ≤ 100 := by decide +kernel
    exact hall ⟨n, hn⟩
  have h1 : ∀ w, Calls Tryd.prog 43 #[.int .i64 n] w fun e w' => e = .returned (.string d) ∧ w = w' := fun w => by
    have h := Tryd.strconv_Itoa_small n hn w
    rw [hd] at h
    exact h.mono fun e w' ⟨h1, h2⟩ => ⟨h1, h2.symm⟩
  have H1 := Aside0.mk h1
  clear h1 hd
  have c1 : (21 + d.size ≤ 9223372036854775807) = True := eq_true (by omega)
  have c2 : (9223372036854775807 < 21 + d.size) = False := eq_false (by omega)
  have c3 : (21 + d.size + 11 ≤ 9223372036854775807) = True := eq_true (by omega)
  have c4 : (9223372036854775807 < 21 + d.size + 11) = False := eq_false (by omega)
  go_enter Tryd.func49, Tryd.ntmps49
  go_wp2_with (first | ((with_reducible refine (H1.out _).mono ?_); rintro e w' ⟨rfl, rfl⟩))
  go_ret
  refine ⟨_, rfl, ?_, rfl⟩
  have z1 : ∀ d : Array UInt8, (ByteArray.mk d).size = d.size := fun _ => rfl
  simp only [app_size, z1]
  simp
  omega
end Go.Proofs.YteigfmchnblkgaaDoor.Hand
