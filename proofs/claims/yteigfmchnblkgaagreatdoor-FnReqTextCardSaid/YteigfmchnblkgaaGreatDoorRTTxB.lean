/- sort.StringsAreSorted: what the printed functions say. -/
import Derived.Test.YteigfmchnblkgaaGreatDoorRTTxA
import Derived.Test.YteigfmchnblkgaaGreatDoorRTPkS
import Derived.Test.YteigfmchnblkgaaGreatDoorRTLabSetOf
namespace Go.Proofs.YteigfmchnblkgaaGreatDoor.Hand
open Go.RowKit Go.Proofs.YteigfmchnblkgaaGreatDoorW.PrintWords Go.Proofs.YteigfmchnblkgaaGreatDoorW.PrintLast Go.Proofs.YteigfmchnblkgaaGreatDoorW.PrintMore Go.Proofs.YteigfmchnblkgaaGreatDoor.Base
open Go.Sort (ltStr)
open Go.Proofs.YteigfmchnblkgaaGreatDoor.PFnReqText
set_option linter.unusedVariables false
set_option linter.unusedSimpArgs false
set_option maxRecDepth 100000
theorem less_f (x y : ByteArray) : cmp_Less_string.f x y = some (ltStr x.data.toList y.data.toList) := by
  unfold cmp_Less_string.f cmp_isNaN_string.f
  simp [ltS, toList_eq]
theorem rd_at {vs : List ByteArray} {m : Nat} {p : ByteArray} (hp : vs[m]? = some p) : rdOf ByteArray.empty vs (m : Int) = p := by
  unfold rdOf; rw [Int.toNat_natCast, List.getD_eq_getElem?_getD, hp]; rfl
/-- Neighbours below place i stand in order. -/
def OrdTo (vs : List ByteArray) (i : Nat) : Prop := ∀ (j : Nat) (p q : ByteArray), j < i → vs[j]? = some p → vs[j + 1]? = some q → ltStr q.data.toList p.data.toList = false
theorem isS_l0 (vs : List ByteArray) (hn : vs.length ≤ 1000) : ∀ m : Nat, m = 0 ∨ m < vs.length → ∃ k b, slices_IsSorted_string_string.l0 k vs (m : Int) = some b ∧ (b = true → OrdTo vs m) := by
  intro m
  induction m with
  | zero =>
    intro _
    exact ⟨1, true, by simp only [slices_IsSorted_string_string.l0]; rfl, fun _ j p q hj => absurd hj (by omega)⟩
  | succ m ih =>
    intro hm
    have hm2 : m + 1 < vs.length := by omega
    obtain ⟨p, hp⟩ : ∃ p, vs[m]? = some p := ⟨_, List.getElem?_eq_getElem (by omega)⟩
    obtain ⟨q, hq⟩ : ∃ q, vs[m + 1]? = some q := ⟨_, List.getElem?_eq_getElem hm2⟩
    have hw : wrap64 (((m + 1 : Nat) : Int) - 1) = (m : Int) := by rw [show (((m + 1 : Nat) : Int) - 1) = (m : Int) by omega]; exact wrap_id (by omega) (by omega)
    have hs : ∀ k, slices_IsSorted_string_string.l0 (k + 1) vs ((m + 1 : Nat) : Int) = if ltStr q.data.toList p.data.toList = true then some false else slices_IsSorted_string_string.l0 k vs (m : Int) := by
      intro k
      simp only [slices_IsSorted_string_string.l0]
      rw [hw, if_pos (by omega), if_pos (by omega), if_pos (by omega), if_pos (by omega), if_pos (by omega), rd_at hp, rd_at hq, less_f]
      rfl
    cases hl : ltStr q.data.toList p.data.toList with
    | true => exact ⟨1, false, by rw [hs 0, if_pos hl], fun h => by cases h⟩
    | false =>
      obtain ⟨k, b, h1, h2⟩ := ih (by omega)
      refine ⟨k + 1, b, by rw [hs k, if_neg (by rw [hl]; simp), h1], fun hb j p' q' hj hp' hq' => ?_⟩
      by_cases hjm : j = m
      · subst hjm; rw [hp] at hp'; rw [hq] at hq'; cases hp'; cases hq'; exact hl
      · exact h2 hb j p' q' (by omega) hp' hq'
theorem isS_f (vs : List ByteArray) (hn : vs.length ≤ 1000) : ∃ k b, sort_StringsAreSorted.f k vs = some b ∧ (b = true → OrdTo vs vs.length) := by
  by_cases h0 : vs.length = 0
  · refine ⟨1, true, ?_, fun _ j p q hj => absurd hj (by omega)⟩
    unfold sort_StringsAreSorted.f slices_IsSorted_string_string.f
    rw [h0]
    simp only [slices_IsSorted_string_string.l0]
    rw [if_neg (by rw [wrap_id (by omega) (by omega)]; omega)]
    rfl
  · obtain ⟨k, b, h1, h2⟩ := isS_l0 vs hn (vs.length - 1) (by omega)
    refine ⟨k, b, ?_, fun hb j p q hj hp hq => h2 hb j p q (by have := (List.getElem?_eq_some_iff.1 hq).1; omega) hp hq⟩
    unfold sort_StringsAreSorted.f slices_IsSorted_string_string.f
    rw [show wrap64 ((vs.length : Int) - 1) = ((vs.length - 1 : Nat) : Int) from by rw [show ((vs.length : Int) - 1) = ((vs.length - 1 : Nat) : Int) by omega]; exact wrap_id (by omega) (by omega), h1]
    rfl
theorem SAS_calls (A : Option Addr) (c n : Nat) (vs : List ByteArray) (hn : vs.length = n) (hn2 : n ≤ 1000) (hc : n ≤ c) (w : World) (hC : Kd.C Kd.string w A n vs) :
    Calls Tryz.prog 107 #[.slice A n c] w fun e w' => ∃ b : Bool, e = .returned (.bool b) ∧ (b = true → OrdTo vs n) ∧ Below w.heap.size w w' := by
  subst hn
  obtain ⟨k, b, h1, h2⟩ := isS_f vs hn2
  refine (sort_StringsAreSorted.calls k A c vs b w hC hc h1).mono ?_
  rintro e w' ⟨rfl, nd, rfl⟩
  exact ⟨b, rfl, h2, pw_below_drewN (Below.refl _ _) _⟩
end Go.Proofs.YteigfmchnblkgaaGreatDoor.Hand
