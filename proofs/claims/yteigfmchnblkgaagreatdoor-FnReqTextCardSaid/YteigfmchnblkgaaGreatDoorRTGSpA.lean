import Derived.Test.YteigfmchnblkgaaGreatDoorRTGLabB
import Derived.Test.YteigfmchnblkgaaGreatDoorRTLabFair
import Derived.Test.YteigfmchnblkgaaGreatDoorRTGLabC
/- spec.Under, spec.Holds, spec.Meets; laws.epReq. -/
namespace Go.Proofs.YteigfmchnblkgaaGreatDoor.Hand
open Go.RowKit Go.Maps Go.Proofs.YteigfmchnblkgaaGreatDoorW.PrintWords Go.Proofs.YteigfmchnblkgaaGreatDoorW.PrintLast Go.Proofs.YteigfmchnblkgaaGreatDoorW.PrintMore Go.Proofs.YteigfmchnblkgaaGreatDoor.Base
set_option linter.unusedVariables false
set_option linter.unusedSimpArgs false
set_option maxRecDepth 100000
/-- At most five values of at most a hundred bytes. -/
def reqOk (key : ByteArray) (vs : List ByteArray) : Bool := vs.all (fun p => decide (p.size ≤ 100)) && (decide (vs.length ≤ 5) && decide (key.size ≤ 400))
theorem reqOk_t {key : ByteArray} {vs : List ByteArray} (h : reqOk key vs = true) : (∀ p ∈ vs, p.size ≤ 100) ∧ vs.length ≤ 5 ∧ key.size ≤ 400 := by
  unfold reqOk at h
  simp only [Bool.and_eq_true, decide_eq_true_eq, List.all_eq_true] at h
  exact h
set_option maxHeartbeats 4000000 in
theorem epReq_calls (key op : ByteArray) (hk : key.size ≤ 2147483647) (A : Option Addr) (c n : Nat) (vs : List ByteArray) (hn : vs.length = n) (hn2 : n ≤ 2147483647) (hz : ∀ p ∈ vs, p.size ≤ 2147483647) (w : World) (hC : Kd.C Kd.string w A n vs) :
    Calls Tryz.prog 24 #[.agg #[.string key, .string op, .slice A n c]] w fun e w' => e = .returned (.bool (reqOk key vs)) ∧ Below w.heap.size w w' := by
  have hbk := heap_alloc_new w (.cells #[.string key, .string op, .slice A n c] 31)
  have HB1 := Aside0.mk (below_alloc (Below.refl w.heap.size w) (.cells #[.string key, .string op, .slice A n c] 31))
  obtain ⟨W, hW⟩ : ∃ W, w.alloc (.cells #[.string key, .string op, .slice A n c] 31) = W := ⟨_, rfl⟩
  rw [hW] at hbk HB1
  have c0 : W.cell? ⟨w.heap.size, 0, none⟩ = some (.string key) := (blk_cell hbk 0).trans rfl
  have c2 : W.cell? ⟨w.heap.size, 2, none⟩ = some (.slice A n c) := (blk_cell hbk 2).trans rfl
  have HC := Aside0.mk (Kd.C_below hC HB1.out)
  have HLN := Aside0.mk hn
  have HZ := Aside0.mk hz
  clear hC hn hz hbk
  go_enter Tryz.func24, Tryz.ntmps24
  go_wp2
  go_loopg [8] (n) (fun k v8 w' => ∃ j : Nat, v8 = .int .i64 j ∧ W = w' ∧ Aside0 (k + j = n) ∧ Aside0 ((vs.take j).all (fun p => decide (p.size ≤ 100)) = true))
  case atStart => exact ⟨0, rfl, by first | rfl | exact hW.symm | exact hW, ⟨by omega⟩, ⟨rfl⟩⟩
  case round =>
    obtain ⟨j, rfl, rfl, HJ, HA⟩ := hrel
    by_cases hjl : j < n
    · obtain ⟨ad, rfl, hk0⟩ := Kd.at_string HC.out (j : Int) (by omega) (by omega)
      rw [Int.toNat_natCast] at hk0
      obtain ⟨p, hp⟩ : ∃ p, vs[j]? = some p := ⟨_, List.getElem?_eq_getElem (by rw [HLN.out]; exact hjl)⟩
      have hg : rdOf ByteArray.empty vs (j : Int) = p := by unfold rdOf; rw [Int.toNat_natCast, List.getD_eq_getElem?_getD, hp]; rfl
      rw [hg] at hk0
      have hpz := HZ.out p (List.mem_of_getElem? hp)
      by_cases h1 : p.size ≤ 100
      · have HA2 : Aside0 ((vs.take (j + 1)).all (fun p => decide (p.size ≤ 100)) = true) := ⟨by rw [List.take_add_one, hp, List.all_append, HA.out]; simpa using h1⟩
        have h2 : ((p.size : Int) ≤ 100) := by omega
        have h3 : (100 < (p.size : Int)) = False := eq_false (by omega)
        clear hp hg
        go_wp2
        go_roundg (n - (j + 1))
        case measure => have := HJ.out; omega
        case rel => exact ⟨j + 1, by go_num, rfl, ⟨by omega⟩, HA2⟩
      · have HF : Aside0 (reqOk key vs = false) := ⟨by unfold reqOk; rw [show vs.all (fun p => decide (p.size ≤ 100)) = false from List.all_eq_false.2 ⟨p, List.mem_of_getElem? hp, by simpa using h1⟩]; rfl⟩
        have h3 : (100 < (p.size : Int)) := by omega
        clear hp hg
        go_wp2
        go_ret
        exact ⟨by rw [HF.out]; try rfl, HB1.out⟩
    · have hje : j = n := by have := HJ.out; omega
      have HV : Aside0 (reqOk key vs = (decide (n ≤ 5) && decide (key.size ≤ 400))) := ⟨by have := HA.out; rw [List.take_of_length_le (by rw [HLN.out, hje]; exact Nat.le_refl _)] at this; unfold reqOk; rw [this, HLN.out]; rfl⟩
      subst hje
      by_cases h5 : j ≤ 5
      · have h6 : ((j : Int) ≤ 5) := by omega
        have HV2 : Aside0 (reqOk key vs = decide (key.size ≤ 400)) := ⟨by rw [HV.out, decide_eq_true h5]; rfl⟩
        by_cases h4 : key.size ≤ 400
        · have h7 : ((key.size : Int) ≤ 400) := by omega
          have HV3 : Aside0 (reqOk key vs = true) := ⟨by rw [HV2.out, decide_eq_true h4]⟩
          go_wp2
          go_ret
          exact ⟨by rw [HV3.out]; first | rfl | simp [h7], HB1.out⟩
        · have h7 : ((key.size : Int) ≤ 400) = False := eq_false (by omega)
          have HV3 : Aside0 (reqOk key vs = false) := ⟨by rw [HV2.out, decide_eq_false h4]⟩
          go_wp2
          go_ret
          exact ⟨by rw [HV3.out]; first | rfl | simp [h7], HB1.out⟩
      · have h6 : ((j : Int) ≤ 5) = False := eq_false (by omega)
        have HV3 : Aside0 (reqOk key vs = false) := ⟨by rw [HV.out, decide_eq_false h5]; rfl⟩
        go_wp2
        go_ret
        exact ⟨by rw [HV3.out]; first | rfl | simp [h6], HB1.out⟩
end Go.Proofs.YteigfmchnblkgaaGreatDoor.Hand

/- spec.Meets. -/
namespace Go.Proofs.YteigfmchnblkgaaGreatDoor.Hand
open Go.RowKit Go.Maps Go.Proofs.YteigfmchnblkgaaGreatDoorW.PrintWords Go.Proofs.YteigfmchnblkgaaGreatDoorW.PrintLast Go.Proofs.YteigfmchnblkgaaGreatDoorW.PrintMore Go.Proofs.YteigfmchnblkgaaGreatDoor.Base
set_option linter.unusedVariables false
set_option linter.unusedSimpArgs false
set_option maxRecDepth 100000
end Go.Proofs.YteigfmchnblkgaaGreatDoor.Hand
