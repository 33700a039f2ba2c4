/- impl.requirement. -/
import Derived.Test.YthfjolafikgpoaaGreatDoorSALabNew
import Derived.RegionTactic
import Derived.Deep.RegionLaw
import Derived.Deep.RegionWith
import Derived.Deep.RegionHeldLaw
namespace Go.Proofs.YthfjolafikgpoaaGreatDoor.Hand
open Go.RowKit Go.Maps Go.Proofs.YthfjolafikgpoaaGreatDoorW.PrintWords Go.Proofs.YthfjolafikgpoaaGreatDoorW.PrintLast Go.Proofs.YthfjolafikgpoaaGreatDoorW.PrintMore Go.Proofs.YthfjolafikgpoaaGreatDoor.Base
set_option linter.unusedVariables false
set_option linter.unusedSimpArgs false
set_option maxRecDepth 100000
theorem infoLS : (Tryz.prog.info? 9).map (fun i => (i.zero, i.size, i.bytes)) = some (some (.string ⟨#[]⟩), 1, 16) := by kernel_rfl
theorem R_empty (W : World) (base : Nat) (hb : base ≤ W.heap.size) : Kd.R Kd.string 9 (W.alloc (.cells #[] 9)) base (fun _ => True) (.slice (some ⟨W.heap.size, 0, none⟩) 0 0) ([] : List ByteArray) := by
 have h2 := World.ownsRow_lit (base := base) (e := 9) (size := 1) W #[] 0 hb (by unfold maxLen; omega) rfl
 exact Kd.R_of_own h2 (fun _ _ => trivial)
theorem has_take {vs : List ByteArray} {j : Nat} {p : ByteArray} {v : L} (hp : vs[j]? = some p) (h : (vL (vs.take j)).contains v = false) (h2 : p.data.toList ≠ v) : (vL (vs.take (j + 1))).contains v = false := by
 rw [List.take_add_one, hp, vL, List.map_append]
 simp at h ⊢
 exact ⟨h, fun e => h2 e.symm⟩
theorem hasValue_calls (A : Option Addr) (c n b o : Nat) (vs : List ByteArray) (hn : vs.length = n) (hn2 : n ≤ 1000000) (v : ByteArray) (w : World) (c2 : w.cell? ⟨b, o + 2, none⟩ = some (.slice A n c)) (hC : Kd.C Kd.string w A n vs) :
   Calls Tryz.prog 219 #[.pointer (some ⟨b, o, none⟩), .string v] w fun e w' => e = .returned (.bool ((vL vs).contains v.data.toList)) ∧ Below w.heap.size w w' := by
 have HLT := Aside0.mk (show b < w.heap.size from World.block_lt_of_cell? w _ c2)
 have HC := Aside0.mk hC
 have HLN := Aside0.mk hn
 have HC2 := Aside0.mk c2
 clear hC hn
 go_enter Tryz.func219, Tryz.ntmps219
 go_wp2
 clear c2
 go_loopg [11] (n) (fun k v11 w' => ∃ j : Nat, v11 = .int .i64 j ∧ Aside0 (k + j = n) ∧ Aside0 ((vL (vs.take j)).contains v.data.toList = false) ∧ Aside0 (Below w.heap.size w w'))
 case atStart => exact ⟨0, rfl, ⟨by omega⟩, ⟨rfl⟩, ⟨Below.refl _ _⟩⟩
 case round =>
  obtain ⟨j, rfl, HJ, HA, HB⟩ := hrel
  by_cases hjl : j < n
  · obtain ⟨ad, rfl, hk0⟩ := Kd.at_string (Kd.C_below HC.out HB.out) (j : Int) (by omega) (by omega)
    rw [Int.toNat_natCast] at hk0
    obtain ⟨p, hp⟩ : ∃ p, vs[j]? = some p := ⟨_, List.getElem?_eq_getElem (by rw [HLN.out]; exact hjl)⟩
    have hg : rdOf ByteArray.empty vs (j : Int) = p := by unfold rdOf; rw [Int.toNat_natCast, List.getD_eq_getElem?_getD, hp]; rfl
    rw [hg] at hk0
    have c3 : wr.cell? ⟨b, o + 2, none⟩ = some (.slice (some ad) n c) := (HB.out.cell HLT.out).trans HC2.out
    by_cases hpv : p.data.toList = v.data.toList
    · have hq : (p.toList == v.toList) = true := by rw [toList_eq, toList_eq, hpv]; simp
      have HF : Aside0 ((vL vs).contains v.data.toList = true) := ⟨by simp only [List.contains_iff_mem, vL]; exact List.mem_map.2 ⟨p, List.mem_of_getElem? hp, hpv⟩⟩
      clear hp hg hpv
      go_wp2
      go_ret
      exact ⟨by rw [HF.out]; rfl, HB.out⟩
    · have hq : (p.toList == v.toList) = false := by rw [toList_eq, toList_eq]; simpa using hpv
      have HA2 := Aside0.mk (has_take hp HA.out hpv)
      clear hp hg hpv
      go_wp2
      go_roundg (n - (j + 1))
      case measure => have := HJ.out; omega
      case rel => exact ⟨j + 1, by go_num, ⟨by omega⟩, HA2, HB⟩
  · have hje : j = n := by have := HJ.out; omega
    have HF : Aside0 ((vL vs).contains v.data.toList = false) := ⟨by have := HA.out; rwa [List.take_of_length_le (by rw [HLN.out, hje]; exact Nat.le_refl _)] at this⟩
    subst hje
    go_wp2
    go_ret
    exact ⟨by rw [HF.out]; rfl, HB.out⟩
end Go.Proofs.YthfjolafikgpoaaGreatDoor.Hand
