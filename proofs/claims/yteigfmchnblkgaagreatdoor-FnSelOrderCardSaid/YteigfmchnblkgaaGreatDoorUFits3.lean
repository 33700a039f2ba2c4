/- laws.zzFits3: requirements that are not too long. -/
import Derived.Test.YteigfmchnblkgaaGreatDoorULabFits
import Derived.Test.YteigfmchnblkgaaGreatDoorUSpWords
namespace Go.Proofs.YteigfmchnblkgaaGreatDoor.Hand
open Go.RowKit Go.Maps Go.Proofs.YteigfmchnblkgaaGreatDoorW.PrintWords Go.Proofs.YteigfmchnblkgaaGreatDoorW.PrintLast Go.Proofs.YteigfmchnblkgaaGreatDoorW.PrintMore Go.Proofs.YteigfmchnblkgaaGreatDoor.Base
set_option linter.unusedVariables false
set_option linter.unusedSimpArgs false
set_option maxRecDepth 100000
def fitR (r : Rq) : Bool := fits4 (mk r.1) (mk r.2.1) (r.2.2.map mk)
def fits3 (l : List Rq) : Bool := decide (l.length ≤ 2147483647) && l.all fitR
theorem fits3_t {l : List Rq} (h : fits3 l = true) : l.length ≤ 2147483647 ∧ ∀ r ∈ l, r.1.length ≤ 2147483647 ∧ r.2.2.length ≤ 2147483647 ∧ ∀ v ∈ r.2.2, v.length ≤ 2147483647 := by
  unfold fits3 at h
  simp only [Bool.and_eq_true, decide_eq_true_eq] at h
  refine ⟨h.1, fun r hr => ?_⟩
  obtain ⟨h1, _, h3, h4⟩ := fits4_t (List.all_eq_true.1 h.2 r hr)
  exact ⟨h1, by simpa using h3, fun v hv => h4 (mk v) (List.mem_map.2 ⟨v, hv, rfl⟩)⟩
set_option maxHeartbeats 8000000 in
theorem Fits3_calls (A : Option Addr) (c n : Nat) (ls : List Rq) (hn : ls.length = n) (w : World) (hC : KQ.C w A n (rqV ls)) :
    Calls Tryz.prog 20 #[.slice A n c] w fun e w' => e = .returned (.bool (fits3 ls)) ∧ Below w.heap.size w w' := by
  have HC := Aside0.mk hC
  have HLN := Aside0.mk hn
  have HW : Aside0 (fits3 ls = (decide (n ≤ 2147483647) && ls.all (fitR))) := ⟨by unfold fits3; rw [hn]⟩
  obtain ⟨q, hq⟩ : ∃ q, fits3 ls = q := ⟨_, rfl⟩
  rw [hq] at HW ⊢
  have HB0 := Aside0.mk (Below.refl w.heap.size w)
  clear hC hn hq
  by_cases hb : n ≤ 2147483647
  rotate_left
  · have HX : Aside0 (q = false) := ⟨by rw [HW.out, show decide (n ≤ 2147483647) = false from decide_eq_false hb]; rfl⟩
    have b0 : decide ((2147483647 : Int) < (n : Int)) = true := decide_eq_true (by omega)
    have b1 : decide (2147483647 < n) = true := decide_eq_true (by omega)
    go_enter Tryz.func20, Tryz.ntmps20
    go_wp2
    go_ret
    exact ⟨by rw [HX.out]; try rfl, HB0.out⟩
  have HW2 : Aside0 (q = ls.all (fitR)) := ⟨by rw [HW.out, show decide (n ≤ 2147483647) = true from decide_eq_true hb]; rfl⟩
  have b0 : decide ((2147483647 : Int) < (n : Int)) = false := decide_eq_false (by omega)
  have b1 : decide (2147483647 < n) = false := decide_eq_false (by omega)
  go_enter Tryz.func20, Tryz.ntmps20
  go_wp2
  go_loopg [10] (n) (fun k v10 w' => ∃ i : Nat, v10 = .int .i64 i ∧ Aside0 (k + i = n) ∧ Aside0 ((ls.take i).all (fitR) = true) ∧ Aside0 (Below w.heap.size w w'))
  case atStart => exact ⟨0, rfl, ⟨by omega⟩, ⟨rfl⟩, HB0⟩
  case round =>
    obtain ⟨i, rfl, HI, HA, HB⟩ := hrel
    by_cases hil : i < n
    · obtain ⟨r, hr⟩ : ∃ r, ls[i]? = some r := ⟨_, List.getElem?_eq_getElem (by rw [HLN.out]; exact hil)⟩
      obtain ⟨ad, AV, cv, rfl, hk0, hk1, hk2, hcc, hCV⟩ := kq_at2 (Kd.C_below HC.out HB.out) i hil r hr
      obtain ⟨nv, hnv⟩ : ∃ nv, r.2.2.length = nv := ⟨_, rfl⟩
      rw [hnv] at hk2 hCV
      have hbk := heap_alloc_new wr (.cells #[.string (mk r.1), .string (mk r.2.1), .slice AV nv cv] 31)
      have HB1 := Aside0.mk (below_alloc HB.out (.cells #[.string (mk r.1), .string (mk r.2.1), .slice AV nv cv] 31))
      have d0 := (blk_cell hbk 0).trans (show _ = some (Value.string (mk r.1)) from rfl)
      have d1 := (blk_cell hbk 1).trans (show _ = some (Value.string (mk r.2.1)) from rfl)
      have d2 := (blk_cell hbk 2).trans (show _ = some (Value.slice AV nv cv) from rfl)
      have H2 := Aside0.mk (fun (W : World) (hb : Below wr.heap.size wr W) => Fits4_calls (mk r.1) (mk r.2.1) AV cv nv (r.2.2.map mk) (by rw [List.length_map, hnv]) W (Kd.C_below hCV hb))
      have HBA := Aside0.mk (below_alloc (Below.refl wr.heap.size wr) (.cells #[.string (mk r.1), .string (mk r.2.1), .slice AV nv cv] 31))
      obtain ⟨f, hf⟩ : ∃ f, fitR r = f := ⟨_, rfl⟩
      rw [show fits4 (mk r.1) (mk r.2.1) (r.2.2.map mk) = f from hf] at H2
      cases f
      · have HX : Aside0 (q = false) := ⟨by rw [HW2.out]; exact all_not hr hf⟩
        clear hr hf hbk hCV hcc hnv
        go_wp2_with (first | ((with_reducible refine (H2.out _ HBA.out).mono ?_); rintro e w2 ⟨rfl, hb⟩; have HB2 := Aside0.mk (below_step HB1.out hb); clear hb))
        go_ret
        exact ⟨by rw [HX.out]; try rfl, HB2.out⟩
      · have HA2 := Aside0.mk (all_snoc hr HA.out hf)
        clear hr hf hbk hCV hcc hnv
        go_wp2_with (first | ((with_reducible refine (H2.out _ HBA.out).mono ?_); rintro e w2 ⟨rfl, hb⟩; have HB2 := Aside0.mk (below_step HB1.out hb); clear hb))
        go_roundg (n - (i + 1))
        case measure => have := HI.out; omega
        case rel => exact ⟨i + 1, by go_num, ⟨by omega⟩, HA2, HB2⟩
    · have HX : Aside0 (q = true) := ⟨by have h1 := HI.out; have := HA.out; rw [List.take_of_length_le (by rw [HLN.out]; omega)] at this; rw [HW2.out]; exact this⟩
      go_wp2
      go_ret
      exact ⟨by rw [HX.out]; try rfl, HB.out⟩
end Go.Proofs.YteigfmchnblkgaaGreatDoor.Hand
