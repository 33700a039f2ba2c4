/- The guards: zzFits5, zzFits4, zzFits2, zzFits1, epPairs. -/
import Derived.Test.YteigfmchnblkgaaGreatDoorRTLabNew
namespace Go.Proofs.YteigfmchnblkgaaGreatDoor.Hand
open Go.RowKit Go.Maps Go.Proofs.YteigfmchnblkgaaGreatDoorW.PrintWords Go.Proofs.YteigfmchnblkgaaGreatDoorW.PrintLast Go.Proofs.YteigfmchnblkgaaGreatDoorW.PrintMore Go.Proofs.YteigfmchnblkgaaGreatDoor.Base
set_option linter.unusedVariables false
set_option linter.unusedSimpArgs false
set_option maxRecDepth 100000
theorem all_snoc {α : Type} {f : α → Bool} {l : List α} {i : Nat} {p : α} (hp : l[i]? = some p) (h : (l.take i).all f = true) (h2 : f p = true) : (l.take (i + 1)).all f = true := by
  rw [List.take_add_one, hp]; simp only [List.all_append] at *; rw [h]; simp [h2]
theorem all_not {α : Type} {f : α → Bool} {l : List α} {i : Nat} {p : α} (hp : l[i]? = some p) (h2 : f p = false) : l.all f = false := by
  rw [List.all_eq_false]; exact ⟨p, List.mem_of_getElem? hp, by rw [h2]; simp⟩
def sz (M : Nat) (p : ByteArray) : Bool := decide (p.size ≤ M)
def fits5 (vs : List ByteArray) : Bool := decide (vs.length ≤ 2147483647) && vs.all (sz 2147483647)
def fits4 (key op : ByteArray) (vs : List ByteArray) : Bool := sz 2147483647 key && (sz 2147483647 op && fits5 vs)
theorem fits5_t {vs : List ByteArray} (h : fits5 vs = true) : vs.length ≤ 2147483647 ∧ ∀ p ∈ vs, p.size ≤ 2147483647 := by
  unfold fits5 sz at h; simp only [Bool.and_eq_true, decide_eq_true_eq, List.all_eq_true] at h; exact h
theorem fits4_t {key op : ByteArray} {vs : List ByteArray} (h : fits4 key op vs = true) : key.size ≤ 2147483647 ∧ op.size ≤ 2147483647 ∧ vs.length ≤ 2147483647 ∧ ∀ p ∈ vs, p.size ≤ 2147483647 := by
  unfold fits4 sz at h; simp only [Bool.and_eq_true, decide_eq_true_eq] at h; exact ⟨h.1, h.2.1, fits5_t h.2.2⟩
set_option maxHeartbeats 8000000 in
theorem Fits5_calls (A : Option Addr) (c n : Nat) (vs : List ByteArray) (hn : vs.length = n) (w : World) (hC : Kd.C Kd.string w A n vs) :
    Calls Tryz.prog 56 #[.slice A n c] w fun e w' => e = .returned (.bool (fits5 vs)) ∧ w = w' := by
  have HC := Aside0.mk hC
  have HLN := Aside0.mk hn
  have HW : Aside0 (fits5 vs = (decide (n ≤ 2147483647) && vs.all (sz 2147483647))) := ⟨by unfold fits5; rw [hn]⟩
  obtain ⟨q, hq⟩ : ∃ q, fits5 vs = q := ⟨_, rfl⟩
  rw [hq] at HW ⊢
  clear hC hn hq
  by_cases hb : n ≤ 2147483647
  rotate_left
  · have HX : Aside0 (q = false) := ⟨by rw [HW.out, show decide (n ≤ 2147483647) = false from decide_eq_false hb]; rfl⟩
    have b0 : decide ((2147483647 : Int) < (n : Int)) = true := decide_eq_true (by omega)
    have b1 : decide (2147483647 < n) = true := decide_eq_true (by omega)
    go_enter Tryz.func56, Tryz.ntmps56
    go_wp2
    go_ret
    exact ⟨by rw [HX.out]; try rfl, rfl⟩
  have HW2 : Aside0 (q = vs.all (sz 2147483647)) := ⟨by rw [HW.out, show decide (n ≤ 2147483647) = true from decide_eq_true hb]; rfl⟩
  have b0 : decide ((2147483647 : Int) < (n : Int)) = false := decide_eq_false (by omega)
  have b1 : decide (2147483647 < n) = false := decide_eq_false (by omega)
  go_enter Tryz.func56, Tryz.ntmps56
  go_wp2
  go_loopg [10] (n) (fun k v10 w' => ∃ i : Nat, v10 = .int .i64 i ∧ w = w' ∧ Aside0 (k + i = n) ∧ Aside0 ((vs.take i).all (sz 2147483647) = true))
  case atStart => exact ⟨0, rfl, rfl, ⟨by omega⟩, ⟨rfl⟩⟩
  case round =>
    obtain ⟨i, rfl, rfl, HI, HA⟩ := hrel
    by_cases hil : i < n
    · obtain ⟨ad, rfl, hk0⟩ := Kd.at_string HC.out (i : Int) (by omega) (by omega)
      rw [Int.toNat_natCast] at hk0
      obtain ⟨p, hp⟩ : ∃ p, vs[i]? = some p := ⟨_, List.getElem?_eq_getElem (by rw [HLN.out]; exact hil)⟩
      have hg : rdOf ByteArray.empty vs (i : Int) = p := by unfold rdOf; rw [Int.toNat_natCast, List.getD_eq_getElem?_getD, hp]; rfl
      rw [hg] at hk0
      by_cases hps : p.size ≤ 2147483647
      · have HA2 := Aside0.mk (all_snoc hp HA.out (show sz 2147483647 p = true from decide_eq_true hps))
        have p0 : decide ((2147483647 : Int) < (p.size : Int)) = false := decide_eq_false (by omega)
        have p1 : decide (2147483647 < p.size) = false := decide_eq_false (by omega)
        clear hp hg
        go_wp2
        go_roundg (n - (i + 1))
        case measure => have := HI.out; omega
        case rel => exact ⟨i + 1, by go_num, rfl, ⟨by omega⟩, HA2⟩
      · have HX : Aside0 (q = false) := ⟨by rw [HW2.out]; exact all_not hp (show sz 2147483647 p = false from decide_eq_false hps)⟩
        have p0 : decide ((2147483647 : Int) < (p.size : Int)) = true := decide_eq_true (by omega)
        have p1 : decide (2147483647 < p.size) = true := decide_eq_true (by omega)
        clear hp hg
        go_wp2
        go_ret
        exact ⟨by rw [HX.out]; try rfl, rfl⟩
    · have HX : Aside0 (q = true) := ⟨by have h1 := HI.out; have := HA.out; rw [List.take_of_length_le (by rw [HLN.out]; omega)] at this; rw [HW2.out]; exact this⟩
      go_wp2
      go_ret
      exact ⟨by rw [HX.out]; try rfl, rfl⟩
set_option maxHeartbeats 8000000 in
theorem Fits4_calls (key op : ByteArray) (A : Option Addr) (c n : Nat) (vs : List ByteArray) (hn : vs.length = n) (w : World) (hC : Kd.C Kd.string w A n vs) :
    Calls Tryz.prog 23 #[.agg #[.string key, .string op, .slice A n c]] w fun e w' => e = .returned (.bool (fits4 key op vs)) ∧ Below w.heap.size w w' := by
  have hbk := heap_alloc_new w (.cells #[.string key, .string op, .slice A n c] 31)
  have HBA := Aside0.mk (below_alloc (Below.refl w.heap.size w) (.cells #[.string key, .string op, .slice A n c] 31))
  obtain ⟨W1, hW1⟩ : ∃ W1, w.alloc (.cells #[.string key, .string op, .slice A n c] 31) = W1 := ⟨_, rfl⟩
  rw [hW1] at hbk HBA
  have c0 : W1.cell? ⟨w.heap.size, 0, none⟩ = some (.string key) := (blk_cell hbk 0).trans rfl
  have c1 : W1.cell? ⟨w.heap.size, 1, none⟩ = some (.string op) := (blk_cell hbk 1).trans rfl
  have c2 : W1.cell? ⟨w.heap.size, 2, none⟩ = some (.slice A n c) := (blk_cell hbk 2).trans rfl
  have H5 := Aside0.mk (Fits5_calls A c n vs hn W1 (Kd.C_below hC HBA.out))
  obtain ⟨q, hq⟩ : ∃ q, fits4 key op vs = q := ⟨_, rfl⟩
  have HW := Aside0.mk hq.symm
  unfold fits4 at HW
  rw [hq]
  obtain ⟨f, hf⟩ : ∃ f, fits5 vs = f := ⟨_, rfl⟩
  rw [hf] at H5 HW
  clear hbk hC hn hq hf
  by_cases hk : key.size ≤ 2147483647
  rotate_left
  · have HX : Aside0 (q = false) := ⟨by rw [HW.out, show sz 2147483647 key = false from decide_eq_false hk]; simp⟩
    have k0 : decide ((2147483647 : Int) < (key.size : Int)) = true := decide_eq_true (by omega)
    have k1 : decide (2147483647 < key.size) = true := decide_eq_true (by omega)
    go_enter Tryz.func23, Tryz.ntmps23
    go_wp2
    go_ret
    exact ⟨by rw [HX.out]; try rfl, HBA.out⟩
  have k0 : decide ((2147483647 : Int) < (key.size : Int)) = false := decide_eq_false (by omega)
  have k1 : decide (2147483647 < key.size) = false := decide_eq_false (by omega)
  by_cases ho : op.size ≤ 2147483647
  rotate_left
  · have HX : Aside0 (q = false) := ⟨by rw [HW.out, show sz 2147483647 op = false from decide_eq_false ho]; simp⟩
    have o0 : decide ((2147483647 : Int) < (op.size : Int)) = true := decide_eq_true (by omega)
    have o1 : decide (2147483647 < op.size) = true := decide_eq_true (by omega)
    go_enter Tryz.func23, Tryz.ntmps23
    go_wp2
    go_ret
    exact ⟨by rw [HX.out]; try rfl, HBA.out⟩
  have o0 : decide ((2147483647 : Int) < (op.size : Int)) = false := decide_eq_false (by omega)
  have o1 : decide (2147483647 < op.size) = false := decide_eq_false (by omega)
  have HX : Aside0 (q = f) := ⟨by rw [HW.out, show sz 2147483647 key = true from decide_eq_true hk, show sz 2147483647 op = true from decide_eq_true ho]; rfl⟩
  cases f
  · go_enter Tryz.func23, Tryz.ntmps23
    go_wp2_with (first | ((with_reducible refine (H5.out).mono ?_); rintro e w2 ⟨rfl, rfl⟩))
    go_ret
    exact ⟨by rw [HX.out]; try rfl, HBA.out⟩
  · go_enter Tryz.func23, Tryz.ntmps23
    go_wp2_with (first | ((with_reducible refine (H5.out).mono ?_); rintro e w2 ⟨rfl, rfl⟩))
    go_ret
    exact ⟨by rw [HX.out]; try rfl, HBA.out⟩
end Go.Proofs.YteigfmchnblkgaaGreatDoor.Hand
