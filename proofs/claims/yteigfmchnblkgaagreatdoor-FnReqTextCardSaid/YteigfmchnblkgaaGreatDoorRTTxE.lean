/- (*labels.Requirement).String. (Printed by strreq.py.) -/
import Derived.Test.YteigfmchnblkgaaGreatDoorRTTxD
namespace Go.Proofs.YteigfmchnblkgaaGreatDoor.Hand
open Go.RowKit Go.Proofs.YteigfmchnblkgaaGreatDoorW.PrintWords Go.Proofs.YteigfmchnblkgaaGreatDoorW.PrintLast Go.Proofs.YteigfmchnblkgaaGreatDoorW.PrintMore Go.Proofs.YteigfmchnblkgaaGreatDoor.Base
set_option linter.unusedVariables false
set_option linter.unusedSimpArgs false
set_option maxRecDepth 100000
/-- The buffer in block g of W holds s. -/
structure BufSt (w W : World) (s : ByteArray) (k : Nat) : Prop where
  be : Below w.heap.size w W
  st : W.heap[w.heap.size]? = some (.cells #[.string s] 135 (0, 0))
  sz : s.size ≤ k * 20000000
theorem BufSt.calls {w W : World} {s : ByteArray} {k : Nat} (t : ByteArray) (h : BufSt w W s k) (hk : k ≤ 20) (ht : t.size ≤ 20000000) :
    Calls Tryz.prog 88 #[.pointer (some ⟨w.heap.size, 0, none⟩), .string t] W fun e W' => e = .returned (.tuple #[]) ∧ BufSt w W' (s ++ t) (k + 1) := by
  refine (BufW_calls w.heap.size s t (by have := h.sz; omega) W h.st).mono ?_
  rintro e w' ⟨rfl, rfl⟩
  refine ⟨rfl, below_set h.be (Nat.le_refl _), ?_, by have := h.sz; rw [ByteArray.size_append]; omega⟩
  exact blk_put h.st 0 _ (cs' := #[.string (s ++ t)]) rfl
theorem BufSt.new (w : World) : BufSt w (w.alloc (.cells #[.string ⟨#[]⟩] 135)) ⟨#[]⟩ 0 := ⟨below_alloc (Below.refl _ _) _, heap_alloc_new w _, by decide⟩
theorem empty_app (s : ByteArray) : (⟨#[]⟩ : ByteArray) ++ s = s := by
  apply ByteArray.ext; simp [ByteArray.data_append]
set_option maxHeartbeats 8000000 in
theorem Str_ex (key op : ByteArray) (hx : op.toList = [101, 120, 105, 115, 116, 115]) (hk : key.size ≤ 2000) (rb n c : Nat) (A : Option Addr) (w : World) (hb : w.heap[rb]? = some (.cells #[.string key, .string op, .slice A n c] 128 (0, 0))) :
    Calls Tryz.prog 70 #[.pointer (some ⟨rb, 0, none⟩)] w fun e w' => e = .returned (.string (key)) ∧ Below w.heap.size w w' := by
  have e_eq : (op.toList == ([61] : List UInt8)) = false := by rw [hx]; rfl
  have e_deq : (op.toList == ([61, 61] : List UInt8)) = false := by rw [hx]; rfl
  have e_ne : (op.toList == ([33, 61] : List UInt8)) = false := by rw [hx]; rfl
  have e_in : (op.toList == ([105, 110] : List UInt8)) = false := by rw [hx]; rfl
  have e_notin : (op.toList == ([110, 111, 116, 105, 110] : List UInt8)) = false := by rw [hx]; rfl
  have e_gt : (op.toList == ([103, 116] : List UInt8)) = false := by rw [hx]; rfl
  have e_lt : (op.toList == ([108, 116] : List UInt8)) = false := by rw [hx]; rfl
  have e_ex : (op.toList == ([101, 120, 105, 115, 116, 115] : List UInt8)) = true := by rw [hx]; rfl
  have e_nex : (op.toList == ([33] : List UInt8)) = false := by rw [hx]; rfl
  have HBK := Aside0.mk hb
  have HKS : Aside0 (key.size ≤ 20000000) := ⟨by omega⟩
  clear hb hx
  obtain ⟨W1, hW1⟩ : ∃ W1, w.alloc (.cells #[.string ⟨#[]⟩] 135) = W1 := ⟨_, rfl⟩
  have HS : Aside0 (BufSt w W1 ⟨#[]⟩ 0) := ⟨by rw [← hW1]; exact BufSt.new w⟩
  have HC : Aside0 (∀ W s k, BufSt w W s k → W.cell? ⟨rb, 0, none⟩ = some (.string key) ∧ W.cell? ⟨rb, 1, none⟩ = some (.string op) ∧ W.cell? ⟨rb, 2, none⟩ = some (.slice A n c)) := ⟨fun W s k h => by
    have := (h.be.block rb (blk_lt HBK.out)).trans HBK.out
    exact ⟨(blk_cell this 0).trans rfl, (blk_cell this 1).trans rfl, (blk_cell this 2).trans rfl⟩⟩
  obtain ⟨k0, k1, k2⟩ := HC.out _ _ _ HS.out
  go_enter Tryz.func70, Tryz.ntmps70
  go_upto_region 2 with (fail)
  try rw [hW1]
  clear hW1
  go_wp2_with (first | ((with_reducible refine (BufSt.calls _ HS.out (by omega) (by first | exact HKS.out | decide)).mono ?_); rintro e w1 ⟨rfl, hs⟩; clear k0 k1 k2 HS; have HS := Aside0.mk hs; clear hs; obtain ⟨k0, k1, k2⟩ := HC.out _ _ _ HS.out) | ((with_reducible refine (BufS_calls _ _ _ HS.out.st).mono ?_); rintro e w1 ⟨rfl, rfl⟩))
  go_ret
  exact ⟨congrArg (fun s => Ending.returned (.string s)) (by rw [empty_app]), HS.out.be⟩
set_option maxHeartbeats 8000000 in
theorem Str_nex (key op : ByteArray) (hx : op.toList = [33]) (hk : key.size ≤ 2000) (rb n c : Nat) (A : Option Addr) (w : World) (hb : w.heap[rb]? = some (.cells #[.string key, .string op, .slice A n c] 128 (0, 0))) :
    Calls Tryz.prog 70 #[.pointer (some ⟨rb, 0, none⟩)] w fun e w' => e = .returned (.string (⟨#[33]⟩ ++ key)) ∧ Below w.heap.size w w' := by
  have e_eq : (op.toList == ([61] : List UInt8)) = false := by rw [hx]; rfl
  have e_deq : (op.toList == ([61, 61] : List UInt8)) = false := by rw [hx]; rfl
  have e_ne : (op.toList == ([33, 61] : List UInt8)) = false := by rw [hx]; rfl
  have e_in : (op.toList == ([105, 110] : List UInt8)) = false := by rw [hx]; rfl
  have e_notin : (op.toList == ([110, 111, 116, 105, 110] : List UInt8)) = false := by rw [hx]; rfl
  have e_gt : (op.toList == ([103, 116] : List UInt8)) = false := by rw [hx]; rfl
  have e_lt : (op.toList == ([108, 116] : List UInt8)) = false := by rw [hx]; rfl
  have e_ex : (op.toList == ([101, 120, 105, 115, 116, 115] : List UInt8)) = false := by rw [hx]; rfl
  have e_nex : (op.toList == ([33] : List UInt8)) = true := by rw [hx]; rfl
  have HBK := Aside0.mk hb
  have HKS : Aside0 (key.size ≤ 20000000) := ⟨by omega⟩
  clear hb hx
  obtain ⟨W1, hW1⟩ : ∃ W1, w.alloc (.cells #[.string ⟨#[]⟩] 135) = W1 := ⟨_, rfl⟩
  have HS : Aside0 (BufSt w W1 ⟨#[]⟩ 0) := ⟨by rw [← hW1]; exact BufSt.new w⟩
  have HC : Aside0 (∀ W s k, BufSt w W s k → W.cell? ⟨rb, 0, none⟩ = some (.string key) ∧ W.cell? ⟨rb, 1, none⟩ = some (.string op) ∧ W.cell? ⟨rb, 2, none⟩ = some (.slice A n c)) := ⟨fun W s k h => by
    have := (h.be.block rb (blk_lt HBK.out)).trans HBK.out
    exact ⟨(blk_cell this 0).trans rfl, (blk_cell this 1).trans rfl, (blk_cell this 2).trans rfl⟩⟩
  obtain ⟨k0, k1, k2⟩ := HC.out _ _ _ HS.out
  go_enter Tryz.func70, Tryz.ntmps70
  go_upto_region 2 with (fail)
  try rw [hW1]
  clear hW1
  go_wp2_with (first | ((with_reducible refine (BufSt.calls _ HS.out (by omega) (by first | exact HKS.out | decide)).mono ?_); rintro e w1 ⟨rfl, hs⟩; clear k0 k1 k2 HS; have HS := Aside0.mk hs; clear hs; obtain ⟨k0, k1, k2⟩ := HC.out _ _ _ HS.out) | ((with_reducible refine (BufS_calls _ _ _ HS.out.st).mono ?_); rintro e w1 ⟨rfl, rfl⟩))
  go_ret
  exact ⟨congrArg (fun s => Ending.returned (.string s)) (by rw [empty_app]), HS.out.be⟩
set_option maxHeartbeats 8000000 in
theorem Str_eq (key op v : ByteArray) (hx : op.toList = [61]) (hk : key.size ≤ 2000) (hv : v.size ≤ 20000000) (rb c : Nat) (A : Option Addr) (w : World) (hb : w.heap[rb]? = some (.cells #[.string key, .string op, .slice A 1 c] 128 (0, 0))) (hC : Kd.C Kd.string w A 1 [v]) :
    Calls Tryz.prog 70 #[.pointer (some ⟨rb, 0, none⟩)] w fun e w' => e = .returned (.string (key ++ ⟨#[61]⟩ ++ v)) ∧ Below w.heap.size w w' := by
  have e_eq : (op.toList == ([61] : List UInt8)) = true := by rw [hx]; rfl
  have e_deq : (op.toList == ([61, 61] : List UInt8)) = false := by rw [hx]; rfl
  have e_ne : (op.toList == ([33, 61] : List UInt8)) = false := by rw [hx]; rfl
  have e_in : (op.toList == ([105, 110] : List UInt8)) = false := by rw [hx]; rfl
  have e_notin : (op.toList == ([110, 111, 116, 105, 110] : List UInt8)) = false := by rw [hx]; rfl
  have e_gt : (op.toList == ([103, 116] : List UInt8)) = false := by rw [hx]; rfl
  have e_lt : (op.toList == ([108, 116] : List UInt8)) = false := by rw [hx]; rfl
  have e_ex : (op.toList == ([101, 120, 105, 115, 116, 115] : List UInt8)) = false := by rw [hx]; rfl
  have e_nex : (op.toList == ([33] : List UInt8)) = false := by rw [hx]; rfl
  have HBK := Aside0.mk hb
  have HKS : Aside0 (key.size ≤ 20000000) := ⟨by omega⟩
  clear hb hx
  obtain ⟨W1, hW1⟩ : ∃ W1, w.alloc (.cells #[.string ⟨#[]⟩] 135) = W1 := ⟨_, rfl⟩
  have HS : Aside0 (BufSt w W1 ⟨#[]⟩ 0) := ⟨by rw [← hW1]; exact BufSt.new w⟩
  have HVS : Aside0 (v.size ≤ 20000000) := ⟨hv⟩
  obtain ⟨ad, rfl, _⟩ := Kd.at_string hC 0 (by omega) (by omega)
  have HC : Aside0 (∀ W s k, BufSt w W s k → W.cell? ⟨rb, 0, none⟩ = some (.string key) ∧ W.cell? ⟨rb, 1, none⟩ = some (.string op) ∧ W.cell? ⟨rb, 2, none⟩ = some (.slice (some ad) 1 c) ∧ W.cell? ad = some (.string v)) := ⟨fun W s k h => by
    have := (h.be.block rb (blk_lt HBK.out)).trans HBK.out
    obtain ⟨ad2, e2, h3⟩ := Kd.at_string (Kd.C_below hC h.be) 0 (by omega) (by omega)
    cases e2
    have e : ad.add 0 = ad := by cases ad; rfl
    rw [show (0 : Int).toNat = 0 from rfl, e] at h3
    exact ⟨(blk_cell this 0).trans rfl, (blk_cell this 1).trans rfl, (blk_cell this 2).trans rfl, h3⟩⟩
  clear hC
  obtain ⟨k0, k1, k2, k3⟩ := HC.out _ _ _ HS.out
  go_enter Tryz.func70, Tryz.ntmps70
  go_upto_region 2 with (fail)
  try rw [hW1]
  clear hW1
  go_wp2_with (first | ((with_reducible refine (BufSt.calls _ HS.out (by omega) (by first | exact HKS.out | exact HVS.out | decide)).mono ?_); rintro e w1 ⟨rfl, hs⟩; clear k0 k1 k2 k3 HS; have HS := Aside0.mk hs; clear hs; obtain ⟨k0, k1, k2, k3⟩ := HC.out _ _ _ HS.out) | ((with_reducible refine (BufS_calls _ _ _ HS.out.st).mono ?_); rintro e w1 ⟨rfl, rfl⟩))
  go_ret
  exact ⟨congrArg (fun s => Ending.returned (.string s)) (by rw [empty_app]), HS.out.be⟩
set_option maxHeartbeats 8000000 in
theorem Str_deq (key op v : ByteArray) (hx : op.toList = [61, 61]) (hk : key.size ≤ 2000) (hv : v.size ≤ 20000000) (rb c : Nat) (A : Option Addr) (w : World) (hb : w.heap[rb]? = some (.cells #[.string key, .string op, .slice A 1 c] 128 (0, 0))) (hC : Kd.C Kd.string w A 1 [v]) :
    Calls Tryz.prog 70 #[.pointer (some ⟨rb, 0, none⟩)] w fun e w' => e = .returned (.string (key ++ ⟨#[61, 61]⟩ ++ v)) ∧ Below w.heap.size w w' := by
  have e_eq : (op.toList == ([61] : List UInt8)) = false := by rw [hx]; rfl
  have e_deq : (op.toList == ([61, 61] : List UInt8)) = true := by rw [hx]; rfl
  have e_ne : (op.toList == ([33, 61] : List UInt8)) = false := by rw [hx]; rfl
  have e_in : (op.toList == ([105, 110] : List UInt8)) = false := by rw [hx]; rfl
  have e_notin : (op.toList == ([110, 111, 116, 105, 110] : List UInt8)) = false := by rw [hx]; rfl
  have e_gt : (op.toList == ([103, 116] : List UInt8)) = false := by rw [hx]; rfl
  have e_lt : (op.toList == ([108, 116] : List UInt8)) = false := by rw [hx]; rfl
  have e_ex : (op.toList == ([101, 120, 105, 115, 116, 115] : List UInt8)) = false := by rw [hx]; rfl
  have e_nex : (op.toList == ([33] : List UInt8)) = false := by rw [hx]; rfl
  have HBK := Aside0.mk hb
  have HKS : Aside0 (key.size ≤ 20000000) := ⟨by omega⟩
  clear hb hx
  obtain ⟨W1, hW1⟩ : ∃ W1, w.alloc (.cells #[.string ⟨#[]⟩] 135) = W1 := ⟨_, rfl⟩
  have HS : Aside0 (BufSt w W1 ⟨#[]⟩ 0) := ⟨by rw [← hW1]; exact BufSt.new w⟩
  have HVS : Aside0 (v.size ≤ 20000000) := ⟨hv⟩
  obtain ⟨ad, rfl, _⟩ := Kd.at_string hC 0 (by omega) (by omega)
  have HC : Aside0 (∀ W s k, BufSt w W s k → W.cell? ⟨rb, 0, none⟩ = some (.string key) ∧ W.cell? ⟨rb, 1, none⟩ = some (.string op) ∧ W.cell? ⟨rb, 2, none⟩ = some (.slice (some ad) 1 c) ∧ W.cell? ad = some (.string v)) := ⟨fun W s k h => by
    have := (h.be.block rb (blk_lt HBK.out)).trans HBK.out
    obtain ⟨ad2, e2, h3⟩ := Kd.at_string (Kd.C_below hC h.be) 0 (by omega) (by omega)
    cases e2
    have e : ad.add 0 = ad := by cases ad; rfl
    rw [show (0 : Int).toNat = 0 from rfl, e] at h3
    exact ⟨(blk_cell this 0).trans rfl, (blk_cell this 1).trans rfl, (blk_cell this 2).trans rfl, h3⟩⟩
  clear hC
  obtain ⟨k0, k1, k2, k3⟩ := HC.out _ _ _ HS.out
  go_enter Tryz.func70, Tryz.ntmps70
  go_upto_region 2 with (fail)
  try rw [hW1]
  clear hW1
  go_wp2_with (first | ((with_reducible refine (BufSt.calls _ HS.out (by omega) (by first | exact HKS.out | exact HVS.out | decide)).mono ?_); rintro e w1 ⟨rfl, hs⟩; clear k0 k1 k2 k3 HS; have HS := Aside0.mk hs; clear hs; obtain ⟨k0, k1, k2, k3⟩ := HC.out _ _ _ HS.out) | ((with_reducible refine (BufS_calls _ _ _ HS.out.st).mono ?_); rintro e w1 ⟨rfl, rfl⟩))
  go_ret
  exact ⟨congrArg (fun s => Ending.returned (.string s)) (by rw [empty_app]), HS.out.be⟩
set_option maxHeartbeats 8000000 in
theorem Str_ne (key op v : ByteArray) (hx : op.toList = [33, 61]) (hk : key.size ≤ 2000) (hv : v.size ≤ 20000000) (rb c : Nat) (A : Option Addr) (w : World) (hb : w.heap[rb]? = some (.cells #[.string key, .string op, .slice A 1 c] 128 (0, 0))) (hC : Kd.C Kd.string w A 1 [v]) :
    Calls Tryz.prog 70 #[.pointer (some ⟨rb, 0, none⟩)] w fun e w' => e = .returned (.string (key ++ ⟨#[33, 61]⟩ ++ v)) ∧ Below w.heap.size w w' := by
  have e_eq : (op.toList == ([61] : List UInt8)) = false := by rw [hx]; rfl
  have e_deq : (op.toList == ([61, 61] : List UInt8)) = false := by rw [hx]; rfl
  have e_ne : (op.toList == ([33, 61] : List UInt8)) = true := by rw [hx]; rfl
  have e_in : (op.toList == ([105, 110] : List UInt8)) = false := by rw [hx]; rfl
  have e_notin : (op.toList == ([110, 111, 116, 105, 110] : List UInt8)) = false := by rw [hx]; rfl
  have e_gt : (op.toList == ([103, 116] : List UInt8)) = false := by rw [hx]; rfl
  have e_lt : (op.toList == ([108, 116] : List UInt8)) = false := by rw [hx]; rfl
  have e_ex : (op.toList == ([101, 120, 105, 115, 116, 115] : List UInt8)) = false := by rw [hx]; rfl
  have e_nex : (op.toList == ([33] : List UInt8)) = false := by rw [hx]; rfl
  have HBK := Aside0.mk hb
  have HKS : Aside0 (key.size ≤ 20000000) := ⟨by omega⟩
  clear hb hx
  obtain ⟨W1, hW1⟩ : ∃ W1, w.alloc (.cells #[.string ⟨#[]⟩] 135) = W1 := ⟨_, rfl⟩
  have HS : Aside0 (BufSt w W1 ⟨#[]⟩ 0) := ⟨by rw [← hW1]; exact BufSt.new w⟩
  have HVS : Aside0 (v.size ≤ 20000000) := ⟨hv⟩
  obtain ⟨ad, rfl, _⟩ := Kd.at_string hC 0 (by omega) (by omega)
  have HC : Aside0 (∀ W s k, BufSt w W s k → W.cell? ⟨rb, 0, none⟩ = some (.string key) ∧ W.cell? ⟨rb, 1, none⟩ = some (.string op) ∧ W.cell? ⟨rb, 2, none⟩ = some (.slice (some ad) 1 c) ∧ W.cell? ad = some (.string v)) := ⟨fun W s k h => by
    have := (h.be.block rb (blk_lt HBK.out)).trans HBK.out
    obtain ⟨ad2, e2, h3⟩ := Kd.at_string (Kd.C_below hC h.be) 0 (by omega) (by omega)
    cases e2
    have e : ad.add 0 = ad := by cases ad; rfl
    rw [show (0 : Int).toNat = 0 from rfl, e] at h3
    exact ⟨(blk_cell this 0).trans rfl, (blk_cell this 1).trans rfl, (blk_cell this 2).trans rfl, h3⟩⟩
  clear hC
  obtain ⟨k0, k1, k2, k3⟩ := HC.out _ _ _ HS.out
  go_enter Tryz.func70, Tryz.ntmps70
  go_upto_region 2 with (fail)
  try rw [hW1]
  clear hW1
  go_wp2_with (first | ((with_reducible refine (BufSt.calls _ HS.out (by omega) (by first | exact HKS.out | exact HVS.out | decide)).mono ?_); rintro e w1 ⟨rfl, hs⟩; clear k0 k1 k2 k3 HS; have HS := Aside0.mk hs; clear hs; obtain ⟨k0, k1, k2, k3⟩ := HC.out _ _ _ HS.out) | ((with_reducible refine (BufS_calls _ _ _ HS.out.st).mono ?_); rintro e w1 ⟨rfl, rfl⟩))
  go_ret
  exact ⟨congrArg (fun s => Ending.returned (.string s)) (by rw [empty_app]), HS.out.be⟩
set_option maxHeartbeats 8000000 in
theorem Str_in (key op v : ByteArray) (hx : op.toList = [105, 110]) (hk : key.size ≤ 2000) (hv : v.size ≤ 20000000) (rb c : Nat) (A : Option Addr) (w : World) (hb : w.heap[rb]? = some (.cells #[.string key, .string op, .slice A 1 c] 128 (0, 0))) (hC : Kd.C Kd.string w A 1 [v]) :
    Calls Tryz.prog 70 #[.pointer (some ⟨rb, 0, none⟩)] w fun e w' => e = .returned (.string (key ++ ⟨#[32, 105, 110, 32]⟩ ++ ⟨#[40]⟩ ++ v ++ ⟨#[41]⟩)) ∧ Below w.heap.size w w' := by
  have e_eq : (op.toList == ([61] : List UInt8)) = false := by rw [hx]; rfl
  have e_deq : (op.toList == ([61, 61] : List UInt8)) = false := by rw [hx]; rfl
  have e_ne : (op.toList == ([33, 61] : List UInt8)) = false := by rw [hx]; rfl
  have e_in : (op.toList == ([105, 110] : List UInt8)) = true := by rw [hx]; rfl
  have e_notin : (op.toList == ([110, 111, 116, 105, 110] : List UInt8)) = false := by rw [hx]; rfl
  have e_gt : (op.toList == ([103, 116] : List UInt8)) = false := by rw [hx]; rfl
  have e_lt : (op.toList == ([108, 116] : List UInt8)) = false := by rw [hx]; rfl
  have e_ex : (op.toList == ([101, 120, 105, 115, 116, 115] : List UInt8)) = false := by rw [hx]; rfl
  have e_nex : (op.toList == ([33] : List UInt8)) = false := by rw [hx]; rfl
  have HBK := Aside0.mk hb
  have HKS : Aside0 (key.size ≤ 20000000) := ⟨by omega⟩
  clear hb hx
  obtain ⟨W1, hW1⟩ : ∃ W1, w.alloc (.cells #[.string ⟨#[]⟩] 135) = W1 := ⟨_, rfl⟩
  have HS : Aside0 (BufSt w W1 ⟨#[]⟩ 0) := ⟨by rw [← hW1]; exact BufSt.new w⟩
  have HVS : Aside0 (v.size ≤ 20000000) := ⟨hv⟩
  obtain ⟨ad, rfl, _⟩ := Kd.at_string hC 0 (by omega) (by omega)
  have HC : Aside0 (∀ W s k, BufSt w W s k → W.cell? ⟨rb, 0, none⟩ = some (.string key) ∧ W.cell? ⟨rb, 1, none⟩ = some (.string op) ∧ W.cell? ⟨rb, 2, none⟩ = some (.slice (some ad) 1 c) ∧ W.cell? ad = some (.string v)) := ⟨fun W s k h => by
    have := (h.be.block rb (blk_lt HBK.out)).trans HBK.out
    obtain ⟨ad2, e2, h3⟩ := Kd.at_string (Kd.C_below hC h.be) 0 (by omega) (by omega)
    cases e2
    have e : ad.add 0 = ad := by cases ad; rfl
    rw [show (0 : Int).toNat = 0 from rfl, e] at h3
    exact ⟨(blk_cell this 0).trans rfl, (blk_cell this 1).trans rfl, (blk_cell this 2).trans rfl, h3⟩⟩
  clear hC
  obtain ⟨k0, k1, k2, k3⟩ := HC.out _ _ _ HS.out
  go_enter Tryz.func70, Tryz.ntmps70
  go_upto_region 2 with (fail)
  try rw [hW1]
  clear hW1
  go_wp2_with (first | ((with_reducible refine (BufSt.calls _ HS.out (by omega) (by first | exact HKS.out | exact HVS.out | decide)).mono ?_); rintro e w1 ⟨rfl, hs⟩; clear k0 k1 k2 k3 HS; have HS := Aside0.mk hs; clear hs; obtain ⟨k0, k1, k2, k3⟩ := HC.out _ _ _ HS.out) | ((with_reducible refine (BufS_calls _ _ _ HS.out.st).mono ?_); rintro e w1 ⟨rfl, rfl⟩))
  go_ret
  exact ⟨congrArg (fun s => Ending.returned (.string s)) (by rw [empty_app]), HS.out.be⟩
set_option maxHeartbeats 8000000 in
theorem Str_notin (key op v : ByteArray) (hx : op.toList = [110, 111, 116, 105, 110]) (hk : key.size ≤ 2000) (hv : v.size ≤ 20000000) (rb c : Nat) (A : Option Addr) (w : World) (hb : w.heap[rb]? = some (.cells #[.string key, .string op, .slice A 1 c] 128 (0, 0))) (hC : Kd.C Kd.string w A 1 [v]) :
    Calls Tryz.prog 70 #[.pointer (some ⟨rb, 0, none⟩)] w fun e w' => e = .returned (.string (key ++ ⟨#[32, 110, 111, 116, 105, 110, 32]⟩ ++ ⟨#[40]⟩ ++ v ++ ⟨#[41]⟩)) ∧ Below w.heap.size w w' := by
  have e_eq : (op.toList == ([61] : List UInt8)) = false := by rw [hx]; rfl
  have e_deq : (op.toList == ([61, 61] : List UInt8)) = false := by rw [hx]; rfl
  have e_ne : (op.toList == ([33, 61] : List UInt8)) = false := by rw [hx]; rfl
  have e_in : (op.toList == ([105, 110] : List UInt8)) = false := by rw [hx]; rfl
  have e_notin : (op.toList == ([110, 111, 116, 105, 110] : List UInt8)) = true := by rw [hx]; rfl
  have e_gt : (op.toList == ([103, 116] : List UInt8)) = false := by rw [hx]; rfl
  have e_lt : (op.toList == ([108, 116] : List UInt8)) = false := by rw [hx]; rfl
  have e_ex : (op.toList == ([101, 120, 105, 115, 116, 115] : List UInt8)) = false := by rw [hx]; rfl
  have e_nex : (op.toList == ([33] : List UInt8)) = false := by rw [hx]; rfl
  have HBK := Aside0.mk hb
  have HKS : Aside0 (key.size ≤ 20000000) := ⟨by omega⟩
  clear hb hx
  obtain ⟨W1, hW1⟩ : ∃ W1, w.alloc (.cells #[.string ⟨#[]⟩] 135) = W1 := ⟨_, rfl⟩
  have HS : Aside0 (BufSt w W1 ⟨#[]⟩ 0) := ⟨by rw [← hW1]; exact BufSt.new w⟩
  have HVS : Aside0 (v.size ≤ 20000000) := ⟨hv⟩
  obtain ⟨ad, rfl, _⟩ := Kd.at_string hC 0 (by omega) (by omega)
  have HC : Aside0 (∀ W s k, BufSt w W s k → W.cell? ⟨rb, 0, none⟩ = some (.string key) ∧ W.cell? ⟨rb, 1, none⟩ = some (.string op) ∧ W.cell? ⟨rb, 2, none⟩ = some (.slice (some ad) 1 c) ∧ W.cell? ad = some (.string v)) := ⟨fun W s k h => by
    have := (h.be.block rb (blk_lt HBK.out)).trans HBK.out
    obtain ⟨ad2, e2, h3⟩ := Kd.at_string (Kd.C_below hC h.be) 0 (by omega) (by omega)
    cases e2
    have e : ad.add 0 = ad := by cases ad; rfl
    rw [show (0 : Int).toNat = 0 from rfl, e] at h3
    exact ⟨(blk_cell this 0).trans rfl, (blk_cell this 1).trans rfl, (blk_cell this 2).trans rfl, h3⟩⟩
  clear hC
  obtain ⟨k0, k1, k2, k3⟩ := HC.out _ _ _ HS.out
  go_enter Tryz.func70, Tryz.ntmps70
  go_upto_region 2 with (fail)
  try rw [hW1]
  clear hW1
  go_wp2_with (first | ((with_reducible refine (BufSt.calls _ HS.out (by omega) (by first | exact HKS.out | exact HVS.out | decide)).mono ?_); rintro e w1 ⟨rfl, hs⟩; clear k0 k1 k2 k3 HS; have HS := Aside0.mk hs; clear hs; obtain ⟨k0, k1, k2, k3⟩ := HC.out _ _ _ HS.out) | ((with_reducible refine (BufS_calls _ _ _ HS.out.st).mono ?_); rintro e w1 ⟨rfl, rfl⟩))
  go_ret
  exact ⟨congrArg (fun s => Ending.returned (.string s)) (by rw [empty_app]), HS.out.be⟩
set_option maxHeartbeats 8000000 in
theorem Str_gt (key op v : ByteArray) (hx : op.toList = [103, 116]) (hk : key.size ≤ 2000) (hv : v.size ≤ 20000000) (rb c : Nat) (A : Option Addr) (w : World) (hb : w.heap[rb]? = some (.cells #[.string key, .string op, .slice A 1 c] 128 (0, 0))) (hC : Kd.C Kd.string w A 1 [v]) :
    Calls Tryz.prog 70 #[.pointer (some ⟨rb, 0, none⟩)] w fun e w' => e = .returned (.string (key ++ ⟨#[62]⟩ ++ v)) ∧ Below w.heap.size w w' := by
  have e_eq : (op.toList == ([61] : List UInt8)) = false := by rw [hx]; rfl
  have e_deq : (op.toList == ([61, 61] : List UInt8)) = false := by rw [hx]; rfl
  have e_ne : (op.toList == ([33, 61] : List UInt8)) = false := by rw [hx]; rfl
  have e_in : (op.toList == ([105, 110] : List UInt8)) = false := by rw [hx]; rfl
  have e_notin : (op.toList == ([110, 111, 116, 105, 110] : List UInt8)) = false := by rw [hx]; rfl
  have e_gt : (op.toList == ([103, 116] : List UInt8)) = true := by rw [hx]; rfl
  have e_lt : (op.toList == ([108, 116] : List UInt8)) = false := by rw [hx]; rfl
  have e_ex : (op.toList == ([101, 120, 105, 115, 116, 115] : List UInt8)) = false := by rw [hx]; rfl
  have e_nex : (op.toList == ([33] : List UInt8)) = false := by rw [hx]; rfl
  have HBK := Aside0.mk hb
  have HKS : Aside0 (key.size ≤ 20000000) := ⟨by omega⟩
  clear hb hx
  obtain ⟨W1, hW1⟩ : ∃ W1, w.alloc (.cells #[.string ⟨#[]⟩] 135) = W1 := ⟨_, rfl⟩
  have HS : Aside0 (BufSt w W1 ⟨#[]⟩ 0) := ⟨by rw [← hW1]; exact BufSt.new w⟩
  have HVS : Aside0 (v.size ≤ 20000000) := ⟨hv⟩
  obtain ⟨ad, rfl, _⟩ := Kd.at_string hC 0 (by omega) (by omega)
  have HC : Aside0 (∀ W s k, BufSt w W s k → W.cell? ⟨rb, 0, none⟩ = some (.string key) ∧ W.cell? ⟨rb, 1, none⟩ = some (.string op) ∧ W.cell? ⟨rb, 2, none⟩ = some (.slice (some ad) 1 c) ∧ W.cell? ad = some (.string v)) := ⟨fun W s k h => by
    have := (h.be.block rb (blk_lt HBK.out)).trans HBK.out
    obtain ⟨ad2, e2, h3⟩ := Kd.at_string (Kd.C_below hC h.be) 0 (by omega) (by omega)
    cases e2
    have e : ad.add 0 = ad := by cases ad; rfl
    rw [show (0 : Int).toNat = 0 from rfl, e] at h3
    exact ⟨(blk_cell this 0).trans rfl, (blk_cell this 1).trans rfl, (blk_cell this 2).trans rfl, h3⟩⟩
  clear hC
  obtain ⟨k0, k1, k2, k3⟩ := HC.out _ _ _ HS.out
  go_enter Tryz.func70, Tryz.ntmps70
  go_upto_region 2 with (fail)
  try rw [hW1]
  clear hW1
  go_wp2_with (first | ((with_reducible refine (BufSt.calls _ HS.out (by omega) (by first | exact HKS.out | exact HVS.out | decide)).mono ?_); rintro e w1 ⟨rfl, hs⟩; clear k0 k1 k2 k3 HS; have HS := Aside0.mk hs; clear hs; obtain ⟨k0, k1, k2, k3⟩ := HC.out _ _ _ HS.out) | ((with_reducible refine (BufS_calls _ _ _ HS.out.st).mono ?_); rintro e w1 ⟨rfl, rfl⟩))
  go_ret
  exact ⟨congrArg (fun s => Ending.returned (.string s)) (by rw [empty_app]), HS.out.be⟩
set_option maxHeartbeats 8000000 in
theorem Str_lt (key op v : ByteArray) (hx : op.toList = [108, 116]) (hk : key.size ≤ 2000) (hv : v.size ≤ 20000000) (rb c : Nat) (A : Option Addr) (w : World) (hb : w.heap[rb]? = some (.cells #[.string key, .string op, .slice A 1 c] 128 (0, 0))) (hC : Kd.C Kd.string w A 1 [v]) :
    Calls Tryz.prog 70 #[.pointer (some ⟨rb, 0, none⟩)] w fun e w' => e = .returned (.string (key ++ ⟨#[60]⟩ ++ v)) ∧ Below w.heap.size w w' := by
  have e_eq : (op.toList == ([61] : List UInt8)) = false := by rw [hx]; rfl
  have e_deq : (op.toList == ([61, 61] : List UInt8)) = false := by rw [hx]; rfl
  have e_ne : (op.toList == ([33, 61] : List UInt8)) = false := by rw [hx]; rfl
  have e_in : (op.toList == ([105, 110] : List UInt8)) = false := by rw [hx]; rfl
  have e_notin : (op.toList == ([110, 111, 116, 105, 110] : List UInt8)) = false := by rw [hx]; rfl
  have e_gt : (op.toList == ([103, 116] : List UInt8)) = false := by rw [hx]; rfl
  have e_lt : (op.toList == ([108, 116] : List UInt8)) = true := by rw [hx]; rfl
  have e_ex : (op.toList == ([101, 120, 105, 115, 116, 115] : List UInt8)) = false := by rw [hx]; rfl
  have e_nex : (op.toList == ([33] : List UInt8)) = false := by rw [hx]; rfl
  have HBK := Aside0.mk hb
  have HKS : Aside0 (key.size ≤ 20000000) := ⟨by omega⟩
  clear hb hx
  obtain ⟨W1, hW1⟩ : ∃ W1, w.alloc (.cells #[.string ⟨#[]⟩] 135) = W1 := ⟨_, rfl⟩
  have HS : Aside0 (BufSt w W1 ⟨#[]⟩ 0) := ⟨by rw [← hW1]; exact BufSt.new w⟩
  have HVS : Aside0 (v.size ≤ 20000000) := ⟨hv⟩
  obtain ⟨ad, rfl, _⟩ := Kd.at_string hC 0 (by omega) (by omega)
  have HC : Aside0 (∀ W s k, BufSt w W s k → W.cell? ⟨rb, 0, none⟩ = some (.string key) ∧ W.cell? ⟨rb, 1, none⟩ = some (.string op) ∧ W.cell? ⟨rb, 2, none⟩ = some (.slice (some ad) 1 c) ∧ W.cell? ad = some (.string v)) := ⟨fun W s k h => by
    have := (h.be.block rb (blk_lt HBK.out)).trans HBK.out
    obtain ⟨ad2, e2, h3⟩ := Kd.at_string (Kd.C_below hC h.be) 0 (by omega) (by omega)
    cases e2
    have e : ad.add 0 = ad := by cases ad; rfl
    rw [show (0 : Int).toNat = 0 from rfl, e] at h3
    exact ⟨(blk_cell this 0).trans rfl, (blk_cell this 1).trans rfl, (blk_cell this 2).trans rfl, h3⟩⟩
  clear hC
  obtain ⟨k0, k1, k2, k3⟩ := HC.out _ _ _ HS.out
  go_enter Tryz.func70, Tryz.ntmps70
  go_upto_region 2 with (fail)
  try rw [hW1]
  clear hW1
  go_wp2_with (first | ((with_reducible refine (BufSt.calls _ HS.out (by omega) (by first | exact HKS.out | exact HVS.out | decide)).mono ?_); rintro e w1 ⟨rfl, hs⟩; clear k0 k1 k2 k3 HS; have HS := Aside0.mk hs; clear hs; obtain ⟨k0, k1, k2, k3⟩ := HC.out _ _ _ HS.out) | ((with_reducible refine (BufS_calls _ _ _ HS.out.st).mono ?_); rintro e w1 ⟨rfl, rfl⟩))
  go_ret
  exact ⟨congrArg (fun s => Ending.returned (.string s)) (by rw [empty_app]), HS.out.be⟩
theorem BufSt.on {w W W' : World} {s : ByteArray} {k : Nat} (h : BufSt w W s k) (hb : Below W.heap.size W W') : BufSt w W' s k :=
  ⟨below_step h.be hb, (hb.block _ (blk_lt h.st)).trans h.st, h.sz⟩
set_option maxHeartbeats 8000000 in
theorem StrN_in (key op : ByteArray) (hx : op.toList = [105, 110]) (hk : key.size ≤ 2000) (rb c n : Nat) (vs : List ByteArray) (hn : vs.length = n) (hn1 : n ≠ 1) (hn2 : n ≤ 1000) (hc : n ≤ c) (hz : ∀ v ∈ vs, v.size ≤ 10000) (A : Option Addr) (w : World) (hb : w.heap[rb]? = some (.cells #[.string key, .string op, .slice A n c] 128 (0, 0))) (hC : Kd.C Kd.string w A n vs) :
    Calls Tryz.prog 70 #[.pointer (some ⟨rb, 0, none⟩)] w fun e w' => ∃ us : List L, us.Perm (vL vs) ∧ Asc us ∧ e = .returned (.string (key ++ ⟨#[32, 105, 110, 32]⟩ ++ ⟨#[40]⟩ ++ joinB ⟨#[44]⟩ (us.map mk) ++ ⟨#[41]⟩)) ∧ Below w.heap.size w w' := by
  have e_eq : (op.toList == ([61] : List UInt8)) = false := by rw [hx]; rfl
  have e_deq : (op.toList == ([61, 61] : List UInt8)) = false := by rw [hx]; rfl
  have e_ne : (op.toList == ([33, 61] : List UInt8)) = false := by rw [hx]; rfl
  have e_in : (op.toList == ([105, 110] : List UInt8)) = true := by rw [hx]; rfl
  have e_notin : (op.toList == ([110, 111, 116, 105, 110] : List UInt8)) = false := by rw [hx]; rfl
  have e_gt : (op.toList == ([103, 116] : List UInt8)) = false := by rw [hx]; rfl
  have e_lt : (op.toList == ([108, 116] : List UInt8)) = false := by rw [hx]; rfl
  have e_ex : (op.toList == ([101, 120, 105, 115, 116, 115] : List UInt8)) = false := by rw [hx]; rfl
  have e_nex : (op.toList == ([33] : List UInt8)) = false := by rw [hx]; rfl
  have HBK := Aside0.mk hb
  have HKS : Aside0 (key.size ≤ 20000000) := ⟨by omega⟩
  clear hb hx
  obtain ⟨W1, hW1⟩ : ∃ W1, w.alloc (.cells #[.string ⟨#[]⟩] 135) = W1 := ⟨_, rfl⟩
  have HS : Aside0 (BufSt w W1 ⟨#[]⟩ 0) := ⟨by rw [← hW1]; exact BufSt.new w⟩
  have b1 : ((n : Int) == 1) = false := by simp only [beq_eq_false_iff_ne, ne_eq]; omega
  have HC : Aside0 (∀ W s k, BufSt w W s k → W.cell? ⟨rb, 0, none⟩ = some (.string key) ∧ W.cell? ⟨rb, 1, none⟩ = some (.string op) ∧ W.cell? ⟨rb, 2, none⟩ = some (.slice A n c)) := ⟨fun W s k h => by
    have := (h.be.block rb (blk_lt HBK.out)).trans HBK.out
    exact ⟨(blk_cell this 0).trans rfl, (blk_cell this 1).trans rfl, (blk_cell this 2).trans rfl⟩⟩
  have HSA : Aside0 (∀ W s k, BufSt w W s k → Calls Tryz.prog 90 #[.slice A n c] W fun e w' => ∃ (A' : Option Addr) (c' : Nat) (us : List L), e = .returned (.slice A' n c') ∧ Kd.C Kd.string w' A' n (us.map mk) ∧ us.Perm (vL vs) ∧ Asc us ∧ BufSt w w' s k) := ⟨fun W s k h => (safeSort_calls A c n vs hn hn2 hc W (Kd.C_below hC h.be)).mono (by
    rintro e w' ⟨A', c', us, h1, h2, h3, h4, h5⟩
    exact ⟨A', c', us, h1, h2, h3, h4, h.on h5⟩)⟩
  have HZU : Aside0 (∀ us : List L, us.Perm (vL vs) → (us.map mk).length = n ∧ ∀ p ∈ us.map mk, p.size ≤ 10000) := ⟨fun us hp => ⟨by rw [List.length_map, hp.length_eq, List.length_map, hn], fun p hpm => by
    obtain ⟨x, hxm, rfl⟩ := List.mem_map.1 hpm
    obtain ⟨q, hq, rfl⟩ := List.mem_map.1 (hp.mem_iff.1 hxm)
    rw [← mk_of q]; exact hz q hq⟩⟩
  have HN2 := Aside0.mk hn2
  clear hC hz hn hn1
  obtain ⟨k0, k1, k2⟩ := HC.out _ _ _ HS.out
  go_enter Tryz.func70, Tryz.ntmps70
  go_upto_region 2 with (fail)
  try rw [hW1]
  clear hW1
  go_wp2_with (first | ((with_reducible refine (BufSt.calls _ HS.out (by omega) (by first | exact HKS.out | exact HJS.out | decide)).mono ?_); rintro e w1 ⟨rfl, hs⟩; clear k0 k1 k2 HS; have HS := Aside0.mk hs; clear hs; obtain ⟨k0, k1, k2⟩ := HC.out _ _ _ HS.out) | ((with_reducible refine (BufS_calls _ _ _ HS.out.st).mono ?_); rintro e w1 ⟨rfl, rfl⟩) | ((with_reducible refine (HSA.out _ _ _ HS.out).mono ?_); rintro e w1 ⟨A', c', us, rfl, h2, h3, h4, h5⟩; clear k0 k1 k2 HS; have HS := Aside0.mk h5; have HP := Aside0.mk h3; have HA := Aside0.mk h4; have HZ2 := Aside0.mk (HZU.out us h3); have HJ := Aside0.mk (zzJoin_calls ⟨#[44]⟩ (by decide) A' c' n (us.map mk) HZ2.out.1 HN2.out HZ2.out.2 w1 h2); have HJS : Aside0 ((joinB ⟨#[44]⟩ (us.map mk)).size ≤ 20000000) := ⟨by (have := joinB_size ⟨#[44]⟩ 10000 (us.map mk) HZ2.out.2); rw [HZ2.out.1] at this; exact Nat.le_trans this (Nat.le_trans (Nat.mul_le_mul HN2.out (Nat.le_refl _)) (by decide))⟩; clear h2 h3 h4 h5; obtain ⟨k0, k1, k2⟩ := HC.out _ _ _ HS.out) | ((with_reducible refine (HJ.out).mono ?_); rintro e w1 ⟨rfl, rfl⟩))
  go_ret
  exact ⟨us, HP.out, HA.out, congrArg (fun s => Ending.returned (.string s)) (by rw [empty_app]), HS.out.be⟩
set_option maxHeartbeats 8000000 in
theorem StrN_notin (key op : ByteArray) (hx : op.toList = [110, 111, 116, 105, 110]) (hk : key.size ≤ 2000) (rb c n : Nat) (vs : List ByteArray) (hn : vs.length = n) (hn1 : n ≠ 1) (hn2 : n ≤ 1000) (hc : n ≤ c) (hz : ∀ v ∈ vs, v.size ≤ 10000) (A : Option Addr) (w : World) (hb : w.heap[rb]? = some (.cells #[.string key, .string op, .slice A n c] 128 (0, 0))) (hC : Kd.C Kd.string w A n vs) :
    Calls Tryz.prog 70 #[.pointer (some ⟨rb, 0, none⟩)] w fun e w' => ∃ us : List L, us.Perm (vL vs) ∧ Asc us ∧ e = .returned (.string (key ++ ⟨#[32, 110, 111, 116, 105, 110, 32]⟩ ++ ⟨#[40]⟩ ++ joinB ⟨#[44]⟩ (us.map mk) ++ ⟨#[41]⟩)) ∧ Below w.heap.size w w' := by
  have e_eq : (op.toList == ([61] : List UInt8)) = false := by rw [hx]; rfl
  have e_deq : (op.toList == ([61, 61] : List UInt8)) = false := by rw [hx]; rfl
  have e_ne : (op.toList == ([33, 61] : List UInt8)) = false := by rw [hx]; rfl
  have e_in : (op.toList == ([105, 110] : List UInt8)) = false := by rw [hx]; rfl
  have e_notin : (op.toList == ([110, 111, 116, 105, 110] : List UInt8)) = true := by rw [hx]; rfl
  have e_gt : (op.toList == ([103, 116] : List UInt8)) = false := by rw [hx]; rfl
  have e_lt : (op.toList == ([108, 116] : List UInt8)) = false := by rw [hx]; rfl
  have e_ex : (op.toList == ([101, 120, 105, 115, 116, 115] : List UInt8)) = false := by rw [hx]; rfl
  have e_nex : (op.toList == ([33] : List UInt8)) = false := by rw [hx]; rfl
  have HBK := Aside0.mk hb
  have HKS : Aside0 (key.size ≤ 20000000) := ⟨by omega⟩
  clear hb hx
  obtain ⟨W1, hW1⟩ : ∃ W1, w.alloc (.cells #[.string ⟨#[]⟩] 135) = W1 := ⟨_, rfl⟩
  have HS : Aside0 (BufSt w W1 ⟨#[]⟩ 0) := ⟨by rw [← hW1]; exact BufSt.new w⟩
  have b1 : ((n : Int) == 1) = false := by simp only [beq_eq_false_iff_ne, ne_eq]; omega
  have HC : Aside0 (∀ W s k, BufSt w W s k → W.cell? ⟨rb, 0, none⟩ = some (.string key) ∧ W.cell? ⟨rb, 1, none⟩ = some (.string op) ∧ W.cell? ⟨rb, 2, none⟩ = some (.slice A n c)) := ⟨fun W s k h => by
    have := (h.be.block rb (blk_lt HBK.out)).trans HBK.out
    exact ⟨(blk_cell this 0).trans rfl, (blk_cell this 1).trans rfl, (blk_cell this 2).trans rfl⟩⟩
  have HSA : Aside0 (∀ W s k, BufSt w W s k → Calls Tryz.prog 90 #[.slice A n c] W fun e w' => ∃ (A' : Option Addr) (c' : Nat) (us : List L), e = .returned (.slice A' n c') ∧ Kd.C Kd.string w' A' n (us.map mk) ∧ us.Perm (vL vs) ∧ Asc us ∧ BufSt w w' s k) := ⟨fun W s k h => (safeSort_calls A c n vs hn hn2 hc W (Kd.C_below hC h.be)).mono (by
    rintro e w' ⟨A', c', us, h1, h2, h3, h4, h5⟩
    exact ⟨A', c', us, h1, h2, h3, h4, h.on h5⟩)⟩
  have HZU : Aside0 (∀ us : List L, us.Perm (vL vs) → (us.map mk).length = n ∧ ∀ p ∈ us.map mk, p.size ≤ 10000) := ⟨fun us hp => ⟨by rw [List.length_map, hp.length_eq, List.length_map, hn], fun p hpm => by
    obtain ⟨x, hxm, rfl⟩ := List.mem_map.1 hpm
    obtain ⟨q, hq, rfl⟩ := List.mem_map.1 (hp.mem_iff.1 hxm)
    rw [← mk_of q]; exact hz q hq⟩⟩
  have HN2 := Aside0.mk hn2
  clear hC hz hn hn1
  obtain ⟨k0, k1, k2⟩ := HC.out _ _ _ HS.out
  go_enter Tryz.func70, Tryz.ntmps70
  go_upto_region 2 with (fail)
  try rw [hW1]
  clear hW1
  go_wp2_with (first | ((with_reducible refine (BufSt.calls _ HS.out (by omega) (by first | exact HKS.out | exact HJS.out | decide)).mono ?_); rintro e w1 ⟨rfl, hs⟩; clear k0 k1 k2 HS; have HS := Aside0.mk hs; clear hs; obtain ⟨k0, k1, k2⟩ := HC.out _ _ _ HS.out) | ((with_reducible refine (BufS_calls _ _ _ HS.out.st).mono ?_); rintro e w1 ⟨rfl, rfl⟩) | ((with_reducible refine (HSA.out _ _ _ HS.out).mono ?_); rintro e w1 ⟨A', c', us, rfl, h2, h3, h4, h5⟩; clear k0 k1 k2 HS; have HS := Aside0.mk h5; have HP := Aside0.mk h3; have HA := Aside0.mk h4; have HZ2 := Aside0.mk (HZU.out us h3); have HJ := Aside0.mk (zzJoin_calls ⟨#[44]⟩ (by decide) A' c' n (us.map mk) HZ2.out.1 HN2.out HZ2.out.2 w1 h2); have HJS : Aside0 ((joinB ⟨#[44]⟩ (us.map mk)).size ≤ 20000000) := ⟨by (have := joinB_size ⟨#[44]⟩ 10000 (us.map mk) HZ2.out.2); rw [HZ2.out.1] at this; exact Nat.le_trans this (Nat.le_trans (Nat.mul_le_mul HN2.out (Nat.le_refl _)) (by decide))⟩; clear h2 h3 h4 h5; obtain ⟨k0, k1, k2⟩ := HC.out _ _ _ HS.out) | ((with_reducible refine (HJ.out).mono ?_); rintro e w1 ⟨rfl, rfl⟩))
  go_ret
  exact ⟨us, HP.out, HA.out, congrArg (fun s => Ending.returned (.string s)) (by rw [empty_app]), HS.out.be⟩
end Go.Proofs.YteigfmchnblkgaaGreatDoor.Hand
