/- A requirement's String at any place of a row. (Printed by txo.py out of TxE, TxF.) -/
import Derived.Test.YthfjolafikgpoaaGreatDoorSAM26
import Derived.Test.YthfjolafikgpoaaGreatDoorSASpWords
namespace Go.Proofs.YthfjolafikgpoaaGreatDoor.Hand
open Go.RowKit Go.Maps Go.Proofs.YthfjolafikgpoaaGreatDoorW.PrintWords Go.Proofs.YthfjolafikgpoaaGreatDoorW.PrintLast Go.Proofs.YthfjolafikgpoaaGreatDoorW.PrintMore Go.Proofs.YthfjolafikgpoaaGreatDoor.Base
set_option linter.unusedVariables false
set_option linter.unusedSimpArgs false
set_option maxRecDepth 100000
structure RqC (w : World) (rb o : Nat) (a b c : Value) : Prop where
 c0 : w.cell? ⟨rb, o, none⟩ = some a
 c1 : w.cell? ⟨rb, o + 1, none⟩ = some b
 c2 : w.cell? ⟨rb, o + 2, none⟩ = some c
 lt : rb < w.heap.size
theorem RqC.below {w W : World} {rb o : Nat} {a b c : Value} (h : RqC w rb o a b c) (hb : Below w.heap.size w W) : RqC W rb o a b c :=
 ⟨(hb.cell (p := ⟨rb, o, none⟩) h.lt).trans h.c0, (hb.cell (p := ⟨rb, o + 1, none⟩) h.lt).trans h.c1, (hb.cell (p := ⟨rb, o + 2, none⟩) h.lt).trans h.c2, Nat.lt_of_lt_of_le h.lt hb.size⟩
set_option maxHeartbeats 8000000 in
theorem StrO_ex (key op : ByteArray) (hx : op.toList = [101, 120, 105, 115, 116, 115]) (hk : key.size ≤ 2000) (rb o n c : Nat) (A : Option Addr) (w : World) (hb : RqC w rb o (.string key) (.string op) (.slice A n c)) :
   Calls Tryz.prog 218 #[.pointer (some ⟨rb, o, none⟩)] w fun e w' => e = .returned (.string (key)) ∧ Below w.heap.size w w' := by
 have e_eq : (op.toList == ([61] : List UInt8)) = false := by rw [hx]; rfl
 have e_deq : (op.toList == ([61, 61] : List UInt8)) = false := by rw [hx]; rfl
 have e_ne : (op.toList == ([33, 61] : List UInt8)) = false := by rw [hx]; rfl
 have e_in : (op.toList == ([105, 110] : List UInt8)) = false := by rw [hx]; rfl
 have e_notin : (op.toList == ([110, 111, 116, 105, 110] : List UInt8)) = false := by rw [hx]; rfl
 have e_gt : (op.toList == ([103, 116] : List UInt8)) = false := by rw [hx]; rfl
 have e_lt : (op.toList == ([108, 116] : List UInt8)) = false := by rw [hx]; rfl
 have e_ex : (op.toList == ([101, 120, 105, 115, 116, 115] : List UInt8)) = true := by rw [hx]; rfl
 have e_nex : (op.toList == ([33] : List UInt8)) = false := by rw [hx]; rfl
 have HBK := Aside0.mk hb
 have HKS : Aside0 (key.size ≤ 20000000) := ⟨by omega⟩
 clear hb hx
 obtain ⟨W1, hW1⟩ : ∃ W1, w.alloc (.cells #[.string ⟨#[]⟩] 274) = W1 := ⟨_, rfl⟩
 have HS : Aside0 (BufSt w W1 ⟨#[]⟩ 0) := ⟨by rw [← hW1]; exact BufSt.new w⟩
 have HC : Aside0 (∀ W s k, BufSt w W s k → W.cell? ⟨rb, o, none⟩ = some (.string key) ∧ W.cell? ⟨rb, o + 1, none⟩ = some (.string op) ∧ W.cell? ⟨rb, o + 2, none⟩ = some (.slice A n c)) := ⟨fun W s k h => by
  have := HBK.out.below h.be
  exact ⟨this.c0, this.c1, this.c2⟩⟩
 obtain ⟨k0, k1, k2⟩ := HC.out _ _ _ HS.out
 go_enter Tryz.func218, Tryz.ntmps218
 go_upto_region 2 with (fail)
 try rw [hW1]
 clear hW1
 go_wp2_with (first | ((with_reducible refine (BufSt.calls _ HS.out (by omega) (by first | exact HKS.out | decide)).mono ?_); rintro e w1 ⟨rfl, hs⟩; clear k0 k1 k2 HS; have HS := Aside0.mk hs; clear hs; obtain ⟨k0, k1, k2⟩ := HC.out _ _ _ HS.out) | ((with_reducible refine (BufS_calls _ _ _ HS.out.st).mono ?_); rintro e w1 ⟨rfl, rfl⟩))
 go_ret
 exact ⟨congrArg (fun s => Ending.returned (.string s)) (by rw [empty_app]), HS.out.be⟩
set_option maxHeartbeats 8000000 in
theorem StrO_nex (key op : ByteArray) (hx : op.toList = [33]) (hk : key.size ≤ 2000) (rb o n c : Nat) (A : Option Addr) (w : World) (hb : RqC w rb o (.string key) (.string op) (.slice A n c)) :
   Calls Tryz.prog 218 #[.pointer (some ⟨rb, o, none⟩)] w fun e w' => e = .returned (.string (⟨#[33]⟩ ++ key)) ∧ Below w.heap.size w w' := by
 have e_eq : (op.toList == ([61] : List UInt8)) = false := by rw [hx]; rfl
 have e_deq : (op.toList == ([61, 61] : List UInt8)) = false := by rw [hx]; rfl
 have e_ne : (op.toList == ([33, 61] : List UInt8)) = false := by rw [hx]; rfl
 have e_in : (op.toList == ([105, 110] : List UInt8)) = false := by rw [hx]; rfl
 have e_notin : (op.toList == ([110, 111, 116, 105, 110] : List UInt8)) = false := by rw [hx]; rfl
 have e_gt : (op.toList == ([103, 116] : List UInt8)) = false := by rw [hx]; rfl
 have e_lt : (op.toList == ([108, 116] : List UInt8)) = false := by rw [hx]; rfl
 have e_ex : (op.toList == ([101, 120, 105, 115, 116, 115] : List UInt8)) = false := by rw [hx]; rfl
 have e_nex : (op.toList == ([33] : List UInt8)) = true := by rw [hx]; rfl
 have HBK := Aside0.mk hb
 have HKS : Aside0 (key.size ≤ 20000000) := ⟨by omega⟩
 clear hb hx
 obtain ⟨W1, hW1⟩ : ∃ W1, w.alloc (.cells #[.string ⟨#[]⟩] 274) = W1 := ⟨_, rfl⟩
 have HS : Aside0 (BufSt w W1 ⟨#[]⟩ 0) := ⟨by rw [← hW1]; exact BufSt.new w⟩
 have HC : Aside0 (∀ W s k, BufSt w W s k → W.cell? ⟨rb, o, none⟩ = some (.string key) ∧ W.cell? ⟨rb, o + 1, none⟩ = some (.string op) ∧ W.cell? ⟨rb, o + 2, none⟩ = some (.slice A n c)) := ⟨fun W s k h => by
  have := HBK.out.below h.be
  exact ⟨this.c0, this.c1, this.c2⟩⟩
 obtain ⟨k0, k1, k2⟩ := HC.out _ _ _ HS.out
 go_enter Tryz.func218, Tryz.ntmps218
 go_upto_region 2 with (fail)
 try rw [hW1]
 clear hW1
 go_wp2_with (first | ((with_reducible refine (BufSt.calls _ HS.out (by omega) (by first | exact HKS.out | decide)).mono ?_); rintro e w1 ⟨rfl, hs⟩; clear k0 k1 k2 HS; have HS := Aside0.mk hs; clear hs; obtain ⟨k0, k1, k2⟩ := HC.out _ _ _ HS.out) | ((with_reducible refine (BufS_calls _ _ _ HS.out.st).mono ?_); rintro e w1 ⟨rfl, rfl⟩))
 go_ret
 exact ⟨congrArg (fun s => Ending.returned (.string s)) (by rw [empty_app]), HS.out.be⟩
set_option maxHeartbeats 8000000 in
theorem StrO_eq (key op v : ByteArray) (hx : op.toList = [61]) (hk : key.size ≤ 2000) (hv : v.size ≤ 20000000) (rb o c : Nat) (A : Option Addr) (w : World) (hb : RqC w rb o (.string key) (.string op) (.slice A 1 c)) (hC : Kd.C Kd.string w A 1 [v]) :
   Calls Tryz.prog 218 #[.pointer (some ⟨rb, o, none⟩)] w fun e w' => e = .returned (.string (key ++ ⟨#[61]⟩ ++ v)) ∧ Below w.heap.size w w' := by
 have e_eq : (op.toList == ([61] : List UInt8)) = true := by rw [hx]; rfl
 have e_deq : (op.toList == ([61, 61] : List UInt8)) = false := by rw [hx]; rfl
 have e_ne : (op.toList == ([33, 61] : List UInt8)) = false := by rw [hx]; rfl
 have e_in : (op.toList == ([105, 110] : List UInt8)) = false := by rw [hx]; rfl
 have e_notin : (op.toList == ([110, 111, 116, 105, 110] : List UInt8)) = false := by rw [hx]; rfl
 have e_gt : (op.toList == ([103, 116] : List UInt8)) = false := by rw [hx]; rfl
 have e_lt : (op.toList == ([108, 116] : List UInt8)) = false := by rw [hx]; rfl
 have e_ex : (op.toList == ([101, 120, 105, 115, 116, 115] : List UInt8)) = false := by rw [hx]; rfl
 have e_nex : (op.toList == ([33] : List UInt8)) = false := by rw [hx]; rfl
 have HBK := Aside0.mk hb
 have HKS : Aside0 (key.size ≤ 20000000) := ⟨by omega⟩
 clear hb hx
 obtain ⟨W1, hW1⟩ : ∃ W1, w.alloc (.cells #[.string ⟨#[]⟩] 274) = W1 := ⟨_, rfl⟩
 have HS : Aside0 (BufSt w W1 ⟨#[]⟩ 0) := ⟨by rw [← hW1]; exact BufSt.new w⟩
 have HVS : Aside0 (v.size ≤ 20000000) := ⟨hv⟩
 obtain ⟨ad, rfl, _⟩ := Kd.at_string hC 0 (by omega) (by omega)
 have HC : Aside0 (∀ W s k, BufSt w W s k → W.cell? ⟨rb, o, none⟩ = some (.string key) ∧ W.cell? ⟨rb, o + 1, none⟩ = some (.string op) ∧ W.cell? ⟨rb, o + 2, none⟩ = some (.slice (some ad) 1 c) ∧ W.cell? ad = some (.string v)) := ⟨fun W s k h => by
  have := HBK.out.below h.be
  obtain ⟨ad2, e2, h3⟩ := Kd.at_string (Kd.C_below hC h.be) 0 (by omega) (by omega)
  cases e2
  have e : ad.add 0 = ad := by cases ad; rfl
  rw [show (0 : Int).toNat = 0 from rfl, e] at h3
  exact ⟨this.c0, this.c1, this.c2, h3⟩⟩
 clear hC
 obtain ⟨k0, k1, k2, k3⟩ := HC.out _ _ _ HS.out
 go_enter Tryz.func218, Tryz.ntmps218
 go_upto_region 2 with (fail)
 try rw [hW1]
 clear hW1
 go_wp2_with (first | ((with_reducible refine (BufSt.calls _ HS.out (by omega) (by first | exact HKS.out | exact HVS.out | decide)).mono ?_); rintro e w1 ⟨rfl, hs⟩; clear k0 k1 k2 k3 HS; have HS := Aside0.mk hs; clear hs; obtain ⟨k0, k1, k2, k3⟩ := HC.out _ _ _ HS.out) | ((with_reducible refine (BufS_calls _ _ _ HS.out.st).mono ?_); rintro e w1 ⟨rfl, rfl⟩))
 go_ret
 exact ⟨congrArg (fun s => Ending.returned (.string s)) (by rw [empty_app]), HS.out.be⟩
set_option maxHeartbeats 8000000 in
theorem StrO_deq (key op v : ByteArray) (hx : op.toList = [61, 61]) (hk : key.size ≤ 2000) (hv : v.size ≤ 20000000) (rb o c : Nat) (A : Option Addr) (w : World) (hb : RqC w rb o (.string key) (.string op) (.slice A 1 c)) (hC : Kd.C Kd.string w A 1 [v]) :
   Calls Tryz.prog 218 #[.pointer (some ⟨rb, o, none⟩)] w fun e w' => e = .returned (.string (key ++ ⟨#[61, 61]⟩ ++ v)) ∧ Below w.heap.size w w' := by
 have e_eq : (op.toList == ([61] : List UInt8)) = false := by rw [hx]; rfl
 have e_deq : (op.toList == ([61, 61] : List UInt8)) = true := by rw [hx]; rfl
 have e_ne : (op.toList == ([33, 61] : List UInt8)) = false := by rw [hx]; rfl
 have e_in : (op.toList == ([105, 110] : List UInt8)) = false := by rw [hx]; rfl
 have e_notin : (op.toList == ([110, 111, 116, 105, 110] : List UInt8)) = false := by rw [hx]; rfl
 have e_gt : (op.toList == ([103, 116] : List UInt8)) = false := by rw [hx]; rfl
 have e_lt : (op.toList == ([108, 116] : List UInt8)) = false := by rw [hx]; rfl
 have e_ex : (op.toList == ([101, 120, 105, 115, 116, 115] : List UInt8)) = false := by rw [hx]; rfl
 have e_nex : (op.toList == ([33] : List UInt8)) = false := by rw [hx]; rfl
 have HBK := Aside0.mk hb
 have HKS : Aside0 (key.size ≤ 20000000) := ⟨by omega⟩
 clear hb hx
 obtain ⟨W1, hW1⟩ : ∃ W1, w.alloc (.cells #[.string ⟨#[]⟩] 274) = W1 := ⟨_, rfl⟩
 have HS : Aside0 (BufSt w W1 ⟨#[]⟩ 0) := ⟨by rw [← hW1]; exact BufSt.new w⟩
 have HVS : Aside0 (v.size ≤ 20000000) := ⟨hv⟩
 obtain ⟨ad, rfl, _⟩ := Kd.at_string hC 0 (by omega) (by omega)
 have HC : Aside0 (∀ W s k, BufSt w W s k → W.cell? ⟨rb, o, none⟩ = some (.string key) ∧ W.cell? ⟨rb, o + 1, none⟩ = some (.string op) ∧ W.cell? ⟨rb, o + 2, none⟩ = some (.slice (some ad) 1 c) ∧ W.cell? ad = some (.string v)) := ⟨fun W s k h => by
  have := HBK.out.below h.be
  obtain ⟨ad2, e2, h3⟩ := Kd.at_string (Kd.C_below hC h.be) 0 (by omega) (by omega)
  cases e2
  have e : ad.add 0 = ad := by cases ad; rfl
  rw [show (0 : Int).toNat = 0 from rfl, e] at h3
  exact ⟨this.c0, this.c1, this.c2, h3⟩⟩
 clear hC
 obtain ⟨k0, k1, k2, k3⟩ := HC.out _ _ _ HS.out
 go_enter Tryz.func218, Tryz.ntmps218
 go_upto_region 2 with (fail)
 try rw [hW1]
 clear hW1
 go_wp2_with (first | ((with_reducible refine (BufSt.calls _ HS.out (by omega) (by first | exact HKS.out | exact HVS.out | decide)).mono ?_); rintro e w1 ⟨rfl, hs⟩; clear k0 k1 k2 k3 HS; have HS := Aside0.mk hs; clear hs; obtain ⟨k0, k1, k2, k3⟩ := HC.out _ _ _ HS.out) | ((with_reducible refine (BufS_calls _ _ _ HS.out.st).mono ?_); rintro e w1 ⟨rfl, rfl⟩))
 go_ret
 exact ⟨congrArg (fun s => Ending.returned (.string s)) (by rw [empty_app]), HS.out.be⟩
set_option maxHeartbeats 8000000 in
theorem StrO_ne (key op v : ByteArray) (hx : op.toList = [33, 61]) (hk : key.size ≤ 2000) (hv : v.size ≤ 20000000) (rb o c : Nat) (A : Option Addr) (w : World) (hb : RqC w rb o (.string key) (.string op) (.slice A 1 c)) (hC : Kd.C Kd.string w A 1 [v]) :
   Calls Tryz.prog 218 #[.pointer (some ⟨rb, o, none⟩)] w fun e w' => e = .returned (.string (key ++ ⟨#[33, 61]⟩ ++ v)) ∧ Below w.heap.size w w' := by
 have e_eq : (op.toList == ([61] : List UInt8)) = false := by rw [hx]; rfl
 have e_deq : (op.toList == ([61, 61] : List UInt8)) = false := by rw [hx]; rfl
 have e_ne : (op.toList == ([33, 61] : List UInt8)) = true := by rw [hx]; rfl
 have e_in : (op.toList == ([105, 110] : List UInt8)) = false := by rw [hx]; rfl
 have e_notin : (op.toList == ([110, 111, 116, 105, 110] : List UInt8)) = false := by rw [hx]; rfl
 have e_gt : (op.toList == ([103, 116] : List UInt8)) = false := by rw [hx]; rfl
 have e_lt : (op.toList == ([108, 116] : List UInt8)) = false := by rw [hx]; rfl
 have e_ex : (op.toList == ([101, 120, 105, 115, 116, 115] : List UInt8)) = false := by rw [hx]; rfl
 have e_nex : (op.toList == ([33] : List UInt8)) = false := by rw [hx]; rfl
 have HBK := Aside0.mk hb
 have HKS : Aside0 (key.size ≤ 20000000) := ⟨by omega⟩
 clear hb hx
 obtain ⟨W1, hW1⟩ : ∃ W1, w.alloc (.cells #[.string ⟨#[]⟩] 274) = W1 := ⟨_, rfl⟩
 have HS : Aside0 (BufSt w W1 ⟨#[]⟩ 0) := ⟨by rw [← hW1]; exact BufSt.new w⟩
 have HVS : Aside0 (v.size ≤ 20000000) := ⟨hv⟩
 obtain ⟨ad, rfl, _⟩ := Kd.at_string hC 0 (by omega) (by omega)
 have HC : Aside0 (∀ W s k, BufSt w W s k → W.cell? ⟨rb, o, none⟩ = some (.string key) ∧ W.cell? ⟨rb, o + 1, none⟩ = some (.string op) ∧ W.cell? ⟨rb, o + 2, none⟩ = some (.slice (some ad) 1 c) ∧ W.cell? ad = some (.string v)) := ⟨fun W s k h => by
  have := HBK.out.below h.be
  obtain ⟨ad2, e2, h3⟩ := Kd.at_string (Kd.C_below hC h.be) 0 (by omega) (by omega)
  cases e2
  have e : ad.add 0 = ad := by cases ad; rfl
  rw [show (0 : Int).toNat = 0 from rfl, e] at h3
  exact ⟨this.c0, this.c1, this.c2, h3⟩⟩
 clear hC
 obtain ⟨k0, k1, k2, k3⟩ := HC.out _ _ _ HS.out
 go_enter Tryz.func218, Tryz.ntmps218
 go_upto_region 2 with (fail)
 try rw [hW1]
 clear hW1
 go_wp2_with (first | ((with_reducible refine (BufSt.calls _ HS.out (by omega) (by first | exact HKS.out | exact HVS.out | decide)).mono ?_); rintro e w1 ⟨rfl, hs⟩; clear k0 k1 k2 k3 HS; have HS := Aside0.mk hs; clear hs; obtain ⟨k0, k1, k2, k3⟩ := HC.out _ _ _ HS.out) | ((with_reducible refine (BufS_calls _ _ _ HS.out.st).mono ?_); rintro e w1 ⟨rfl, rfl⟩))
 go_ret
 exact ⟨congrArg (fun s => Ending.returned (.string s)) (by rw [empty_app]), HS.out.be⟩
set_option maxHeartbeats 8000000 in
theorem StrO_in (key op v : ByteArray) (hx : op.toList = [105, 110]) (hk : key.size ≤ 2000) (hv : v.size ≤ 20000000) (rb o c : Nat) (A : Option Addr) (w : World) (hb : RqC w rb o (.string key) (.string op) (.slice A 1 c)) (hC : Kd.C Kd.string w A 1 [v]) :
   Calls Tryz.prog 218 #[.pointer (some ⟨rb, o, none⟩)] w fun e w' => e = .returned (.string (key ++ ⟨#[32, 105, 110, 32]⟩ ++ ⟨#[40]⟩ ++ v ++ ⟨#[41]⟩)) ∧ Below w.heap.size w w' := by
 have e_eq : (op.toList == ([61] : List UInt8)) = false := by rw [hx]; rfl
 have e_deq : (op.toList == ([61, 61] : List UInt8)) = false := by rw [hx]; rfl
 have e_ne : (op.toList == ([33, 61] : List UInt8)) = false := by rw [hx]; rfl
 have e_in : (op.toList == ([105, 110] : List UInt8)) = true := by rw [hx]; rfl
 have e_notin : (op.toList == ([110, 111, 116, 105, 110] : List UInt8)) = false := by rw [hx]; rfl
 have e_gt : (op.toList == ([103, 116] : List UInt8)) = false := by rw [hx]; rfl
 have e_lt : (op.toList == ([108, 116] : List UInt8)) = false := by rw [hx]; rfl
 have e_ex : (op.toList == ([101, 120, 105, 115, 116, 115] : List UInt8)) = false := by rw [hx]; rfl
 have e_nex : (op.toList == ([33] : List UInt8)) = false := by rw [hx]; rfl
 have HBK := Aside0.mk hb
 have HKS : Aside0 (key.size ≤ 20000000) := ⟨by omega⟩
 clear hb hx
 obtain ⟨W1, hW1⟩ : ∃ W1, w.alloc (.cells #[.string ⟨#[]⟩] 274) = W1 := ⟨_, rfl⟩
 have HS : Aside0 (BufSt w W1 ⟨#[]⟩ 0) := ⟨by rw [← hW1]; exact BufSt.new w⟩
 have HVS : Aside0 (v.size ≤ 20000000) := ⟨hv⟩
 obtain ⟨ad, rfl, _⟩ := Kd.at_string hC 0 (by omega) (by omega)
 have HC : Aside0 (∀ W s k, BufSt w W s k → W.cell? ⟨rb, o, none⟩ = some (.string key) ∧ W.cell? ⟨rb, o + 1, none⟩ = some (.string op) ∧ W.cell? ⟨rb, o + 2, none⟩ = some (.slice (some ad) 1 c) ∧ W.cell? ad = some (.string v)) := ⟨fun W s k h => by
  have := HBK.out.below h.be
  obtain ⟨ad2, e2, h3⟩ := Kd.at_string (Kd.C_below hC h.be) 0 (by omega) (by omega)
  cases e2
  have e : ad.add 0 = ad := by cases ad; rfl
  rw [show (0 : Int).toNat = 0 from rfl, e] at h3
  exact ⟨this.c0, this.c1, this.c2, h3⟩⟩
 clear hC
 obtain ⟨k0, k1, k2, k3⟩ := HC.out _ _ _ HS.out
 go_enter Tryz.func218, Tryz.ntmps218
 go_upto_region 2 with (fail)
 try rw [hW1]
 clear hW1
 go_wp2_with (first | ((with_reducible refine (BufSt.calls _ HS.out (by omega) (by first | exact HKS.out | exact HVS.out | decide)).mono ?_); rintro e w1 ⟨rfl, hs⟩; clear k0 k1 k2 k3 HS; have HS := Aside0.mk hs; clear hs; obtain ⟨k0, k1, k2, k3⟩ := HC.out _ _ _ HS.out) | ((with_reducible refine (BufS_calls _ _ _ HS.out.st).mono ?_); rintro e w1 ⟨rfl, rfl⟩))
 go_ret
 exact ⟨congrArg (fun s => Ending.returned (.string s)) (by rw [empty_app]), HS.out.be⟩
set_option maxHeartbeats 8000000 in
theorem StrO_notin (key op v : ByteArray) (hx : op.toList = [110, 111, 116, 105, 110]) (hk : key.size ≤ 2000) (hv : v.size ≤ 20000000) (rb o c : Nat) (A : Option Addr) (w : World) (hb : RqC w rb o (.string key) (.string op) (.slice A 1 c)) (hC : Kd.C Kd.string w A 1 [v]) :
   Calls Tryz.prog 218 #[.pointer (some ⟨rb, o, none⟩)] w fun e w' => e = .returned (.string (key ++ ⟨#[32, 110, 111, 116, 105, 110, 32]⟩ ++ ⟨#[40]⟩ ++ v ++ ⟨#[41]⟩)) ∧ Below w.heap.size w w' := by
 have e_eq : (op.toList == ([61] : List UInt8)) = false := by rw [hx]; rfl
 have e_deq : (op.toList == ([61, 61] : List UInt8)) = false := by rw [hx]; rfl
 have e_ne : (op.toList == ([33, 61] : List UInt8)) = false := by rw [hx]; rfl
 have e_in : (op.toList == ([105, 110] : List UInt8)) = false := by rw [hx]; rfl
 have e_notin : (op.toList == ([110, 111, 116, 105, 110] : List UInt8)) = true := by rw [hx]; rfl
 have e_gt : (op.toList == ([103, 116] : List UInt8)) = false := by rw [hx]; rfl
 have e_lt : (op.toList == ([108, 116] : List UInt8)) = false := by rw [hx]; rfl
 have e_ex : (op.toList == ([101, 120, 105, 115, 116, 115] : List UInt8)) = false := by rw [hx]; rfl
 have e_nex : (op.toList == ([33] : List UInt8)) = false := by rw [hx]; rfl
 have HBK := Aside0.mk hb
 have HKS : Aside0 (key.size ≤ 20000000) := ⟨by omega⟩
 clear hb hx
 obtain ⟨W1, hW1⟩ : ∃ W1, w.alloc (.cells #[.string ⟨#[]⟩] 274) = W1 := ⟨_, rfl⟩
 have HS : Aside0 (BufSt w W1 ⟨#[]⟩ 0) := ⟨by rw [← hW1]; exact BufSt.new w⟩
 have HVS : Aside0 (v.size ≤ 20000000) := ⟨hv⟩
 obtain ⟨ad, rfl, _⟩ := Kd.at_string hC 0 (by omega) (by omega)
 have HC : Aside0 (∀ W s k, BufSt w W s k → W.cell? ⟨rb, o, none⟩ = some (.string key) ∧ W.cell? ⟨rb, o + 1, none⟩ = some (.string op) ∧ W.cell? ⟨rb, o + 2, none⟩ = some (.slice (some ad) 1 c) ∧ W.cell? ad = some (.string v)) := ⟨fun W s k h => by
  have := HBK.out.below h.be
  obtain ⟨ad2, e2, h3⟩ := Kd.at_string (Kd.C_below hC h.be) 0 (by omega) (by omega)
  cases e2
  have e : ad.add 0 = ad := by cases ad; rfl
  rw [show (0 : Int).toNat = 0 from rfl, e] at h3
  exact ⟨this.c0, this.c1, this.c2, h3⟩⟩
 clear hC
 obtain ⟨k0, k1, k2, k3⟩ := HC.out _ _ _ HS.out
 go_enter Tryz.func218, Tryz.ntmps218
 go_upto_region 2 with (fail)
 try rw [hW1]
 clear hW1
 go_wp2_with (first | ((with_reducible refine (BufSt.calls _ HS.out (by omega) (by first | exact HKS.out | exact HVS.out | decide)).mono ?_); rintro e w1 ⟨rfl, hs⟩; clear k0 k1 k2 k3 HS; have HS := Aside0.mk hs; clear hs; obtain ⟨k0, k1, k2, k3⟩ := HC.out _ _ _ HS.out) | ((with_reducible refine (BufS_calls _ _ _ HS.out.st).mono ?_); rintro e w1 ⟨rfl, rfl⟩))
 go_ret
 exact ⟨congrArg (fun s => Ending.returned (.string s)) (by rw [empty_app]), HS.out.be⟩
set_option maxHeartbeats 8000000 in
theorem StrO_gt (key op v : ByteArray) (hx : op.toList = [103, 116]) (hk : key.size ≤ 2000) (hv : v.size ≤ 20000000) (rb o c : Nat) (A : Option Addr) (w : World) (hb : RqC w rb o (.string key) (.string op) (.slice A 1 c)) (hC : Kd.C Kd.string w A 1 [v]) :
   Calls Tryz.prog 218 #[.pointer (some ⟨rb, o, none⟩)] w fun e w' => e = .returned (.string (key ++ ⟨#[62]⟩ ++ v)) ∧ Below w.heap.size w w' := by
 have e_eq : (op.toList == ([61] : List UInt8)) = false := by rw [hx]; rfl
 have e_deq : (op.toList == ([61, 61] : List UInt8)) = false := by rw [hx]; rfl
 have e_ne : (op.toList == ([33, 61] : List UInt8)) = false := by rw [hx]; rfl
 have e_in : (op.toList == ([105, 110] : List UInt8)) = false := by rw [hx]; rfl
 have e_notin : (op.toList == ([110, 111, 116, 105, 110] : List UInt8)) = false := by rw [hx]; rfl
 have e_gt : (op.toList == ([103, 116] : List UInt8)) = true := by rw [hx]; rfl
 have e_lt : (op.toList == ([108, 116] : List UInt8)) = false := by rw [hx]; rfl
 have e_ex : (op.toList == ([101, 120, 105, 115, 116, 115] : List UInt8)) = false := by rw [hx]; rfl
 have e_nex : (op.toList == ([33] : List UInt8)) = false := by rw [hx]; rfl
 have HBK := Aside0.mk hb
 have HKS : Aside0 (key.size ≤ 20000000) := ⟨by omega⟩
 clear hb hx
 obtain ⟨W1, hW1⟩ : ∃ W1, w.alloc (.cells #[.string ⟨#[]⟩] 274) = W1 := ⟨_, rfl⟩
 have HS : Aside0 (BufSt w W1 ⟨#[]⟩ 0) := ⟨by rw [← hW1]; exact BufSt.new w⟩
 have HVS : Aside0 (v.size ≤ 20000000) := ⟨hv⟩
 obtain ⟨ad, rfl, _⟩ := Kd.at_string hC 0 (by omega) (by omega)
 have HC : Aside0 (∀ W s k, BufSt w W s k → W.cell? ⟨rb, o, none⟩ = some (.string key) ∧ W.cell? ⟨rb, o + 1, none⟩ = some (.string op) ∧ W.cell? ⟨rb, o + 2, none⟩ = some (.slice (some ad) 1 c) ∧ W.cell? ad = some (.string v)) := ⟨fun W s k h => by
  have := HBK.out.below h.be
  obtain ⟨ad2, e2, h3⟩ := Kd.at_string (Kd.C_below hC h.be) 0 (by omega) (by omega)
  cases e2
  have e : ad.add 0 = ad := by cases ad; rfl
  rw [show (0 : Int).toNat = 0 from rfl, e] at h3
  exact ⟨this.c0, this.c1, this.c2, h3⟩⟩
 clear hC
 obtain ⟨k0, k1, k2, k3⟩ := HC.out _ _ _ HS.out
 go_enter Tryz.func218, Tryz.ntmps218
 go_upto_region 2 with (fail)
 try rw [hW1]
 clear hW1
 go_wp2_with (first | ((with_reducible refine (BufSt.calls _ HS.out (by omega) (by first | exact HKS.out | exact HVS.out | decide)).mono ?_); rintro e w1 ⟨rfl, hs⟩; clear k0 k1 k2 k3 HS; have HS := Aside0.mk hs; clear hs; obtain ⟨k0, k1, k2, k3⟩ := HC.out _ _ _ HS.out) | ((with_reducible refine (BufS_calls _ _ _ HS.out.st).mono ?_); rintro e w1 ⟨rfl, rfl⟩))
 go_ret
 exact ⟨congrArg (fun s => Ending.returned (.string s)) (by rw [empty_app]), HS.out.be⟩
set_option maxHeartbeats 8000000 in
theorem StrO_lt (key op v : ByteArray) (hx : op.toList = [108, 116]) (hk : key.size ≤ 2000) (hv : v.size ≤ 20000000) (rb o c : Nat) (A : Option Addr) (w : World) (hb : RqC w rb o (.string key) (.string op) (.slice A 1 c)) (hC : Kd.C Kd.string w A 1 [v]) :
   Calls Tryz.prog 218 #[.pointer (some ⟨rb, o, none⟩)] w fun e w' => e = .returned (.string (key ++ ⟨#[60]⟩ ++ v)) ∧ Below w.heap.size w w' := by
 have e_eq : (op.toList == ([61] : List UInt8)) = false := by rw [hx]; rfl
 have e_deq : (op.toList == ([61, 61] : List UInt8)) = false := by rw [hx]; rfl
 have e_ne : (op.toList == ([33, 61] : List UInt8)) = false := by rw [hx]; rfl
 have e_in : (op.toList == ([105, 110] : List UInt8)) = false := by rw [hx]; rfl
 have e_notin : (op.toList == ([110, 111, 116, 105, 110] : List UInt8)) = false := by rw [hx]; rfl
 have e_gt : (op.toList == ([103, 116] : List UInt8)) = false := by rw [hx]; rfl
 have e_lt : (op.toList == ([108, 116] : List UInt8)) = true := by rw [hx]; rfl
 have e_ex : (op.toList == ([101, 120, 105, 115, 116, 115] : List UInt8)) = false := by rw [hx]; rfl
 have e_nex : (op.toList == ([33] : List UInt8)) = false := by rw [hx]; rfl
 have HBK := Aside0.mk hb
 have HKS : Aside0 (key.size ≤ 20000000) := ⟨by omega⟩
 clear hb hx
 obtain ⟨W1, hW1⟩ : ∃ W1, w.alloc (.cells #[.string ⟨#[]⟩] 274) = W1 := ⟨_, rfl⟩
 have HS : Aside0 (BufSt w W1 ⟨#[]⟩ 0) := ⟨by rw [← hW1]; exact BufSt.new w⟩
 have HVS : Aside0 (v.size ≤ 20000000) := ⟨hv⟩
 obtain ⟨ad, rfl, _⟩ := Kd.at_string hC 0 (by omega) (by omega)
 have HC : Aside0 (∀ W s k, BufSt w W s k → W.cell? ⟨rb, o, none⟩ = some (.string key) ∧ W.cell? ⟨rb, o + 1, none⟩ = some (.string op) ∧ W.cell? ⟨rb, o + 2, none⟩ = some (.slice (some ad) 1 c) ∧ W.cell? ad = some (.string v)) := ⟨fun W s k h => by
  have := HBK.out.below h.be
  obtain ⟨ad2, e2, h3⟩ := Kd.at_string (Kd.C_below hC h.be) 0 (by omega) (by omega)
  cases e2
  have e : ad.add 0 = ad := by cases ad; rfl
  rw [show (0 : Int).toNat = 0 from rfl, e] at h3
  exact ⟨this.c0, this.c1, this.c2, h3⟩⟩
 clear hC
 obtain ⟨k0, k1, k2, k3⟩ := HC.out _ _ _ HS.out
 go_enter Tryz.func218, Tryz.ntmps218
 go_upto_region 2 with (fail)
 try rw [hW1]
 clear hW1
 go_wp2_with (first | ((with_reducible refine (BufSt.calls _ HS.out (by omega) (by first | exact HKS.out | exact HVS.out | decide)).mono ?_); rintro e w1 ⟨rfl, hs⟩; clear k0 k1 k2 k3 HS; have HS := Aside0.mk hs; clear hs; obtain ⟨k0, k1, k2, k3⟩ := HC.out _ _ _ HS.out) | ((with_reducible refine (BufS_calls _ _ _ HS.out.st).mono ?_); rintro e w1 ⟨rfl, rfl⟩))
 go_ret
 exact ⟨congrArg (fun s => Ending.returned (.string s)) (by rw [empty_app]), HS.out.be⟩
set_option maxHeartbeats 8000000 in
theorem StrNO_in (key op : ByteArray) (hx : op.toList = [105, 110]) (hk : key.size ≤ 2000) (rb o c n : Nat) (vs : List ByteArray) (hn : vs.length = n) (hn1 : n ≠ 1) (hn2 : n ≤ 1000) (hc : n ≤ c) (hz : ∀ v ∈ vs, v.size ≤ 10000) (A : Option Addr) (w : World) (hb : RqC w rb o (.string key) (.string op) (.slice A n c)) (hC : Kd.C Kd.string w A n vs) :
   Calls Tryz.prog 218 #[.pointer (some ⟨rb, o, none⟩)] w fun e w' => ∃ us : List L, us.Perm (vL vs) ∧ Asc us ∧ e = .returned (.string (key ++ ⟨#[32, 105, 110, 32]⟩ ++ ⟨#[40]⟩ ++ joinB ⟨#[44]⟩ (us.map mk) ++ ⟨#[41]⟩)) ∧ Below w.heap.size w w' := by
 have e_eq : (op.toList == ([61] : List UInt8)) = false := by rw [hx]; rfl
 have e_deq : (op.toList == ([61, 61] : List UInt8)) = false := by rw [hx]; rfl
 have e_ne : (op.toList == ([33, 61] : List UInt8)) = false := by rw [hx]; rfl
 have e_in : (op.toList == ([105, 110] : List UInt8)) = true := by rw [hx]; rfl
 have e_notin : (op.toList == ([110, 111, 116, 105, 110] : List UInt8)) = false := by rw [hx]; rfl
 have e_gt : (op.toList == ([103, 116] : List UInt8)) = false := by rw [hx]; rfl
 have e_lt : (op.toList == ([108, 116] : List UInt8)) = false := by rw [hx]; rfl
 have e_ex : (op.toList == ([101, 120, 105, 115, 116, 115] : List UInt8)) = false := by rw [hx]; rfl
 have e_nex : (op.toList == ([33] : List UInt8)) = false := by rw [hx]; rfl
 have HBK := Aside0.mk hb
 have HKS : Aside0 (key.size ≤ 20000000) := ⟨by omega⟩
 clear hb hx
 obtain ⟨W1, hW1⟩ : ∃ W1, w.alloc (.cells #[.string ⟨#[]⟩] 274) = W1 := ⟨_, rfl⟩
 have HS : Aside0 (BufSt w W1 ⟨#[]⟩ 0) := ⟨by rw [← hW1]; exact BufSt.new w⟩
 have b1 : ((n : Int) == 1) = false := by simp only [beq_eq_false_iff_ne, ne_eq]; omega
 have HC : Aside0 (∀ W s k, BufSt w W s k → W.cell? ⟨rb, o, none⟩ = some (.string key) ∧ W.cell? ⟨rb, o + 1, none⟩ = some (.string op) ∧ W.cell? ⟨rb, o + 2, none⟩ = some (.slice A n c)) := ⟨fun W s k h => by
  have := HBK.out.below h.be
  exact ⟨this.c0, this.c1, this.c2⟩⟩
 have HSA : Aside0 (∀ W s k, BufSt w W s k → Calls Tryz.prog 222 #[.slice A n c] W fun e w' => ∃ (A' : Option Addr) (c' : Nat) (us : List L), e = .returned (.slice A' n c') ∧ Kd.C Kd.string w' A' n (us.map mk) ∧ us.Perm (vL vs) ∧ Asc us ∧ BufSt w w' s k) := ⟨fun W s k h => (safeSort_calls A c n vs hn hn2 hc W (Kd.C_below hC h.be)).mono (by
  rintro e w' ⟨A', c', us, h1, h2, h3, h4, h5⟩
  exact ⟨A', c', us, h1, h2, h3, h4, h.on h5⟩)⟩
 have HZU : Aside0 (∀ us : List L, us.Perm (vL vs) → (us.map mk).length = n ∧ ∀ p ∈ us.map mk, p.size ≤ 10000) := ⟨fun us hp => ⟨by rw [List.length_map, hp.length_eq, List.length_map, hn], fun p hpm => by
  obtain ⟨x, hxm, rfl⟩ := List.mem_map.1 hpm
  obtain ⟨q, hq, rfl⟩ := List.mem_map.1 (hp.mem_iff.1 hxm)
  rw [← mk_of q]; exact hz q hq⟩⟩
 have HN2 := Aside0.mk hn2
 clear hC hz hn hn1
 obtain ⟨k0, k1, k2⟩ := HC.out _ _ _ HS.out
 go_enter Tryz.func218, Tryz.ntmps218
 go_upto_region 2 with (fail)
 try rw [hW1]
 clear hW1
 go_wp2_with (first | ((with_reducible refine (BufSt.calls _ HS.out (by omega) (by first | exact HKS.out | exact HJS.out | decide)).mono ?_); rintro e w1 ⟨rfl, hs⟩; clear k0 k1 k2 HS; have HS := Aside0.mk hs; clear hs; obtain ⟨k0, k1, k2⟩ := HC.out _ _ _ HS.out) | ((with_reducible refine (BufS_calls _ _ _ HS.out.st).mono ?_); rintro e w1 ⟨rfl, rfl⟩) | ((with_reducible refine (HSA.out _ _ _ HS.out).mono ?_); rintro e w1 ⟨A', c', us, rfl, h2, h3, h4, h5⟩; clear k0 k1 k2 HS; have HS := Aside0.mk h5; have HP := Aside0.mk h3; have HA := Aside0.mk h4; have HZ2 := Aside0.mk (HZU.out us h3); have HJ := Aside0.mk (zzJoin_calls ⟨#[44]⟩ (by decide) A' c' n (us.map mk) HZ2.out.1 HN2.out HZ2.out.2 w1 h2); have HJS : Aside0 ((joinB ⟨#[44]⟩ (us.map mk)).size ≤ 20000000) := ⟨by (have := joinB_size ⟨#[44]⟩ 10000 (us.map mk) HZ2.out.2); rw [HZ2.out.1] at this; exact Nat.le_trans this (Nat.le_trans (Nat.mul_le_mul HN2.out (Nat.le_refl _)) (by decide))⟩; clear h2 h3 h4 h5; obtain ⟨k0, k1, k2⟩ := HC.out _ _ _ HS.out) | ((with_reducible refine (HJ.out).mono ?_); rintro e w1 ⟨rfl, rfl⟩))
 go_ret
 exact ⟨us, HP.out, HA.out, congrArg (fun s => Ending.returned (.string s)) (by rw [empty_app]), HS.out.be⟩
set_option maxHeartbeats 8000000 in
theorem StrNO_notin (key op : ByteArray) (hx : op.toList = [110, 111, 116, 105, 110]) (hk : key.size ≤ 2000) (rb o c n : Nat) (vs : List ByteArray) (hn : vs.length = n) (hn1 : n ≠ 1) (hn2 : n ≤ 1000) (hc : n ≤ c) (hz : ∀ v ∈ vs, v.size ≤ 10000) (A : Option Addr) (w : World) (hb : RqC w rb o (.string key) (.string op) (.slice A n c)) (hC : Kd.C Kd.string w A n vs) :
   Calls Tryz.prog 218 #[.pointer (some ⟨rb, o, none⟩)] w fun e w' => ∃ us : List L, us.Perm (vL vs) ∧ Asc us ∧ e = .returned (.string (key ++ ⟨#[32, 110, 111, 116, 105, 110, 32]⟩ ++ ⟨#[40]⟩ ++ joinB ⟨#[44]⟩ (us.map mk) ++ ⟨#[41]⟩)) ∧ Below w.heap.size w w' := by
 have e_eq : (op.toList == ([61] : List UInt8)) = false := by rw [hx]; rfl
 have e_deq : (op.toList == ([61, 61] : List UInt8)) = false := by rw [hx]; rfl
 have e_ne : (op.toList == ([33, 61] : List UInt8)) = false := by rw [hx]; rfl
 have e_in : (op.toList == ([105, 110] : List UInt8)) = false := by rw [hx]; rfl
 have e_notin : (op.toList == ([110, 111, 116, 105, 110] : List UInt8)) = true := by rw [hx]; rfl
 have e_gt : (op.toList == ([103, 116] : List UInt8)) = false := by rw [hx]; rfl
 have e_lt : (op.toList == ([108, 116] : List UInt8)) = false := by rw [hx]; rfl
 have e_ex : (op.toList == ([101, 120, 105, 115, 116, 115] : List UInt8)) = false := by rw [hx]; rfl
 have e_nex : (op.toList == ([33] : List UInt8)) = false := by rw [hx]; rfl
 have HBK := Aside0.mk hb
 have HKS : Aside0 (key.size ≤ 20000000) := ⟨by omega⟩
 clear hb hx
 obtain ⟨W1, hW1⟩ : ∃ W1, w.alloc (.cells #[.string ⟨#[]⟩] 274) = W1 := ⟨_, rfl⟩
 have HS : Aside0 (BufSt w W1 ⟨#[]⟩ 0) := ⟨by rw [← hW1]; exact BufSt.new w⟩
 have b1 : ((n : Int) == 1) = false := by simp only [beq_eq_false_iff_ne, ne_eq]; omega
 have HC : Aside0 (∀ W s k, BufSt w W s k → W.cell? ⟨rb, o, none⟩ = some (.string key) ∧ W.cell? ⟨rb, o + 1, none⟩ = some (.string op) ∧ W.cell? ⟨rb, o + 2, none⟩ = some (.slice A n c)) := ⟨fun W s k h => by
  have := HBK.out.below h.be
  exact ⟨this.c0, this.c1, this.c2⟩⟩
 have HSA : Aside0 (∀ W s k, BufSt w W s k → Calls Tryz.prog 222 #[.slice A n c] W fun e w' => ∃ (A' : Option Addr) (c' : Nat) (us : List L), e = .returned (.slice A' n c') ∧ Kd.C Kd.string w' A' n (us.map mk) ∧ us.Perm (vL vs) ∧ Asc us ∧ BufSt w w' s k) := ⟨fun W s k h => (safeSort_calls A c n vs hn hn2 hc W (Kd.C_below hC h.be)).mono (by
  rintro e w' ⟨A', c', us, h1, h2, h3, h4, h5⟩
  exact ⟨A', c', us, h1, h2, h3, h4, h.on h5⟩)⟩
 have HZU : Aside0 (∀ us : List L, us.Perm (vL vs) → (us.map mk).length = n ∧ ∀ p ∈ us.map mk, p.size ≤ 10000) := ⟨fun us hp => ⟨by rw [List.length_map, hp.length_eq, List.length_map, hn], fun p hpm => by
  obtain ⟨x, hxm, rfl⟩ := List.mem_map.1 hpm
  obtain ⟨q, hq, rfl⟩ := List.mem_map.1 (hp.mem_iff.1 hxm)
  rw [← mk_of q]; exact hz q hq⟩⟩
 have HN2 := Aside0.mk hn2
 clear hC hz hn hn1
 obtain ⟨k0, k1, k2⟩ := HC.out _ _ _ HS.out
 go_enter Tryz.func218, Tryz.ntmps218
 go_upto_region 2 with (fail)
 try rw [hW1]
 clear hW1
 go_wp2_with (first | ((with_reducible refine (BufSt.calls _ HS.out (by omega) (by first | exact HKS.out | exact HJS.out | decide)).mono ?_); rintro e w1 ⟨rfl, hs⟩; clear k0 k1 k2 HS; have HS := Aside0.mk hs; clear hs; obtain ⟨k0, k1, k2⟩ := HC.out _ _ _ HS.out) | ((with_reducible refine (BufS_calls _ _ _ HS.out.st).mono ?_); rintro e w1 ⟨rfl, rfl⟩) | ((with_reducible refine (HSA.out _ _ _ HS.out).mono ?_); rintro e w1 ⟨A', c', us, rfl, h2, h3, h4, h5⟩; clear k0 k1 k2 HS; have HS := Aside0.mk h5; have HP := Aside0.mk h3; have HA := Aside0.mk h4; have HZ2 := Aside0.mk (HZU.out us h3); have HJ := Aside0.mk (zzJoin_calls ⟨#[44]⟩ (by decide) A' c' n (us.map mk) HZ2.out.1 HN2.out HZ2.out.2 w1 h2); have HJS : Aside0 ((joinB ⟨#[44]⟩ (us.map mk)).size ≤ 20000000) := ⟨by (have := joinB_size ⟨#[44]⟩ 10000 (us.map mk) HZ2.out.2); rw [HZ2.out.1] at this; exact Nat.le_trans this (Nat.le_trans (Nat.mul_le_mul HN2.out (Nat.le_refl _)) (by decide))⟩; clear h2 h3 h4 h5; obtain ⟨k0, k1, k2⟩ := HC.out _ _ _ HS.out) | ((with_reducible refine (HJ.out).mono ?_); rintro e w1 ⟨rfl, rfl⟩))
 go_ret
 exact ⟨us, HP.out, HA.out, congrArg (fun s => Ending.returned (.string s)) (by rw [empty_app]), HS.out.be⟩
set_option maxHeartbeats 2000000 in
theorem StrO_calls (key op : ByteArray) (hk : key.size ≤ 2000) (rb o c n : Nat) (vs : List ByteArray) (hn : vs.length = n) (hn2 : n ≤ 1000) (hc : n ≤ c) (hz : ∀ v ∈ vs, v.size ≤ 10000) (A : Option Addr) (w : World) (hb : RqC w rb o (.string key) (.string op) (.slice A n c)) (hC : Kd.C Kd.string w A n vs) (hf : opOk op.data.toList (vL vs) = true) :
   Calls Tryz.prog 218 #[.pointer (some ⟨rb, o, none⟩)] w fun e w' => ∃ us : List L, us.Perm (vL vs) ∧ Asc us ∧ e = .returned (.string (textM op.data.toList key (joinB ⟨#[44]⟩ (us.map mk)))) ∧ Below w.heap.size w w' := by
 have hx : op.toList = op.data.toList := toList_eq op
 have hvl : (vL vs).length = n := by rw [List.length_map, hn]
 by_cases h : op.data.toList = [105, 110]
 · rw [h] at hf
   by_cases h1 : n = 1
   · obtain ⟨v, rfl⟩ := one_of (vs := vs) (by omega)
     obtain rfl : n = 1 := hn.symm
     refine (StrO_in key op v (hx.trans h) hk (by have := hz v (List.mem_cons_self ..); omega) rb o c A w hb hC).mono ?_
     rintro e w' ⟨rfl, h2⟩
     obtain ⟨u1, u2, u3⟩ := one_us v
     exact ⟨_, u1, u2, by rw [u3, h]; rfl, h2⟩
   · refine (StrNO_in key op (hx.trans h) hk rb o c n vs hn h1 hn2 hc hz A w hb hC).mono ?_
     rintro e w' ⟨us, u1, u2, rfl, h2⟩
     exact ⟨us, u1, u2, by rw [h]; rfl, h2⟩
 have h_in := h; clear h
 by_cases h : op.data.toList = [110, 111, 116, 105, 110]
 · rw [h] at hf
   by_cases h1 : n = 1
   · obtain ⟨v, rfl⟩ := one_of (vs := vs) (by omega)
     obtain rfl : n = 1 := hn.symm
     refine (StrO_notin key op v (hx.trans h) hk (by have := hz v (List.mem_cons_self ..); omega) rb o c A w hb hC).mono ?_
     rintro e w' ⟨rfl, h2⟩
     obtain ⟨u1, u2, u3⟩ := one_us v
     exact ⟨_, u1, u2, by rw [u3, h]; rfl, h2⟩
   · refine (StrNO_notin key op (hx.trans h) hk rb o c n vs hn h1 hn2 hc hz A w hb hC).mono ?_
     rintro e w' ⟨us, u1, u2, rfl, h2⟩
     exact ⟨us, u1, u2, by rw [h]; rfl, h2⟩
 have h_notin := h; clear h
 by_cases h : op.data.toList = [61]
 · rw [h] at hf
   have h1 : n = 1 := by unfold opOk at hf; rw [← hvl]; simpa using hf
   · obtain ⟨v, rfl⟩ := one_of (vs := vs) (by omega)
     obtain rfl : n = 1 := hn.symm
     refine (StrO_eq key op v (hx.trans h) hk (by have := hz v (List.mem_cons_self ..); omega) rb o c A w hb hC).mono ?_
     rintro e w' ⟨rfl, h2⟩
     obtain ⟨u1, u2, u3⟩ := one_us v
     exact ⟨_, u1, u2, by rw [u3, h]; rfl, h2⟩
 have h_eq := h; clear h
 by_cases h : op.data.toList = [61, 61]
 · rw [h] at hf
   have h1 : n = 1 := by unfold opOk at hf; rw [← hvl]; simpa using hf
   · obtain ⟨v, rfl⟩ := one_of (vs := vs) (by omega)
     obtain rfl : n = 1 := hn.symm
     refine (StrO_deq key op v (hx.trans h) hk (by have := hz v (List.mem_cons_self ..); omega) rb o c A w hb hC).mono ?_
     rintro e w' ⟨rfl, h2⟩
     obtain ⟨u1, u2, u3⟩ := one_us v
     exact ⟨_, u1, u2, by rw [u3, h]; rfl, h2⟩
 have h_deq := h; clear h
 by_cases h : op.data.toList = [33, 61]
 · rw [h] at hf
   have h1 : n = 1 := by unfold opOk at hf; rw [← hvl]; simpa using hf
   · obtain ⟨v, rfl⟩ := one_of (vs := vs) (by omega)
     obtain rfl : n = 1 := hn.symm
     refine (StrO_ne key op v (hx.trans h) hk (by have := hz v (List.mem_cons_self ..); omega) rb o c A w hb hC).mono ?_
     rintro e w' ⟨rfl, h2⟩
     obtain ⟨u1, u2, u3⟩ := one_us v
     exact ⟨_, u1, u2, by rw [u3, h]; rfl, h2⟩
 have h_ne := h; clear h
 by_cases h : op.data.toList = [101, 120, 105, 115, 116, 115]
 · rw [h] at hf
   have h1 : n = 0 := by unfold opOk at hf; rw [← hvl]; simpa using hf
   · obtain rfl : vs = [] := List.eq_nil_of_length_eq_zero (by omega)
     refine (StrO_ex key op (hx.trans h) hk rb o n c A w hb).mono ?_
     rintro e w' ⟨rfl, h2⟩
     exact ⟨[], List.Perm.refl _, List.Pairwise.nil, by rw [h]; rfl, h2⟩
 have h_ex := h; clear h
 by_cases h : op.data.toList = [33]
 · rw [h] at hf
   have h1 : n = 0 := by unfold opOk at hf; rw [← hvl]; simpa using hf
   · obtain rfl : vs = [] := List.eq_nil_of_length_eq_zero (by omega)
     refine (StrO_nex key op (hx.trans h) hk rb o n c A w hb).mono ?_
     rintro e w' ⟨rfl, h2⟩
     exact ⟨[], List.Perm.refl _, List.Pairwise.nil, by rw [h]; rfl, h2⟩
 have h_nex := h; clear h
 by_cases h : op.data.toList = [103, 116]
 · rw [h] at hf
   have h1 : n = 1 := by
    rw [← hvl]; unfold opOk at hf; revert hf; cases vL vs with
    | nil => intro hf; exact absurd hf (by decide)
    | cons a r => cases r with
      | nil => intro _; rfl
      | cons b r => intro hf; exact absurd hf (by simp)
   · obtain ⟨v, rfl⟩ := one_of (vs := vs) (by omega)
     obtain rfl : n = 1 := hn.symm
     refine (StrO_gt key op v (hx.trans h) hk (by have := hz v (List.mem_cons_self ..); omega) rb o c A w hb hC).mono ?_
     rintro e w' ⟨rfl, h2⟩
     obtain ⟨u1, u2, u3⟩ := one_us v
     exact ⟨_, u1, u2, by rw [u3, h]; rfl, h2⟩
 have h_gt := h; clear h
 by_cases h : op.data.toList = [108, 116]
 · rw [h] at hf
   have h1 : n = 1 := by
    rw [← hvl]; unfold opOk at hf; revert hf; cases vL vs with
    | nil => intro hf; exact absurd hf (by decide)
    | cons a r => cases r with
      | nil => intro _; rfl
      | cons b r => intro hf; exact absurd hf (by simp)
   · obtain ⟨v, rfl⟩ := one_of (vs := vs) (by omega)
     obtain rfl : n = 1 := hn.symm
     refine (StrO_lt key op v (hx.trans h) hk (by have := hz v (List.mem_cons_self ..); omega) rb o c A w hb hC).mono ?_
     rintro e w' ⟨rfl, h2⟩
     obtain ⟨u1, u2, u3⟩ := one_us v
     exact ⟨_, u1, u2, by rw [u3, h]; rfl, h2⟩
 have h_lt := h; clear h
 exfalso
 unfold opOk at hf
 simp [h_in, h_notin, h_eq, h_deq, h_ne, h_ex, h_nex, h_gt, h_lt] at hf
end Go.Proofs.YthfjolafikgpoaaGreatDoor.Hand
