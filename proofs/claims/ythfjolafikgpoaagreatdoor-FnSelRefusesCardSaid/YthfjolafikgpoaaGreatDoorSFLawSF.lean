/- The law FnSelRefuses. (Printed by lawsf.py.) -/
import Derived.Test.YthfjolafikgpoaaGreatDoorSFM34
import Derived.Deep.RegionHeld3
namespace Go.Proofs.YthfjolafikgpoaaGreatDoor.Hand
open Go.RowKit Go.Maps Go.Proofs.YthfjolafikgpoaaGreatDoorW.PrintWords Go.Proofs.YthfjolafikgpoaaGreatDoorW.PrintLast Go.Proofs.YthfjolafikgpoaaGreatDoorW.PrintMore Go.Proofs.YthfjolafikgpoaaGreatDoor.Base
set_option linter.unusedVariables false
set_option linter.unusedSimpArgs false
set_option maxRecDepth 100000
theorem kq_kf {w : World} {A : Option Addr} {n : Nat} {l : List Rq} (h : KQ.C w A n (rqV l)) (hn : l.length = n) : ∃ ps : List (FE × Rq), ps.map (·.2) = l ∧ (∀ p ∈ ps, FR w p) ∧ KF.C w A n (ps.map (·.1)) := by
 obtain ⟨ps, h1, h2, h3⟩ := kq_elem2 h hn
 have hl : ps.length = n := by rw [← hn, ← h1, List.length_map]
 refine ⟨ps, h1, h2, by rw [List.length_map]; exact hl, h.2.1, fun h0 => ?_⟩
 obtain ⟨p0, hp0⟩ : ∃ p, ps[0]? = some p := ⟨_, List.getElem?_eq_getElem (by omega)⟩
 obtain ⟨ad, e, _⟩ := h3 0 p0 hp0
 refine ⟨ad, e, fun j f hf => ?_⟩
 rw [List.getElem?_map] at hf
 cases hp : ps[j]? with
 | none => rw [hp] at hf; cases hf
 | some p =>
   rw [hp] at hf
   injection hf with hf
   subst hf
   obtain ⟨ad2, e2, c0, c1, c2⟩ := h3 j p hp
   rw [e] at e2
   injection e2 with e2
   subst e2
   refine ⟨feC p.1, rfl, kf_K w p.1, fun i u hu => ?_⟩
   match i, hu with
   | 0, hu => rw [← Option.some.inj hu]; exact c0
   | 1, hu =>
     rw [← Option.some.inj hu]
     refine (show w.cell? ((ad.add (j * 3)).add 1) = w.cell? (ad.add (j * KF.sz + 1)) from by rw [add_add]; rfl).symm.trans c1
   | 2, hu =>
     rw [← Option.some.inj hu]
     refine (show w.cell? ((ad.add (j * 3)).add 2) = w.cell? (ad.add (j * KF.sz + 2)) from by rw [add_add]; rfl).symm.trans c2
theorem kf_empty {W : World} {base g : Nat} {e : Nat} (h : W.heap[g]? = some (.cells #[] e (0, 0))) (hb : base ≤ g) : KF.R e W base (fun _ => True) (.slice (some ⟨g, 0, none⟩) 0 0) [] :=
 kf_of_own ⟨rfl, .inr ⟨g, 0, #[], rfl, hb, h, by decide, by decide, rfl, rfl⟩⟩
def kfE (f : FE) (cs : List Value) : Prop := cs = feC f
theorem kf_rows {W : World} {A : Option Addr} {n : Nat} {xs : List FE} (h : KF.C W A n xs) : ReadsRow kfE KF.sz W A n xs := by
 obtain ⟨h1, h2, h3⟩ := h
 refine ⟨h1, h2, fun hn => ?_⟩
 obtain ⟨ad, e, hat⟩ := h3 hn
 refine ⟨ad, e, fun j p hp => ?_⟩
 obtain ⟨cs, c1, c2, c3⟩ := hat j p hp
 exact ⟨cs, c1, kf_cs c2, c3⟩
theorem kf_lit1 {W : World} {g : Nat} {e : Nat} {f : FE} (h : W.heap[g]? = some (.cells (feC f).toArray e (0, 0))) : ReadsRow kfE KF.sz W (some ⟨g, 0, none⟩) 1 [f] := by
 refine ⟨rfl, by decide, fun _ => ⟨_, rfl, fun j p hp => ?_⟩⟩
 have hpf : p = f ∧ j = 0 := by
  match j, hp with
  | 0, hp => exact ⟨(Option.some.inj hp).symm, rfl⟩
 obtain ⟨rfl, rfl⟩ := hpf
 refine ⟨feC p, rfl, rfl, fun i u hu => ?_⟩
 rw [add_spot rfl]
 have hc := blk_cell h i
 rw [Nat.zero_mul, Nat.zero_add, Nat.zero_add]
 refine hc.trans ?_
 match i, hu with
 | 0, hu => exact hu
 | 1, hu => exact hu
 | 2, hu => exact hu
theorem blk_keep {W w1 : World} {own : Option Nat} {g : Nat} {o : Obj} (hg : W.grownBy w1 own) (h : W.heap[g]? = some o) (hne : some g ≠ own) : w1.heap[g]? = some o :=
 (hg.block g (Array.getElem?_eq_some_iff.1 h).1 hne).trans h
theorem kf_KM {W' : World} {base : Nat} {ok : Nat → Prop} (x : FE) (cs : List Value) (h : kfE x cs) : KF.M W' base ok x cs := by
 rw [show cs = feC x from h]; exact ⟨[_], [_, _], rfl, rfl, [_], [_], rfl, rfl, rfl⟩
set_option maxHeartbeats 32000000 in
theorem SRf_calls (AQ : Option Addr) (cq N : Nat) (l : List Rq) (hN : l.length = N) (hcq : N ≤ cq) (hcm : cq ≤ 9223372036854775807) (A : Option Addr) (c n : Nat) (cs : L) (s : ByteArray) (value : Bool) (w : World) (hQ : KQ.C w AQ N (rqV l)) (hBt : Bts w A n cs) (hT : TV w) :
   Calls Tryz.prog 10 #[.slice AQ N cq, .slice A n c, .string s, .bool value] w fun e w' => e = .returned (.bool true) ∧ Below w.heap.size w w' := by
 have HQQ := Aside0.mk hQ
 have HBT := Aside0.mk hBt
 have HTT := Aside0.mk hT
 have HLN := Aside0.mk hN
 have HB0 := Aside0.mk (Below.refl w.heap.size w)
 have HF3 := Aside0.mk (fun (W : World) (hb : Below w.heap.size w W) => Fits3_calls AQ cq N l hN W (Kd.C_below hQ hb))
 have HSE := Aside0.mk (fun (W : World) (hb : Below w.heap.size w W) => epSel_calls W (hT.below hb))
 obtain ⟨y, hy⟩ : ∃ y, s.data.toList = y := ⟨_, rfl⟩
 have HSB : Aside0 (mk y = s) := ⟨by rw [← hy]; exact (mk_of s).symm⟩
 have HZ : Aside0 (s.size = y.length) := ⟨by rw [← hy]; exact Lib.size_eq s⟩
 clear hQ hBt hT hN
 cases hf3 : fits3 l
 · rw [hf3] at HF3
   clear hf3 hy
   go_enter Tryz.func10, Tryz.ntmps10
   go_wp2_with (first | ((with_reducible refine (HF3.out _ HB0.out).mono ?_); rintro e w1 ⟨rfl, hb⟩; have HB1 := Aside0.mk (below_step HB0.out hb); clear hb HF3))
   go_ret
   exact ⟨rfl, HB1.out⟩
 rw [hf3] at HF3
 obtain ⟨hN2, hls⟩ := fits3_t hf3
 rw [HLN.out] at hN2
 clear hf3
 by_cases hnc : n ≤ 2147483647
 rotate_left
 · have b0 : decide ((2147483647 : Int) < (n : Int)) = true := decide_eq_true (by omega)
   have b1 : decide (2147483647 < n) = true := decide_eq_true (by omega)
   clear hls hN2 hy
   go_enter Tryz.func10, Tryz.ntmps10
   go_wp2_with (first | ((with_reducible refine (HF3.out _ HB0.out).mono ?_); rintro e w1 ⟨rfl, hb⟩; have HB1 := Aside0.mk (below_step HB0.out hb); clear hb HF3))
   go_ret
   exact ⟨rfl, HB1.out⟩
 have b0 : decide ((2147483647 : Int) < (n : Int)) = false := decide_eq_false (by omega)
 have b1 : decide (2147483647 < n) = false := decide_eq_false (by omega)
 by_cases hsz : s.size ≤ 2147483647
 rotate_left
 · have b2 : decide ((2147483647 : Int) < (s.size : Int)) = true := decide_eq_true (by omega)
   have b3 : decide (2147483647 < s.size) = true := decide_eq_true (by omega)
   clear hls hN2 hy
   go_enter Tryz.func10, Tryz.ntmps10
   go_wp2_with (first | ((with_reducible refine (HF3.out _ HB0.out).mono ?_); rintro e w1 ⟨rfl, hb⟩; have HB1 := Aside0.mk (below_step HB0.out hb); clear hb HF3))
   go_ret
   exact ⟨rfl, HB1.out⟩
 have b2 : decide ((2147483647 : Int) < (s.size : Int)) = false := decide_eq_false (by omega)
 have b3 : decide (2147483647 < s.size) = false := decide_eq_false (by omega)
 have HWO := Aside0.mk (fun (W : World) (hb : Below w.heap.size w W) => WordsN_calls l N HLN.out hN2 6 (by omega) AQ cq hcq hcm hls W (Kd.C_below HQQ.out hb) (HTT.out.below hb))
 rw [show ((6 : Nat) : Int) = 6 from rfl] at HWO
 cases hwo : wordsN l 6
 · rw [hwo] at HWO
   clear hwo hls hN2 hnc hy
   go_enter Tryz.func10, Tryz.ntmps10
   go_wp2_with (first | ((with_reducible refine (HF3.out _ HB0.out).mono ?_); rintro e w1 ⟨rfl, hb⟩; have HB1 := Aside0.mk (below_step HB0.out hb); clear hb HF3) | ((with_reducible refine (HWO.out _ HB1.out).mono ?_); rintro e w2 ⟨rfl, hb⟩; have HB2 := Aside0.mk (below_step HB1.out hb); clear hb HWO))
   go_ret
   exact ⟨rfl, HB2.out⟩
 rw [hwo] at HWO
 obtain ⟨hl6, htb, hrw⟩ := words_t hwo
 clear hwo
 rw [totB_totR] at htb
 have hfw : ∀ r ∈ l, FairW r := fun r hr => (reqW_fair (hrw r hr)).1
 have hnz : ∀ r ∈ l, nz r.1 = true ∧ nz r.2.1 = true ∧ ∀ v ∈ r.2.2, nz v = true := fun r hr => (reqW_fair (hrw r hr)).2
 have h55 : ∀ r ∈ l, r.2.2.length ≤ 5 := fun r hr => (reqW_t (hrw r hr)).2.1
 have htm : ∀ r ∈ l, r.1.length + totL r.2.2 ≤ 600 := fun r hr => Nat.le_trans (totR_memR hr) htb
 by_cases h0 : N = 0
 · subst h0
   clear hls hN2 hnc hl6 htb hrw hfw hnz h55 htm hy
   go_enter Tryz.func10, Tryz.ntmps10
   go_wp2_with (first | ((with_reducible refine (HF3.out _ HB0.out).mono ?_); rintro e w1 ⟨rfl, hb⟩; have HB1 := Aside0.mk (below_step HB0.out hb); clear hb HF3) | ((with_reducible refine (HWO.out _ HB1.out).mono ?_); rintro e w2 ⟨rfl, hb⟩; have HB2 := Aside0.mk (below_step HB1.out hb); clear hb HWO))
   go_ret
   exact ⟨rfl, HB2.out⟩
 have b4 : ((N : Int) == 0) = false := by rw [beq_eq_false_iff_ne]; omega
 by_cases h100 : s.size ≤ 100
 rotate_left
 · have b5 : decide ((100 : Int) < (s.size : Int)) = true := decide_eq_true (by omega)
   have b6 : decide (100 < s.size) = true := decide_eq_true (by omega)
   clear hls hN2 hnc hl6 htb hrw hfw hnz h55 htm hy
   go_enter Tryz.func10, Tryz.ntmps10
   go_wp2_with (first | ((with_reducible refine (HF3.out _ HB0.out).mono ?_); rintro e w1 ⟨rfl, hb⟩; have HB1 := Aside0.mk (below_step HB0.out hb); clear hb HF3) | ((with_reducible refine (HWO.out _ HB1.out).mono ?_); rintro e w2 ⟨rfl, hb⟩; have HB2 := Aside0.mk (below_step HB1.out hb); clear hb HWO))
   go_ret
   exact ⟨rfl, HB2.out⟩
 have b5 : decide ((100 : Int) < (s.size : Int)) = false := decide_eq_false (by omega)
 have b6 : decide (100 < s.size) = false := decide_eq_false (by omega)
 by_cases hye : y = []
 · have b7 : (s.toList == ([] : List UInt8)) = true := by rw [← HSB.out, hye, mk_toList]; rfl
   clear hls hN2 hnc hl6 htb hrw hfw hnz h55 htm hy
   go_enter Tryz.func10, Tryz.ntmps10
   go_wp2_with (first | ((with_reducible refine (HF3.out _ HB0.out).mono ?_); rintro e w1 ⟨rfl, hb⟩; have HB1 := Aside0.mk (below_step HB0.out hb); clear hb HF3) | ((with_reducible refine (HWO.out _ HB1.out).mono ?_); rintro e w2 ⟨rfl, hb⟩; have HB2 := Aside0.mk (below_step HB1.out hb); clear hb HWO))
   go_ret
   exact ⟨rfl, HB2.out⟩
 have b7 : (s.toList == ([] : List UInt8)) = false := by rw [beq_eq_false_iff_ne, ← HSB.out, mk_toList]; exact hye
 have HLT := Aside0.mk (fun (W : World) => LabelText_calls s (by omega) W)
 rw [hy] at HLT
 cases hpv : pValue y
 rotate_left
 · rw [hpv] at HLT
   clear hls hN2 hnc hl6 htb hrw hfw hnz h55 htm hy
   go_enter Tryz.func10, Tryz.ntmps10
   go_wp2_with (first | ((with_reducible refine (HF3.out _ HB0.out).mono ?_); rintro e w1 ⟨rfl, hb⟩; have HB1 := Aside0.mk (below_step HB0.out hb); clear hb HF3) | ((with_reducible refine (HWO.out _ HB1.out).mono ?_); rintro e w2 ⟨rfl, hb⟩; have HB2 := Aside0.mk (below_step HB1.out hb); clear hb HWO) | ((with_reducible refine (HLT.out _).mono ?_); rintro e w3 ⟨rfl, rfl⟩))
   go_ret
   exact ⟨rfl, HB2.out⟩
 rw [hpv] at HLT
 have HNE := Aside0.mk hye
 have HPV := Aside0.mk hpv
 have HN6 : Aside0 (N ≤ 6) := ⟨by rw [← HLN.out]; exact hl6⟩
 have HFW := Aside0.mk hfw
 have HNZ := Aside0.mk hnz
 have H55 := Aside0.mk h55
 have HTM := Aside0.mk htm
 have HTB := Aside0.mk htb
 clear hls hN2 hl6 htb hrw hfw hnz h55 htm hy hye hpv
 go_enter Tryz.func10, Tryz.ntmps10
 go_wp2_with (first | ((with_reducible refine (HF3.out _ HB0.out).mono ?_); rintro e w1 ⟨rfl, hb⟩; have HB1 := Aside0.mk (below_step HB0.out hb); clear hb HF3) | ((with_reducible refine (HWO.out _ HB1.out).mono ?_); rintro e w2 ⟨rfl, hb⟩; have HB2 := Aside0.mk (below_step HB1.out hb); clear hb HWO) | ((with_reducible refine (HLT.out _).mono ?_); rintro e w3 ⟨rfl, rfl⟩))
 go_loopg [51] (s.size) (fun k v51 w' => ∃ m : Nat, v51 = .int .i64 m ∧ Aside0 (k + m = s.size) ∧ Aside0 ((y.take m).all badC = true) ∧ w2 = w')
 case atStart => exact ⟨0, rfl, ⟨by omega⟩, ⟨rfl⟩, rfl⟩
 case round =>
  obtain ⟨m, rfl, HM, HA, rfl⟩ := hrel
  by_cases hml : m < s.size
  · obtain ⟨d, hd⟩ : ∃ d, y[m]? = some d := ⟨_, List.getElem?_eq_getElem (by have := HZ.out; omega)⟩
    have hbm : ∀ h : m < s.size, ((s[m]'h).toNat : Int) = (d.toNat : Int) := fun h => by
     have hb : bt s (m : Int) = ((y.getD m 0).toNat : Int) := by rw [← HSB.out, bt_mk, Int.toNat_natCast]
     have h1 := bt_at s (m : Int) (by simpa using h)
     rw [hb, List.getD_eq_getElem?_getD, hd] at h1
     exact h1
    have HAL := Aside0.mk (fun (W : World) => Alnum_calls d W)
    have kk : ∀ v : UInt8, ((d.toNat : Int) == (v.toNat : Int)) = (d == v) := fun v => by
     rw [Bool.eq_iff_iff, beq_iff_eq, beq_iff_eq]
     exact ⟨fun e => UInt8.toNat_inj.1 (by omega), fun e => by rw [e]⟩
    have k1 : ((d.toNat : Int) == 45) = (d == 45) := kk 45
    have k2 : ((d.toNat : Int) == 95) = (d == 95) := kk 95
    have k3 : ((d.toNat : Int) == 46) = (d == 46) := kk 46
    have HBC : Aside0 (badC d = (alnum d || ((d == 45) || ((d == 95) || (d == 46))))) := ⟨rfl⟩
    have HDD := Aside0.mk hd
    clear hd kk
    obtain ⟨a0, ha0⟩ : ∃ a, alnum d = a := ⟨_, rfl⟩
    obtain ⟨a1, ha1⟩ : ∃ a, (d == 45) = a := ⟨_, rfl⟩
    obtain ⟨a2, ha2⟩ : ∃ a, (d == 95) = a := ⟨_, rfl⟩
    obtain ⟨a3, ha3⟩ : ∃ a, (d == 46) = a := ⟨_, rfl⟩
    rw [ha0] at HAL
    rw [ha1] at k1
    rw [ha2] at k2
    rw [ha3] at k3
    rw [ha0, ha1, ha2, ha3] at HBC
    have j1 : ((d.toNat : Int) != 45) = !a1 := by rw [bne, k1]
    have j2 : ((d.toNat : Int) != 95) = !a2 := by rw [bne, k2]
    have j3 : ((d.toNat : Int) != 46) = !a3 := by rw [bne, k3]
    clear ha0 ha1 ha2 ha3
    have HA2 : Aside0 (badC d = true → (y.take (m + 1)).all badC = true) := ⟨fun h => by rw [List.take_add_one, HDD.out, List.all_append, HA.out]; simp [h]⟩
    cases a0 <;> cases a1 <;> cases a2 <;> cases a3 <;> first
      | (go_wp2_with (first | ((with_reducible refine (HAL.out _).mono ?_); rintro e w4 ⟨rfl, rfl⟩))
         go_ret
         exact ⟨rfl, HB2.out⟩)
      | (go_wp2_with (first | ((with_reducible refine (HAL.out _).mono ?_); rintro e w4 ⟨rfl, rfl⟩))
         go_roundg (gk - 1)
         case measure => have := HM.out; omega
         case rel => exact ⟨m + 1, by go_num, ⟨by have := HM.out; omega⟩, ⟨HA2.out HBC.out⟩, rfl⟩)
  · have HAB : Aside0 (y.all badC = true) := ⟨by
     have h := HA.out
     rwa [List.take_of_length_le (by have := HZ.out; have := HM.out; omega)] at h⟩
    have hmm : ((m : Int) < (s.size : Int)) = False := eq_false (by omega)
    have hme : m = s.size := by have := HM.out; omega
    clear HA
    obtain ⟨ps, hps, hfr, hkf⟩ := kq_kf (Kd.C_below HQQ.out HB2.out) HLN.out
    have HPS := Aside0.mk hps
    have HFR1 := Aside0.mk hfr
    have HKF := Aside0.mk hkf
    clear hps hfr hkf
    cases value
    · go_upto_region 15 with (fail)
      have HX : ∃ (k1 k2 : ByteArray) (BV : Option Addr) (nv cv : Nat), (w2.alloc (.cells #[.string s, .string ⟨#[101, 120, 105, 115, 116, 115]⟩, .slice none 0 0] 53)).heap[w2.heap.size]? = some (.cells #[.string k1, .string k2, .slice BV nv cv] 53 (0, 0)) ∧ FR (w2.alloc (.cells #[.string s, .string ⟨#[101, 120, 105, 115, 116, 115]⟩, .slice none 0 0] 53)) ((k1, k2, (BV, nv, cv)), badR y false) ∧ Below w2.heap.size w2 (w2.alloc (.cells #[.string s, .string ⟨#[101, 120, 105, 115, 116, 115]⟩, .slice none 0 0] 53)) := ⟨s, _, none, 0, 0, heap_alloc_new w2 _, ⟨HSB.out.symm, rfl, rfl, Nat.le_refl _, ⟨rfl, (show 0 ≤ 9223372036854775807 by decide), fun h => absurd (show 0 < 0 from h) (by decide)⟩⟩, below_alloc (Below.refl _ _) _⟩
      obtain ⟨w5, hw5⟩ : ∃ W, (w2.alloc (.cells #[.string s, .string ⟨#[101, 120, 105, 115, 116, 115]⟩, .slice none 0 0] 53)) = W := ⟨_, rfl⟩
      rw [hw5] at HX ⊢
      obtain ⟨k1, k2, BV, nv, cv, hbk, hfq, hb25⟩ := HX
      obtain ⟨g11, hg11⟩ : ∃ g, w2.heap.size = g := ⟨_, rfl⟩
      rw [hg11] at hbk
      simp only [hg11]
      obtain ⟨d0, d1, d2⟩ := blk3 hbk
      have HD0 := Aside0.mk d0
      have HD1 := Aside0.mk d1
      have HD2 := Aside0.mk d2
      have HB5 := Aside0.mk (below_step HB2.out hb25)
      have HKF5 := Aside0.mk (Kd.C_below HKF.out hb25)
      have HPL : Aside0 (ps.length = N) := ⟨by rw [← HLN.out, ← HPS.out, List.length_map]⟩
      obtain ⟨q, hq⟩ : ∃ q, badR y false = q := ⟨_, rfl⟩
      rw [hq] at hfq
      have HFRL : Aside0 (∀ p ∈ ps ++ [((k1, k2, (BV, nv, cv)), q)], FR w5 p) := ⟨fun p hp => by
       rcases List.mem_append.1 hp with h | h
       · obtain ⟨f1, f2, f3, f4, f5⟩ := HFR1.out p h
         exact ⟨f1, f2, f3, f4, Kd.C_below f5 hb25⟩
       · rw [List.mem_singleton.1 h]; exact hfq⟩
      have HALL : Aside0 (∀ (W : World) (A7 : Option Addr) (c7 : Nat), Below w5.heap.size w5 W → KF.R 53 W w5.heap.size (fun _ => True) (.slice A7 (N + 1) c7) (ps.map (·.1) ++ [(k1, k2, (BV, nv, cv))]) → KQ.C W A7 (N + 1) (rqV (l ++ [q]))) := ⟨fun W A7 c7 hb hr => by
       have h := (Kd.R_reads' hr).2.2
       rw [List.length_append, List.length_map, HPL.out] at h
       have h2 : KF.C W A7 (N + 1) ((ps ++ [((k1, k2, (BV, nv, cv)), q)]).map (·.1)) := by rw [List.map_append]; exact h
       have h3 := kf_kq h2 (fun p hp => by
        obtain ⟨f1, f2, f3, f4, f5⟩ := HFRL.out p hp
        exact ⟨f1, f2, f3, f4, Kd.C_below f5 hb⟩)
       rw [List.map_append, HPS.out] at h3
       exact h3⟩
      have hbw := bad_word HAB.out HNE.out false
      have hbr := bad_req HAB.out HNE.out HPV.out false
      rw [hq] at hbw hbr
      obtain ⟨q1, q2, q3, q4, q5, q6⟩ := hbw
      have hyz : y.length ≤ 100 := by have := HZ.out; omega
      have zz : ∀ r ∈ l ++ [q], nz r.1 = true ∧ nz r.2.1 = true ∧ ∀ v ∈ r.2.2, nz v = true := fun r hr => by
       rcases List.mem_append.1 hr with h | h
       · exact HNZ.out r h
       · rw [List.mem_singleton.1 h]; exact ⟨q2, q3, q4⟩
      have z5 : ∀ r ∈ l ++ [q], r.2.2.length ≤ 5 := fun r hr => by
       rcases List.mem_append.1 hr with h | h
       · exact H55.out r h
       · rw [List.mem_singleton.1 h]; exact q5
      have zw : ∀ r ∈ l ++ [q], WordR r.1 r.2.1 r.2.2 := fun r hr => by
       rcases List.mem_append.1 hr with h | h
       · exact (HFW.out r h).1
       · rw [List.mem_singleton.1 h]; exact q1
      have zl : ∀ r ∈ l ++ [q], r.1.length + totL r.2.2 ≤ 7000 := fun r hr => by
       rcases List.mem_append.1 hr with h | h
       · have := HTM.out r h; omega
       · rw [List.mem_singleton.1 h]; omega
      have zt : totR (l ++ [q]) ≤ 702 := by
       have e : totR (l ++ [q]) = totR l + totR [q] := by unfold totR; rw [List.map_append, List.sum_append_nat]
       have e2 : totR [q] = (q.1.length + totL q.2.2) + 0 := rfl
       have := HTB.out
       omega
      have zn : (l ++ [q]).length = N + 1 := by rw [List.length_append, HLN.out]; rfl
      obtain ⟨t1, t2, t3, t4, t5⟩ := free_bad HFW.out q1 hbr zz z5 cs
      rw [HLN.out] at t2 t4
      have hn6 := HN6.out
      have HFR := Aside0.mk (fun (W : World) (A7 : Option Addr) (c7 : Nat) (hC : KQ.C W A7 (N + 1) (rqV (l ++ [q]))) (hb : Below w.heap.size w W) => Freely_calls (l ++ [q]) (N + 1) zn (by omega) zw z5 zl A7 c7 cs A n c W (HBT.out.atR_ hb) hC)
      have HP1 := Aside0.mk (fun (W : World) (hb : Below w.heap.size w W) => PSel_calls (outL (.gap :: pcsAll (l ++ [q])) cs) (by omega) t1 (toksAll (l ++ [q]) ++ [(1, [])]) t3 (by omega) (fun l2 h2 => by rw [t5] at h2; cases h2) W (HTT.out.below hb))
      rw [t5] at HP1
      obtain ⟨tx, htx⟩ : ∃ tx, mk (outL (.gap :: pcsAll (l ++ [q])) cs) = tx := ⟨_, rfl⟩
      rw [htx] at HFR HP1
      have HP2 : Aside0 (∀ W : World, Below w.heap.size w W → Calls Tryz.prog 13 #[.string tx] W fun e w' => Below W.heap.size W w' ∧ e = .returned (.tuple #[.slice none 0 0, .string ⟨#[]⟩, .int .i64 1])) := ⟨fun W hb => HP1.out W hb⟩
      clear HP1
      clear hbk hfq hb25 hbr q1 q2 q3 q4 q5 q6 hyz zz z5 zw zl zt zn t1 t2 t3 t4 t5 hn6 htx hq hg11 hmm hme hml hw5
      obtain ⟨fs, hfs⟩ : ∃ fs, ps.map (·.1) = fs := ⟨_, rfl⟩
      have HFL : Aside0 (fs.length = N) := ⟨by rw [← hfs, List.length_map, HPL.out]⟩
      rw [hfs] at HALL HKF5
      clear hfs HKF
      go_region_held3 (fun W => W.cell? ⟨g11, 0, none⟩ = some (.string k1) ∧ W.cell? ⟨g11, 1, none⟩ = some (.string k2) ∧ W.cell? ⟨g11, 2, none⟩ = some (.slice BV nv cv)) (first | exact ⟨p0, p1, p2⟩ | exact ⟨h0, h1, h2⟩ | exact ⟨g0, g1, g2⟩ | exact ⟨f0, f1, f2⟩ | exact ⟨d0, d1, d2⟩ | go_keep) (first | (refine Kd.R_append_rows_step KF (Rr := kfE) (w0 := w5) w5.heap.size ?aW (.tmp 82) (.tmp 84) 22 53 (.agg #[.string ⟨#[]⟩, .string ⟨#[]⟩, .slice none 0 0]) 56 rfl Tryz.underlying22 infoIQ rfl (by decide) (by decide) v6 fs [(k1, k2, (BV, nv, cv))] (some ⟨w6.heap.size, 0, none⟩) 1 1 (fun _ => True) (fun _ => False) ?aV ?aX ?aO ?aR (fun _ _ => kf_KM _ _) (fun _ hk => hk.elim) (fun _ _ => trivial) ?aB ?aS ?aL ?_; (case aW => kernel_rfl); (case aV => simp [Act.eval]; done); (case aX => simp [Act.eval]; done); (case aO => with_reducible first | exact HR6.out | exact Kd.R_drew HR6.out | exact Kd.R_drewN HR6.out _ | exact Kd.R_alloc HR6.out _ | exact Kd.R_drew (Kd.R_alloc HR6.out _) | exact Kd.R_alloc (Kd.R_drew HR6.out) _ | exact Kd.R_drew (Kd.R_alloc (Kd.R_drew HR6.out) _) | exact Kd.R_drew (Kd.R_alloc (Kd.R_drewN HR6.out _) _)); (case aR => refine kf_lit1 (e := 53) (f := (k1, k2, (BV, nv, cv))) ?z4; (case z4 => with_reducible repeat (first | exact heap_alloc_new _ _ | apply blk_drew | apply blk_drewN | apply blk_alloc))); (case aB => with_reducible repeat (first | exact HB6.out | exact Below.refl _ _ | apply below_alloc | apply pw_below_drewN | apply below_drew1)); (case aS => refine below_size ?bB; (case bB => with_reducible repeat (first | exact HB6.out | exact Below.refl _ _ | apply below_alloc | apply pw_below_drewN | apply below_drew1))); (case aL => have := HN6.out; rw [HFL.out]; omega); intro v7 w7 ho hb hg hat; have HB7 := Aside0.mk hb; obtain ⟨A7, c7, e7⟩ := Kd.R_slice ho; rw [List.length_append, HFL.out] at e7; replace e7 : v7 = .slice A7 (N + 1) c7 := e7; subst e7; have HC7 := Aside0.mk (HALL.out w7 A7 c7 hb ho); have g0 := (HB7.out.cell (World.block_lt_of_cell? _ _ HD0.out)).trans HD0.out; have g1 := (HB7.out.cell (World.block_lt_of_cell? _ _ HD1.out)).trans HD1.out; have g2 := (HB7.out.cell (World.block_lt_of_cell? _ _ HD2.out)).trans HD2.out; clear ho hb hg hat) | (refine Kd.R_append_rows_step KF (Rr := kfE) (w0 := w5) w5.heap.size ?aW (.tmp 82) (.tmp 84) 22 53 (.agg #[.string ⟨#[]⟩, .string ⟨#[]⟩, .slice none 0 0]) 56 rfl Tryz.underlying22 infoIQ rfl (by decide) (by decide) v6 fs [(k1, k2, (BV, nv, cv))] (some ⟨(w5.alloc (.cells #[] 53)).heap.size, 0, none⟩) 1 1 (fun _ => True) (fun _ => False) ?aV ?aX ?aO ?aR (fun _ _ => kf_KM _ _) (fun _ hk => hk.elim) (fun _ _ => trivial) ?aB ?aS ?aL ?_; (case aW => kernel_rfl); (case aV => simp [Act.eval]; done); (case aX => simp [Act.eval]; done); (case aO => with_reducible first | exact HR6.out | exact Kd.R_drew HR6.out | exact Kd.R_drewN HR6.out _ | exact Kd.R_alloc HR6.out _ | exact Kd.R_drew (Kd.R_alloc HR6.out _) | exact Kd.R_alloc (Kd.R_drew HR6.out) _ | exact Kd.R_drew (Kd.R_alloc (Kd.R_drew HR6.out) _) | exact Kd.R_drew (Kd.R_alloc (Kd.R_drewN HR6.out _) _)); (case aR => refine kf_lit1 (e := 53) (f := (k1, k2, (BV, nv, cv))) ?z4; (case z4 => with_reducible repeat (first | exact HG4.out | apply blk_drew | apply blk_drewN))); (case aB => with_reducible repeat (first | exact HB6.out | exact Below.refl _ _ | apply below_alloc | apply pw_below_drewN | apply below_drew1)); (case aS => refine below_size ?bB; (case bB => with_reducible repeat (first | exact HB6.out | exact Below.refl _ _ | apply below_alloc | apply pw_below_drewN | apply below_drew1))); (case aL => have := HN6.out; rw [HFL.out]; omega); intro v7 w7 ho hb hg hat; have HB7 := Aside0.mk hb; obtain ⟨A7, c7, e7⟩ := Kd.R_slice ho; rw [List.length_append, HFL.out] at e7; replace e7 : v7 = .slice A7 (N + 1) c7 := e7; subst e7; have HC7 := Aside0.mk (HALL.out w7 A7 c7 hb ho); have g0 := (HB7.out.cell (World.block_lt_of_cell? _ _ HD0.out)).trans HD0.out; have g1 := (HB7.out.cell (World.block_lt_of_cell? _ _ HD1.out)).trans HD1.out; have g2 := (HB7.out.cell (World.block_lt_of_cell? _ _ HD2.out)).trans HD2.out; clear ho hb hg hat) | (refine Kd.R_append_rows_step KF (Rr := kfE) (w0 := w5) w5.heap.size ?aW (.tmp 82) (.tmp 84) 22 53 (.agg #[.string ⟨#[]⟩, .string ⟨#[]⟩, .slice none 0 0]) 56 rfl Tryz.underlying22 infoIQ rfl (by decide) (by decide) v6 fs [(k1, k2, (BV, nv, cv))] (some ⟨w5.heap.size, 0, none⟩) 1 1 (fun _ => True) (fun _ => False) ?aV ?aX ?aO ?aR (fun _ _ => kf_KM _ _) (fun _ hk => hk.elim) (fun _ _ => trivial) ?aB ?aS ?aL ?_; (case aW => kernel_rfl); (case aV => simp [Act.eval]; done); (case aX => simp [Act.eval]; done); (case aO => with_reducible first | exact HR6.out | exact Kd.R_drew HR6.out | exact Kd.R_drewN HR6.out _ | exact Kd.R_alloc HR6.out _ | exact Kd.R_drew (Kd.R_alloc HR6.out _) | exact Kd.R_alloc (Kd.R_drew HR6.out) _ | exact Kd.R_drew (Kd.R_alloc (Kd.R_drew HR6.out) _) | exact Kd.R_drew (Kd.R_alloc (Kd.R_drewN HR6.out _) _)); (case aR => refine kf_lit1 (e := 53) (f := (k1, k2, (BV, nv, cv))) ?z4; (case z4 => with_reducible repeat (first | exact HG4.out | apply blk_drew | apply blk_drewN))); (case aB => with_reducible repeat (first | exact HB6.out | exact Below.refl _ _ | apply below_alloc | apply pw_below_drewN | apply below_drew1)); (case aS => refine below_size ?bB; (case bB => with_reducible repeat (first | exact HB6.out | exact Below.refl _ _ | apply below_alloc | apply pw_below_drewN | apply below_drew1))); (case aL => have := HN6.out; rw [HFL.out]; omega); intro v7 w7 ho hb hg hat; have HB7 := Aside0.mk hb; obtain ⟨A7, c7, e7⟩ := Kd.R_slice ho; rw [List.length_append, HFL.out] at e7; replace e7 : v7 = .slice A7 (N + 1) c7 := e7; subst e7; have HC7 := Aside0.mk (HALL.out w7 A7 c7 hb ho); have g0 := (HB7.out.cell (World.block_lt_of_cell? _ _ HD0.out)).trans HD0.out; have g1 := (HB7.out.cell (World.block_lt_of_cell? _ _ HD1.out)).trans HD1.out; have g2 := (HB7.out.cell (World.block_lt_of_cell? _ _ HD2.out)).trans HD2.out; clear ho hb hg hat) | (refine Kd.R_append_rows_step KF (Rr := kfE) (w0 := w5) w5.heap.size ?aW (.tmp 80) (.tmp 81) 22 53 (.agg #[.string ⟨#[]⟩, .string ⟨#[]⟩, .slice none 0 0]) 56 rfl Tryz.underlying22 infoIQ rfl (by decide) (by decide) (.slice (some ⟨w5.heap.size, 0, none⟩) 0 0) [] fs AQ N cq (fun _ => True) (fun _ => False) ?aV ?aX ?aO ?aR (fun _ _ => kf_KM _ _) (fun _ hk => hk.elim) (fun _ _ => trivial) ?aB ?aS ?aL ?_; (case aW => kernel_rfl); (case aV => simp [Act.eval]; done); (case aX => simp [Act.eval]; done); (case aO => refine kf_empty ?z1 ?z2; (case z1 => with_reducible repeat (first | exact heap_alloc_new _ _ | apply blk_drew | apply blk_drewN | apply blk_alloc)); (case z2 => first | with_reducible exact Nat.le_refl _ | exact Nat.le_trans (Nat.le_succ _) (Nat.le_of_eq (Array.size_push ..).symm))); (case aR => refine kf_rows (Kd.C_below HKF5.out ?z3); (case z3 => with_reducible repeat (first | exact (Below.refl _ _) | exact Below.refl _ _ | apply below_alloc | apply pw_below_drewN | apply below_drew1))); (case aB => with_reducible repeat (first | exact (Below.refl _ _) | exact Below.refl _ _ | apply below_alloc | apply pw_below_drewN | apply below_drew1)); (case aS => refine below_size ?bB; (case bB => with_reducible repeat (first | exact (Below.refl _ _) | exact Below.refl _ _ | apply below_alloc | apply pw_below_drewN | apply below_drew1))); (case aL => have := HN6.out; simp only [List.length_nil]; omega); intro v6 w6 ho hb hg hat; rw [List.nil_append] at ho; have HR6 := Aside0.mk ho; have HB6 := Aside0.mk hb; (first | (refine (fun (HG4 : Aside0 (w6.heap[(w5.alloc (.cells #[] 53)).heap.size]? = some (.cells #[.string k1, .string k2, .slice BV nv cv] 53 (0, 0)))) => ?_) ⟨blk_keep hg ?x4 ?y4⟩; (case x4 => with_reducible repeat (first | exact heap_alloc_new _ _ | apply blk_drew | apply blk_drewN | apply blk_alloc)); (case y4 => intro e; have e2 : (w5.alloc (.cells #[] 53)).heap.size = w5.heap.size := Option.some.inj e; have e3 : (w5.alloc (.cells #[] 53)).heap.size = w5.heap.size + 1 := Array.size_push ..; omega)) | skip); have f0 := (HB6.out.cell (World.block_lt_of_cell? _ _ HD0.out)).trans HD0.out; have f1 := (HB6.out.cell (World.block_lt_of_cell? _ _ HD1.out)).trans HD1.out; have f2 := (HB6.out.cell (World.block_lt_of_cell? _ _ HD2.out)).trans HD2.out; clear ho hb hg hat) | (refine Kd.R_append_rows_step KF (Rr := kfE) (w0 := w5) w5.heap.size ?aW (.tmp 80) (.tmp 81) 22 53 (.agg #[.string ⟨#[]⟩, .string ⟨#[]⟩, .slice none 0 0]) 56 rfl Tryz.underlying22 infoIQ rfl (by decide) (by decide) (.slice (some ⟨(w5.alloc (.cells #[.string k1, .string k2, .slice BV nv cv] 53)).heap.size, 0, none⟩) 0 0) [] fs AQ N cq (fun _ => True) (fun _ => False) ?aV ?aX ?aO ?aR (fun _ _ => kf_KM _ _) (fun _ hk => hk.elim) (fun _ _ => trivial) ?aB ?aS ?aL ?_; (case aW => kernel_rfl); (case aV => simp [Act.eval]; done); (case aX => simp [Act.eval]; done); (case aO => refine kf_empty ?z1 ?z2; (case z1 => with_reducible repeat (first | exact heap_alloc_new _ _ | apply blk_drew | apply blk_drewN | apply blk_alloc)); (case z2 => first | with_reducible exact Nat.le_refl _ | exact Nat.le_trans (Nat.le_succ _) (Nat.le_of_eq (Array.size_push ..).symm))); (case aR => refine kf_rows (Kd.C_below HKF5.out ?z3); (case z3 => with_reducible repeat (first | exact (Below.refl _ _) | exact Below.refl _ _ | apply below_alloc | apply pw_below_drewN | apply below_drew1))); (case aB => with_reducible repeat (first | exact (Below.refl _ _) | exact Below.refl _ _ | apply below_alloc | apply pw_below_drewN | apply below_drew1)); (case aS => refine below_size ?bB; (case bB => with_reducible repeat (first | exact (Below.refl _ _) | exact Below.refl _ _ | apply below_alloc | apply pw_below_drewN | apply below_drew1))); (case aL => have := HN6.out; simp only [List.length_nil]; omega); intro v6 w6 ho hb hg hat; rw [List.nil_append] at ho; have HR6 := Aside0.mk ho; have HB6 := Aside0.mk hb; (first | (refine (fun (HG4 : Aside0 (w6.heap[w5.heap.size]? = some (.cells #[.string k1, .string k2, .slice BV nv cv] 53 (0, 0)))) => ?_) ⟨blk_keep hg ?x4 ?y4⟩; (case x4 => with_reducible repeat (first | exact heap_alloc_new _ _ | apply blk_drew | apply blk_drewN | apply blk_alloc)); (case y4 => intro e; have e2 : w5.heap.size = (w5.alloc (.cells #[.string k1, .string k2, .slice BV nv cv] 53)).heap.size := Option.some.inj e; have e3 : (w5.alloc (.cells #[.string k1, .string k2, .slice BV nv cv] 53)).heap.size = w5.heap.size + 1 := Array.size_push ..; omega)) | skip); have f0 := (HB6.out.cell (World.block_lt_of_cell? _ _ HD0.out)).trans HD0.out; have f1 := (HB6.out.cell (World.block_lt_of_cell? _ _ HD1.out)).trans HD1.out; have f2 := (HB6.out.cell (World.block_lt_of_cell? _ _ HD2.out)).trans HD2.out; clear ho hb hg hat) | (go_at_call 14; with_reducible refine (HFR.out _ A7 c7 ?hc ?hb).mono ?_; (case hc => first | exact HC7.out | exact Kd.C_drew HC7.out | exact Kd.C_drewN HC7.out _); (case hb => exact (by with_reducible repeat (first | exact (below_step HB5.out HB7.out) | exact Below.refl _ _ | apply below_alloc | apply pw_below_drewN | apply below_drew1))); rintro e w8 ⟨rfl, hb_⟩; have hb : Below w5.heap.size w5 w8 := below_step (show Below w5.heap.size w5 _ from (by with_reducible repeat (first | exact HB7.out | exact Below.refl _ _ | apply below_alloc | apply pw_below_drewN | apply below_drew1))) hb_; have HB8 := Aside0.mk hb; have h0 := (HB8.out.cell (World.block_lt_of_cell? _ _ HD0.out)).trans HD0.out; have h1 := (HB8.out.cell (World.block_lt_of_cell? _ _ HD1.out)).trans HD1.out; have h2 := (HB8.out.cell (World.block_lt_of_cell? _ _ HD2.out)).trans HD2.out; clear hb hb_) | (go_at_call 13; with_reducible refine (HP2.out _ ?hb).mono ?_; (case hb => exact (by with_reducible repeat (first | exact (below_step HB5.out HB8.out) | exact Below.refl _ _ | apply below_alloc | apply pw_below_drewN | apply below_drew1))); rintro e w9 ⟨hb_, rfl⟩; have hb : Below w5.heap.size w5 w9 := below_step (show Below w5.heap.size w5 _ from (by with_reducible repeat (first | exact HB8.out | exact Below.refl _ _ | apply below_alloc | apply pw_below_drewN | apply below_drew1))) hb_; have HB9 := Aside0.mk hb; have p0 := (HB9.out.cell (World.block_lt_of_cell? _ _ HD0.out)).trans HD0.out; have p1 := (HB9.out.cell (World.block_lt_of_cell? _ _ HD1.out)).trans HD1.out; have p2 := (HB9.out.cell (World.block_lt_of_cell? _ _ HD2.out)).trans HD2.out; clear hb hb_) | fail)
      all_goals go_wp2_with (first | ((with_reducible refine (HSE.out _ ?hb).mono ?_); (case hb => exact (by with_reducible repeat (first | exact (below_step HB5.out HB9.out) | exact Below.refl _ _ | apply below_alloc | apply pw_below_drewN | apply below_drew1))); rintro e w10 ⟨rfl, hb_⟩; have HBX := Aside0.mk (below_step (show Below w.heap.size w _ from (by with_reducible repeat (first | exact (below_step HB5.out HB9.out) | exact Below.refl _ _ | apply below_alloc | apply pw_below_drewN | apply below_drew1))) hb_); clear hb_))
      all_goals go_ret
      all_goals exact ⟨by simp; try rfl, HBX.out⟩
    · go_upto_region 15 with (fail)
      have hsz1 : (w2.alloc (.cells #[.string ⟨#[122, 122]⟩, .string ⟨#[61]⟩, .slice (some ⟨w2.heap.size + 1, 0, none⟩) 1 1] 53)).heap.size = w2.heap.size + 1 := Array.size_push ..
      have hb1 := heap_alloc_new (w2.alloc (.cells #[.string ⟨#[122, 122]⟩, .string ⟨#[61]⟩, .slice (some ⟨w2.heap.size + 1, 0, none⟩) 1 1] 53)) (.cells #[.string s] 9)
      rw [hsz1] at hb1
      have HX : ∃ (k1 k2 : ByteArray) (BV : Option Addr) (nv cv : Nat), ((w2.alloc (.cells #[.string ⟨#[122, 122]⟩, .string ⟨#[61]⟩, .slice (some ⟨w2.heap.size + 1, 0, none⟩) 1 1] 53)).alloc (.cells #[.string s] 9)).heap[w2.heap.size]? = some (.cells #[.string k1, .string k2, .slice BV nv cv] 53 (0, 0)) ∧ FR ((w2.alloc (.cells #[.string ⟨#[122, 122]⟩, .string ⟨#[61]⟩, .slice (some ⟨w2.heap.size + 1, 0, none⟩) 1 1] 53)).alloc (.cells #[.string s] 9)) ((k1, k2, (BV, nv, cv)), badR y true) ∧ Below w2.heap.size w2 ((w2.alloc (.cells #[.string ⟨#[122, 122]⟩, .string ⟨#[61]⟩, .slice (some ⟨w2.heap.size + 1, 0, none⟩) 1 1] 53)).alloc (.cells #[.string s] 9)) := ⟨_, _, _, 1, 1, blk_alloc (heap_alloc_new w2 _) _, ⟨rfl, rfl, rfl, Nat.le_refl _, by rw [← HSB.out] at hb1 ⊢; exact one_C hb1⟩, below_alloc (below_alloc (Below.refl _ _) _) _⟩
      clear hsz1 hb1
      obtain ⟨w5, hw5⟩ : ∃ W, ((w2.alloc (.cells #[.string ⟨#[122, 122]⟩, .string ⟨#[61]⟩, .slice (some ⟨w2.heap.size + 1, 0, none⟩) 1 1] 53)).alloc (.cells #[.string s] 9)) = W := ⟨_, rfl⟩
      rw [hw5] at HX ⊢
      obtain ⟨k1, k2, BV, nv, cv, hbk, hfq, hb25⟩ := HX
      obtain ⟨g11, hg11⟩ : ∃ g, w2.heap.size = g := ⟨_, rfl⟩
      rw [hg11] at hbk
      simp only [hg11]
      obtain ⟨d0, d1, d2⟩ := blk3 hbk
      have HD0 := Aside0.mk d0
      have HD1 := Aside0.mk d1
      have HD2 := Aside0.mk d2
      have HB5 := Aside0.mk (below_step HB2.out hb25)
      have HKF5 := Aside0.mk (Kd.C_below HKF.out hb25)
      have HPL : Aside0 (ps.length = N) := ⟨by rw [← HLN.out, ← HPS.out, List.length_map]⟩
      obtain ⟨q, hq⟩ : ∃ q, badR y true = q := ⟨_, rfl⟩
      rw [hq] at hfq
      have HFRL : Aside0 (∀ p ∈ ps ++ [((k1, k2, (BV, nv, cv)), q)], FR w5 p) := ⟨fun p hp => by
       rcases List.mem_append.1 hp with h | h
       · obtain ⟨f1, f2, f3, f4, f5⟩ := HFR1.out p h
         exact ⟨f1, f2, f3, f4, Kd.C_below f5 hb25⟩
       · rw [List.mem_singleton.1 h]; exact hfq⟩
      have HALL : Aside0 (∀ (W : World) (A7 : Option Addr) (c7 : Nat), Below w5.heap.size w5 W → KF.R 53 W w5.heap.size (fun _ => True) (.slice A7 (N + 1) c7) (ps.map (·.1) ++ [(k1, k2, (BV, nv, cv))]) → KQ.C W A7 (N + 1) (rqV (l ++ [q]))) := ⟨fun W A7 c7 hb hr => by
       have h := (Kd.R_reads' hr).2.2
       rw [List.length_append, List.length_map, HPL.out] at h
       have h2 : KF.C W A7 (N + 1) ((ps ++ [((k1, k2, (BV, nv, cv)), q)]).map (·.1)) := by rw [List.map_append]; exact h
       have h3 := kf_kq h2 (fun p hp => by
        obtain ⟨f1, f2, f3, f4, f5⟩ := HFRL.out p hp
        exact ⟨f1, f2, f3, f4, Kd.C_below f5 hb⟩)
       rw [List.map_append, HPS.out] at h3
       exact h3⟩
      have hbw := bad_word HAB.out HNE.out true
      have hbr := bad_req HAB.out HNE.out HPV.out true
      rw [hq] at hbw hbr
      obtain ⟨q1, q2, q3, q4, q5, q6⟩ := hbw
      have hyz : y.length ≤ 100 := by have := HZ.out; omega
      have zz : ∀ r ∈ l ++ [q], nz r.1 = true ∧ nz r.2.1 = true ∧ ∀ v ∈ r.2.2, nz v = true := fun r hr => by
       rcases List.mem_append.1 hr with h | h
       · exact HNZ.out r h
       · rw [List.mem_singleton.1 h]; exact ⟨q2, q3, q4⟩
      have z5 : ∀ r ∈ l ++ [q], r.2.2.length ≤ 5 := fun r hr => by
       rcases List.mem_append.1 hr with h | h
       · exact H55.out r h
       · rw [List.mem_singleton.1 h]; exact q5
      have zw : ∀ r ∈ l ++ [q], WordR r.1 r.2.1 r.2.2 := fun r hr => by
       rcases List.mem_append.1 hr with h | h
       · exact (HFW.out r h).1
       · rw [List.mem_singleton.1 h]; exact q1
      have zl : ∀ r ∈ l ++ [q], r.1.length + totL r.2.2 ≤ 7000 := fun r hr => by
       rcases List.mem_append.1 hr with h | h
       · have := HTM.out r h; omega
       · rw [List.mem_singleton.1 h]; omega
      have zt : totR (l ++ [q]) ≤ 702 := by
       have e : totR (l ++ [q]) = totR l + totR [q] := by unfold totR; rw [List.map_append, List.sum_append_nat]
       have e2 : totR [q] = (q.1.length + totL q.2.2) + 0 := rfl
       have := HTB.out
       omega
      have zn : (l ++ [q]).length = N + 1 := by rw [List.length_append, HLN.out]; rfl
      obtain ⟨t1, t2, t3, t4, t5⟩ := free_bad HFW.out q1 hbr zz z5 cs
      rw [HLN.out] at t2 t4
      have hn6 := HN6.out
      have HFR := Aside0.mk (fun (W : World) (A7 : Option Addr) (c7 : Nat) (hC : KQ.C W A7 (N + 1) (rqV (l ++ [q]))) (hb : Below w.heap.size w W) => Freely_calls (l ++ [q]) (N + 1) zn (by omega) zw z5 zl A7 c7 cs A n c W (HBT.out.atR_ hb) hC)
      have HP1 := Aside0.mk (fun (W : World) (hb : Below w.heap.size w W) => PSel_calls (outL (.gap :: pcsAll (l ++ [q])) cs) (by omega) t1 (toksAll (l ++ [q]) ++ [(1, [])]) t3 (by omega) (fun l2 h2 => by rw [t5] at h2; cases h2) W (HTT.out.below hb))
      rw [t5] at HP1
      obtain ⟨tx, htx⟩ : ∃ tx, mk (outL (.gap :: pcsAll (l ++ [q])) cs) = tx := ⟨_, rfl⟩
      rw [htx] at HFR HP1
      have HP2 : Aside0 (∀ W : World, Below w.heap.size w W → Calls Tryz.prog 13 #[.string tx] W fun e w' => Below W.heap.size W w' ∧ e = .returned (.tuple #[.slice none 0 0, .string ⟨#[]⟩, .int .i64 1])) := ⟨fun W hb => HP1.out W hb⟩
      clear HP1
      clear hbk hfq hb25 hbr q1 q2 q3 q4 q5 q6 hyz zz z5 zw zl zt zn t1 t2 t3 t4 t5 hn6 htx hq hg11 hmm hme hml hw5
      obtain ⟨fs, hfs⟩ : ∃ fs, ps.map (·.1) = fs := ⟨_, rfl⟩
      have HFL : Aside0 (fs.length = N) := ⟨by rw [← hfs, List.length_map, HPL.out]⟩
      rw [hfs] at HALL HKF5
      clear hfs HKF
      go_region_held3 (fun W => W.cell? ⟨g11, 0, none⟩ = some (.string k1) ∧ W.cell? ⟨g11, 1, none⟩ = some (.string k2) ∧ W.cell? ⟨g11, 2, none⟩ = some (.slice BV nv cv)) (first | exact ⟨p0, p1, p2⟩ | exact ⟨h0, h1, h2⟩ | exact ⟨g0, g1, g2⟩ | exact ⟨f0, f1, f2⟩ | exact ⟨d0, d1, d2⟩ | go_keep) (first | (refine Kd.R_append_rows_step KF (Rr := kfE) (w0 := w5) w5.heap.size ?aW (.tmp 82) (.tmp 84) 22 53 (.agg #[.string ⟨#[]⟩, .string ⟨#[]⟩, .slice none 0 0]) 56 rfl Tryz.underlying22 infoIQ rfl (by decide) (by decide) v6 fs [(k1, k2, (BV, nv, cv))] (some ⟨w6.heap.size, 0, none⟩) 1 1 (fun _ => True) (fun _ => False) ?aV ?aX ?aO ?aR (fun _ _ => kf_KM _ _) (fun _ hk => hk.elim) (fun _ _ => trivial) ?aB ?aS ?aL ?_; (case aW => kernel_rfl); (case aV => simp [Act.eval]; done); (case aX => simp [Act.eval]; done); (case aO => with_reducible first | exact HR6.out | exact Kd.R_drew HR6.out | exact Kd.R_drewN HR6.out _ | exact Kd.R_alloc HR6.out _ | exact Kd.R_drew (Kd.R_alloc HR6.out _) | exact Kd.R_alloc (Kd.R_drew HR6.out) _ | exact Kd.R_drew (Kd.R_alloc (Kd.R_drew HR6.out) _) | exact Kd.R_drew (Kd.R_alloc (Kd.R_drewN HR6.out _) _)); (case aR => refine kf_lit1 (e := 53) (f := (k1, k2, (BV, nv, cv))) ?z4; (case z4 => with_reducible repeat (first | exact heap_alloc_new _ _ | apply blk_drew | apply blk_drewN | apply blk_alloc))); (case aB => with_reducible repeat (first | exact HB6.out | exact Below.refl _ _ | apply below_alloc | apply pw_below_drewN | apply below_drew1)); (case aS => refine below_size ?bB; (case bB => with_reducible repeat (first | exact HB6.out | exact Below.refl _ _ | apply below_alloc | apply pw_below_drewN | apply below_drew1))); (case aL => have := HN6.out; rw [HFL.out]; omega); intro v7 w7 ho hb hg hat; have HB7 := Aside0.mk hb; obtain ⟨A7, c7, e7⟩ := Kd.R_slice ho; rw [List.length_append, HFL.out] at e7; replace e7 : v7 = .slice A7 (N + 1) c7 := e7; subst e7; have HC7 := Aside0.mk (HALL.out w7 A7 c7 hb ho); have g0 := (HB7.out.cell (World.block_lt_of_cell? _ _ HD0.out)).trans HD0.out; have g1 := (HB7.out.cell (World.block_lt_of_cell? _ _ HD1.out)).trans HD1.out; have g2 := (HB7.out.cell (World.block_lt_of_cell? _ _ HD2.out)).trans HD2.out; clear ho hb hg hat) | (refine Kd.R_append_rows_step KF (Rr := kfE) (w0 := w5) w5.heap.size ?aW (.tmp 82) (.tmp 84) 22 53 (.agg #[.string ⟨#[]⟩, .string ⟨#[]⟩, .slice none 0 0]) 56 rfl Tryz.underlying22 infoIQ rfl (by decide) (by decide) v6 fs [(k1, k2, (BV, nv, cv))] (some ⟨(w5.alloc (.cells #[] 53)).heap.size, 0, none⟩) 1 1 (fun _ => True) (fun _ => False) ?aV ?aX ?aO ?aR (fun _ _ => kf_KM _ _) (fun _ hk => hk.elim) (fun _ _ => trivial) ?aB ?aS ?aL ?_; (case aW => kernel_rfl); (case aV => simp [Act.eval]; done); (case aX => simp [Act.eval]; done); (case aO => with_reducible first | exact HR6.out | exact Kd.R_drew HR6.out | exact Kd.R_drewN HR6.out _ | exact Kd.R_alloc HR6.out _ | exact Kd.R_drew (Kd.R_alloc HR6.out _) | exact Kd.R_alloc (Kd.R_drew HR6.out) _ | exact Kd.R_drew (Kd.R_alloc (Kd.R_drew HR6.out) _) | exact Kd.R_drew (Kd.R_alloc (Kd.R_drewN HR6.out _) _)); (case aR => refine kf_lit1 (e := 53) (f := (k1, k2, (BV, nv, cv))) ?z4; (case z4 => with_reducible repeat (first | exact HG4.out | apply blk_drew | apply blk_drewN))); (case aB => with_reducible repeat (first | exact HB6.out | exact Below.refl _ _ | apply below_alloc | apply pw_below_drewN | apply below_drew1)); (case aS => refine below_size ?bB; (case bB => with_reducible repeat (first | exact HB6.out | exact Below.refl _ _ | apply below_alloc | apply pw_below_drewN | apply below_drew1))); (case aL => have := HN6.out; rw [HFL.out]; omega); intro v7 w7 ho hb hg hat; have HB7 := Aside0.mk hb; obtain ⟨A7, c7, e7⟩ := Kd.R_slice ho; rw [List.length_append, HFL.out] at e7; replace e7 : v7 = .slice A7 (N + 1) c7 := e7; subst e7; have HC7 := Aside0.mk (HALL.out w7 A7 c7 hb ho); have g0 := (HB7.out.cell (World.block_lt_of_cell? _ _ HD0.out)).trans HD0.out; have g1 := (HB7.out.cell (World.block_lt_of_cell? _ _ HD1.out)).trans HD1.out; have g2 := (HB7.out.cell (World.block_lt_of_cell? _ _ HD2.out)).trans HD2.out; clear ho hb hg hat) | (refine Kd.R_append_rows_step KF (Rr := kfE) (w0 := w5) w5.heap.size ?aW (.tmp 82) (.tmp 84) 22 53 (.agg #[.string ⟨#[]⟩, .string ⟨#[]⟩, .slice none 0 0]) 56 rfl Tryz.underlying22 infoIQ rfl (by decide) (by decide) v6 fs [(k1, k2, (BV, nv, cv))] (some ⟨w5.heap.size, 0, none⟩) 1 1 (fun _ => True) (fun _ => False) ?aV ?aX ?aO ?aR (fun _ _ => kf_KM _ _) (fun _ hk => hk.elim) (fun _ _ => trivial) ?aB ?aS ?aL ?_; (case aW => kernel_rfl); (case aV => simp [Act.eval]; done); (case aX => simp [Act.eval]; done); (case aO => with_reducible first | exact HR6.out | exact Kd.R_drew HR6.out | exact Kd.R_drewN HR6.out _ | exact Kd.R_alloc HR6.out _ | exact Kd.R_drew (Kd.R_alloc HR6.out _) | exact Kd.R_alloc (Kd.R_drew HR6.out) _ | exact Kd.R_drew (Kd.R_alloc (Kd.R_drew HR6.out) _) | exact Kd.R_drew (Kd.R_alloc (Kd.R_drewN HR6.out _) _)); (case aR => refine kf_lit1 (e := 53) (f := (k1, k2, (BV, nv, cv))) ?z4; (case z4 => with_reducible repeat (first | exact HG4.out | apply blk_drew | apply blk_drewN))); (case aB => with_reducible repeat (first | exact HB6.out | exact Below.refl _ _ | apply below_alloc | apply pw_below_drewN | apply below_drew1)); (case aS => refine below_size ?bB; (case bB => with_reducible repeat (first | exact HB6.out | exact Below.refl _ _ | apply below_alloc | apply pw_below_drewN | apply below_drew1))); (case aL => have := HN6.out; rw [HFL.out]; omega); intro v7 w7 ho hb hg hat; have HB7 := Aside0.mk hb; obtain ⟨A7, c7, e7⟩ := Kd.R_slice ho; rw [List.length_append, HFL.out] at e7; replace e7 : v7 = .slice A7 (N + 1) c7 := e7; subst e7; have HC7 := Aside0.mk (HALL.out w7 A7 c7 hb ho); have g0 := (HB7.out.cell (World.block_lt_of_cell? _ _ HD0.out)).trans HD0.out; have g1 := (HB7.out.cell (World.block_lt_of_cell? _ _ HD1.out)).trans HD1.out; have g2 := (HB7.out.cell (World.block_lt_of_cell? _ _ HD2.out)).trans HD2.out; clear ho hb hg hat) | (refine Kd.R_append_rows_step KF (Rr := kfE) (w0 := w5) w5.heap.size ?aW (.tmp 80) (.tmp 81) 22 53 (.agg #[.string ⟨#[]⟩, .string ⟨#[]⟩, .slice none 0 0]) 56 rfl Tryz.underlying22 infoIQ rfl (by decide) (by decide) (.slice (some ⟨w5.heap.size, 0, none⟩) 0 0) [] fs AQ N cq (fun _ => True) (fun _ => False) ?aV ?aX ?aO ?aR (fun _ _ => kf_KM _ _) (fun _ hk => hk.elim) (fun _ _ => trivial) ?aB ?aS ?aL ?_; (case aW => kernel_rfl); (case aV => simp [Act.eval]; done); (case aX => simp [Act.eval]; done); (case aO => refine kf_empty ?z1 ?z2; (case z1 => with_reducible repeat (first | exact heap_alloc_new _ _ | apply blk_drew | apply blk_drewN | apply blk_alloc)); (case z2 => first | with_reducible exact Nat.le_refl _ | exact Nat.le_trans (Nat.le_succ _) (Nat.le_of_eq (Array.size_push ..).symm))); (case aR => refine kf_rows (Kd.C_below HKF5.out ?z3); (case z3 => with_reducible repeat (first | exact (Below.refl _ _) | exact Below.refl _ _ | apply below_alloc | apply pw_below_drewN | apply below_drew1))); (case aB => with_reducible repeat (first | exact (Below.refl _ _) | exact Below.refl _ _ | apply below_alloc | apply pw_below_drewN | apply below_drew1)); (case aS => refine below_size ?bB; (case bB => with_reducible repeat (first | exact (Below.refl _ _) | exact Below.refl _ _ | apply below_alloc | apply pw_below_drewN | apply below_drew1))); (case aL => have := HN6.out; simp only [List.length_nil]; omega); intro v6 w6 ho hb hg hat; rw [List.nil_append] at ho; have HR6 := Aside0.mk ho; have HB6 := Aside0.mk hb; (first | (refine (fun (HG4 : Aside0 (w6.heap[(w5.alloc (.cells #[] 53)).heap.size]? = some (.cells #[.string k1, .string k2, .slice BV nv cv] 53 (0, 0)))) => ?_) ⟨blk_keep hg ?x4 ?y4⟩; (case x4 => with_reducible repeat (first | exact heap_alloc_new _ _ | apply blk_drew | apply blk_drewN | apply blk_alloc)); (case y4 => intro e; have e2 : (w5.alloc (.cells #[] 53)).heap.size = w5.heap.size := Option.some.inj e; have e3 : (w5.alloc (.cells #[] 53)).heap.size = w5.heap.size + 1 := Array.size_push ..; omega)) | skip); have f0 := (HB6.out.cell (World.block_lt_of_cell? _ _ HD0.out)).trans HD0.out; have f1 := (HB6.out.cell (World.block_lt_of_cell? _ _ HD1.out)).trans HD1.out; have f2 := (HB6.out.cell (World.block_lt_of_cell? _ _ HD2.out)).trans HD2.out; clear ho hb hg hat) | (refine Kd.R_append_rows_step KF (Rr := kfE) (w0 := w5) w5.heap.size ?aW (.tmp 80) (.tmp 81) 22 53 (.agg #[.string ⟨#[]⟩, .string ⟨#[]⟩, .slice none 0 0]) 56 rfl Tryz.underlying22 infoIQ rfl (by decide) (by decide) (.slice (some ⟨(w5.alloc (.cells #[.string k1, .string k2, .slice BV nv cv] 53)).heap.size, 0, none⟩) 0 0) [] fs AQ N cq (fun _ => True) (fun _ => False) ?aV ?aX ?aO ?aR (fun _ _ => kf_KM _ _) (fun _ hk => hk.elim) (fun _ _ => trivial) ?aB ?aS ?aL ?_; (case aW => kernel_rfl); (case aV => simp [Act.eval]; done); (case aX => simp [Act.eval]; done); (case aO => refine kf_empty ?z1 ?z2; (case z1 => with_reducible repeat (first | exact heap_alloc_new _ _ | apply blk_drew | apply blk_drewN | apply blk_alloc)); (case z2 => first | with_reducible exact Nat.le_refl _ | exact Nat.le_trans (Nat.le_succ _) (Nat.le_of_eq (Array.size_push ..).symm))); (case aR => refine kf_rows (Kd.C_below HKF5.out ?z3); (case z3 => with_reducible repeat (first | exact (Below.refl _ _) | exact Below.refl _ _ | apply below_alloc | apply pw_below_drewN | apply below_drew1))); (case aB => with_reducible repeat (first | exact (Below.refl _ _) | exact Below.refl _ _ | apply below_alloc | apply pw_below_drewN | apply below_drew1)); (case aS => refine below_size ?bB; (case bB => with_reducible repeat (first | exact (Below.refl _ _) | exact Below.refl _ _ | apply below_alloc | apply pw_below_drewN | apply below_drew1))); (case aL => have := HN6.out; simp only [List.length_nil]; omega); intro v6 w6 ho hb hg hat; rw [List.nil_append] at ho; have HR6 := Aside0.mk ho; have HB6 := Aside0.mk hb; (first | (refine (fun (HG4 : Aside0 (w6.heap[w5.heap.size]? = some (.cells #[.string k1, .string k2, .slice BV nv cv] 53 (0, 0)))) => ?_) ⟨blk_keep hg ?x4 ?y4⟩; (case x4 => with_reducible repeat (first | exact heap_alloc_new _ _ | apply blk_drew | apply blk_drewN | apply blk_alloc)); (case y4 => intro e; have e2 : w5.heap.size = (w5.alloc (.cells #[.string k1, .string k2, .slice BV nv cv] 53)).heap.size := Option.some.inj e; have e3 : (w5.alloc (.cells #[.string k1, .string k2, .slice BV nv cv] 53)).heap.size = w5.heap.size + 1 := Array.size_push ..; omega)) | skip); have f0 := (HB6.out.cell (World.block_lt_of_cell? _ _ HD0.out)).trans HD0.out; have f1 := (HB6.out.cell (World.block_lt_of_cell? _ _ HD1.out)).trans HD1.out; have f2 := (HB6.out.cell (World.block_lt_of_cell? _ _ HD2.out)).trans HD2.out; clear ho hb hg hat) | (go_at_call 14; with_reducible refine (HFR.out _ A7 c7 ?hc ?hb).mono ?_; (case hc => first | exact HC7.out | exact Kd.C_drew HC7.out | exact Kd.C_drewN HC7.out _); (case hb => exact (by with_reducible repeat (first | exact (below_step HB5.out HB7.out) | exact Below.refl _ _ | apply below_alloc | apply pw_below_drewN | apply below_drew1))); rintro e w8 ⟨rfl, hb_⟩; have hb : Below w5.heap.size w5 w8 := below_step (show Below w5.heap.size w5 _ from (by with_reducible repeat (first | exact HB7.out | exact Below.refl _ _ | apply below_alloc | apply pw_below_drewN | apply below_drew1))) hb_; have HB8 := Aside0.mk hb; have h0 := (HB8.out.cell (World.block_lt_of_cell? _ _ HD0.out)).trans HD0.out; have h1 := (HB8.out.cell (World.block_lt_of_cell? _ _ HD1.out)).trans HD1.out; have h2 := (HB8.out.cell (World.block_lt_of_cell? _ _ HD2.out)).trans HD2.out; clear hb hb_) | (go_at_call 13; with_reducible refine (HP2.out _ ?hb).mono ?_; (case hb => exact (by with_reducible repeat (first | exact (below_step HB5.out HB8.out) | exact Below.refl _ _ | apply below_alloc | apply pw_below_drewN | apply below_drew1))); rintro e w9 ⟨hb_, rfl⟩; have hb : Below w5.heap.size w5 w9 := below_step (show Below w5.heap.size w5 _ from (by with_reducible repeat (first | exact HB8.out | exact Below.refl _ _ | apply below_alloc | apply pw_below_drewN | apply below_drew1))) hb_; have HB9 := Aside0.mk hb; have p0 := (HB9.out.cell (World.block_lt_of_cell? _ _ HD0.out)).trans HD0.out; have p1 := (HB9.out.cell (World.block_lt_of_cell? _ _ HD1.out)).trans HD1.out; have p2 := (HB9.out.cell (World.block_lt_of_cell? _ _ HD2.out)).trans HD2.out; clear hb hb_) | fail)
      all_goals go_wp2_with (first | ((with_reducible refine (HSE.out _ ?hb).mono ?_); (case hb => exact (by with_reducible repeat (first | exact (below_step HB5.out HB9.out) | exact Below.refl _ _ | apply below_alloc | apply pw_below_drewN | apply below_drew1))); rintro e w10 ⟨rfl, hb_⟩; have HBX := Aside0.mk (below_step (show Below w.heap.size w _ from (by with_reducible repeat (first | exact (below_step HB5.out HB9.out) | exact Below.refl _ _ | apply below_alloc | apply pw_below_drewN | apply below_drew1))) hb_); clear hb_))
      all_goals go_ret
      all_goals exact ⟨by simp; try rfl, HBX.out⟩
end Go.Proofs.YthfjolafikgpoaaGreatDoor.Hand
