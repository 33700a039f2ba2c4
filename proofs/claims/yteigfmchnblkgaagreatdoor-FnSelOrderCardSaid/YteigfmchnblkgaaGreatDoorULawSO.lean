/- The law FnSelOrder. (Printed by lawso.py out of LawSM.) -/
import Derived.Test.YteigfmchnblkgaaGreatDoorULawSM
import Derived.Deep.RegionHeldLaw
namespace Go.Proofs.YteigfmchnblkgaaGreatDoor.Hand
open Go.RowKit Go.Maps Go.Proofs.YteigfmchnblkgaaGreatDoorW.PrintWords Go.Proofs.YteigfmchnblkgaaGreatDoorW.PrintLast Go.Proofs.YteigfmchnblkgaaGreatDoorW.PrintMore Go.Proofs.YteigfmchnblkgaaGreatDoor.Base
set_option linter.unusedVariables false
set_option linter.unusedSimpArgs false
set_option maxRecDepth 100000
/-- A requirement whose values' slice is told by itself. -/
abbrev FE := ByteArray × ByteArray × (Option Addr × Nat × Nat)
def KSl : Kd (Option Addr × Nat × Nat) := Kd.scalar (fun t => .slice t.1 t.2.1 t.2.2) (fun _ => rfl)
def KF : Kd FE := Kd.pair Kd.string (Kd.pair Kd.string KSl)
theorem infoIQ : (Tryz.prog.info? 31).map (fun i => (i.zero, i.size, i.bytes)) = some (some (.agg #[.string ⟨#[]⟩, .string ⟨#[]⟩, .slice none 0 0]), 3, 56) := by kernel_rfl
abbrev feC (f : FE) : List Value := [.string f.1, .string f.2.1, .slice f.2.2.1 f.2.2.2.1 f.2.2.2.2]
theorem kf_K (w : World) (f : FE) : KF.K w f (feC f) := ⟨[_], [_, _], rfl, rfl, [_], [_], rfl, rfl, rfl⟩
theorem kf_cs {w : World} {f : FE} {cs : List Value} (h : KF.K w f cs) : cs = feC f := by
  obtain ⟨c0, c1, rfl, h0, c2, c3, rfl, h2, h3⟩ := h
  have e0 : c0 = [.string f.1] := h0
  have e2 : c2 = [.string f.2.1] := h2
  have e3 : c3 = [.slice f.2.2.1 f.2.2.2.1 f.2.2.2.2] := h3
  subst e0 e2 e3
  rfl
/-- The element tells the requirement, in the world w. -/
def FR (w : World) (p : FE × Rq) : Prop := p.1.1 = mk p.2.1 ∧ p.1.2.1 = mk p.2.2.1 ∧ p.1.2.2.2.1 = p.2.2.2.length ∧ p.2.2.2.length ≤ p.1.2.2.2.2 ∧ Kd.C Kd.string w p.1.2.2.1 p.2.2.2.length (p.2.2.2.map mk)
/-- Elements that tell requirements are requirements. -/
theorem kf_kq {w : World} {A : Option Addr} {n : Nat} {ps : List (FE × Rq)} (h : KF.C w A n (ps.map (·.1))) (hr : ∀ p ∈ ps, FR w p) : KQ.C w A n (rqV (ps.map (·.2))) := by
  obtain ⟨h1, h2, h3⟩ := h
  refine ⟨by simpa [rqV] using h1, h2, fun hn => ?_⟩
  obtain ⟨ad, rfl, hat⟩ := h3 hn
  refine ⟨ad, rfl, fun j q hq => ?_⟩
  rw [rqV, List.getElem?_map, List.getElem?_map] at hq
  obtain ⟨p, hp⟩ : ∃ p, ps[j]? = some p := by
    cases e : ps[j]? with
    | none => rw [e] at hq; cases hq
    | some p => exact ⟨p, rfl⟩
  rw [hp] at hq
  injection hq with hq
  subst hq
  obtain ⟨c, hc, hK, hcell⟩ := hat j p.1 (by rw [List.getElem?_map, hp]; rfl)
  obtain ⟨f0, f1, f2, f3, f4⟩ := hr p (List.mem_of_getElem? hp)
  have hcs := kf_cs hK
  subst hcs
  refine ⟨feC p.1, rfl, ?_, hcell⟩
  have e : feC p.1 = [.string (mk p.2.1), .string (mk p.2.2.1), .slice p.1.2.2.1 (p.2.2.2.map mk).length p.1.2.2.2.2] := by
    unfold feC
    rw [f0, f1, f2, List.length_map]
  rw [e]
  exact ⟨[_], [_, _], rfl, rfl, [_], [_], rfl, rfl, p.1.2.2.1, p.1.2.2.2.2, rfl, by rw [List.length_map]; exact f3, by rw [List.length_map]; exact f4⟩
abbrev dup {α : Type} (l : List α) : List α := l.flatMap fun x => [x, x]
theorem totR_app (a b : List Rq) : totR (a ++ b) = totR a + totR b := by unfold totR; rw [List.map_append, List.sum_append_nat]
theorem totR_dup : ∀ l : List Rq, totR (dup l) = 2 * totR l
  | [] => rfl
  | r :: l => by
    have ih := totR_dup l
    have e : totR (r :: l) = (r.1.length + totL r.2.2) + totR l := rfl
    have e2 : totR [r, r] = (r.1.length + totL r.2.2) + ((r.1.length + totL r.2.2) + 0) := rfl
    rw [dup, List.flatMap_cons, totR_app, e2, e]
    show _ + totR (dup l) = _
    rw [ih]; omega
theorem totR_rev (l : List Rq) : totR l.reverse = totR l := by
  unfold totR
  exact (l.reverse_perm.map _).sum_nat
theorem mem_dup {α : Type} {x : α} {l : List α} : x ∈ dup l ↔ x ∈ l := by simp [dup]
theorem len_dup {α : Type} : ∀ l : List α, (dup l).length = 2 * l.length
  | [] => rfl
  | a :: l => by
    have ih := len_dup l
    rw [dup, List.flatMap_cons, List.length_append]
    show 2 + (dup l).length = 2 * (l.length + 1)
    rw [ih]; omega
theorem all_back {l : List Rq} (f : Rq → Bool) : (dup l.reverse).all f = l.all f := by
  rw [Bool.eq_iff_iff, List.all_eq_true, List.all_eq_true]
  exact ⟨fun h x hx => h x (mem_dup.2 (List.mem_reverse.2 hx)), fun h x hx => h x (List.mem_reverse.1 (mem_dup.1 hx))⟩
theorem back_step {α : Type} {ps : List α} {i : Nat} {p : α} (h : ps[i]? = some p) : dup (ps.drop (i + 1)).reverse ++ [p, p] = dup (ps.drop i).reverse := by
  obtain ⟨hi, e⟩ := List.getElem?_eq_some_iff.1 h
  rw [List.drop_eq_getElem_cons hi, e]
  simp [dup, List.flatMap_append]
theorem map_dup {α β : Type} (f : α → β) (l : List α) : (dup l).map f = dup (l.map f) := by
  induction l with
  | nil => rfl
  | cons a l ih =>
    show (a :: a :: dup l).map f = f a :: f a :: dup (l.map f)
    rw [← ih]; rfl
/-- The requirements of a list in memory, each with its own slice. -/
theorem kq_elems {w : World} {A : Option Addr} {n : Nat} {l : List Rq} (h : KQ.C w A n (rqV l)) (hn : l.length = n) : ∃ ps : List (FE × Rq), ps.map (·.2) = l ∧ (∀ p ∈ ps, FR w p) ∧
    ∀ (j : Nat) p, ps[j]? = some p → ∃ ad, A = some ad ∧ w.cell? (ad.add (j * 3)) = some (.string p.1.1) ∧ w.cell? ⟨(ad.add (j * 3)).block, (ad.add (j * 3)).off + 1, none⟩ = some (.string p.1.2.1) ∧ w.cell? ⟨(ad.add (j * 3)).block, (ad.add (j * 3)).off + 2, none⟩ = some (.slice p.1.2.2.1 p.1.2.2.2.1 p.1.2.2.2.2) := by
  have each : ∀ i : Fin l.length, ∃ p : FE × Rq, p.2 = l[i] ∧ FR w p ∧ ∃ ad, A = some ad ∧ w.cell? (ad.add (i * 3)) = some (.string p.1.1) ∧ w.cell? ⟨(ad.add (i * 3)).block, (ad.add (i * 3)).off + 1, none⟩ = some (.string p.1.2.1) ∧ w.cell? ⟨(ad.add (i * 3)).block, (ad.add (i * 3)).off + 2, none⟩ = some (.slice p.1.2.2.1 p.1.2.2.2.1 p.1.2.2.2.2) := by
    intro i
    obtain ⟨ad, B, c, e, k0, k1, k2, hc, hC⟩ := kq_at2 h i.1 (by have := i.2; omega) l[i] (List.getElem?_eq_getElem i.2)
    exact ⟨((mk l[i].1, mk l[i].2.1, (B, l[i].2.2.length, c)), l[i]), rfl, ⟨rfl, rfl, rfl, hc, hC⟩, ad, e, k0, k1, k2⟩
  refine ⟨List.ofFn fun i => (each i).choose, ?_, ?_, ?_⟩
  · apply List.ext_getElem
    · simp
    · intro i h1 h2
      rw [List.getElem_map, List.getElem_ofFn]
      exact (each ⟨i, h2⟩).choose_spec.1
  · intro p hp
    obtain ⟨i, rfl⟩ := List.mem_ofFn.1 hp
    exact (each i).choose_spec.2.1
  · intro j p hp
    obtain ⟨hj, e⟩ := List.getElem?_eq_some_iff.1 hp
    rw [List.getElem_ofFn] at e
    have := (each ⟨j, by simpa using hj⟩).choose_spec.2.2
    rw [e] at this
    exact this
/-- A literal of two elements. -/
theorem kf_lit2 (W : World) (f : FE) : ReadsRow (KF.K W) KF.sz (W.alloc (.cells (feC f ++ feC f).toArray 31)) (some ⟨W.heap.size, 0, none⟩) 2 [f, f] := by
  have hb := heap_alloc_new W (.cells (feC f ++ feC f).toArray 31)
  refine ⟨rfl, by decide, fun _ => ⟨_, rfl, fun j p hp => ?_⟩⟩
  have hpf : p = f ∧ (j = 0 ∨ j = 1) := by
    match j, hp with
    | 0, hp => exact ⟨(Option.some.inj hp).symm, .inl rfl⟩
    | 1, hp => exact ⟨(Option.some.inj hp).symm, .inr rfl⟩
  obtain ⟨rfl, hj⟩ := hpf
  refine ⟨feC p, rfl, kf_K W p, fun i u hu => ?_⟩
  have had : ∀ k, (⟨W.heap.size, 0, none⟩ : Addr).add k = ⟨W.heap.size, k, none⟩ := fun k => by rw [add_spot rfl]; simp
  rw [had]
  have hc := blk_cell hb (j * 3 + i)
  refine hc.trans ?_
  match i, hu with
  | 0, hu => rcases hj with rfl | rfl <;> exact hu
  | 1, hu => rcases hj with rfl | rfl <;> exact hu
  | 2, hu => rcases hj with rfl | rfl <;> exact hu
set_option maxHeartbeats 32000000 in
theorem SelO_calls (AQ : Option Addr) (cq N : Nat) (l : List Rq) (hN : l.length = N) (hcq : N ≤ cq) (hcm : cq ≤ 9223372036854775807) (A : Option Addr) (c n : Nat) (cs : L) (AL : Option Addr) (cl nl : Nat) (ls : List (ByteArray × ByteArray)) (hnl : ls.length = nl) (hncl : nl ≤ cl) (w : World) (hQ : KQ.C w AQ N (rqV l)) (hBt : Bts w A n cs) (hP : PK.C w AL nl ls) (hT : TV w) :
    Calls Tryz.prog 5 #[.slice AQ N cq, .slice A n c, .slice AL nl cl] w fun e w' => e = .returned (.bool true) ∧ Below w.heap.size w w' := by
  have HQQ := Aside0.mk hQ
  have HBT := Aside0.mk hBt
  have HPP := Aside0.mk hP
  have HTT := Aside0.mk hT
  have HLN := Aside0.mk hN
  have HLL := Aside0.mk hnl
  have HB0 := Aside0.mk (Below.refl w.heap.size w)
  have HF3 := Aside0.mk (fun (W : World) (hb : Below w.heap.size w W) => Fits3_calls AQ cq N l hN W (Kd.C_below hQ hb))
  have HF1 := Aside0.mk (fun (W : World) (hb : Below w.heap.size w W) => Fits1_calls AL cl nl ls hnl W (Kd.C_below hP hb))
  have HSE := Aside0.mk (fun (W : World) (hb : Below w.heap.size w W) => epSel_calls W (hT.below hb))
  clear hQ hBt hP hT hN hnl
  cases hf3 : fits3 l
  · rw [hf3] at HF3
    clear hf3
    go_enter Tryz.func5, Tryz.ntmps5
    go_wp2_with (first | ((with_reducible refine (HF3.out _ HB0.out).mono ?_); rintro e w1 ⟨rfl, hb⟩; have HB1 := Aside0.mk (below_step HB0.out hb); clear hb HF3))
    go_ret
    exact ⟨rfl, HB1.out⟩
  rw [hf3] at HF3
  obtain ⟨hN2, hls⟩ := fits3_t hf3
  rw [HLN.out] at hN2
  clear hf3
  by_cases hnc : n ≤ 2147483647
  rotate_left
  · have b0 : decide ((2147483647 : Int) < (n : Int)) = true := decide_eq_true (by omega)
    have b1 : decide (2147483647 < n) = true := decide_eq_true (by omega)
    clear hls hN2
    go_enter Tryz.func5, Tryz.ntmps5
    go_wp2_with (first | ((with_reducible refine (HF3.out _ HB0.out).mono ?_); rintro e w1 ⟨rfl, hb⟩; have HB1 := Aside0.mk (below_step HB0.out hb); clear hb HF3))
    go_ret
    exact ⟨rfl, HB1.out⟩
  have b0 : decide ((2147483647 : Int) < (n : Int)) = false := decide_eq_false (by omega)
  have b1 : decide (2147483647 < n) = false := decide_eq_false (by omega)
  cases hf1 : fits1 ls
  · rw [hf1] at HF1
    clear hf1 hls hN2 hnc
    go_enter Tryz.func5, Tryz.ntmps5
    go_wp2_with (first | ((with_reducible refine (HF3.out _ HB0.out).mono ?_); rintro e w1 ⟨rfl, hb⟩; have HB1 := Aside0.mk (below_step HB0.out hb); clear hb HF3) | ((with_reducible refine (HF1.out _ HB1.out).mono ?_); rintro e w2 ⟨rfl, hb⟩; have HB2 := Aside0.mk (below_step HB1.out hb); clear hb HF1))
    go_ret
    exact ⟨rfl, HB2.out⟩
  rw [hf1] at HF1
  obtain ⟨hnl2, hlz⟩ := fits1_t hf1
  rw [HLL.out] at hnl2
  clear hf1
  have HWO := Aside0.mk (fun (W : World) (hb : Below w.heap.size w W) => WordsN_calls l N HLN.out hN2 6 (by omega) AQ cq hcq hcm hls W (Kd.C_below HQQ.out hb) (HTT.out.below hb))
  rw [show ((6 : Nat) : Int) = 6 from rfl] at HWO
  have HEP := Aside0.mk (fun (b : Nat) (W : World) (hb : Below w.heap.size w W) (hk : W.cell? ⟨b, 0, none⟩ = some (.slice AL nl cl)) => epPairs_calls b 1 1 (fun _ => AL) (fun _ => nl) (fun _ => cl) (fun _ => ls) W (by omega) (fun _ _ => HLL.out) (fun _ _ => hnl2) (fun i hi => by have h0 : i = 0 := (by omega); subst h0; exact hk) (fun _ _ => Kd.C_below HPP.out hb))
  rw [show ((List.range 1).all fun _ => pairsOk ls) = pairsOk ls from by simp [List.range_succ]] at HEP
  cases hwo : wordsN l 6
  · rw [hwo] at HWO
    clear hwo hls hN2 hnc hlz hnl2
    go_enter Tryz.func5, Tryz.ntmps5
    go_wp2_with (first | ((with_reducible refine (HF3.out _ HB0.out).mono ?_); rintro e w1 ⟨rfl, hb⟩; have HB1 := Aside0.mk (below_step HB0.out hb); clear hb HF3) | ((with_reducible refine (HF1.out _ HB1.out).mono ?_); rintro e w2 ⟨rfl, hb⟩; have HB2 := Aside0.mk (below_step HB1.out hb); clear hb HF1) | ((with_reducible refine (HWO.out _ HB2.out).mono ?_); rintro e w3 ⟨rfl, hb⟩; have HB3 := Aside0.mk (below_step HB2.out hb); have hbk_ := heap_alloc_new w3 (.cells #[.slice AL nl cl] 22); have HS4 := Aside0.mk ((blk_cell hbk_ 0).trans (show _ = some (Value.slice AL nl cl) from rfl)); have HB4 := Aside0.mk (below_alloc HB3.out (.cells #[.slice AL nl cl] 22)); clear hbk_; clear hb HWO))
    go_ret
    exact ⟨rfl, HB3.out⟩
  rw [hwo] at HWO
  obtain ⟨hl6, htb, hrw⟩ := words_t hwo
  clear hwo
  cases hep : pairsOk ls
  · rw [hep] at HEP
    clear hep hls hN2 hnc hlz hnl2 hl6 htb hrw
    go_enter Tryz.func5, Tryz.ntmps5
    go_wp2_with (first | ((with_reducible refine (HF3.out _ HB0.out).mono ?_); rintro e w1 ⟨rfl, hb⟩; have HB1 := Aside0.mk (below_step HB0.out hb); clear hb HF3) | ((with_reducible refine (HF1.out _ HB1.out).mono ?_); rintro e w2 ⟨rfl, hb⟩; have HB2 := Aside0.mk (below_step HB1.out hb); clear hb HF1) | ((with_reducible refine (HWO.out _ HB2.out).mono ?_); rintro e w3 ⟨rfl, hb⟩; have HB3 := Aside0.mk (below_step HB2.out hb); have hbk_ := heap_alloc_new w3 (.cells #[.slice AL nl cl] 22); have HS4 := Aside0.mk ((blk_cell hbk_ 0).trans (show _ = some (Value.slice AL nl cl) from rfl)); have HB4 := Aside0.mk (below_alloc HB3.out (.cells #[.slice AL nl cl] 22)); clear hbk_; clear hb HWO) | ((with_reducible refine (HEP.out _ _ HB4.out HS4.out).mono ?_); rintro e w5 ⟨rfl, hb⟩; have HB5 := Aside0.mk (below_step HB4.out hb); clear hb HEP))
    go_ret
    exact ⟨rfl, HB5.out⟩
  rw [hep] at HEP
  obtain ⟨hl20, hl100⟩ := pairsOk_t hep
  rw [HLL.out] at hl20
  rw [HLN.out] at hl6
  rw [totB_totR] at htb
  clear hep
  have hfw : ∀ r ∈ l, FairW r := fun r hr => (reqW_fair (hrw r hr)).1
  have hnz : ∀ r ∈ l, nz r.1 = true ∧ nz r.2.1 = true ∧ ∀ v ∈ r.2.2, nz v = true := fun r hr => (reqW_fair (hrw r hr)).2
  have h55 : ∀ r ∈ l, r.2.2.length ≤ 5 := fun r hr => (reqW_t (hrw r hr)).2.1
  have htm : ∀ r ∈ l, r.1.length + totL r.2.2 ≤ 600 := fun r hr => Nat.le_trans (totR_mem hr) htb
  have hmb : ∀ r, r ∈ dup l.reverse → r ∈ l := fun r hr => List.mem_reverse.1 (mem_dup.1 hr)
  obtain ⟨t1, t2, t3, t4, t5⟩ := free_text hfw hnz h55 cs
  obtain ⟨s1, s2, s3, s4, s5⟩ := free_text (l := dup l.reverse) (fun r hr => hfw r (hmb r hr)) (fun r hr => hnz r (hmb r hr)) (fun r hr => h55 r (hmb r hr)) cs
  have hlb : (dup l.reverse).length = 2 * N := by rw [len_dup, List.length_reverse, HLN.out]
  rw [totR_dup, totR_rev, hlb] at s2
  rw [hlb] at s4
  rw [HLN.out] at t2 t4
  have HFR := Aside0.mk (fun (W : World) (hb : Below w.heap.size w W) => Freely_calls l N HLN.out (by omega) (fun r hr => (hfw r hr).1) h55 (fun r hr => by have := htm r hr; omega) AQ cq cs A n c W (HBT.out.at_ hb) (Kd.C_below HQQ.out hb))
  have HFB := Aside0.mk (fun (AB : Option Addr) (cb : Nat) (W : World) (hb : Below w.heap.size w W) (hC : KQ.C W AB (2 * N) (rqV (dup l.reverse))) => Freely_calls (dup l.reverse) (2 * N) hlb (by omega) (fun r hr => (hfw r (hmb r hr)).1) (fun r hr => h55 r (hmb r hr)) (fun r hr => by have := htm r (hmb r hr); omega) AB cb cs A n c W (HBT.out.at_ hb) hC)
  have hzp : ∀ p ∈ ls, p.1.size ≤ 100000 ∧ p.2.size ≤ 100000 := fun p hp => ⟨by have := (hl100 p hp).1; omega, by have := (hl100 p hp).2; omega⟩
  have HSM := Aside0.mk (fun (W : World) (hb : Below w.heap.size w W) => SMS_calls (outL (.gap :: pcsAll l) cs) (by omega) t1 (toksAll l ++ [(1, [])]) t3 (by omega) (fun l2 h2 => by rw [t5] at h2; injection h2 with h2; subst h2; exact sortOK_12 _ (by rw [List.length_map, HLN.out]; omega)) AL cl nl ls HLL.out (by omega) hzp W (Kd.C_below HPP.out hb) (HTT.out.below hb))
  have HSM2 := Aside0.mk (fun (W : World) (hb : Below w.heap.size w W) => SMS_calls (outL (.gap :: pcsAll (dup l.reverse)) cs) (by omega) s1 (toksAll (dup l.reverse) ++ [(1, [])]) s3 (by omega) (fun l2 h2 => by rw [s5] at h2; injection h2 with h2; subst h2; exact sortOK_12 _ (by rw [List.length_map, hlb]; omega)) AL cl nl ls HLL.out (by omega) hzp W (Kd.C_below HPP.out hb) (HTT.out.below hb))
  rw [t5, selR_set hfw] at HSM
  rw [s5, selR_set (fun r hr => hfw r (hmb r hr)), all_back] at HSM2
  obtain ⟨tx, htx⟩ : ∃ tx, mk (outL (.gap :: pcsAll l) cs) = tx := ⟨_, rfl⟩
  obtain ⟨ty, hty⟩ : ∃ ty, mk (outL (.gap :: pcsAll (dup l.reverse)) cs) = ty := ⟨_, rfl⟩
  rw [htx] at HFR HSM
  rw [hty] at HFB HSM2
  obtain ⟨want, hwant⟩ : ∃ want, l.all (mtR (labRev ls)) = want := ⟨_, rfl⟩
  rw [hwant] at HSM HSM2
  obtain ⟨ps, hps, hfr, hpc⟩ := kq_elems HQQ.out HLN.out
  have hpl : ps.length = N := by rw [← HLN.out, ← hps, List.length_map]
  have HPS := Aside0.mk hps
  have HPR := Aside0.mk hfr
  have HPC := Aside0.mk hpc
  have HPL := Aside0.mk hpl
  have hN6 : N ≤ 6 := hl6
  clear hls hN2 hnc hlz hnl2 hl6 htb hrw hl20 hl100 hfw hnz h55 htm t1 t2 t3 t4 t5 s1 s2 s3 s4 s5 htx hty hwant hmb hlb hzp hps hfr hpc hpl
  go_enter Tryz.func5, Tryz.ntmps5
  go_wp2_with (first | ((with_reducible refine (HF3.out _ HB0.out).mono ?_); rintro e w1 ⟨rfl, hb⟩; have HB1 := Aside0.mk (below_step HB0.out hb); clear hb HF3) | ((with_reducible refine (HF1.out _ HB1.out).mono ?_); rintro e w2 ⟨rfl, hb⟩; have HB2 := Aside0.mk (below_step HB1.out hb); clear hb HF1) | ((with_reducible refine (HWO.out _ HB2.out).mono ?_); rintro e w3 ⟨rfl, hb⟩; have HB3 := Aside0.mk (below_step HB2.out hb); have hbk_ := heap_alloc_new w3 (.cells #[.slice AL nl cl] 22); have HS4 := Aside0.mk ((blk_cell hbk_ 0).trans (show _ = some (Value.slice AL nl cl) from rfl)); have HB4 := Aside0.mk (below_alloc HB3.out (.cells #[.slice AL nl cl] 22)); clear hbk_; clear hb HWO) | ((with_reducible refine (HEP.out _ _ HB4.out HS4.out).mono ?_); rintro e w5 ⟨rfl, hb⟩; have HB5 := Aside0.mk (below_step HB4.out hb); clear hb HEP))
  go_loopg [7, 8] (N) (fun k v7 v8 w' => ∃ i : Nat, v8 = .int .i64 ((i : Int) - 1) ∧ Aside0 (k = i) ∧ Aside0 (i ≤ N) ∧ Aside0 (KF.R 31 w' w.heap.size (fun _ => True) v7 ((dup (ps.drop i).reverse).map (·.1))) ∧ Aside0 (Below w.heap.size w w'))
  case atStart => exact ⟨N, rfl, ⟨rfl⟩, ⟨Nat.le_refl _⟩, ⟨by rw [List.drop_of_length_le (by rw [HPL.out]; exact Nat.le_refl _)]; exact Kd.R_nil ..⟩, HB5⟩
  case round =>
    obtain ⟨i1, rfl, HI, HIN, HR, HB⟩ := hrel
    cases i1 with
    | zero =>
      have hR := HR.out
      rw [List.drop_zero] at hR
      obtain ⟨AB, cb, e'⟩ := Kd.R_slice hR
      have hlen : ((dup ps.reverse).map (·.1)).length = 2 * N := by rw [List.length_map, len_dup, List.length_reverse, HPL.out]
      rw [hlen] at e'
      subst e'
      have hC := (Kd.R_reads' hR).2.2
      rw [hlen] at hC
      have HCB : Aside0 (KQ.C wr AB (2 * N) (rqV (dup l.reverse))) := ⟨by
        have := kf_kq (ps := dup ps.reverse) hC (fun p hp => by
          obtain ⟨f0, f1, f2, f3, f4⟩ := HPR.out p (List.mem_reverse.1 (mem_dup.1 hp))
          exact ⟨f0, f1, f2, f3, Kd.C_below f4 HB.out⟩)
        rw [map_dup, List.map_reverse, HPS.out] at this
        exact this⟩
      have HFR2 := Aside0.mk (fun (W : World) (hb0 : Below wr.heap.size wr W) => HFB.out AB cb W (below_step HB.out hb0) (Kd.C_below HCB.out hb0))
      have e1 : ((0 : Nat) : Int) - 1 = -1 := rfl
      rw [e1]
      have HB6 := HB
      have HRF := Aside0.mk (Below.refl wr.heap.size wr)
      clear hR hC hlen e1 HB HR
      go_wp2_with (first | ((with_reducible refine (HFR.out _ HB6.out).mono ?_); rintro e w7 ⟨rfl, hb⟩; have HB7 := Aside0.mk (below_step HB6.out hb); have HX7 := Aside0.mk (below_step HRF.out hb); clear hb HFR) | ((with_reducible refine (HSM.out _ HB7.out).mono ?_); rintro e w8 ⟨rfl, hb⟩; have HB8 := Aside0.mk (below_step HB7.out hb); have HX8 := Aside0.mk (below_step HX7.out hb); clear hb HSM) | ((with_reducible refine (HFR2.out _ HX8.out).mono ?_); rintro e w9 ⟨rfl, hb⟩; have HB9 := Aside0.mk (below_step HB8.out hb); clear hb HFR2) | ((with_reducible refine (HSM2.out _ HB9.out).mono ?_); rintro e w10 ⟨rfl, hb⟩; have HB10 := Aside0.mk (below_step HB9.out hb); clear hb HSM2) | ((with_reducible refine (HSE.out _ HB10.out).mono ?_); rintro e w11 ⟨rfl, hb⟩; have HB11 := Aside0.mk (below_step HB10.out hb); clear hb HSE))
      go_ret
      exact ⟨rfl, HB11.out⟩
    | succ i =>
      have hiN := HIN.out
      obtain ⟨p, hp⟩ : ∃ p, ps[i]? = some p := ⟨_, List.getElem?_eq_getElem (by rw [HPL.out]; omega)⟩
      obtain ⟨aq, rfl, q0, q1, q2⟩ := HPC.out i p hp
      have e1 : ((i + 1 : Nat) : Int) - 1 = (i : Int) := by omega
      rw [e1]
      have r0 := (HB.out.cell (World.block_lt_of_cell? _ _ q0)).trans q0
      have r1 := (HB.out.cell (World.block_lt_of_cell? _ _ q1)).trans q1
      have r2 := (HB.out.cell (World.block_lt_of_cell? _ _ q2)).trans q2
      have HNEW : Aside0 ((dup (ps.drop (i + 1)).reverse).map (·.1) ++ [p.1, p.1] = (dup (ps.drop i).reverse).map (·.1)) := ⟨by rw [← back_step hp, List.map_append]; rfl⟩
      have HXL : Aside0 (((dup (ps.drop (i + 1)).reverse).map (·.1)).length = 2 * (N - (i + 1))) := ⟨by rw [List.length_map, len_dup, List.length_reverse, List.length_drop, HPL.out]⟩
      obtain ⟨xs, hxs⟩ : ∃ xs, (dup (ps.drop (i + 1)).reverse).map (·.1) = xs := ⟨_, rfl⟩
      rw [hxs] at HNEW HXL HR
      obtain ⟨f, hf⟩ : ∃ f, p.1 = f := ⟨_, rfl⟩
      rw [hf] at HNEW q0 q1 q2 r0 r1 r2
      have HL2 := Aside0.mk (kf_lit2 wr f)
      have hba := below_alloc (Below.refl wr.heap.size wr) (.cells (feC f ++ feC f).toArray 31)
      have HBL := Aside0.mk (below_step HB.out hba)
      have m0 := (hba.cell (World.block_lt_of_cell? _ _ r0)).trans r0
      have m1 := (hba.cell (World.block_lt_of_cell? _ _ r1)).trans r1
      have m2 := (hba.cell (World.block_lt_of_cell? _ _ r2)).trans r2
      have HRL := Aside0.mk (Kd.R_alloc HR.out (.cells (feC f ++ feC f).toArray 31))
      have b0 : decide ((0 : Int) ≤ (i : Int)) = true := decide_eq_true (by omega)
      obtain ⟨WL, hWL⟩ : ∃ WL, wr.alloc (.cells (feC f ++ feC f).toArray 31) = WL := ⟨_, rfl⟩
      rw [hWL] at HL2 HBL m0 m1 m2 HRL
      obtain ⟨fk, fo, fB, fn, fc⟩ := f
      have hWL2 : wr.alloc (.cells #[.string fk, .string fo, .slice fB fn fc, .string fk, .string fo, .slice fB fn fc] 31) = WL := hWL
      have Q0 := Aside0.mk q0
      have Q1 := Aside0.mk q1
      have Q2 := Aside0.mk q2
      obtain ⟨v7, hv7⟩ : ∃ v7, u7 = v7 := ⟨_, rfl⟩
      rw [hv7] at HR HRL ⊢
      clear hp hxs hf hba hWL e1 hv7 q0 q1 q2 HR
      go_upto_region 9 with (fail)
      go_region_held_law (fun W => W.cell? (aq.add (i * 3)) = some (.string fk) ∧ W.cell? ⟨(aq.add (i * 3)).block, (aq.add (i * 3)).off + 1, none⟩ = some (.string fo) ∧ W.cell? ⟨(aq.add (i * 3)).block, (aq.add (i * 3)).off + 2, none⟩ = some (.slice fB fn fc)) (first | exact ⟨r0, r1, r2⟩ | exact ⟨m0, m1, m2⟩ | exact ⟨k0, k1, k2⟩ | go_keep) (first | (refine Kd.R_append_rows_step KF (Rr := KF.K wr) (W := WL) (w0 := w) w.heap.size (by rfl) (.tmp 42) (.tmp 51) 26 31 (.agg #[.string ⟨#[]⟩, .string ⟨#[]⟩, .slice none 0 0]) 56 rfl Tryz.underlying26 infoIQ rfl (by decide) (by decide) v7 xs [(fk, fo, fB, fn, fc), (fk, fo, fB, fn, fc)] (some ⟨wr.heap.size, 0, none⟩) 2 2 (fun _ => True) (fun _ => False) (by simp [Act.eval, Act.put]) (by simp [Act.eval, Act.put]) ?aO ?aR ?aK (fun _ hk => hk.elim) (fun _ _ => trivial) ?aB ?aS ?aL ?_; (case aO => exact HRL.out); (case aR => exact HL2.out); (case aK => exact fun _ _ h => h); (case aB => exact HBL.out); (case aS => exact (HBL.out).size); (case aL => rw [HXL.out]; omega); intro vN wN ho hb hg hat; rw [HNEW.out] at ho; have HB7 := Aside0.mk hb; have HR7 := Aside0.mk ho; have k0 := (hb.cell (World.block_lt_of_cell? _ _ Q0.out)).trans Q0.out; have k1 := (hb.cell (World.block_lt_of_cell? _ _ Q1.out)).trans Q1.out; have k2 := (hb.cell (World.block_lt_of_cell? _ _ Q2.out)).trans Q2.out; clear ho hb hg hat) | (refine Kd.R_append_rows_step KF (Rr := KF.K wr) (W := WL.drew) (w0 := w) w.heap.size (by rfl) (.tmp 42) (.tmp 51) 26 31 (.agg #[.string ⟨#[]⟩, .string ⟨#[]⟩, .slice none 0 0]) 56 rfl Tryz.underlying26 infoIQ rfl (by decide) (by decide) v7 xs [(fk, fo, fB, fn, fc), (fk, fo, fB, fn, fc)] (some ⟨wr.heap.size, 0, none⟩) 2 2 (fun _ => True) (fun _ => False) (by simp [Act.eval, Act.put]) (by simp [Act.eval, Act.put]) ?aO ?aR ?aK (fun _ hk => hk.elim) (fun _ _ => trivial) ?aB ?aS ?aL ?_; (case aO => exact Kd.R_drew HRL.out); (case aR => exact HL2.out); (case aK => exact fun _ _ h => h); (case aB => exact below_drew1 HBL.out); (case aS => exact (below_drew1 HBL.out).size); (case aL => rw [HXL.out]; omega); intro vN wN ho hb hg hat; rw [HNEW.out] at ho; have HB7 := Aside0.mk hb; have HR7 := Aside0.mk ho; have k0 := (hb.cell (World.block_lt_of_cell? _ _ Q0.out)).trans Q0.out; have k1 := (hb.cell (World.block_lt_of_cell? _ _ Q1.out)).trans Q1.out; have k2 := (hb.cell (World.block_lt_of_cell? _ _ Q2.out)).trans Q2.out; clear ho hb hg hat))
      all_goals
        go_wp2
        go_roundg i
        case measure => have := HI.out; omega
        case rel => exact ⟨i, by go_num, ⟨rfl⟩, ⟨by omega⟩, HR7, HB7⟩
end Go.Proofs.YteigfmchnblkgaaGreatDoor.Hand
