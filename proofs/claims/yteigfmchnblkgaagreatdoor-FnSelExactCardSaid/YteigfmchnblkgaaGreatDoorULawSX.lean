/- The law FnSelExact. (Printed by lawsx.py.) -/
import Derived.Test.YteigfmchnblkgaaGreatDoorUGSelB
import Derived.Test.YteigfmchnblkgaaGreatDoorULabFits
import Derived.Test.YteigfmchnblkgaaGreatDoorUFits3
import Derived.Test.YteigfmchnblkgaaGreatDoorUWrAll
import Derived.Test.YteigfmchnblkgaaGreatDoorUSelEx
namespace Go.Proofs.YteigfmchnblkgaaGreatDoor.Hand
open Go.RowKit Go.Maps Go.Proofs.YteigfmchnblkgaaGreatDoorW.PrintWords Go.Proofs.YteigfmchnblkgaaGreatDoorW.PrintLast Go.Proofs.YteigfmchnblkgaaGreatDoorW.PrintMore Go.Proofs.YteigfmchnblkgaaGreatDoor.Base
set_option linter.unusedVariables false
set_option linter.unusedSimpArgs false
set_option maxRecDepth 100000
/-- A written text of requirements, read. -/
theorem written_text {l : List Rq} (hw : ∀ r ∈ l, FairW r) (hz : ∀ r ∈ l, nz r.1 = true ∧ nz r.2.1 = true ∧ ∀ v ∈ r.2.2, nz v = true) (h5 : ∀ r ∈ l, r.2.2.length ≤ 5) (cs : L) :
    (∀ b ∈ outL (pcwAll l) cs, b ≠ 0) ∧ (outL (pcwAll l) cs).length ≤ totR l + 16 * l.length ∧ tokensL (outL (pcwAll l) cs) = toksAll l ++ [(1, [])] ∧
    (toksAll l ++ [(1, [])]).length ≤ 15 * l.length + 1 ∧ pAll (toksAll l ++ [(1, [])]).length (toksAll l ++ [(1, [])]) = some (l.map setR) := by
  have hw' : ∀ r ∈ l, WordR r.1 r.2.1 r.2.2 := fun r hr => (hw r hr).1
  obtain ⟨o1, o2⟩ := okAllw_pcs l hw'
  have h1 := (nz_all l hz).2
  refine ⟨out_nz (pcwAll l) cs h1, ?_, ?_, ?_, ?_⟩
  · have a := out_sz (pcwAll l) cs
    have b := sz_allw l hw' h5
    omega
  · rw [tokens_pcs (pcwAll l) cs o1, o2]
  · have := toksAll_len l h5
    rw [List.length_append]; simp only [List.length_cons, List.length_nil]; omega
  · refine pAll_toks l _ hw ?_
    have := toks_len l hw'
    rw [List.length_append]; simp only [List.length_cons, List.length_nil]; omega
theorem fairW_set {r : Rq} (h : FairW r) : FairW (setR r) := ⟨word_set h.1, fair_setL h.2⟩
theorem nz_set {r : Rq} (h : nz r.1 = true ∧ nz r.2.1 = true ∧ ∀ v ∈ r.2.2, nz v = true) : nz (setR r).1 = true ∧ nz (setR r).2.1 = true ∧ ∀ v ∈ (setR r).2.2, nz v = true :=
  ⟨h.1, h.2.1, fun v hv => h.2.2 v ((setL_mem _ _).1 hv)⟩
theorem len_set {r : Rq} {m : Nat} (h : r.2.2.length ≤ m) : (setR r).2.2.length ≤ m := Nat.le_trans (setL_len r.2.2) h
theorem setL_idem (vs : List L) : setL (setL vs) = setL vs := up_ext (setL_up _) (setL_up _) fun y => by rw [setL_mem]
theorem setR_idem (l : List Rq) : (l.map setR).map setR = l.map setR := by
  rw [List.map_map]
  refine List.map_congr_left fun r _ => ?_
  show (r.1, r.2.1, setL (setL r.2.2)) = _
  rw [setL_idem]
theorem exact_app {k : L} : ∀ {a b : List Rq}, (∀ x ∈ a, x.1 ≠ k) → exactR (a ++ b) k = exactR b k
  | [], b, _ => rfl
  | r :: a, b, h => by
    show (if r.1 = k then _ else exactR (a ++ b) k) = _
    rw [if_neg (h r (List.mem_cons_self ..)), exact_app fun x hx => h x (List.mem_cons_of_mem _ hx)]
theorem exact_snoc_ne {k : L} {r : Rq} (h : r.1 ≠ k) : ∀ (a : List Rq), exactR (a ++ [r]) k = exactR a k
  | [] => by show (if r.1 = k then _ else none) = none; rw [if_neg h]
  | x :: a => by
    show (if x.1 = k then _ else exactR (a ++ [r]) k) = (if x.1 = k then _ else exactR a k)
    rw [exact_snoc_ne h a]
def fX (r : Rq) : Option L := if isEq3 r.2.1 then (match r.2.2 with | [x] => some x | _ => none) else none
theorem exact_one {k : L} {r : Rq} (h : r.1 = k) : exactR [r] k = fX r := by
  show (if r.1 = k then _ else none) = _
  rw [if_pos h]; rfl
theorem exact_none {k : L} : ∀ {a : List Rq}, (∀ x ∈ a, x.1 ≠ k) → exactR a k = none := fun {a} h => by
  have := exact_app (b := []) h
  rw [List.append_nil] at this
  exact this
theorem exact_mem {k : L} {r : Rq} : ∀ {a : List Rq}, (a.map (·.1)).Nodup → r ∈ a → r.1 = k → exactR a k = fX r
  | x :: a, hn, hm, hk => by
    rw [List.map_cons, List.nodup_cons] at hn
    rcases List.mem_cons.1 hm with e | hm
    · subst e
      show (if r.1 = k then _ else _) = _
      rw [if_pos hk]; rfl
    · show (if x.1 = k then _ else exactR a k) = _
      rw [if_neg, exact_mem hn.2 hm hk]
      intro e
      exact hn.1 (by rw [e, ← hk]; exact List.mem_map.2 ⟨r, hm, rfl⟩)
theorem exact_perm {k : L} {a b : List Rq} (hn : (a.map (·.1)).Nodup) (hp : b.Perm a) : exactR b k = exactR a k := by
  by_cases h : ∃ r ∈ a, r.1 = k
  · obtain ⟨r, hr, hk⟩ := h
    rw [exact_mem hn hr hk, exact_mem ((hp.map _).nodup_iff.2 hn) (hp.mem_iff.2 hr) hk]
  · have h2 : ∀ x ∈ a, x.1 ≠ k := fun x hx e => h ⟨x, hx, e⟩
    rw [exact_none h2, exact_none fun x hx => h2 x (hp.mem_iff.1 hx)]
theorem keys_nodup {l : List Rq} : ∀ n, n ≤ l.length → okTo l n = true → ((l.take n).map (·.1)).Nodup
  | 0, _, _ => by simp
  | n + 1, hn, h => by
    obtain ⟨r, hr⟩ : ∃ r, l[n]? = some r := ⟨_, List.getElem?_eq_getElem (by omega)⟩
    have h0 : okTo l n = true := by
      cases e : okTo l n with
      | true => rfl
      | false => rw [okTo_bad e (n + 1) (by omega)] at h; cases h
    have h1 := (okTo_get h (Nat.lt_succ_self n) hr).2
    rw [List.take_add_one, hr, List.map_append]
    refine List.nodup_append.2 ⟨keys_nodup n (by omega) h0, by simp, ?_⟩
    intro a ha b hb e
    obtain ⟨x, hx, rfl⟩ := List.mem_map.1 ha
    have : b = r.1 := by simpa using hb
    have h2 := List.all_eq_true.1 h1 x hx
    rw [e, this] at h2
    simp at h2
/-- What the law's own loop keeps: the value, and whether there is one. -/
def mX (r : Rq) (k : L) : Bool := r.1 == k && (r.2.1 == [61] || (r.2.1 == [61, 61] || (r.2.1 == [105, 110] && (setL r.2.2).length == 1)))
def stX (l : List Rq) (k : L) : ByteArray × Bool := l.foldl (fun st r => if mX r k then (mk (r.2.2.headD []), true) else st) (⟨#[]⟩, false)
theorem stX_snoc {l : List Rq} {j : Nat} {r : Rq} (h : l[j]? = some r) (k : L) : stX (l.take (j + 1)) k = if mX r k then (mk (r.2.2.headD []), true) else stX (l.take j) k := by
  unfold stX
  rw [List.take_add_one, h, List.foldl_append]
  rfl
theorem one_set {vs : List L} (h : (setL vs).length = vs.length) (h1 : (setL vs).length = 1) : ∃ x, vs = [x] := by
  rw [h1] at h
  match vs, h with
  | [x], _ => exact ⟨x, rfl⟩
theorem reqW_set {r : Rq} (h : reqW r = true) : (setL r.2.2).length = r.2.2.length := by
  unfold reqW reqB at h
  simp only [Bool.and_eq_true, decide_eq_true_eq] at h
  have := h.2.2.2.2.1
  rw [vL_mk, List.length_map] at this
  exact this
theorem mX_fX {r : Rq} {k : L} (hr : reqW r = true) (hk : r.1 = k) : exB (fX (setR r)) = if mX r k then (mk (r.2.2.headD []), true) else (⟨#[]⟩, false) := by
  have hw := (reqW_fair hr).1.1
  have hl := reqW_set hr
  unfold mX fX
  have hb : (r.1 == k) = true := by rw [hk]; exact beq_self_eq_true _
  rw [hb, Bool.true_and]
  rcases hw.o with e | e | e | e
  · simp [e, isEq3, exB]
  · simp [e, isEq3, exB]
  · by_cases h1 : (setL r.2.2).length = 1
    · obtain ⟨x, hx⟩ := one_set hl h1
      rcases e with e | e
      · have hs : setL r.2.2 = [x] := by rw [hx]; rfl
        simp [e, isEq3, exB, hx, setL_one]
      · simp [e, isEq3, exB]
    · rcases e with e | e
      · have h3 : ((setL r.2.2).length == 1) = false := by simpa using h1
        have h4 : (match setL r.2.2 with | [x] => some x | _ => none) = (none : Option L) := by
          match hv : setL r.2.2 with
          | [] => rfl
          | [x] => rw [hv] at h1; exact absurd rfl h1
          | _ :: _ :: _ => rfl
        simp only [e, isEq3, h3]
        show exB (match setL r.2.2 with | [x] => some x | _ => none) = _
        rw [h4]; rfl
      · simp [e, isEq3, exB]
  · obtain ⟨x, hx⟩ := hw.n e
    rcases e with e | e | e | e | e
    · simp [e, isEq3, exB]
    · simp [e, isEq3, exB]
    · simp [e, isEq3, exB, hx, setL_one]
    · simp [e, isEq3, exB, hx, setL_one]
    · simp [e, isEq3, exB]
theorem stX_exact {l : List Rq} (h : okTo l l.length = true) (k : L) : ∀ n, n ≤ l.length → stX (l.take n) k = exB (exactR ((l.take n).map setR) k)
  | 0, _ => by simp [stX, exactR, exB]
  | n + 1, hn => by
    obtain ⟨r, hr⟩ : ∃ r, l[n]? = some r := ⟨_, List.getElem?_eq_getElem (by omega)⟩
    have ih := stX_exact h k n (by omega)
    obtain ⟨h1, h2⟩ := okTo_get h (show n < l.length by omega) hr
    have et : (l.take (n + 1)).map setR = (l.take n).map setR ++ [setR r] := by rw [List.take_add_one, hr]; simp
    rw [stX_snoc hr, et]
    by_cases hk : r.1 = k
    · have hne : ∀ x ∈ (l.take n).map setR, x.1 ≠ k := fun x hx e => by
        obtain ⟨y, hy, rfl⟩ := List.mem_map.1 hx
        have := List.all_eq_true.1 h2 y hy
        have e2 : y.1 = k := e
        rw [e2, hk] at this
        simp at this
      rw [exact_app hne, exact_one (show (setR r).1 = k from hk), mX_fX h1 hk, ih, exact_none hne]
      rfl
    · have hm : mX r k = false := by unfold mX; rw [show (r.1 == k) = false from by simpa using hk]; rfl
      rw [hm, exact_snoc_ne (show (setR r).1 ≠ k from hk), ih]
      rfl
theorem totL_mem' {x : L} : ∀ {l : List L}, x ∈ l → x.length ≤ totL l
  | y :: l, h => by
    show _ ≤ y.length + totL l
    rcases List.mem_cons.1 h with h | h
    · rw [h]; omega
    · have := totL_mem' h; omega
theorem totR_mem' {r : Rq} : ∀ {l : List Rq}, r ∈ l → r.1.length + totL r.2.2 ≤ totR l
  | y :: l, h => by
    show _ ≤ (y.1.length + totL y.2.2) + totR l
    rcases List.mem_cons.1 h with h | h
    · rw [h]; omega
    · have := totR_mem' h; omega
theorem totR_set {l : List Rq} (h : ∀ r ∈ l, (setL r.2.2).length = r.2.2.length) : totR (l.map setR) = totR l := by
  unfold totR
  rw [List.map_map]
  congr 1
  refine List.map_congr_left fun r hr => ?_
  show r.1.length + totL (setL r.2.2) = _
  congr 1
  unfold totL
  have hp : (setL r.2.2).Perm r.2.2 := by
    obtain ⟨_, _, h3⟩ := foldl_perm r.2.2 [] List.Pairwise.nil
    have := h3 (by simpa [setL] using h r hr)
    simpa [setL] using this
  exact (hp.map _).sum_nat
set_option maxHeartbeats 32000000 in
theorem SelX_law (AQ : Option Addr) (cq N : Nat) (l : List Rq) (hN : l.length = N) (hcq : N ≤ cq) (hcm : cq ≤ 9223372036854775807) (lab : ByteArray) (w : World) (hQ : KQ.C w AQ N (rqV l)) (hT : TV w) :
    Calls Tryz.prog 8 #[.slice AQ N cq, .string lab] w fun e w' => e = .returned (.bool true) ∧ Below w.heap.size w w' := by
  have HQQ := Aside0.mk hQ
  have HTT := Aside0.mk hT
  have HLN := Aside0.mk hN
  have HB0 := Aside0.mk (Below.refl w.heap.size w)
  have HF3 := Aside0.mk (fun (W : World) (hb : Below w.heap.size w W) => Fits3_calls AQ cq N l hN W (Kd.C_below hQ hb))
  have HSE := Aside0.mk (fun (W : World) (hb : Below w.heap.size w W) => epSel_calls W (hT.below hb))
  clear hQ hT hN
  cases hf3 : fits3 l
  · rw [hf3] at HF3
    clear hf3
    go_enter Tryz.func8, Tryz.ntmps8
    go_wp2_with (first | ((with_reducible refine (HF3.out _ HB0.out).mono ?_); rintro e w1 ⟨rfl, hb⟩; have HB1 := Aside0.mk (below_step HB0.out hb); clear hb HF3))
    go_ret
    exact ⟨rfl, HB1.out⟩
  rw [hf3] at HF3
  obtain ⟨hN2, hls⟩ := fits3_t hf3
  rw [HLN.out] at hN2
  clear hf3
  by_cases hnc : lab.size ≤ 2147483647
  rotate_left
  · have b0 : decide ((2147483647 : Int) < (lab.size : Int)) = true := decide_eq_true (by omega)
    have b1 : decide (2147483647 < lab.size) = true := decide_eq_true (by omega)
    clear hls hN2
    go_enter Tryz.func8, Tryz.ntmps8
    go_wp2_with (first | ((with_reducible refine (HF3.out _ HB0.out).mono ?_); rintro e w1 ⟨rfl, hb⟩; have HB1 := Aside0.mk (below_step HB0.out hb); clear hb HF3))
    go_ret
    exact ⟨rfl, HB1.out⟩
  have b0 : decide ((2147483647 : Int) < (lab.size : Int)) = false := decide_eq_false (by omega)
  have b1 : decide (2147483647 < lab.size) = false := decide_eq_false (by omega)
  have HWO := Aside0.mk (fun (W : World) (hb : Below w.heap.size w W) => WordsN_calls l N HLN.out hN2 6 (by omega) AQ cq hcq hcm hls W (Kd.C_below HQQ.out hb) (HTT.out.below hb))
  rw [show ((6 : Nat) : Int) = 6 from rfl] at HWO
  cases hwo : wordsN l 6
  · rw [hwo] at HWO
    clear hwo hls hN2
    go_enter Tryz.func8, Tryz.ntmps8
    go_wp2_with (first | ((with_reducible refine (HF3.out _ HB0.out).mono ?_); rintro e w1 ⟨rfl, hb⟩; have HB1 := Aside0.mk (below_step HB0.out hb); clear hb HF3) | ((with_reducible refine (HWO.out _ HB1.out).mono ?_); rintro e w2 ⟨rfl, hb⟩; have HB2 := Aside0.mk (below_step HB1.out hb); clear hb HWO))
    go_ret
    exact ⟨rfl, HB2.out⟩
  rw [hwo] at HWO
  by_cases hn1 : lab.size ≤ 100
  rotate_left
  · have c0 : decide ((100 : Int) < (lab.size : Int)) = true := decide_eq_true (by omega)
    have c1 : decide (100 < lab.size) = true := decide_eq_true (by omega)
    clear hwo hls hN2
    go_enter Tryz.func8, Tryz.ntmps8
    go_wp2_with (first | ((with_reducible refine (HF3.out _ HB0.out).mono ?_); rintro e w1 ⟨rfl, hb⟩; have HB1 := Aside0.mk (below_step HB0.out hb); clear hb HF3) | ((with_reducible refine (HWO.out _ HB1.out).mono ?_); rintro e w2 ⟨rfl, hb⟩; have HB2 := Aside0.mk (below_step HB1.out hb); clear hb HWO))
    go_ret
    exact ⟨rfl, HB2.out⟩
  have c0 : decide ((100 : Int) < (lab.size : Int)) = false := decide_eq_false (by omega)
  have c1 : decide (100 < lab.size) = false := decide_eq_false (by omega)
  obtain ⟨hl6, htb, hrw⟩ := words_t hwo
  have hok : okTo l l.length = true := by unfold wordsN at hwo; simp only [Bool.and_eq_true] at hwo; exact hwo.1
  clear hwo
  rw [HLN.out] at hl6
  rw [totB_totR] at htb
  have hst : ∀ r ∈ l, (setL r.2.2).length = r.2.2.length := fun r hr => reqW_set (hrw r hr)
  have hfw : ∀ r ∈ l, FairW r := fun r hr => (reqW_fair (hrw r hr)).1
  have hnz : ∀ r ∈ l, nz r.1 = true ∧ nz r.2.1 = true ∧ ∀ v ∈ r.2.2, nz v = true := fun r hr => (reqW_fair (hrw r hr)).2
  have h55 : ∀ r ∈ l, r.2.2.length ≤ 5 := fun r hr => (reqW_t (hrw r hr)).2.1
  have htm : ∀ r ∈ l, r.1.length + totL r.2.2 ≤ 600 := fun r hr => Nat.le_trans (totR_mem' hr) htb
  obtain ⟨t1, t2, t3, t4, t5⟩ := written_text (l := l.map setR) (fun r hr => by obtain ⟨x, hx, rfl⟩ := List.mem_map.1 hr; exact fairW_set (hfw x hx)) (fun r hr => by obtain ⟨x, hx, rfl⟩ := List.mem_map.1 hr; exact nz_set (hnz x hx)) (fun r hr => by obtain ⟨x, hx, rfl⟩ := List.mem_map.1 hr; exact len_set (h55 x hx)) []
  rw [setR_idem] at t5
  rw [totR_set hst, List.length_map, HLN.out] at t2
  rw [List.length_map, HLN.out] at t4
  have HWA := Aside0.mk (fun (W : World) (hb : Below w.heap.size w W) => WrittenAll_calls l N HLN.out (by omega) hfw (fun r hr => ⟨by have := htm r hr; omega, h55 r hr, fun v hv => by have := htm r hr; have := totL_mem' hv; omega⟩) AQ cq W (Kd.C_below HQQ.out hb))
  have hnd : ((l.map setR).map (·.1)).Nodup := by
    have := keys_nodup l.length (Nat.le_refl _) hok
    rw [List.take_length] at this
    rw [List.map_map]
    exact this
  have HSX := Aside0.mk (fun (W : World) (hb : Below w.heap.size w W) => SEx_calls (outL (pcwAll (l.map setR)) []) (by omega) t1 _ t3 (by omega) (fun l2 h2 => by rw [t5] at h2; injection h2 with h2; subst h2; exact sortOK_12 _ (by rw [List.length_map, HLN.out]; omega)) lab (fun l2 l3 h2 hp => by rw [t5] at h2; injection h2 with h2; subst h2; exact exact_perm hnd hp) W (HTT.out.below hb))
  rw [t5] at HSX
  obtain ⟨k, hk⟩ : ∃ k, lab.data.toList = k := ⟨_, rfl⟩
  have hkl : lab.toList = k := (toList_eq lab).trans hk
  rw [hk] at HSX
  have hfin := stX_exact hok k l.length (Nat.le_refl _)
  rw [List.take_length] at hfin
  have hsx : exS (some (l.map setR)) k = ((stX l k).1, (stX l k).2, 0) := by rw [hfin]; rfl
  rw [hsx] at HSX
  obtain ⟨tx, htx⟩ : ∃ tx, mk (outL (pcwAll (l.map setR)) []) = tx := ⟨_, rfl⟩
  rw [htx] at HWA HSX
  have HKL := Aside0.mk hkl
  have HRW := Aside0.mk hrw
  have HSS := Aside0.mk (fun (r : Rq) (hr : r ∈ l) (AV : Option Addr) (cv nv : Nat) (hnv : r.2.2.length = nv) (hnc : nv ≤ cv) (W : World) (hC : Kd.C Kd.string W AV nv (r.2.2.map mk)) => SetOf_calls AV cv r.2.2 (by have := h55 r hr; omega) W (by rw [hnv]; exact hC) (by rw [hnv]; exact hnc))
  have HNV := Aside0.mk h55
  clear hls hN2 hl6 htb hrw hok hst hfw hnz h55 htm t1 t2 t3 t4 t5 hnd hk hkl hfin hsx htx hnc hn1
  go_enter Tryz.func8, Tryz.ntmps8
  go_wp2_with (first | ((with_reducible refine (HF3.out _ HB0.out).mono ?_); rintro e w1 ⟨rfl, hb⟩; have HB1 := Aside0.mk (below_step HB0.out hb); clear hb HF3) | ((with_reducible refine (HWO.out _ HB1.out).mono ?_); rintro e w2 ⟨rfl, hb⟩; have HB2 := Aside0.mk (below_step HB1.out hb); clear hb HWO))
  go_loopg [5, 6, 30] (N) (fun kk v5 v6 v30 w' => ∃ (i : Nat) (a : ByteArray) (b : Bool), v30 = .int .i64 i ∧ v5 = .string a ∧ v6 = .bool b ∧ Aside0 (kk + i = N) ∧ Aside0 ((a, b) = stX (l.take i) k) ∧ Aside0 (Below w.heap.size w w'))
  case atStart => exact ⟨0, ⟨#[]⟩, false, rfl, rfl, rfl, ⟨by omega⟩, ⟨rfl⟩, HB2⟩
  case round =>
    obtain ⟨i, a, b, rfl, rfl, rfl, HI, HST, HB⟩ := hrel
    by_cases hin : i < N
    · obtain ⟨r, hr⟩ : ∃ r, l[i]? = some r := ⟨_, List.getElem?_eq_getElem (by rw [HLN.out]; exact hin)⟩
      obtain ⟨aq, AV, cv, rfl, r0, r1, r2, hnc, hCV⟩ := kq_at2 (Kd.C_below HQQ.out HB.out) i hin r hr
      obtain ⟨nv, hnv⟩ : ∃ nv, r.2.2.length = nv := ⟨_, rfl⟩
      rw [hnv] at r2 hCV hnc
      have hmem := List.mem_of_getElem? hr
      have hsn := stX_snoc hr k
      rw [← HST.out] at hsn
      have hrw := HRW.out r hmem
      have hst := reqW_set hrw
      have hwr := (reqW_fair hrw).1.1
      have hnv5 : nv ≤ 5 := by rw [← hnv]; exact HNV.out r hmem
      obtain ⟨key, hkey⟩ : ∃ key, mk r.1 = key := ⟨_, rfl⟩
      obtain ⟨op, hop⟩ : ∃ op, mk r.2.1 = op := ⟨_, rfl⟩
      have hkey2 : key.toList = r.1 := by rw [← hkey, mk_toList]
      have hop2 : op.toList = r.2.1 := by rw [← hop, mk_toList]
      rw [hkey] at r0
      rw [hop] at r1
      have hbk := heap_alloc_new wr (.cells #[.string key, .string op, .slice AV nv cv] 31)
      have HB2 := Aside0.mk (below_alloc HB.out (.cells #[.string key, .string op, .slice AV nv cv] 31))
      have hBA := below_alloc (Below.refl wr.heap.size wr) (.cells #[.string key, .string op, .slice AV nv cv] 31)
      obtain ⟨W4, hW4⟩ : ∃ W4, wr.alloc (.cells #[.string key, .string op, .slice AV nv cv] 31) = W4 := ⟨_, rfl⟩
      rw [hW4] at hbk HB2 hBA
      have hCV4 := Kd.C_below hCV hBA
      have d0 : W4.cell? ⟨wr.heap.size, 0, none⟩ = some (.string key) := (blk_cell hbk 0).trans rfl
      have d1 : W4.cell? ⟨wr.heap.size, 1, none⟩ = some (.string op) := (blk_cell hbk 1).trans rfl
      have d2 : W4.cell? ⟨wr.heap.size, 2, none⟩ = some (.slice AV nv cv) := (blk_cell hbk 2).trans rfl
      by_cases hk : r.1 = k
      rotate_left
      · have e0 : (key.toList == lab.toList) = false := by rw [hkey2, HKL.out]; simpa using hk
        have HN1 : Aside0 ((a, b) = stX (l.take (i + 1)) k) := ⟨by rw [hsn]; unfold mX; rw [show (r.1 == k) = false from by simpa using hk]; rfl⟩
        clear hr hnv hmem hsn hrw hst hwr hkey hop hkey2 hop2 hbk hBA hCV4 hCV hk
        go_wp2
        go_roundg (N - (i + 1))
        case measure => have := HI.out; omega
        case rel => exact ⟨i + 1, _, _, by go_num, rfl, rfl, ⟨by omega⟩, ⟨by exact HN1.out⟩, HB2⟩
      have e0 : (key.toList == lab.toList) = true := by rw [hkey2, HKL.out, hk]; exact beq_self_eq_true _
      have hkb : (r.1 == k) = true := by rw [hk]; exact beq_self_eq_true _
      have HSO := Aside0.mk (HSS.out r hmem AV cv nv hnv hnc W4 hCV4)
      rw [hnv] at HSO
      obtain ⟨ml, hml⟩ : ∃ ml, (setL r.2.2).length = ml := ⟨_, rfl⟩
      have HML := Aside0.mk hml
      by_cases ho1 : r.2.1 = [61]
      · obtain ⟨x, hx⟩ := hwr.n (by simp [ho1])
        have e1 : (op.toList == ([61] : List UInt8)) = true := by rw [hop2, ho1]; rfl
        obtain rfl : nv = 1 := by rw [← hnv, hx]; rfl
        rw [hx] at hCV4
        obtain ⟨vad, rfl, hv0⟩ := Kd.at_string hCV4 0 (by omega) (by omega)
        have ev : vad.add 0 = vad := by cases vad; rfl
        rw [show (0 : Int).toNat = 0 from rfl, ev] at hv0
        have hv1 : W4.cell? vad = some (.string (mk x)) := hv0
        clear hv0 ev
        have HN1 : Aside0 ((mk x, true) = stX (l.take (i + 1)) k) := ⟨by rw [hsn]; unfold mX; rw [hkb, ho1, hx]; rfl⟩
        clear hr hnv hmem hsn hrw hst hwr hkey hop hkey2 hop2 hbk hBA hCV4 hCV hk hkb ho1 hx hml HSO HML
        go_wp2
        go_roundg (N - (i + 1))
        case measure => have := HI.out; omega
        case rel => exact ⟨i + 1, _, _, by go_num, rfl, rfl, ⟨by omega⟩, ⟨by exact HN1.out⟩, HB2⟩
      by_cases ho2 : r.2.1 = [61, 61]
      · obtain ⟨x, hx⟩ := hwr.n (by simp [ho2])
        have e1 : (op.toList == ([61] : List UInt8)) = false := by rw [hop2, ho2]; rfl
        have e2 : (op.toList == ([61, 61] : List UInt8)) = true := by rw [hop2, ho2]; rfl
        obtain rfl : nv = 1 := by rw [← hnv, hx]; rfl
        rw [hx] at hCV4
        obtain ⟨vad, rfl, hv0⟩ := Kd.at_string hCV4 0 (by omega) (by omega)
        have ev : vad.add 0 = vad := by cases vad; rfl
        rw [show (0 : Int).toNat = 0 from rfl, ev] at hv0
        have hv1 : W4.cell? vad = some (.string (mk x)) := hv0
        clear hv0 ev
        have HN1 : Aside0 ((mk x, true) = stX (l.take (i + 1)) k) := ⟨by rw [hsn]; unfold mX; rw [hkb, ho2, hx]; rfl⟩
        clear hr hnv hmem hsn hrw hst hwr hkey hop hkey2 hop2 hbk hBA hCV4 hCV hk hkb ho1 ho2 hx hml HSO HML
        go_wp2
        go_roundg (N - (i + 1))
        case measure => have := HI.out; omega
        case rel => exact ⟨i + 1, _, _, by go_num, rfl, rfl, ⟨by omega⟩, ⟨by exact HN1.out⟩, HB2⟩
      have e1 : (op.toList == ([61] : List UInt8)) = false := by rw [hop2]; simpa using ho1
      have e2 : (op.toList == ([61, 61] : List UInt8)) = false := by rw [hop2]; simpa using ho2
      by_cases ho3 : r.2.1 = [105, 110]
      · have e3 : (op.toList == ([105, 110] : List UInt8)) = true := by rw [hop2, ho3]; rfl
        by_cases h1 : ml = 1
        · obtain ⟨x, hx⟩ := one_set hst (hml.trans h1)
          obtain rfl : nv = 1 := by rw [← hnv, hx]; rfl
          rw [hx] at hCV4
          obtain ⟨vad, rfl, hv0⟩ := Kd.at_string hCV4 0 (by omega) (by omega)
          have ev : vad.add 0 = vad := by cases vad; rfl
          rw [show (0 : Int).toNat = 0 from rfl, ev] at hv0
          have hv1 : W4.cell? vad = some (.string (mk x)) := hv0
          clear hv0 ev
          have HN1 : Aside0 ((mk x, true) = stX (l.take (i + 1)) k) := ⟨by rw [hsn]; unfold mX; rw [hkb, ho3, hml, h1, hx]; rfl⟩
          have n1 : ((ml : Int) == 1) = true := by rw [h1]; rfl
          clear hr hnv hmem hsn hrw hst hwr hkey hop hkey2 hop2 hbk hBA hCV4 hCV hk hkb ho1 ho2 ho3 hx hml h1
          go_wp2_with (first | ((with_reducible refine (HSO.out).mono ?_); rintro e w3 ⟨v3, rfl, hR_, hb⟩; obtain ⟨A6, c6, e6⟩ := Kd.R_slice hR_; rw [List.length_map, HML.out] at e6; subst e6; have HB3 := Aside0.mk (below_step HB2.out hb); have f0 := (hb.cell (World.block_lt_of_cell? _ _ d0)).trans d0; have f1 := (hb.cell (World.block_lt_of_cell? _ _ d1)).trans d1; have f2 := (hb.cell (World.block_lt_of_cell? _ _ d2)).trans d2; have fv := (hb.cell (World.block_lt_of_cell? _ _ hv1)).trans hv1; clear hR_ hb HSO))
          go_roundg (N - (i + 1))
          case measure => have := HI.out; omega
          case rel => exact ⟨i + 1, _, _, by go_num, rfl, rfl, ⟨by omega⟩, ⟨by exact HN1.out⟩, HB3⟩
        · have HN1 : Aside0 ((a, b) = stX (l.take (i + 1)) k) := ⟨by rw [hsn]; unfold mX; rw [hkb, ho3, hml, show (ml == 1) = false from by simpa using h1]; rfl⟩
          have n1 : ((ml : Int) == 1) = false := by simpa using fun h => h1 (by omega)
          clear hr hnv hmem hsn hrw hst hwr hkey hop hkey2 hop2 hbk hBA hCV4 hCV hk hkb ho1 ho2 ho3 hml h1
          go_wp2_with (first | ((with_reducible refine (HSO.out).mono ?_); rintro e w3 ⟨v3, rfl, hR_, hb⟩; obtain ⟨A6, c6, e6⟩ := Kd.R_slice hR_; rw [List.length_map, HML.out] at e6; subst e6; have HB3 := Aside0.mk (below_step HB2.out hb); have f0 := (hb.cell (World.block_lt_of_cell? _ _ d0)).trans d0; have f1 := (hb.cell (World.block_lt_of_cell? _ _ d1)).trans d1; have f2 := (hb.cell (World.block_lt_of_cell? _ _ d2)).trans d2;  clear hR_ hb HSO))
          go_roundg (N - (i + 1))
          case measure => have := HI.out; omega
          case rel => exact ⟨i + 1, _, _, by go_num, rfl, rfl, ⟨by omega⟩, ⟨by exact HN1.out⟩, HB3⟩
      · have e3 : (op.toList == ([105, 110] : List UInt8)) = false := by rw [hop2]; simpa using ho3
        have HN1 : Aside0 ((a, b) = stX (l.take (i + 1)) k) := ⟨by rw [hsn]; unfold mX; rw [hkb, show (r.2.1 == [61]) = false from by simpa using ho1, show (r.2.1 == [61, 61]) = false from by simpa using ho2, show (r.2.1 == [105, 110]) = false from by simpa using ho3]; rfl⟩
        clear hr hnv hmem hsn hrw hst hwr hkey hop hkey2 hop2 hbk hBA hCV4 hCV hk hkb ho1 ho2 ho3 hml HSO HML
        go_wp2
        go_roundg (N - (i + 1))
        case measure => have := HI.out; omega
        case rel => exact ⟨i + 1, _, _, by go_num, rfl, rfl, ⟨by omega⟩, ⟨by exact HN1.out⟩, HB2⟩
    · have hie : i = N := by have := HI.out; omega
      have hs := HST.out
      rw [List.take_of_length_le (by rw [HLN.out, hie]; exact Nat.le_refl _)] at hs
      rw [← hs] at HSX
      have HB6 := HB
      clear hie HB hs HST
      go_wp2_with (first | ((with_reducible refine (HWA.out _ HB6.out).mono ?_); rintro e w7 ⟨rfl, hb⟩; have HB7 := Aside0.mk (below_step HB6.out hb); clear hb HWA) | ((with_reducible refine (HSX.out _ HB7.out).mono ?_); rintro e w8 ⟨rfl, hb⟩; have HB8 := Aside0.mk (below_step HB7.out hb); clear hb HSX) | ((with_reducible refine (HSE.out _ HB8.out).mono ?_); rintro e w9 ⟨rfl, hb⟩; have HB9 := Aside0.mk (below_step HB8.out hb); clear hb HSE))
      go_ret
      exact ⟨rfl, HB9.out⟩
end Go.Proofs.YteigfmchnblkgaaGreatDoor.Hand
