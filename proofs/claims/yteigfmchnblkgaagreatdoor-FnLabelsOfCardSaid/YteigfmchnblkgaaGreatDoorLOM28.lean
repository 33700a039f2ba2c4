/- labels.ConvertSelectorToLabelsMap over a list of equalities; impl.LabelsOf. -/
import Derived.Test.YteigfmchnblkgaaGreatDoorLOM23
import Derived.Test.YteigfmchnblkgaaGreatDoorLOM24
import Derived.Test.YteigfmchnblkgaaGreatDoorLOM27
import Derived.Test.YteigfmchnblkgaaGreatDoorLOM22
import Derived.Tactics
import Derived.Tactics2
import Derived.Defers
import Derived.Recover
import Derived.Laws.Pointers
import Derived.Test.YteigfmchnblkgaaGreatDoorLOM18
import Derived.Test.YteigfmchnblkgaaGreatDoorLOGParC
import Derived.Test.YteigfmchnblkgaaGreatDoorLOGSelB
namespace Go.Proofs.YteigfmchnblkgaaGreatDoor.Hand
open Go.RowKit Go.Maps Go.Proofs.YteigfmchnblkgaaGreatDoorW.PrintWords Go.Proofs.YteigfmchnblkgaaGreatDoorW.PrintLast Go.Proofs.YteigfmchnblkgaaGreatDoorW.PrintMore Go.Proofs.YteigfmchnblkgaaGreatDoor.Base
open Go.Sort (ltStr)
set_option linter.unusedVariables false
set_option linter.unusedSimpArgs false
set_option maxRecDepth 100000
/-- An equality as it is written, with blanks around its key and its value. -/
structure Eqn where
  a : L
  k : L
  b : L
  c : L
  v : L
  d : L
def Eqn.left (e : Eqn) : L := e.a ++ e.k ++ e.b
def Eqn.right (e : Eqn) : L := e.c ++ e.v ++ e.d
def Eqn.text (e : Eqn) : L := e.left ++ 61 :: e.right
def Eqn.pr (e : Eqn) : LP := (e.k, e.v)
structure Eqn.Ok (e : Eqn) : Prop where
  ba : e.a.all isBl = true
  bb : e.b.all isBl = true
  bc : e.c.all isBl = true
  bd : e.d.all isBl = true
  key : pQ e.k = true
  val : pValue e.v = true
  ne : e.v ≠ []
  sz : e.left.length + e.right.length ≤ 10000
theorem pc_none {c : UInt8} : ∀ {n : L}, c ∉ n → pieces c n = [n]
  | [], _ => rfl
  | b :: t, h => by
    unfold pieces
    rw [if_neg (fun e => h (by simp [e])), pc_none (fun hm => h (by simp [hm]))]
    simp [glue]
theorem pc_app {c : UInt8} : ∀ {n : L} (t : L), c ∉ n → pieces c (n ++ c :: t) = n :: pieces c t
  | [], t, _ => by simp [pieces]
  | b :: n, t, h => by
    have e : pieces c (b :: (n ++ c :: t)) = if b = c then [] :: pieces c (n ++ c :: t) else glue [b] (pieces c (n ++ c :: t)) := rfl
    rw [List.cons_append, e, if_neg (fun e => h (by simp [e])), pc_app t (fun hm => h (by simp [hm]))]
    simp [glue]
theorem nmB_solid {c : UInt8} (h : nmB c = true) : isSolid c = true := by
  unfold isSolid
  rw [Bool.and_eq_true, decide_eq_true_eq, decide_eq_true_eq]
  have hl := c.toNat_lt
  by_cases h1 : 33 ≤ c.toNat
  · by_cases h2 : c.toNat < 128
    · exact ⟨h1, h2⟩
    · exfalso
      unfold nmB alnum at h
      simp only [Bool.or_eq_true, beq_iff_eq] at h
      revert h
      unfold small
      simp only [Bool.and_eq_true, Bool.or_eq_true, decide_eq_true_eq, UInt8.le_iff_toNat_le, ← UInt8.toNat_inj]
      simp
      omega
  · exfalso
    unfold nmB alnum at h
    simp only [Bool.or_eq_true, beq_iff_eq] at h
    revert h
    unfold small
    simp only [Bool.and_eq_true, Bool.or_eq_true, decide_eq_true_eq, UInt8.le_iff_toNat_le, ← UInt8.toNat_inj]
    simp
    omega
theorem solid_ends {x : L} (h : x.all nmB = true) (hn : x ≠ []) : ∃ c d y1 y2, x = c :: y1 ∧ x = y2 ++ [d] ∧ isSolid c = true ∧ isSolid d = true := by
  have hall := List.all_eq_true.1 h
  obtain ⟨c, y1, hc⟩ : ∃ c y1, x = c :: y1 := by
    cases x with
    | nil => exact absurd rfl hn
    | cons a l => exact ⟨a, l, rfl⟩
  refine ⟨c, x.getLast hn, y1, x.dropLast, hc, (List.dropLast_concat_getLast hn).symm, nmB_solid (hall c (by rw [hc]; simp)), nmB_solid (hall _ (List.getLast_mem hn))⟩
theorem bl_ne {a : L} (h : a.all isBl = true) {c : UInt8} (hc : isBl c = false) : c ∉ a := fun hm => by
  have := List.all_eq_true.1 h c hm
  rw [hc] at this; cases this
theorem nm_ne {a : L} (h : a.all nmB = true) {c : UInt8} (hc : nmB c = false) : c ∉ a := fun hm => by
  have := List.all_eq_true.1 h c hm
  rw [hc] at this; cases this
theorem Eqn.Ok.nmk {e : Eqn} (h : e.Ok) : e.k.all nmB = true ∧ e.k ≠ [] := pQ_all h.key
theorem Eqn.Ok.nmv {e : Eqn} (h : e.Ok) : e.v.all nmB = true := pValue_all h.val
theorem Eqn.Ok.out {e : Eqn} (h : e.Ok) {c : UInt8} (h1 : isBl c = false) (h2 : nmB c = false) : c ∉ e.left ∧ c ∉ e.right := by
  unfold Eqn.left Eqn.right
  simp only [List.mem_append]
  exact ⟨fun hm => by
    rcases hm with (hm | hm) | hm
    · exact bl_ne h.ba h1 hm
    · exact nm_ne h.nmk.1 h2 hm
    · exact bl_ne h.bb h1 hm, fun hm => by
    rcases hm with (hm | hm) | hm
    · exact bl_ne h.bc h1 hm
    · exact nm_ne h.nmv h2 hm
    · exact bl_ne h.bd h1 hm⟩
theorem Eqn.Ok.split {e : Eqn} (h : e.Ok) : pieces 61 e.text = [e.left, e.right] := by
  obtain ⟨h1, h2⟩ := h.out (c := 61) (by decide) (by decide)
  unfold Eqn.text
  rw [pc_app _ h1, pc_none h2]
/-- The cells of a slice of two texts. -/
theorem two_at {w : World} {A : Option Addr} {p q : ByteArray} (h : Kd.C Kd.string w A 2 [p, q]) : ∃ ad, A = some ad ∧ w.cell? ad = some (.string p) ∧ w.cell? ⟨ad.block, ad.off + 1, none⟩ = some (.string q) := by
  obtain ⟨ad, e0, h0⟩ := Kd.at_string h 0 (by omega) (by omega)
  obtain ⟨ad', e1, h1⟩ := Kd.at_string h 1 (by omega) (by omega)
  have e : ad' = ad := by rw [e0] at e1; exact (Option.some.inj e1).symm
  subst e
  refine ⟨ad', e0, ?_, h1.trans rfl⟩
  have : ad'.add (0 : Int).toNat = ad' := by cases ad'; rfl
  rw [this] at h0
  exact h0.trans rfl
set_option maxHeartbeats 8000000 in
theorem Cvt_calls (es : List Eqn) (hok : ∀ e ∈ es, e.Ok) (hne : es.length ≤ 1000) (x : L) (hx : pieces 44 x = es.map Eqn.text) (hx0 : x ≠ []) (hxl : x.length ≤ 100000) (w : World) (hT : TV w) :
    Calls Tryz.prog 75 #[.string (mk x)] w fun e w' => ∃ N : Nat, e = .returned (.tuple #[.map (some w.heap.size), .nilIface]) ∧ IsLz w' w.heap.size N (es.map Eqn.pr).reverse ∧ Below w.heap.size w w' := by
  have HOK := Aside0.mk hok
  have HT := Aside0.mk hT
  have HSP := Aside0.mk (LSplit_calls 44 (mk x) (by rw [mk_size]; omega))
  rw [show (mk x).data.toList = x from by simp [mk], hx] at HSP
  have HS2 : Aside0 (∀ e ∈ es, ∀ W : World, Calls Tryz.prog 92 #[.string (mk e.text), .string (mk [61])] W fun e1 w' => ∃ v0_ : Value, e1 = .returned (v0_) ∧ Kd.R Kd.string 9 w' W.heap.size (fun _ => True) v0_ [mk e.left, mk e.right] ∧ Below W.heap.size W w') := ⟨fun e he W => by
    have h := LSplit_calls 61 (mk e.text) (by rw [mk_size]; have := (hok e he).sz; unfold Eqn.text; simp only [List.length_append, List.length_cons]; omega) W
    rw [show (mk e.text).data.toList = e.text from by simp [mk], (hok e he).split] at h
    exact h⟩
  have hl0 : (((mk x).size : Nat) : Int) ≠ 0 := by rw [mk_size]; have : 0 < x.length := List.length_pos_iff.2 hx0; omega
  have hl1 : ((((mk x).size : Nat) : Int) == 0) = false := by rw [beq_eq_false_iff_ne]; exact hl0
  have hl2 : ((mk x).size == 0) = false := by rw [beq_eq_false_iff_ne]; omega
  have hmm := @run_makeMap Tryz.prog
  have HB0 := Aside0.mk (below_alloc (Below.refl w.heap.size w) (.map #[] 0))
  have HI0 := Aside0.mk (IsLz.made w)
  have HMK : Aside0 (mk [44] = ⟨#[44]⟩ ∧ mk [61] = ⟨#[61]⟩) := ⟨rfl, rfl⟩
  rw [HMK.out.1] at HSP
  rw [HMK.out.2] at HS2
  obtain ⟨s, hs⟩ : ∃ s, mk x = s := ⟨_, rfl⟩
  rw [hs] at HSP hl0 hl1 hl2 ⊢
  obtain ⟨n, hn⟩ : ∃ n, es.length = n := ⟨_, rfl⟩
  have HN := Aside0.mk hn
  have hn2 : n ≤ 1000 := by omega
  clear hok hT hx hx0 hxl hs hne hn
  go_enter Tryz.func75, Tryz.ntmps75
  go_wp2_with (first
    | ((with_reducible refine (HSP.out _).mono ?_); rintro e w2 ⟨v5, rfl, hr, hb⟩; have HB2 := Aside0.mk (below_step HB0.out hb); (obtain ⟨A5, c5, e5⟩ := Kd.R_slice hr); rw [List.length_map, List.length_map, HN.out] at e5; subst e5; have HR2 := Aside0.mk hr; have HI2 := Aside0.mk (HI0.out.below hb); clear hr hb HSP))
  clear hmm HB0 HI0
  go_loopg [7, 8, 9, 10, 11, 12, 22] (n) (fun g v7 v8 v9 v10 v11 v12 v22 w' => ∃ (j N : Nat), v22 = .int .i64 j ∧ Aside0 (g + j = n) ∧ Aside0 (IsLz w' w.heap.size N ((es.take j).map Eqn.pr).reverse ∧ N ≤ j) ∧ Aside0 (Below w.heap.size w w') ∧ Aside0 (Kd.R Kd.string 9 w' (w.alloc (.map #[] 0)).heap.size (fun _ => True) (.slice A5 n c5) ((es.map Eqn.text).map mk)))
  case atStart => exact ⟨0, 0, rfl, ⟨by omega⟩, ⟨HI2.out, Nat.le_refl _⟩, HB2, HR2⟩
  case round =>
    clear HI2 HB2 HR2
    obtain ⟨j, N, rfl, HJ, HI, HB, HR⟩ := hrel
    have hC := (Kd.R_reads' HR.out).2.2
    have hj : j ≤ n := by have := HJ.out; omega
    by_cases hjl : j < n
    · have hje : j < es.length := by rw [HN.out]; exact hjl
      obtain ⟨e, he⟩ : ∃ e, es[j] = e := ⟨_, rfl⟩
      have hem : e ∈ es := by rw [← he]; exact List.getElem_mem _
      have HE := Aside0.mk (HOK.out e hem)
      obtain ⟨ad, rfl, hk0⟩ := Kd.at_string (n := n) (by first | exact hC | (rw [List.length_map, List.length_map, HN.out] at hC; exact hC)) (j : Int) (by omega) (by omega)
      rw [Int.toNat_natCast] at hk0
      have hg : rdOf ByteArray.empty ((es.map Eqn.text).map mk) (j : Int) = mk e.text := by
        unfold rdOf
        rw [Int.toNat_natCast, List.getD_eq_getElem?_getD, List.getElem?_map, List.getElem?_map, List.getElem?_eq_getElem hje, he]; rfl
      rw [hg] at hk0
      have HTK : Aside0 (((es.take (j + 1)).map Eqn.pr).reverse = (e.k, e.v) :: ((es.take j).map Eqn.pr).reverse) := ⟨by
        rw [List.take_succ_eq_append_getElem hje, he, List.map_append, List.reverse_append]; rfl⟩
      have HSV := Aside0.mk (HS2.out e hem)
      obtain ⟨kc, kd, ky1, ky2, hk1, hk2, hk3, hk4⟩ := solid_ends HE.out.nmk.1 HE.out.nmk.2
      obtain ⟨vc, vd, vy1, vy2, hv1, hv2, hv3, hv4⟩ := solid_ends HE.out.nmv HE.out.ne
      have hsl : e.left.length ≤ 100000 ∧ e.right.length ≤ 100000 := by have := HE.out.sz; omega
      have HTR1 := Aside0.mk (fun W => Trim_calls e.a e.k e.b HE.out.ba HE.out.bb kc kd ky1 ky2 hk1 hk2 hk3 hk4 hsl.1 W)
      have HTR2 := Aside0.mk (fun W => Trim_calls e.c e.v e.d HE.out.bc HE.out.bd vc vd vy1 vy2 hv1 hv2 hv3 hv4 hsl.2 W)
      rw [show e.a ++ e.k ++ e.b = e.left from rfl] at HTR1
      rw [show e.c ++ e.v ++ e.d = e.right from rfl] at HTR2
      have hks : (mk e.k).size ≤ 10000 := by rw [mk_size]; have h1 := HE.out.sz; unfold Eqn.left at h1; simp only [List.length_append] at h1; omega
      have hvs : (mk e.v).size ≤ 10000 := by rw [mk_size]; have h1 := HE.out.sz; unfold Eqn.right at h1; simp only [List.length_append] at h1; omega
      have HVK := Aside0.mk (fun W hT => vKey_calls (mk e.k) (by omega) W hT)
      rw [show pQ (mk e.k).data.toList = true from by rw [show (mk e.k).data.toList = e.k from by simp [mk]]; exact HE.out.key] at HVK
      have HVV := Aside0.mk (fun W => vValue_calls (mk e.k) (mk e.v) (by omega) W)
      rw [show pValue (mk e.v).data.toList = true from by rw [show (mk e.v).data.toList = e.v from by simp [mk]]; exact HE.out.val] at HVV
      simp only [if_true] at HVK HVV
      obtain ⟨sk, hsk⟩ : ∃ sk, mk e.k = sk := ⟨_, rfl⟩
      obtain ⟨sv, hsv⟩ : ∃ sv, mk e.v = sv := ⟨_, rfl⟩
      obtain ⟨sl, hsl2⟩ : ∃ sl, mk e.left = sl := ⟨_, rfl⟩
      obtain ⟨sr, hsr⟩ : ∃ sr, mk e.right = sr := ⟨_, rfl⟩
      obtain ⟨st, hst⟩ : ∃ st, mk e.text = st := ⟨_, rfl⟩
      rw [hsl2, hsk] at HTR1
      rw [hsr, hsv] at HTR2
      rw [hsl2, hsr, hst] at HSV
      rw [hsk] at HVK hks
      rw [hsk, hsv] at HVV
      rw [hsv] at hvs
      rw [hst] at hk0
      have HKV : Aside0 ((e.k, e.v) = (sk.data.toList, sv.data.toList)) := ⟨by rw [← hsk, ← hsv]; simp [mk]⟩
      have HBW := HB
      have HIZ := Aside0.mk HI.out.1
      have HNJ : Aside0 (N ≤ j) := ⟨HI.out.2⟩
      have hsks : sk.size ≤ 140737488351232 := by omega
      have hsvs : sv.size ≤ 140737488351232 := by omega
      clear hC he hem hg HE hk1 hk2 hk3 hk4 hv1 hv2 hv3 hv4 hsl hsk hsv hsl2 hsr hst HI hje
      go_wp2_with (first
        | ((with_reducible refine (HSV.out _).mono ?_); rintro e1 w3 ⟨v8, rfl, hr, hb⟩; have HB3 := Aside0.mk (below_step HBW.out hb); have HBX3 := Aside0.mk (Kd.R_below HR.out hb); (obtain ⟨A8, c8, e8⟩ := Kd.R_slice hr); rw [show ([sl, sr] : List ByteArray).length = 2 from rfl] at e8; subst e8; have HC3 : Aside0 (Kd.C Kd.string w3 A8 2 [sl, sr]) := ⟨(Kd.R_reads' hr).2.2⟩; (obtain ⟨a8, rfl, f0, f1⟩ := two_at HC3.out); have HI3 := Aside0.mk (HIZ.out.below hb); clear hr hb HSV)
        | ((with_reducible refine (HTR1.out _).mono ?_); rintro e1 w4 ⟨rfl, hd⟩; (obtain ⟨nd, rfl⟩ := hd); clear HTR1)
        | ((with_reducible refine (HVK.out _ (HT.out.below (pw_below_drewN HB3.out nd))).mono ?_); rintro e1 w5 ⟨rfl, hb⟩; have HB5 := Aside0.mk (below_step (pw_below_drewN HB3.out nd) hb); have HBX5 := Aside0.mk (Kd.R_below (Kd.R_drewN HBX3.out nd) hb); have HC5 := Aside0.mk (Kd.C_below (Kd.C_drewN HC3.out nd) hb); (obtain ⟨a8', ea8, g0, g1⟩ := two_at HC5.out); (obtain rfl := Option.some.inj ea8); have HI5 := Aside0.mk ((HI3.out.below (pw_below_drewN (Below.refl _ _) nd)).below hb); clear hb HVK)
        | ((with_reducible refine (HTR2.out _).mono ?_); rintro e1 w6 ⟨rfl, hd⟩; (obtain ⟨nd2, rfl⟩ := hd); clear HTR2)
        | ((with_reducible refine (HVV.out _).mono ?_); rintro e1 w7 ⟨rfl, hb⟩; have HB7 := Aside0.mk (below_step (pw_below_drewN HB5.out nd2) hb); have HBX7 := Aside0.mk (Kd.R_below (Kd.R_drewN HBX5.out nd2) hb); have HI7 := Aside0.mk ((HI5.out.below (pw_below_drewN (Below.refl _ _) nd2)).below hb); clear hb HVV)
        | (at_mapUpdate; refine set_lab _ rfl _ _ _ rfl w.heap.size N _ rfl HI7.out (by have := HNJ.out; omega) sk sv hsks hsvs rfl rfl ?_; intro w8 hi8 hg8; have HI8 := Aside0.mk hi8; have HB8 := Aside0.mk (pw_below_grown HB7.out (some w.heap.size) (below_size HB7.out) hg8 (fun k hk => by cases hk; exact Nat.le_refl _)); have HR8 := Aside0.mk (Kd.R_grown1 HBX7.out rfl hg8 (fun he => by have h9 := Kd.R_base HBX7.out _ he.symm; rw [show (w.alloc (.map #[] 0)).heap.size = w.heap.size + 1 from Array.size_push _] at h9; omega)); clear hi8 hg8))
      go_roundg (n - (j + 1))
      case measure => have := HJ.out; omega
      case rel => exact ⟨j + 1, N + 1, by go_num, ⟨by omega⟩, ⟨by rw [HTK.out, HKV.out]; exact HI8.out, by have := HNJ.out; omega⟩, HB8, HR8⟩
    · have hje : j = n := by omega
      have hi := HI.out.1
      rw [hje, List.take_of_length_le (by rw [HN.out]; exact Nat.le_refl _)] at hi
      have HIF := Aside0.mk hi
      have HBW := HB
      clear hi HI hC
      go_wp2
      go_ret2
      exact ⟨N, rfl, HIF.out, HBW.out⟩
theorem LO_idle (p q : Addr) (w : World) :
    CallsD Tryz.prog 74 #[.pointer (some p), .pointer (some q)] .returning w fun e u' w' => e = .returned (.tuple #[]) ∧ u' = .returning ∧ w' = w := by
  refine callsD_of_wpS Tryz.func74 rfl fun c₀ cs hu => ?_
  apply wpS_seq
  apply wpS_region
  simp [wpOpsS, go_sem, recoverD, hu, Tryz.ntmps74, Exit.thenS]
  refine wpS_cond (t := false) (by simp [Act.eval, Array.replicate]) ?_
  simp only [Bool.false_eq_true, if_false]
  refine wpS_of_wp (wp_skip ?_)
  cases c₀
  simp_all [bodyPostS, results, Tryz.results74]
theorem out2p {w1 : World} {p q : Nat} {b0 i0 : Value} (hpq : p ≠ q) (HP : w1.heap[p]? = some (.cells #[b0] 22 (0, 0))) (HQ : w1.heap[q]? = some (.cells #[i0] 3 (0, 0))) (v u : Value) :
    w1.cell? ⟨p, 0, none⟩ = some b0 ∧ w1.frozen? ⟨p, 0, none⟩ = false ∧ (w1.setCell ⟨p, 0, none⟩ v).cell? ⟨q, 0, none⟩ = some i0 ∧ (w1.setCell ⟨p, 0, none⟩ v).frozen? ⟨q, 0, none⟩ = false ∧ ((w1.setCell ⟨p, 0, none⟩ v).setCell ⟨q, 0, none⟩ u).cell? ⟨p, 0, none⟩ = some v ∧ ((w1.setCell ⟨p, 0, none⟩ v).setCell ⟨q, 0, none⟩ u).cell? ⟨q, 0, none⟩ = some u := by
  have hQ4 := blk_far HQ (p := ⟨p, 0, none⟩) (show q ≠ p by omega) v
  have hP4 := blk_put HP 0 v (cs' := #[v]) rfl
  have HP5 := blk_far hP4 (p := ⟨q, 0, none⟩) (show p ≠ q by omega) u
  have HQ5 := blk_put hQ4 0 u (cs' := #[u]) rfl
  exact ⟨(blk_cell HP 0).trans rfl, blk_frozen HP 0, (blk_cell hQ4 0).trans rfl, blk_frozen hQ4 0, (blk_cell HP5 0).trans rfl, (blk_cell HQ5 0).trans rfl⟩
set_option maxHeartbeats 8000000 in
theorem LabelsOf_calls (es : List Eqn) (hok : ∀ e ∈ es, e.Ok) (hne : es.length ≤ 1000) (x : L) (hx : pieces 44 x = es.map Eqn.text) (hx0 : x ≠ []) (hxl : x.length ≤ 2000) (w : World) (hT : TV w) :
    Calls Tryz.prog 43 #[.string (mk x)] w fun e w' => ∃ v : Value, e = .returned (.tuple #[v, .int .i64 0]) ∧ PK.R 45 w' w.heap.size (fun _ => True) v ((keyL (es.map Eqn.pr)).map mkP) ∧ Below w.heap.size w w' := by
  have hmf : ∀ (fn : Fn) (first cap : Array Value) (w : World), (Instr.makeFunc fn first cap).run Tryz.prog w = .ok (.func fn first cap) w := fun _ _ _ _ => rfl
  have HC := Aside0.mk (fun (W : World) (hb : Below w.heap.size w W) => Cvt_calls es hok hne x hx hx0 (by omega) W (hT.below hb))
  have hdk : (dk (es.map Eqn.pr).reverse).length ≤ 1000 := Nat.le_trans (dk_le _) (by rw [List.length_reverse, List.length_map]; exact hne)
  have HPR := Aside0.mk (fun b N W h => Pairs_calls b N (es.map Eqn.pr).reverse hdk W h)
  have hsz2 : ¬ 2000 < (mk x).size := by rw [mk_size]; omega
  obtain ⟨s, hs⟩ : ∃ s, mk x = s := ⟨_, rfl⟩
  rw [hs] at HC hsz2 ⊢
  obtain ⟨W3, hW3⟩ : ∃ W3, (w.alloc (.cells #[.slice none 0 0] 22)).alloc (.cells #[.int .i64 0] 3) = W3 := ⟨_, rfl⟩
  have HB3 : Aside0 (Below w.heap.size w W3) := ⟨by rw [← hW3]; exact below_alloc (below_alloc (Below.refl _ _) _) _⟩
  have HP3 : Aside0 (W3.heap[w.heap.size]? = some (.cells #[.slice none 0 0] 22 (0, 0))) := ⟨by rw [← hW3]; exact blk_alloc (heap_alloc_new w _) _⟩
  have HQ3 : Aside0 (W3.heap[w.heap.size + 1]? = some (.cells #[.int .i64 0] 3 (0, 0))) := ⟨by
    have := heap_alloc_new (w.alloc (.cells #[.slice none 0 0] 22)) (.cells #[.int .i64 0] 3)
    rw [hW3] at this; simpa using this⟩
  have HS3 : Aside0 (W3.heap.size = w.heap.size + 2) := ⟨by rw [← hW3]; simp⟩
  clear hT hok hne hx hx0 hxl hs hdk
  go_enter_defers Tryz.func43, Tryz.ntmps43
  go_wp2_with (first
    | ((with_reducible refine (HC.out _ HB3.out).mono ?_); rintro e w4 ⟨N, rfl, hi, hb⟩; have HI4 := Aside0.mk hi; have HB4 := Aside0.mk hb; clear hi hb HC)
    | ((with_reducible refine (HPR.out _ _ _ HI4.out).mono ?_); rintro e w5 ⟨v, xs, rfl, hr, hsk, hmem, hb⟩; (obtain ⟨AV, cV, hvV⟩ := Kd.R_slice hr); subst hvV; have hb5 := below_step HB4.out hb; have HB := below_step HB3.out hb5; (obtain ⟨o1, o2, o3, o4, o5, o6⟩ := out2p (by omega) ((hb5.block _ (by rw [HS3.out]; omega)).trans HP3.out) ((hb5.block _ (by rw [HS3.out]; omega)).trans HQ3.out) (.slice AV (xs.map mkP).length cV) (.int .i64 0)); have HBE := Aside0.mk (below_set (below_set HB (Nat.le_refl w.heap.size) (j := 0) (v := .slice AV (xs.map mkP).length cV)) (show w.heap.size ≤ w.heap.size + 1 by omega) (j := 0) (v := .int .i64 0)); have hwz := below_size hb; have hr4 := Kd.R_mono (ok' := fun k => w.heap.size + 2 ≤ k) (Kd.R_bound hr) (fun k hk => by have h9 := hk.2.1; have h8 := below_size HB4.out; rw [HS3.out] at h8; omega); have HRE := Aside0.mk (Kd.R_far (Kd.R_far hr4 (p := ⟨w.heap.size, 0, none⟩) (fun k hk => by show k ≠ w.heap.size; omega) (.slice AV (xs.map mkP).length cV)) (p := ⟨w.heap.size + 1, 0, none⟩) (fun k hk => by show k ≠ w.heap.size + 1; omega) (.int .i64 0)); have HWZ := Aside0.mk (below_size (below_step HB3.out HB4.out)); have HXS : Aside0 (xs = keyL (es.map Eqn.pr)) := ⟨sk_ext hsk (keyL_mem _).1 (fun q => by (obtain ⟨k, v⟩ := q); rw [hmem, (keyL_mem _).2])⟩; (obtain ⟨qn, hqn⟩ : ∃ qn, (xs.map mkP).length = qn := ⟨_, rfl⟩); rw [hqn] at o3 o4 o5 o6 HBE HRE ⊢; clear hr hsk hmem hb hb5 HB hr4 hwz hqn HPR))
  refine leaves_cons (f := 74) (args := #[.pointer (some ⟨w.heap.size, 0, none⟩), .pointer (some ⟨w.heap.size + 1, 0, none⟩)]) (by simp) (by simp [go_sem]) ?_
  refine (LO_idle ⟨w.heap.size, 0, none⟩ ⟨w.heap.size + 1, 0, none⟩ _).mono ?_
  rintro e u' w'' ⟨rfl, rfl, rfl⟩
  simp [Leaves, settle, results, Tryz.results43, go_sem, o5, o6, Result.andThen]
  refine ⟨?_, HBE.out⟩
  rw [← HXS.out]
  exact pk_all (Kd.R_lower HRE.out HWZ.out)
end Go.Proofs.YteigfmchnblkgaaGreatDoor.Hand

/- Labels written freely as a selector of equalities: its pieces between commas. No program in sight. -/
namespace Go.Proofs.YteigfmchnblkgaaGreatDoor.Hand
open Go.RowKit Go.Maps Go.Proofs.YteigfmchnblkgaaGreatDoorW.PrintWords Go.Proofs.YteigfmchnblkgaaGreatDoorW.PrintLast Go.Proofs.YteigfmchnblkgaaGreatDoorW.PrintMore Go.Proofs.YteigfmchnblkgaaGreatDoor.Base
set_option linter.unusedVariables false
set_option linter.unusedSimpArgs false
abbrev rqE (p : LP) : Rq := (p.1, [61], [p.2])
def FairP (p : LP) : Prop := pQ p.1 = true ∧ pValue p.2 = true ∧ p.2 ≠ []
theorem blank_bl (c : UInt8) : (blankL c).all isBl = true := by
  unfold blankL
  repeat (first | rfl | split)
theorem gap_bl (cs : L) : (gapL cs).all isBl = true := by
  cases cs with
  | nil => rfl
  | cons c r => exact blank_bl c
theorem pcsE (k v : L) : pcsR k [61] [v] = [.str k, .gap, .str [61], .gap, .str v] := by
  unfold pcsR
  rw [if_neg (by decide), if_neg (by decide), if_neg (by unfold oIn; decide), if_neg (by decide), if_neg (by decide)]
  rfl
theorem pValue_len {x : L} (h : pValue x = true) : x.length ≤ 63 := by
  unfold pValue most at h
  simp only [Bool.and_eq_true, decide_eq_true_eq] at h
  exact h.1
theorem outE (k v : L) (rest : List Pc) (cs : L) : outL (pcsR k [61] [v] ++ .gap :: rest) cs = k ++ (gapL cs ++ ([61] ++ (gapL cs.tail ++ (v ++ (gapL cs.tail.tail ++ outL rest cs.tail.tail.tail))))) := by
  rw [pcsE]; rfl
def eqnOf (a0 : L) (p : LP) (cs : L) : Eqn := ⟨a0, p.1, gapL cs, gapL cs.tail, p.2, gapL cs.tail.tail⟩
theorem eqnOf_ok {a0 : L} {p : LP} (cs : L) (ha : a0.all isBl = true) (hl : a0.length ≤ 2) (hp : FairP p) : (eqnOf a0 p cs).Ok := by
  refine ⟨ha, gap_bl _, gap_bl _, gap_bl _, hp.1, hp.2.1, hp.2.2, ?_⟩
  have h1 := pQ_len hp.1
  have h2 := pValue_len hp.2.1
  have g1 := gapL_len cs
  have g2 := gapL_len cs.tail
  have g3 := gapL_len cs.tail.tail
  simp only [eqnOf, Eqn.left, Eqn.right, List.length_append]
  omega
theorem eqnOf_len {a0 : L} {p : LP} (cs : L) (hl : a0.length ≤ 2) : (eqnOf a0 p cs).text.length ≤ p.1.length + p.2.length + 9 := by
  have g1 := gapL_len cs
  have g2 := gapL_len cs.tail
  have g3 := gapL_len cs.tail.tail
  simp only [eqnOf, Eqn.text, Eqn.left, Eqn.right, List.length_append, List.length_cons]
  omega
theorem eqn_no44 {e : Eqn} (h : e.Ok) : (44 : UInt8) ∉ e.text := by
  obtain ⟨h1, h2⟩ := h.out (c := 44) (by decide) (by decide)
  unfold Eqn.text
  rw [List.mem_append, List.mem_cons]
  rintro (hm | hm | hm)
  · exact h1 hm
  · cases hm
  · exact h2 hm
theorem free_eqns : ∀ (l : List LP) (p : LP) (a0 cs : L), a0.all isBl = true → a0.length ≤ 2 → FairP p → (∀ q ∈ l, FairP q) →
    ∃ es : List Eqn, pieces 44 (a0 ++ outL (pcsR p.1 [61] [p.2] ++ .gap :: (l.map rqE).flatMap pcF) cs) = es.map Eqn.text ∧ es.map Eqn.pr = p :: l ∧ (∀ e ∈ es, e.Ok) ∧
      (a0 ++ outL (pcsR p.1 [61] [p.2] ++ .gap :: (l.map rqE).flatMap pcF) cs).length ≤ ((p :: l).map fun q => q.1.length + q.2.length + 10).sum
  | [], p, a0, cs, ha, hl, hp, _ => by
    have hok := eqnOf_ok cs ha hl hp
    have he : a0 ++ outL (pcsR p.1 [61] [p.2] ++ .gap :: (([] : List LP).map rqE).flatMap pcF) cs = (eqnOf a0 p cs).text := by
      rw [outE]
      show a0 ++ (p.1 ++ (gapL cs ++ ([61] ++ (gapL cs.tail ++ (p.2 ++ (gapL cs.tail.tail ++ [])))))) = _
      simp [eqnOf, Eqn.text, Eqn.left, Eqn.right]
    refine ⟨[eqnOf a0 p cs], ?_, rfl, fun e h => ?_, ?_⟩
    · rw [he, pc_none (eqn_no44 hok)]; rfl
    · rw [List.mem_singleton.1 h]; exact hok
    · rw [he]
      have := eqnOf_len (p := p) cs hl
      simp only [List.map_cons, List.map_nil, List.sum_cons, List.sum_nil]
      omega
  | q :: l, p, a0, cs, ha, hl, hp, hq => by
    have hok := eqnOf_ok cs ha hl hp
    obtain ⟨es, h1, h2, h3, h4⟩ := free_eqns l q (gapL cs.tail.tail.tail) cs.tail.tail.tail.tail (gap_bl _) (gapL_len _) (hq q (by simp)) (fun r hr => hq r (by simp [hr]))
    have he : a0 ++ outL (pcsR p.1 [61] [p.2] ++ .gap :: ((q :: l).map rqE).flatMap pcF) cs = (eqnOf a0 p cs).text ++ 44 :: (gapL cs.tail.tail.tail ++ outL (pcsR q.1 [61] [q.2] ++ .gap :: (l.map rqE).flatMap pcF) cs.tail.tail.tail.tail) := by
      rw [outE]
      have e2 : ((q :: l).map rqE).flatMap pcF = .str [44] :: .gap :: (pcsR q.1 [61] [q.2] ++ .gap :: (l.map rqE).flatMap pcF) := by
        rw [List.map_cons, List.flatMap_cons]
        simp [pcF]
      rw [e2]
      show a0 ++ (p.1 ++ (gapL cs ++ ([61] ++ (gapL cs.tail ++ (p.2 ++ (gapL cs.tail.tail ++ ([44] ++ (gapL cs.tail.tail.tail ++ outL (pcsR q.1 [61] [q.2] ++ .gap :: (l.map rqE).flatMap pcF) cs.tail.tail.tail.tail)))))))) = _
      simp [eqnOf, Eqn.text, Eqn.left, Eqn.right]
    refine ⟨eqnOf a0 p cs :: es, ?_, ?_, fun e h => ?_, ?_⟩
    · rw [he, pc_app _ (eqn_no44 hok), h1]; rfl
    · rw [List.map_cons, h2]; rfl
    · rcases List.mem_cons.1 h with e1 | e1
      · rw [e1]; exact hok
      · exact h3 e e1
    · rw [he, List.length_append, List.length_cons]
      have := eqnOf_len (p := p) cs hl
      rw [List.map_cons, List.sum_cons]
      omega
/-- How many bytes labels have, two more for each one. -/
def lbB (l : List LP) : Nat := (l.map fun q => q.1.length + q.2.length + 2).sum
theorem sum10 : ∀ l : List LP, (l.map fun q => q.1.length + q.2.length + 10).sum = lbB l + 8 * l.length
  | [] => rfl
  | p :: l => by
    have ih := sum10 l
    unfold lbB at ih ⊢
    simp only [List.map_cons, List.sum_cons, List.length_cons] at ih ⊢
    omega
theorem fair_word {p : LP} (h : FairP p) : WordR p.1 [61] [p.2] ∧ p.1.length + totL [p.2] ≤ 7000 := by
  have hf : fairR p.1 [61] [p.2] = true := by
    unfold fairR
    rw [show opOk [61] [p.2] = true from rfl, h.1]
    simp [h.2.1]
  refine ⟨(fair_words hf (fun v hv => by rw [List.mem_singleton.1 hv]; exact h.2.2)).1, ?_⟩
  have h1 := pQ_len h.1
  have h2 := pValue_len h.2.1
  simp only [totL, List.map_cons, List.map_nil, List.sum_cons, List.sum_nil]
  omega
end Go.Proofs.YteigfmchnblkgaaGreatDoor.Hand

/- Requirements in a row whose values' slices are told by themselves. (Lines of LawSO.) -/
namespace Go.Proofs.YteigfmchnblkgaaGreatDoor.Hand
open Go.RowKit Go.Maps Go.Proofs.YteigfmchnblkgaaGreatDoorW.PrintWords Go.Proofs.YteigfmchnblkgaaGreatDoorW.PrintLast Go.Proofs.YteigfmchnblkgaaGreatDoorW.PrintMore Go.Proofs.YteigfmchnblkgaaGreatDoor.Base
set_option linter.unusedVariables false
set_option linter.unusedSimpArgs false
set_option maxRecDepth 100000
/-- A requirement whose values' slice is told by itself. -/
abbrev FE := ByteArray × ByteArray × (Option Addr × Nat × Nat)
def KSl : Kd (Option Addr × Nat × Nat) := Kd.scalar (fun t => .slice t.1 t.2.1 t.2.2) (fun _ => rfl)
def KF : Kd FE := Kd.pair Kd.string (Kd.pair Kd.string KSl)
theorem infoIQ : (Tryz.prog.info? 31).map (fun i => (i.zero, i.size, i.bytes)) = some (some (.agg #[.string ⟨#[]⟩, .string ⟨#[]⟩, .slice none 0 0]), 3, 56) := by kernel_rfl
abbrev feC (f : FE) : List Value := [.string f.1, .string f.2.1, .slice f.2.2.1 f.2.2.2.1 f.2.2.2.2]
theorem kf_cs {w : World} {f : FE} {cs : List Value} (h : KF.K w f cs) : cs = feC f := by
  obtain ⟨c0, c1, rfl, h0, c2, c3, rfl, h2, h3⟩ := h
  have e0 : c0 = [.string f.1] := h0
  have e2 : c2 = [.string f.2.1] := h2
  have e3 : c3 = [.slice f.2.2.1 f.2.2.2.1 f.2.2.2.2] := h3
  subst e0 e2 e3
  rfl
/-- The element tells the requirement, in the world w. -/
def FR (w : World) (p : FE × Rq) : Prop := p.1.1 = mk p.2.1 ∧ p.1.2.1 = mk p.2.2.1 ∧ p.1.2.2.2.1 = p.2.2.2.length ∧ p.2.2.2.length ≤ p.1.2.2.2.2 ∧ Kd.C Kd.string w p.1.2.2.1 p.2.2.2.length (p.2.2.2.map mk)
/-- Elements that tell requirements are requirements. -/
theorem kf_kq {w : World} {A : Option Addr} {n : Nat} {ps : List (FE × Rq)} (h : KF.C w A n (ps.map (·.1))) (hr : ∀ p ∈ ps, FR w p) : KQ.C w A n (rqV (ps.map (·.2))) := by
  obtain ⟨h1, h2, h3⟩ := h
  refine ⟨by simpa [rqV] using h1, h2, fun hn => ?_⟩
  obtain ⟨ad, rfl, hat⟩ := h3 hn
  refine ⟨ad, rfl, fun j q hq => ?_⟩
  rw [rqV, List.getElem?_map, List.getElem?_map] at hq
  obtain ⟨p, hp⟩ : ∃ p, ps[j]? = some p := by
    cases e : ps[j]? with
    | none => rw [e] at hq; cases hq
    | some p => exact ⟨p, rfl⟩
  rw [hp] at hq
  injection hq with hq
  subst hq
  obtain ⟨c, hc, hK, hcell⟩ := hat j p.1 (by rw [List.getElem?_map, hp]; rfl)
  obtain ⟨f0, f1, f2, f3, f4⟩ := hr p (List.mem_of_getElem? hp)
  have hcs := kf_cs hK
  subst hcs
  refine ⟨feC p.1, rfl, ?_, hcell⟩
  have e : feC p.1 = [.string (mk p.2.1), .string (mk p.2.2.1), .slice p.1.2.2.1 (p.2.2.2.map mk).length p.1.2.2.2.2] := by
    unfold feC
    rw [f0, f1, f2, List.length_map]
  rw [e]
  exact ⟨[_], [_, _], rfl, rfl, [_], [_], rfl, rfl, p.1.2.2.1, p.1.2.2.2.2, rfl, by rw [List.length_map]; exact f3, by rw [List.length_map]; exact f4⟩
/-- An element whose one value stands in a block of its own. -/
def GoodE (W : World) (p : FE × Rq) : Prop := ∃ (b : Nat) (t : L), p.1.2.2 = (some ⟨b, 0, none⟩, 1, 1) ∧ p.1.1 = mk p.2.1 ∧ p.1.2.1 = mk p.2.2.1 ∧ p.2.2.2 = [t] ∧ W.heap[b]? = some (.cells #[.string (mk t)] 9 (0, 0))
def EBlk (p : FE × Rq) : Option Nat := p.1.2.2.1.map (·.block)
theorem GoodE.lt {W : World} {p : FE × Rq} (h : GoodE W p) : ∃ b, EBlk p = some b ∧ b < W.heap.size := by
  obtain ⟨b, t, h1, _, _, _, h5⟩ := h
  exact ⟨b, by unfold EBlk; rw [h1]; rfl, blk_lt h5⟩
theorem GoodE.grown {W W' : World} {p : FE × Rq} {row : Option Nat} (h : GoodE W p) (hg : W.grownBy W' row) (hne : EBlk p ≠ row) : GoodE W' p := by
  obtain ⟨b, t, h1, h2, h3, h4, h5⟩ := h
  have hb : EBlk p = some b := by unfold EBlk; rw [h1]; rfl
  exact ⟨b, t, h1, h2, h3, h4, (hg.block b (blk_lt h5) (fun e => hne (hb.trans e))).trans h5⟩
theorem GoodE.below {W W' : World} {p : FE × Rq} (h : GoodE W p) (hb : Below W.heap.size W W') : GoodE W' p := by
  obtain ⟨b, t, h1, h2, h3, h4, h5⟩ := h
  exact ⟨b, t, h1, h2, h3, h4, (hb.block b (blk_lt h5)).trans h5⟩
theorem one_C {W : World} {b : Nat} {s : ByteArray} (h : W.heap[b]? = some (.cells #[.string s] 9 (0, 0))) : Kd.C Kd.string W (some ⟨b, 0, none⟩) 1 [s] := by
  refine ⟨rfl, by decide, fun _ => ⟨_, rfl, fun j p hp => ?_⟩⟩
  have hpj : p = s ∧ j = 0 := by
    match j, hp with
    | 0, hp => exact ⟨(Option.some.inj hp).symm, rfl⟩
  obtain ⟨rfl, rfl⟩ := hpj
  refine ⟨[.string p], rfl, rfl, fun i u hu => ?_⟩
  have had : ∀ k, (⟨b, 0, none⟩ : Addr).add k = ⟨b, k, none⟩ := fun k => by rw [add_spot rfl]; simp
  rw [had]
  have hc := blk_cell h (0 * Kd.string.sz + i)
  refine hc.trans ?_
  match i, hu with
  | 0, hu => exact hu
theorem GoodE.fr {W : World} {p : FE × Rq} (h : GoodE W p) : FR W p := by
  obtain ⟨b, t, h1, h2, h3, h4, h5⟩ := h
  unfold FR
  rw [h1, h4]
  exact ⟨h2, h3, rfl, Nat.le_refl _, one_C h5⟩
end Go.Proofs.YteigfmchnblkgaaGreatDoor.Hand
