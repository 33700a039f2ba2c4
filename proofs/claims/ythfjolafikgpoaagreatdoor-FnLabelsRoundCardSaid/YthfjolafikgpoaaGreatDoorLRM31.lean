/- labels.ConvertSelectorToLabelsMap over a list of equalities; impl.LabelsOf. -/
import Derived.Test.YthfjolafikgpoaaGreatDoorLRM28
import Derived.Test.YthfjolafikgpoaaGreatDoorLRM29
import Derived.Test.YthfjolafikgpoaaGreatDoorLRM17
import Derived.Test.YthfjolafikgpoaaGreatDoorLRM30
import Derived.Test.YthfjolafikgpoaaGreatDoorLRM18
import Derived.Tactics
import Derived.Tactics2
import Derived.Defers
import Derived.Recover
import Derived.Laws.Pointers
import Derived.Test.YthfjolafikgpoaaGreatDoorLRGParA
import Derived.Test.YthfjolafikgpoaaGreatDoorLRGParC
import Derived.Test.YthfjolafikgpoaaGreatDoorLRM26
namespace Go.Proofs.YthfjolafikgpoaaGreatDoor.Hand
open Go.RowKit Go.Maps Go.Proofs.YthfjolafikgpoaaGreatDoorW.PrintWords Go.Proofs.YthfjolafikgpoaaGreatDoorW.PrintLast Go.Proofs.YthfjolafikgpoaaGreatDoorW.PrintMore Go.Proofs.YthfjolafikgpoaaGreatDoor.Base
open Go.Sort (ltStr)
set_option linter.unusedVariables false
set_option linter.unusedSimpArgs false
set_option maxRecDepth 100000
/-- An equality as it is written, with blanks around its key and its value. -/
structure Eqn where
  a : L
  k : L
  b : L
  c : L
  v : L
  d : L
def Eqn.left (e : Eqn) : L := e.a ++ e.k ++ e.b
def Eqn.right (e : Eqn) : L := e.c ++ e.v ++ e.d
def Eqn.text (e : Eqn) : L := e.left ++ 61 :: e.right
def Eqn.pr (e : Eqn) : LP := (e.k, e.v)
structure Eqn.Ok (e : Eqn) : Prop where
  ba : e.a.all isBl = true
  bb : e.b.all isBl = true
  bc : e.c.all isBl = true
  bd : e.d.all isBl = true
  key : pQ e.k = true
  val : pValue e.v = true
  ne : e.v ≠ []
  sz : e.left.length + e.right.length ≤ 10000
theorem pc_none {c : UInt8} : ∀ {n : L}, c ∉ n → pieces c n = [n]
  | [], _ => rfl
  | b :: t, h => by
    unfold pieces
    rw [if_neg (fun e => h (by simp [e])), pc_none (fun hm => h (by simp [hm]))]
    simp [glue]
theorem pc_app {c : UInt8} : ∀ {n : L} (t : L), c ∉ n → pieces c (n ++ c :: t) = n :: pieces c t
  | [], t, _ => by simp [pieces]
  | b :: n, t, h => by
    have e : pieces c (b :: (n ++ c :: t)) = if b = c then [] :: pieces c (n ++ c :: t) else glue [b] (pieces c (n ++ c :: t)) := rfl
    rw [List.cons_append, e, if_neg (fun e => h (by simp [e])), pc_app t (fun hm => h (by simp [hm]))]
    simp [glue]
theorem nmB_solid {c : UInt8} (h : nmB c = true) : isSolid c = true := by
  unfold isSolid
  rw [Bool.and_eq_true, decide_eq_true_eq, decide_eq_true_eq]
  have hl := c.toNat_lt
  by_cases h1 : 33 ≤ c.toNat
  · by_cases h2 : c.toNat < 128
    · exact ⟨h1, h2⟩
    · exfalso
      unfold nmB alnum at h
      simp only [Bool.or_eq_true, beq_iff_eq] at h
      revert h
      unfold small
      simp only [Bool.and_eq_true, Bool.or_eq_true, decide_eq_true_eq, UInt8.le_iff_toNat_le, ← UInt8.toNat_inj]
      simp
      omega
  · exfalso
    unfold nmB alnum at h
    simp only [Bool.or_eq_true, beq_iff_eq] at h
    revert h
    unfold small
    simp only [Bool.and_eq_true, Bool.or_eq_true, decide_eq_true_eq, UInt8.le_iff_toNat_le, ← UInt8.toNat_inj]
    simp
    omega
theorem solid_ends {x : L} (h : x.all nmB = true) (hn : x ≠ []) : ∃ c d y1 y2, x = c :: y1 ∧ x = y2 ++ [d] ∧ isSolid c = true ∧ isSolid d = true := by
  have hall := List.all_eq_true.1 h
  obtain ⟨c, y1, hc⟩ : ∃ c y1, x = c :: y1 := by
    cases x with
    | nil => exact absurd rfl hn
    | cons a l => exact ⟨a, l, rfl⟩
  refine ⟨c, x.getLast hn, y1, x.dropLast, hc, (List.dropLast_concat_getLast hn).symm, nmB_solid (hall c (by rw [hc]; simp)), nmB_solid (hall _ (List.getLast_mem hn))⟩
theorem bl_ne {a : L} (h : a.all isBl = true) {c : UInt8} (hc : isBl c = false) : c ∉ a := fun hm => by
  have := List.all_eq_true.1 h c hm
  rw [hc] at this; cases this
theorem nm_ne {a : L} (h : a.all nmB = true) {c : UInt8} (hc : nmB c = false) : c ∉ a := fun hm => by
  have := List.all_eq_true.1 h c hm
  rw [hc] at this; cases this
theorem Eqn.Ok.nmk {e : Eqn} (h : e.Ok) : e.k.all nmB = true ∧ e.k ≠ [] := pQ_all h.key
theorem Eqn.Ok.nmv {e : Eqn} (h : e.Ok) : e.v.all nmB = true := pValue_all h.val
theorem Eqn.Ok.out {e : Eqn} (h : e.Ok) {c : UInt8} (h1 : isBl c = false) (h2 : nmB c = false) : c ∉ e.left ∧ c ∉ e.right := by
  unfold Eqn.left Eqn.right
  simp only [List.mem_append]
  exact ⟨fun hm => by
    rcases hm with (hm | hm) | hm
    · exact bl_ne h.ba h1 hm
    · exact nm_ne h.nmk.1 h2 hm
    · exact bl_ne h.bb h1 hm, fun hm => by
    rcases hm with (hm | hm) | hm
    · exact bl_ne h.bc h1 hm
    · exact nm_ne h.nmv h2 hm
    · exact bl_ne h.bd h1 hm⟩
theorem Eqn.Ok.split {e : Eqn} (h : e.Ok) : pieces 61 e.text = [e.left, e.right] := by
  obtain ⟨h1, h2⟩ := h.out (c := 61) (by decide) (by decide)
  unfold Eqn.text
  rw [pc_app _ h1, pc_none h2]
/-- The cells of a slice of two texts. -/
theorem two_at {w : World} {A : Option Addr} {p q : ByteArray} (h : Kd.C Kd.string w A 2 [p, q]) : ∃ ad, A = some ad ∧ w.cell? ad = some (.string p) ∧ w.cell? ⟨ad.block, ad.off + 1, none⟩ = some (.string q) := by
  obtain ⟨ad, e0, h0⟩ := Kd.at_string h 0 (by omega) (by omega)
  obtain ⟨ad', e1, h1⟩ := Kd.at_string h 1 (by omega) (by omega)
  have e : ad' = ad := by rw [e0] at e1; exact (Option.some.inj e1).symm
  subst e
  refine ⟨ad', e0, ?_, h1.trans rfl⟩
  have : ad'.add (0 : Int).toNat = ad' := by cases ad'; rfl
  rw [this] at h0
  exact h0.trans rfl
set_option maxHeartbeats 8000000 in
theorem Cvt_calls (es : List Eqn) (hok : ∀ e ∈ es, e.Ok) (hne : es.length ≤ 1000) (x : L) (hx : pieces 44 x = es.map Eqn.text) (hx0 : x ≠ []) (hxl : x.length ≤ 100000) (w : World) (hT : TV w) :
    Calls Tryz.prog 70 #[.string (mk x)] w fun e w' => ∃ N : Nat, e = .returned (.tuple #[.map (some w.heap.size), .nilIface]) ∧ IsLz w' w.heap.size N (es.map Eqn.pr).reverse ∧ Below w.heap.size w w' := by
  have HOK := Aside0.mk hok
  have HT := Aside0.mk hT
  have HSP := Aside0.mk (LSplit_calls 44 (mk x) (by rw [mk_size]; omega))
  rw [show (mk x).data.toList = x from by simp [mk], hx] at HSP
  have HS2 : Aside0 (∀ e ∈ es, ∀ W : World, Calls Tryz.prog 91 #[.string (mk e.text), .string (mk [61])] W fun e1 w' => ∃ v0_ : Value, e1 = .returned (v0_) ∧ Kd.R Kd.string 9 w' W.heap.size (fun _ => True) v0_ [mk e.left, mk e.right] ∧ Below W.heap.size W w') := ⟨fun e he W => by
    have h := LSplit_calls 61 (mk e.text) (by rw [mk_size]; have := (hok e he).sz; unfold Eqn.text; simp only [List.length_append, List.length_cons]; omega) W
    rw [show (mk e.text).data.toList = e.text from by simp [mk], (hok e he).split] at h
    exact h⟩
  have hl0 : (((mk x).size : Nat) : Int) ≠ 0 := by rw [mk_size]; have : 0 < x.length := List.length_pos_iff.2 hx0; omega
  have hl1 : ((((mk x).size : Nat) : Int) == 0) = false := by rw [beq_eq_false_iff_ne]; exact hl0
  have hl2 : ((mk x).size == 0) = false := by rw [beq_eq_false_iff_ne]; omega
  have hmm := @run_makeMap Tryz.prog
  have HB0 := Aside0.mk (below_alloc (Below.refl w.heap.size w) (.map #[] 0))
  have HI0 := Aside0.mk (IsLz.made w)
  have HMK : Aside0 (mk [44] = ⟨#[44]⟩ ∧ mk [61] = ⟨#[61]⟩) := ⟨rfl, rfl⟩
  rw [HMK.out.1] at HSP
  rw [HMK.out.2] at HS2
  obtain ⟨s, hs⟩ : ∃ s, mk x = s := ⟨_, rfl⟩
  rw [hs] at HSP hl0 hl1 hl2 ⊢
  obtain ⟨n, hn⟩ : ∃ n, es.length = n := ⟨_, rfl⟩
  have HN := Aside0.mk hn
  have hn2 : n ≤ 1000 := by omega
  clear hok hT hx hx0 hxl hs hne hn
  go_enter Tryz.func70, Tryz.ntmps70
  go_wp2_with (first
    | ((with_reducible refine (HSP.out _).mono ?_); rintro e w2 ⟨v5, rfl, hr, hb⟩; have HB2 := Aside0.mk (below_step HB0.out hb); (obtain ⟨A5, c5, e5⟩ := Kd.R_slice hr); rw [List.length_map, List.length_map, HN.out] at e5; subst e5; have HR2 := Aside0.mk hr; have HI2 := Aside0.mk (HI0.out.below hb); clear hr hb HSP))
  clear hmm HB0 HI0
  go_loopg [7, 8, 9, 10, 11, 12, 22] (n) (fun g v7 v8 v9 v10 v11 v12 v22 w' => ∃ (j N : Nat), v22 = .int .i64 j ∧ Aside0 (g + j = n) ∧ Aside0 (IsLz w' w.heap.size N ((es.take j).map Eqn.pr).reverse ∧ N ≤ j) ∧ Aside0 (Below w.heap.size w w') ∧ Aside0 (Kd.R Kd.string 9 w' (w.alloc (.map #[] 0)).heap.size (fun _ => True) (.slice A5 n c5) ((es.map Eqn.text).map mk)))
  case atStart => exact ⟨0, 0, rfl, ⟨by omega⟩, ⟨HI2.out, Nat.le_refl _⟩, HB2, HR2⟩
  case round =>
    clear HI2 HB2 HR2
    obtain ⟨j, N, rfl, HJ, HI, HB, HR⟩ := hrel
    have hC := (Kd.R_reads' HR.out).2.2
    have hj : j ≤ n := by have := HJ.out; omega
    by_cases hjl : j < n
    · have hje : j < es.length := by rw [HN.out]; exact hjl
      obtain ⟨e, he⟩ : ∃ e, es[j] = e := ⟨_, rfl⟩
      have hem : e ∈ es := by rw [← he]; exact List.getElem_mem _
      have HE := Aside0.mk (HOK.out e hem)
      obtain ⟨ad, rfl, hk0⟩ := Kd.at_string (n := n) (by first | exact hC | (rw [List.length_map, List.length_map, HN.out] at hC; exact hC)) (j : Int) (by omega) (by omega)
      rw [Int.toNat_natCast] at hk0
      have hg : rdOf ByteArray.empty ((es.map Eqn.text).map mk) (j : Int) = mk e.text := by
        unfold rdOf
        rw [Int.toNat_natCast, List.getD_eq_getElem?_getD, List.getElem?_map, List.getElem?_map, List.getElem?_eq_getElem hje, he]; rfl
      rw [hg] at hk0
      have HTK : Aside0 (((es.take (j + 1)).map Eqn.pr).reverse = (e.k, e.v) :: ((es.take j).map Eqn.pr).reverse) := ⟨by
        rw [List.take_succ_eq_append_getElem hje, he, List.map_append, List.reverse_append]; rfl⟩
      have HSV := Aside0.mk (HS2.out e hem)
      obtain ⟨kc, kd, ky1, ky2, hk1, hk2, hk3, hk4⟩ := solid_ends HE.out.nmk.1 HE.out.nmk.2
      obtain ⟨vc, vd, vy1, vy2, hv1, hv2, hv3, hv4⟩ := solid_ends HE.out.nmv HE.out.ne
      have hsl : e.left.length ≤ 100000 ∧ e.right.length ≤ 100000 := by have := HE.out.sz; omega
      have HTR1 := Aside0.mk (fun W => Trim_calls e.a e.k e.b HE.out.ba HE.out.bb kc kd ky1 ky2 hk1 hk2 hk3 hk4 hsl.1 W)
      have HTR2 := Aside0.mk (fun W => Trim_calls e.c e.v e.d HE.out.bc HE.out.bd vc vd vy1 vy2 hv1 hv2 hv3 hv4 hsl.2 W)
      rw [show e.a ++ e.k ++ e.b = e.left from rfl] at HTR1
      rw [show e.c ++ e.v ++ e.d = e.right from rfl] at HTR2
      have hks : (mk e.k).size ≤ 10000 := by rw [mk_size]; have h1 := HE.out.sz; unfold Eqn.left at h1; simp only [List.length_append] at h1; omega
      have hvs : (mk e.v).size ≤ 10000 := by rw [mk_size]; have h1 := HE.out.sz; unfold Eqn.right at h1; simp only [List.length_append] at h1; omega
      have HVK := Aside0.mk (fun W hT => vKey_calls (mk e.k) (by omega) W hT)
      rw [show pQ (mk e.k).data.toList = true from by rw [show (mk e.k).data.toList = e.k from by simp [mk]]; exact HE.out.key] at HVK
      have HVV := Aside0.mk (fun W => vValue_calls (mk e.k) (mk e.v) (by omega) W)
      rw [show pValue (mk e.v).data.toList = true from by rw [show (mk e.v).data.toList = e.v from by simp [mk]]; exact HE.out.val] at HVV
      simp only [if_true] at HVK HVV
      obtain ⟨sk, hsk⟩ : ∃ sk, mk e.k = sk := ⟨_, rfl⟩
      obtain ⟨sv, hsv⟩ : ∃ sv, mk e.v = sv := ⟨_, rfl⟩
      obtain ⟨sl, hsl2⟩ : ∃ sl, mk e.left = sl := ⟨_, rfl⟩
      obtain ⟨sr, hsr⟩ : ∃ sr, mk e.right = sr := ⟨_, rfl⟩
      obtain ⟨st, hst⟩ : ∃ st, mk e.text = st := ⟨_, rfl⟩
      rw [hsl2, hsk] at HTR1
      rw [hsr, hsv] at HTR2
      rw [hsl2, hsr, hst] at HSV
      rw [hsk] at HVK hks
      rw [hsk, hsv] at HVV
      rw [hsv] at hvs
      rw [hst] at hk0
      have HKV : Aside0 ((e.k, e.v) = (sk.data.toList, sv.data.toList)) := ⟨by rw [← hsk, ← hsv]; simp [mk]⟩
      have HBW := HB
      have HIZ := Aside0.mk HI.out.1
      have HNJ : Aside0 (N ≤ j) := ⟨HI.out.2⟩
      have hsks : sk.size ≤ 140737488351232 := by omega
      have hsvs : sv.size ≤ 140737488351232 := by omega
      clear hC he hem hg HE hk1 hk2 hk3 hk4 hv1 hv2 hv3 hv4 hsl hsk hsv hsl2 hsr hst HI hje
      go_wp2_with (first
        | ((with_reducible refine (HSV.out _).mono ?_); rintro e1 w3 ⟨v8, rfl, hr, hb⟩; have HB3 := Aside0.mk (below_step HBW.out hb); have HBX3 := Aside0.mk (Kd.R_below HR.out hb); (obtain ⟨A8, c8, e8⟩ := Kd.R_slice hr); rw [show ([sl, sr] : List ByteArray).length = 2 from rfl] at e8; subst e8; have HC3 : Aside0 (Kd.C Kd.string w3 A8 2 [sl, sr]) := ⟨(Kd.R_reads' hr).2.2⟩; (obtain ⟨a8, rfl, f0, f1⟩ := two_at HC3.out); have HI3 := Aside0.mk (HIZ.out.below hb); clear hr hb HSV)
        | ((with_reducible refine (HTR1.out _).mono ?_); rintro e1 w4 ⟨rfl, hd⟩; (obtain ⟨nd, rfl⟩ := hd); clear HTR1)
        | ((with_reducible refine (HVK.out _ (HT.out.below (pw_below_drewN HB3.out nd))).mono ?_); rintro e1 w5 ⟨rfl, hb⟩; have HB5 := Aside0.mk (below_step (pw_below_drewN HB3.out nd) hb); have HBX5 := Aside0.mk (Kd.R_below (Kd.R_drewN HBX3.out nd) hb); have HC5 := Aside0.mk (Kd.C_below (Kd.C_drewN HC3.out nd) hb); (obtain ⟨a8', ea8, g0, g1⟩ := two_at HC5.out); (obtain rfl := Option.some.inj ea8); have HI5 := Aside0.mk ((HI3.out.below (pw_below_drewN (Below.refl _ _) nd)).below hb); clear hb HVK)
        | ((with_reducible refine (HTR2.out _).mono ?_); rintro e1 w6 ⟨rfl, hd⟩; (obtain ⟨nd2, rfl⟩ := hd); clear HTR2)
        | ((with_reducible refine (HVV.out _).mono ?_); rintro e1 w7 ⟨rfl, hb⟩; have HB7 := Aside0.mk (below_step (pw_below_drewN HB5.out nd2) hb); have HBX7 := Aside0.mk (Kd.R_below (Kd.R_drewN HBX5.out nd2) hb); have HI7 := Aside0.mk ((HI5.out.below (pw_below_drewN (Below.refl _ _) nd2)).below hb); clear hb HVV)
        | (at_mapUpdate; refine set_lab _ rfl _ _ _ rfl w.heap.size N _ rfl HI7.out (by have := HNJ.out; omega) sk sv hsks hsvs rfl rfl ?_; intro w8 hi8 hg8; have HI8 := Aside0.mk hi8; have HB8 := Aside0.mk (pw_below_grown HB7.out (some w.heap.size) (below_size HB7.out) hg8 (fun k hk => by cases hk; exact Nat.le_refl _)); have HR8 := Aside0.mk (Kd.R_grown1 HBX7.out rfl hg8 (fun he => by have h9 := Kd.R_base HBX7.out _ he.symm; rw [show (w.alloc (.map #[] 0)).heap.size = w.heap.size + 1 from Array.size_push _] at h9; omega)); clear hi8 hg8))
      go_roundg (n - (j + 1))
      case measure => have := HJ.out; omega
      case rel => exact ⟨j + 1, N + 1, by go_num, ⟨by omega⟩, ⟨by rw [HTK.out, HKV.out]; exact HI8.out, by have := HNJ.out; omega⟩, HB8, HR8⟩
    · have hje : j = n := by omega
      have hi := HI.out.1
      rw [hje, List.take_of_length_le (by rw [HN.out]; exact Nat.le_refl _)] at hi
      have HIF := Aside0.mk hi
      have HBW := HB
      clear hi HI hC
      go_wp2
      go_ret2
      exact ⟨N, rfl, HIF.out, HBW.out⟩
theorem LO_idle (p q : Addr) (w : World) :
    CallsD Tryz.prog 69 #[.pointer (some p), .pointer (some q)] .returning w fun e u' w' => e = .returned (.tuple #[]) ∧ u' = .returning ∧ w' = w := by
  refine callsD_of_wpS Tryz.func69 rfl fun c₀ cs hu => ?_
  apply wpS_seq
  apply wpS_region
  simp [wpOpsS, go_sem, recoverD, hu, Tryz.ntmps69, Exit.thenS]
  refine wpS_cond (t := false) (by simp [Act.eval, Array.replicate]) ?_
  simp only [Bool.false_eq_true, if_false]
  refine wpS_of_wp (wp_skip ?_)
  cases c₀
  simp_all [bodyPostS, results, Tryz.results69]
theorem out2p {w1 : World} {p q : Nat} {b0 i0 : Value} (hpq : p ≠ q) (HP : w1.heap[p]? = some (.cells #[b0] 37 (0, 0))) (HQ : w1.heap[q]? = some (.cells #[i0] 3 (0, 0))) (v u : Value) :
    w1.cell? ⟨p, 0, none⟩ = some b0 ∧ w1.frozen? ⟨p, 0, none⟩ = false ∧ (w1.setCell ⟨p, 0, none⟩ v).cell? ⟨q, 0, none⟩ = some i0 ∧ (w1.setCell ⟨p, 0, none⟩ v).frozen? ⟨q, 0, none⟩ = false ∧ ((w1.setCell ⟨p, 0, none⟩ v).setCell ⟨q, 0, none⟩ u).cell? ⟨p, 0, none⟩ = some v ∧ ((w1.setCell ⟨p, 0, none⟩ v).setCell ⟨q, 0, none⟩ u).cell? ⟨q, 0, none⟩ = some u := by
  have hQ4 := blk_far HQ (p := ⟨p, 0, none⟩) (show q ≠ p by omega) v
  have hP4 := blk_put HP 0 v (cs' := #[v]) rfl
  have HP5 := blk_far hP4 (p := ⟨q, 0, none⟩) (show p ≠ q by omega) u
  have HQ5 := blk_put hQ4 0 u (cs' := #[u]) rfl
  exact ⟨(blk_cell HP 0).trans rfl, blk_frozen HP 0, (blk_cell hQ4 0).trans rfl, blk_frozen hQ4 0, (blk_cell HP5 0).trans rfl, (blk_cell HQ5 0).trans rfl⟩
set_option maxHeartbeats 8000000 in
theorem LabelsOf_calls (es : List Eqn) (hok : ∀ e ∈ es, e.Ok) (hne : es.length ≤ 1000) (x : L) (hx : pieces 44 x = es.map Eqn.text) (hx0 : x ≠ []) (hxl : x.length ≤ 2000) (w : World) (hT : TV w) :
    Calls Tryz.prog 34 #[.string (mk x)] w fun e w' => ∃ v : Value, e = .returned (.tuple #[v, .int .i64 0]) ∧ PK.R 42 w' w.heap.size (fun _ => True) v ((keyL (es.map Eqn.pr)).map mkP) ∧ Below w.heap.size w w' := by
  have hmf : ∀ (fn : Fn) (first cap : Array Value) (w : World), (Instr.makeFunc fn first cap).run Tryz.prog w = .ok (.func fn first cap) w := fun _ _ _ _ => rfl
  have HC := Aside0.mk (fun (W : World) (hb : Below w.heap.size w W) => Cvt_calls es hok hne x hx hx0 (by omega) W (hT.below hb))
  have hdk : (dk (es.map Eqn.pr).reverse).length ≤ 1000 := Nat.le_trans (dk_le _) (by rw [List.length_reverse, List.length_map]; exact hne)
  have HPR := Aside0.mk (fun b N W h => Pairs_calls b N (es.map Eqn.pr).reverse hdk W h)
  have hsz2 : ¬ 2000 < (mk x).size := by rw [mk_size]; omega
  obtain ⟨s, hs⟩ : ∃ s, mk x = s := ⟨_, rfl⟩
  rw [hs] at HC hsz2 ⊢
  obtain ⟨W3, hW3⟩ : ∃ W3, (w.alloc (.cells #[.slice none 0 0] 37)).alloc (.cells #[.int .i64 0] 3) = W3 := ⟨_, rfl⟩
  have HB3 : Aside0 (Below w.heap.size w W3) := ⟨by rw [← hW3]; exact below_alloc (below_alloc (Below.refl _ _) _) _⟩
  have HP3 : Aside0 (W3.heap[w.heap.size]? = some (.cells #[.slice none 0 0] 37 (0, 0))) := ⟨by rw [← hW3]; exact blk_alloc (heap_alloc_new w _) _⟩
  have HQ3 : Aside0 (W3.heap[w.heap.size + 1]? = some (.cells #[.int .i64 0] 3 (0, 0))) := ⟨by
    have := heap_alloc_new (w.alloc (.cells #[.slice none 0 0] 37)) (.cells #[.int .i64 0] 3)
    rw [hW3] at this; simpa using this⟩
  have HS3 : Aside0 (W3.heap.size = w.heap.size + 2) := ⟨by rw [← hW3]; simp⟩
  clear hT hok hne hx hx0 hxl hs hdk
  go_enter_defers Tryz.func34, Tryz.ntmps34
  go_wp2_with (first
    | ((with_reducible refine (HC.out _ HB3.out).mono ?_); rintro e w4 ⟨N, rfl, hi, hb⟩; have HI4 := Aside0.mk hi; have HB4 := Aside0.mk hb; clear hi hb HC)
    | ((with_reducible refine (HPR.out _ _ _ HI4.out).mono ?_); rintro e w5 ⟨v, xs, rfl, hr, hsk, hmem, hb⟩; (obtain ⟨AV, cV, hvV⟩ := Kd.R_slice hr); subst hvV; have hb5 := below_step HB4.out hb; have HB := below_step HB3.out hb5; (obtain ⟨o1, o2, o3, o4, o5, o6⟩ := out2p (by omega) ((hb5.block _ (by rw [HS3.out]; omega)).trans HP3.out) ((hb5.block _ (by rw [HS3.out]; omega)).trans HQ3.out) (.slice AV (xs.map mkP).length cV) (.int .i64 0)); have HBE := Aside0.mk (below_set (below_set HB (Nat.le_refl w.heap.size) (j := 0) (v := .slice AV (xs.map mkP).length cV)) (show w.heap.size ≤ w.heap.size + 1 by omega) (j := 0) (v := .int .i64 0)); have hwz := below_size hb; have hr4 := Kd.R_mono (ok' := fun k => w.heap.size + 2 ≤ k) (Kd.R_bound hr) (fun k hk => by have h9 := hk.2.1; have h8 := below_size HB4.out; rw [HS3.out] at h8; omega); have HRE := Aside0.mk (Kd.R_far (Kd.R_far hr4 (p := ⟨w.heap.size, 0, none⟩) (fun k hk => by show k ≠ w.heap.size; omega) (.slice AV (xs.map mkP).length cV)) (p := ⟨w.heap.size + 1, 0, none⟩) (fun k hk => by show k ≠ w.heap.size + 1; omega) (.int .i64 0)); have HWZ := Aside0.mk (below_size (below_step HB3.out HB4.out)); have HXS : Aside0 (xs = keyL (es.map Eqn.pr)) := ⟨sk_ext hsk (keyL_mem _).1 (fun q => by (obtain ⟨k, v⟩ := q); rw [hmem, (keyL_mem _).2])⟩; (obtain ⟨qn, hqn⟩ : ∃ qn, (xs.map mkP).length = qn := ⟨_, rfl⟩); rw [hqn] at o3 o4 o5 o6 HBE HRE ⊢; clear hr hsk hmem hb hb5 HB hr4 hwz hqn HPR))
  refine leaves_cons (f := 69) (args := #[.pointer (some ⟨w.heap.size, 0, none⟩), .pointer (some ⟨w.heap.size + 1, 0, none⟩)]) (by simp) (by simp [go_sem]) ?_
  refine (LO_idle ⟨w.heap.size, 0, none⟩ ⟨w.heap.size + 1, 0, none⟩ _).mono ?_
  rintro e u' w'' ⟨rfl, rfl, rfl⟩
  simp [Leaves, settle, results, Tryz.results34, go_sem, o5, o6, Result.andThen]
  refine ⟨?_, HBE.out⟩
  rw [← HXS.out]
  exact pk_all (Kd.R_lower HRE.out HWZ.out)
end Go.Proofs.YthfjolafikgpoaaGreatDoor.Hand

/- Labels written freely as a selector of equalities: its pieces between commas. No program in sight. -/
namespace Go.Proofs.YthfjolafikgpoaaGreatDoor.Hand
open Go.RowKit Go.Maps Go.Proofs.YthfjolafikgpoaaGreatDoorW.PrintWords Go.Proofs.YthfjolafikgpoaaGreatDoorW.PrintLast Go.Proofs.YthfjolafikgpoaaGreatDoorW.PrintMore Go.Proofs.YthfjolafikgpoaaGreatDoor.Base
set_option linter.unusedVariables false
set_option linter.unusedSimpArgs false
abbrev rqE (p : LP) : Rq := (p.1, [61], [p.2])
def FairP (p : LP) : Prop := pQ p.1 = true ∧ pValue p.2 = true ∧ p.2 ≠ []
theorem pValue_len {x : L} (h : pValue x = true) : x.length ≤ 63 := by
  unfold pValue most at h
  simp only [Bool.and_eq_true, decide_eq_true_eq] at h
  exact h.1
theorem eqn_no44 {e : Eqn} (h : e.Ok) : (44 : UInt8) ∉ e.text := by
  obtain ⟨h1, h2⟩ := h.out (c := 44) (by decide) (by decide)
  unfold Eqn.text
  rw [List.mem_append, List.mem_cons]
  rintro (hm | hm | hm)
  · exact h1 hm
  · cases hm
  · exact h2 hm
/-- How many bytes labels have, two more for each one. -/
def lbB (l : List LP) : Nat := (l.map fun q => q.1.length + q.2.length + 2).sum
theorem fair_word {p : LP} (h : FairP p) : WordR p.1 [61] [p.2] ∧ p.1.length + totL [p.2] ≤ 7000 := by
  have hf : fairR p.1 [61] [p.2] = true := by
    unfold fairR
    rw [show opOk [61] [p.2] = true from rfl, h.1]
    simp [h.2.1]
  refine ⟨(fair_words hf (fun v hv => by rw [List.mem_singleton.1 hv]; exact h.2.2)).1, ?_⟩
  have h1 := pQ_len h.1
  have h2 := pValue_len h.2.1
  simp only [totL, List.map_cons, List.map_nil, List.sum_cons, List.sum_nil]
  omega
end Go.Proofs.YthfjolafikgpoaaGreatDoor.Hand

/- spec.spaced and spec.Freely's own gap: a blank by choice. -/
namespace Go.Proofs.YthfjolafikgpoaaGreatDoor.Hand
open Go.RowKit Go.Maps Go.Proofs.YthfjolafikgpoaaGreatDoorW.PrintWords Go.Proofs.YthfjolafikgpoaaGreatDoorW.PrintLast Go.Proofs.YthfjolafikgpoaaGreatDoorW.PrintMore Go.Proofs.YthfjolafikgpoaaGreatDoor.Base
set_option linter.unusedVariables false
set_option linter.unusedSimpArgs false
set_option maxRecDepth 100000
theorem add_block_ (ad : Addr) (n : Nat) : (ad.add n).block = ad.block := by unfold Addr.add; split <;> rfl
/-- A slice of bytes in memory. -/
def Bts (W : World) (A : Option Addr) (n : Nat) (cs : L) : Prop := cs.length = n ∧ n ≤ 9223372036854775807 ∧ ∀ i : Nat, ∀ c : UInt8, cs[i]? = some c → ∃ ad, A = some ad ∧ W.cell? (ad.add i) = some (.int .u8 (c.toNat : Int)) ∧ ad.block < W.heap.size
theorem Bts.below {W W' : World} {A : Option Addr} {n : Nat} {cs : L} (h : Bts W A n cs) (hb : Below W.heap.size W W') : Bts W' A n cs :=
  ⟨h.1, h.2.1, fun i c hc => by
    obtain ⟨ad, e, h1, h2⟩ := h.2.2 i c hc
    exact ⟨ad, e, (hb.cell (p := ad.add i) (by rw [add_block_]; exact h2)).trans h1, Nat.lt_of_lt_of_le h2 hb.size⟩⟩
/-- The gaps of a call of Freely that began in w0: rs is left of the choices cs. -/
structure GapS (w0 W : World) (A : Option Addr) (n c : Nat) (cs rs : L) : Prop where
  be : Below w0.heap.size w0 W
  bx : W.heap[w0.heap.size]? = some (.cells #[.slice A n c] 23 (0, 0))
  bt : Bts w0 A n cs
  at_ : ∃ a : Nat, rs = cs.drop a ∧ a ≤ n ∧ W.heap[w0.heap.size + 1]? = some (.cells #[.int .i64 a] 3 (0, 0))
theorem blank_pick (c : UInt8) : (∃ k : Nat, k < 4 ∧ c.toNat % 4 = k ∧ ([([] : L), [32], [32, 32], [9]])[k]? = some (blankL c)) := by
  refine ⟨c.toNat % 4, Nat.mod_lt _ (by decide), rfl, ?_⟩
  have h : c.toNat % 4 < 4 := Nat.mod_lt _ (by decide)
  unfold blankL
  generalize c.toNat % 4 = k at h
  match k, h with
  | 0, _ => rfl
  | 1, _ => rfl
  | 2, _ => rfl
  | 3, _ => rfl
set_option maxHeartbeats 8000000 in
theorem Spaced_calls (w0 W : World) (A : Option Addr) (n c : Nat) (cs rs : L) (h : GapS w0 W A n c cs rs) :
    Calls Tryz.prog 47 #[.slice A n c, .pointer (some ⟨w0.heap.size + 1, 0, none⟩)] W fun e W' => e = .returned (.string (mk (gapL rs))) ∧ GapS w0 W' A n c cs rs.tail ∧ Kb W W' (w0.heap.size + 1) := by
  obtain ⟨a, hrs, han, hat⟩ := h.at_
  have k0 : W.cell? ⟨w0.heap.size + 1, 0, none⟩ = some (.int .i64 a) := (blk_cell hat 0).trans rfl
  have k1 : W.frozen? ⟨w0.heap.size + 1, 0, none⟩ = false := blk_frozen hat 0
  have HH := Aside0.mk h
  have HAT := Aside0.mk hat
  have HRS := Aside0.mk hrs
  have hn9 := h.bt.2.1
  have HLN := Aside0.mk h.bt.1
  clear h hat hrs
  by_cases hlt : a < n
  · obtain ⟨b, hb⟩ : ∃ b, cs[a]? = some b := ⟨_, List.getElem?_eq_getElem (by rw [HLN.out]; exact hlt)⟩
    obtain ⟨ad, rfl, hc0, hlb⟩ := HH.out.bt.2.2 a b hb
    have hc : W.cell? (ad.add a) = some (.int .u8 (b.toNat : Int)) := (HH.out.be.cell (p := ad.add a) (by rw [add_block_]; exact hlb)).trans hc0
    have hd : cs.drop a = b :: cs.drop (a + 1) := by
      rw [List.drop_eq_getElem_cons (by rw [HLN.out]; exact hlt)]
      congr 1
      exact (List.getElem?_eq_some_iff.1 hb).2
    have HG : Aside0 (gapL rs = blankL b) := ⟨by rw [HRS.out, hd]; rfl⟩
    have HTL : Aside0 (rs.tail = cs.drop (a + 1)) := ⟨by rw [HRS.out, hd]; rfl⟩
    obtain ⟨W1, hW1⟩ : ∃ W1, W.setCell ⟨w0.heap.size + 1, 0, none⟩ (.int .i64 ((a : Int) + 1)) = W1 := ⟨_, rfl⟩
    have HK : Aside0 (Kb W W1 (w0.heap.size + 1)) := ⟨by rw [← hW1]; exact Kb.set W _ 0 _⟩
    have hat1 : W1.heap[w0.heap.size + 1]? = some (.cells #[.int .i64 ((a : Int) + 1)] 3 (0, 0)) := by rw [← hW1]; exact blk_put HAT.out 0 _ (cs' := #[.int .i64 ((a : Int) + 1)]) rfl
    have d0 : W1.cell? ⟨w0.heap.size + 1, 0, none⟩ = some (.int .i64 ((a : Int) + 1)) := (blk_cell hat1 0).trans rfl
    have HSZ : Aside0 (w0.heap.size ≤ W.heap.size) := ⟨HH.out.be.size⟩
    have d1 : W1.cell? (ad.add a) = some (.int .u8 (b.toNat : Int)) := ((HK.out.below (B := w0.heap.size) (by omega) HSZ.out).cell (p := ad.add a) (by rw [add_block_]; exact hlb)).trans hc
    have HA1 := Aside0.mk hat1
    have HGS : Aside0 (∀ W', Below W1.heap.size W1 W' → GapS w0 W' (some ad) n c cs rs.tail ∧ Kb W W' (w0.heap.size + 1)) := ⟨fun W' hb => by
      have hk : Kb W W' (w0.heap.size + 1) := HK.out.trans (Kb.of_below hb _)
      have hbe : Below w0.heap.size w0 W' := HH.out.be.trans (hk.below (by omega) HSZ.out)
      refine ⟨⟨hbe, ?_, HH.out.bt, a + 1, HTL.out, by omega, ?_⟩, hk⟩
      · have h1 := blk_lt HH.out.bx
        exact ((hk.ke.2 _ h1 (by omega) (by simp)).trans HH.out.bx)
      · exact (hb.block _ (blk_lt HA1.out)).trans HA1.out⟩
    have e1 : decide ((n : Int) ≤ (a : Int)) = false := decide_eq_false (by omega)
    have hm : (b.toNat : Int) % 4 = ((b.toNat % 4 : Nat) : Int) := by omega
    obtain ⟨kk, hk4, hkm, hpk⟩ := blank_pick b
    clear hc0 hc hd hat1 hb hlb
    go_enter Tryz.func47, Tryz.ntmps47
    go_upto_region 4 with (fail)
    obtain ⟨W2, hW2⟩ : ∃ W2, W1.alloc (.cells #[.string ⟨#[]⟩, .string ⟨#[32]⟩, .string ⟨#[32, 32]⟩, .string ⟨#[9]⟩] 9) = W2 := ⟨_, rfl⟩
    have hbk2 := heap_alloc_new W1 (.cells #[.string ⟨#[]⟩, .string ⟨#[32]⟩, .string ⟨#[32, 32]⟩, .string ⟨#[9]⟩] 9)
    have HB2 := Aside0.mk (below_alloc (Below.refl W1.heap.size W1) (.cells #[.string ⟨#[]⟩, .string ⟨#[32]⟩, .string ⟨#[32, 32]⟩, .string ⟨#[9]⟩] 9))
    rw [hW2] at hbk2 HB2
    have m0 : W2.cell? ⟨w0.heap.size + 1, 0, none⟩ = some (.int .i64 ((a : Int) + 1)) := (HB2.out.cell (World.block_lt_of_cell? _ _ d0)).trans d0
    have m1 : W2.cell? (ad.add a) = some (.int .u8 (b.toNat : Int)) := (HB2.out.cell (p := ad.add a) (World.block_lt_of_cell? _ _ d1)).trans d1
    have n0 : W2.cell? ⟨W1.heap.size, 0, none⟩ = some (.string ⟨#[]⟩) := (blk_cell hbk2 0).trans rfl
    have n1 : W2.cell? ⟨W1.heap.size, 1, none⟩ = some (.string ⟨#[32]⟩) := (blk_cell hbk2 1).trans rfl
    have n2 : W2.cell? ⟨W1.heap.size, 2, none⟩ = some (.string ⟨#[32, 32]⟩) := (blk_cell hbk2 2).trans rfl
    have n3 : W2.cell? ⟨W1.heap.size, 3, none⟩ = some (.string ⟨#[9]⟩) := (blk_cell hbk2 3).trans rfl
    clear hW1 k0 k1 hbk2
    have HPK := Aside0.mk hpk
    clear hpk hm e1
    have HK4 : Aside0 ((b.toNat : Int) % 4 = (kk : Int)) := ⟨by omega⟩
    clear hkm
    have h4 : kk = 0 ∨ kk = 1 ∨ kk = 2 ∨ kk = 3 := by omega
    clear hk4
    rcases h4 with rfl | rfl | rfl | rfl
    · have hm : (b.toNat : Int) % 4 = 0 := HK4.out
      go_wp2
      go_ret
      exact ⟨by rw [HG.out, ← Option.some.inj HPK.out]; rfl, HGS.out _ HB2.out⟩
    · have hm : (b.toNat : Int) % 4 = 1 := HK4.out
      go_wp2
      go_ret
      exact ⟨by rw [HG.out, ← Option.some.inj HPK.out]; rfl, HGS.out _ HB2.out⟩
    · have hm : (b.toNat : Int) % 4 = 2 := HK4.out
      go_wp2
      go_ret
      exact ⟨by rw [HG.out, ← Option.some.inj HPK.out]; rfl, HGS.out _ HB2.out⟩
    · have hm : (b.toNat : Int) % 4 = 3 := HK4.out
      go_wp2
      go_ret
      exact ⟨by rw [HG.out, ← Option.some.inj HPK.out]; rfl, HGS.out _ HB2.out⟩
  · have HG : Aside0 (gapL rs = []) := ⟨by rw [HRS.out, List.drop_of_length_le (by rw [HLN.out]; omega)]; rfl⟩
    have HTL : Aside0 (rs.tail = rs) := ⟨by rw [HRS.out, List.drop_of_length_le (by rw [HLN.out]; omega)]; rfl⟩
    have e1 : decide ((n : Int) ≤ (a : Int)) = true := decide_eq_true (by omega)
    go_enter Tryz.func47, Tryz.ntmps47
    go_wp2
    go_ret
    exact ⟨by rw [HG.out]; rfl, by rw [HTL.out]; exact HH.out, Kb.refl _ _⟩
end Go.Proofs.YthfjolafikgpoaaGreatDoor.Hand

/- Requirements in a row whose values' slices are told by themselves. (Lines of LawSO.) -/
namespace Go.Proofs.YthfjolafikgpoaaGreatDoor.Hand
open Go.RowKit Go.Maps Go.Proofs.YthfjolafikgpoaaGreatDoorW.PrintWords Go.Proofs.YthfjolafikgpoaaGreatDoorW.PrintLast Go.Proofs.YthfjolafikgpoaaGreatDoorW.PrintMore Go.Proofs.YthfjolafikgpoaaGreatDoor.Base
set_option linter.unusedVariables false
set_option linter.unusedSimpArgs false
set_option maxRecDepth 100000
/-- A requirement whose values' slice is told by itself. -/
abbrev FE := ByteArray × ByteArray × (Option Addr × Nat × Nat)
/-- The element tells the requirement, in the world w. -/
def FR (w : World) (p : FE × Rq) : Prop := p.1.1 = mk p.2.1 ∧ p.1.2.1 = mk p.2.2.1 ∧ p.1.2.2.2.1 = p.2.2.2.length ∧ p.2.2.2.length ≤ p.1.2.2.2.2 ∧ Kd.C Kd.string w p.1.2.2.1 p.2.2.2.length (p.2.2.2.map mk)
/-- An element whose one value stands in a block of its own. -/
def GoodE (W : World) (p : FE × Rq) : Prop := ∃ (b : Nat) (t : L), p.1.2.2 = (some ⟨b, 0, none⟩, 1, 1) ∧ p.1.1 = mk p.2.1 ∧ p.1.2.1 = mk p.2.2.1 ∧ p.2.2.2 = [t] ∧ W.heap[b]? = some (.cells #[.string (mk t)] 9 (0, 0))
def EBlk (p : FE × Rq) : Option Nat := p.1.2.2.1.map (·.block)
theorem GoodE.lt {W : World} {p : FE × Rq} (h : GoodE W p) : ∃ b, EBlk p = some b ∧ b < W.heap.size := by
  obtain ⟨b, t, h1, _, _, _, h5⟩ := h
  exact ⟨b, by unfold EBlk; rw [h1]; rfl, blk_lt h5⟩
theorem GoodE.grown {W W' : World} {p : FE × Rq} {row : Option Nat} (h : GoodE W p) (hg : W.grownBy W' row) (hne : EBlk p ≠ row) : GoodE W' p := by
  obtain ⟨b, t, h1, h2, h3, h4, h5⟩ := h
  have hb : EBlk p = some b := by unfold EBlk; rw [h1]; rfl
  exact ⟨b, t, h1, h2, h3, h4, (hg.block b (blk_lt h5) (fun e => hne (hb.trans e))).trans h5⟩
theorem GoodE.below {W W' : World} {p : FE × Rq} (h : GoodE W p) (hb : Below W.heap.size W W') : GoodE W' p := by
  obtain ⟨b, t, h1, h2, h3, h4, h5⟩ := h
  exact ⟨b, t, h1, h2, h3, h4, (hb.block b (blk_lt h5)).trans h5⟩
theorem one_C {W : World} {b : Nat} {s : ByteArray} (h : W.heap[b]? = some (.cells #[.string s] 9 (0, 0))) : Kd.C Kd.string W (some ⟨b, 0, none⟩) 1 [s] := by
  refine ⟨rfl, by decide, fun _ => ⟨_, rfl, fun j p hp => ?_⟩⟩
  have hpj : p = s ∧ j = 0 := by
    match j, hp with
    | 0, hp => exact ⟨(Option.some.inj hp).symm, rfl⟩
  obtain ⟨rfl, rfl⟩ := hpj
  refine ⟨[.string p], rfl, rfl, fun i u hu => ?_⟩
  have had : ∀ k, (⟨b, 0, none⟩ : Addr).add k = ⟨b, k, none⟩ := fun k => by rw [add_spot rfl]; simp
  rw [had]
  have hc := blk_cell h (0 * Kd.string.sz + i)
  refine hc.trans ?_
  match i, hu with
  | 0, hu => exact hu
theorem GoodE.fr {W : World} {p : FE × Rq} (h : GoodE W p) : FR W p := by
  obtain ⟨b, t, h1, h2, h3, h4, h5⟩ := h
  unfold FR
  rw [h1, h4]
  exact ⟨h2, h3, rfl, Nat.le_refl _, one_C h5⟩
end Go.Proofs.YthfjolafikgpoaaGreatDoor.Hand
