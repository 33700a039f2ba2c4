import Derived.Test.YtdledchhpjkilaaDoorNmFull
import Derived.Test.YtdledchhpjkilaaDoorNmChk50
/- IsFullyQualifiedDomainName and the reference Domain. -/
namespace Go.Proofs.YtdledchhpjkilaaDoor.Hand
open Go.RowKit Go.Proofs.YtdledchhpjkilaaDoorW.PrintWords Go.Proofs.YtdledchhpjkilaaDoorW.PrintLast Go.Proofs.YtdledchhpjkilaaDoorW.PrintMore Go.Proofs.YtdledchhpjkilaaDoor.Base
set_option linter.unusedVariables false
set_option linter.unusedSimpArgs false
set_option maxRecDepth 100000
/-- A text without a point behind it. -/
def strip (x : L) : L := if x.getD (x.length - 1) 0 = 46 then x.take (x.length - 1) else x
def dom (y : L) : Bool := (pieces 46 y).all pLabel && ((most 253 y && sub y) && decide (2 ≤ (pieces 46 y).length))
def pDom (x : L) : Bool := dom (strip x)
theorem pDom_nil : pDom [] = false := by decide
theorem strip_ex {s : ByteArray} {x : L} (hx : s = mk x) : ∃ t : ByteArray, t.data.toList = strip x ∧ t.size ≤ s.size ∧ (x.getD (x.length - 1) 0 = 46 → s.extract 0 (s.size - 1) = t) ∧ (x.getD (x.length - 1) 0 ≠ 46 → s = t) := by
  subst hx
  unfold strip
  by_cases h : x.getD (x.length - 1) 0 = 46
  · refine ⟨mk (x.take (x.length - 1)), by rw [if_pos h]; rfl, by rw [mk_size, mk_size]; simp, fun _ => by rw [extract_mk, mk_size]; simp, fun g => absurd h g⟩
  · exact ⟨mk x, by rw [if_neg h]; rfl, Nat.le_refl _, fun g => absurd g h, fun _ => rfl⟩

set_option maxHeartbeats 4000000 in
theorem Domain_calls (s : ByteArray) (hs : s.size ≤ 100000000) (w : World) :
    Calls Tryd.prog 45 #[.string s] w fun e w' => e = .returned (.bool (pDom s.data.toList)) ∧ Below w.heap.size w w' := by
  obtain ⟨x, hx, hxs⟩ : ∃ x : L, s = mk x ∧ s.size = x.length := exists_mk s
  rw [show s.data.toList = x by rw [hx]; rfl]
  obtain ⟨t, ht, hts, ht1, ht2⟩ := strip_ex hx
  have HB := Aside0.mk (Below.refl w.heap.size w)
  have hQ : ∀ w, Calls Tryd.prog 69 #[.string t, .int .u8 46] w fun e w' => ∃ v0_ : Value, e = .returned (v0_) ∧ Kd.R Kd.string 9 w' w.heap.size (fun _ => True) v0_ ((pieces 46 t.data.toList).map mk) ∧ Below w.heap.size w w' := fun w => Pieces_calls 46 t (by omega) w
  have hS : ∀ w, Calls Tryd.prog 37 #[.string t] w fun e w' => e = .returned (.bool (most 253 t.data.toList && sub t.data.toList)) ∧ Below w.heap.size w w' := fun w => pSub_calls t (by omega) w
  have hP : pDom x = dom t.data.toList := by rw [ht]; rfl
  rw [hP]
  clear hP
  obtain ⟨y, hy⟩ : ∃ y, t.data.toList = y := ⟨_, rfl⟩
  have hyl : y.length = t.size := by rw [← hy]; exact (Lib.size_eq t).symm
  rw [hy] at hQ hS ⊢
  obtain ⟨q, hq⟩ : ∃ q, (decide (0 < s.size) && (x.getD (s.size - 1) 0 == 46)) = q := ⟨_, rfl⟩
  have hcut0 : (q = true → s.extract 0 (s.size - 1) = t ∧ 0 < s.size) ∧ (q = false → s = t) := by
    constructor
    · intro h; rw [h] at hq; simp only [Bool.and_eq_true, decide_eq_true_eq, beq_iff_eq] at hq
      exact ⟨ht1 (by rw [← hxs]; exact hq.2), hq.1⟩
    · intro h; rw [h] at hq
      apply ht2
      intro e
      rw [← hxs] at e
      by_cases h0 : 0 < s.size
      · rw [decide_eq_true h0, e] at hq; exact absurd hq (by decide)
      · have : x = [] := List.eq_nil_of_length_eq_zero (by omega)
        rw [this] at e; exact absurd e (by simp)
  have HC := Aside0.mk hcut0
  have HQ1 := Aside0.mk hQ; have HS := Aside0.mk hS
  have hb1 := byteIs hx (s.size - 1) 46
  have sl : s.toList = x := by rw [hx, mk_toList]
  clear ht ht1 ht2 hcut0 hQ hS hy
  have hpl := pieces_len 46 y
  have hple := pieces_le 46 y
  obtain ⟨l, hl⟩ : ∃ l, pieces 46 y = l := ⟨_, rfl⟩
  have hdom : dom y = (l.all pLabel && ((most 253 y && sub y) && decide (2 ≤ l.length))) := by rw [← hl]; rfl
  rw [hl] at hpl hple HQ1
  rw [hdom]
  obtain ⟨nm, hnm⟩ : ∃ nm, l.map mk = nm := ⟨_, rfl⟩
  have hnl : nm.length = l.length := by rw [← hnm, List.length_map]
  rw [hnm] at HQ1
  rw [← hnl]
  have HE : Aside0 (∀ i, i < nm.length → ∃ p : ByteArray, nm.getD i ByteArray.empty = p ∧ p.size ≤ 140737488351232 ∧ (l.drop i).all pLabel = (pLabel p.data.toList && (l.drop (i + 1)).all pLabel)) := ⟨fun i hi => by
    have hi2 : i < l.length := by omega
    refine ⟨mk (l.getD i []), ?_, ?_, ?_⟩
    · rw [← hnm, List.getD_eq_getElem?_getD, List.getElem?_map, List.getElem?_eq_getElem hi2, getD_of _ [] hi2]; rfl
    · rw [mk_size, getD_of l [] hi2]; have := hple _ (List.getElem_mem hi2); omega
    · rw [List.drop_eq_getElem_cons hi2, List.all_cons, getD_of l [] hi2]; rfl⟩
  have HZ : Aside0 ((l.drop nm.length).all pLabel = true) := ⟨by rw [List.drop_eq_nil_of_le (by omega)]; rfl⟩
  have hnz : nm.length ≤ 140737488351 + 1 := by omega
  obtain ⟨r, hr⟩ : ∃ r, l.all pLabel = r := ⟨_, rfl⟩
  have HRES : Aside0 ((l.drop 0).all pLabel = r) := ⟨by rw [List.drop_zero]; exact hr⟩
  rw [hr]
  obtain ⟨z, hz⟩ : ∃ z, (most 253 y && sub y) = z := ⟨_, rfl⟩
  rw [hz] at HS ⊢
  clear hl hpl hple hnm hnl hr hz hdom hyl
  go_enter Tryd.func45, Tryd.ntmps45
  go_upto_region 1 with (fail)
  go_cut [15] (fun v15 wx => v15 = .bool q ∧ w = wx)
  case first =>
    by_cases h0 : x = []
    · have t0 : (s.toList == ([] : List UInt8)) = true := by rw [sl, h0]; rfl
      have hq2 : q = false := by rw [← hq, hxs, h0]; rfl
      subst hq2
      clear h0 sl hq hb1 hx hxs
      go_wp2
      go_meet
      case rel => exact ⟨rfl, rfl⟩
    · have t0 : (s.toList == ([] : List UInt8)) = false := by rw [sl]; exact beq_eq_false_iff_ne.2 h0
      have t1 : (s.toList != ([] : List UInt8)) = true := by rw [bne, t0]; rfl
      have hpos : 0 < s.size := by rw [hxs]; exact List.length_pos_iff.2 h0
      have hb2 : ∀ h : s.size - 1 < s.size, (((s[s.size - 1]'h).toNat : Int) == 46) = q := fun h => (hb1 h).trans (by rw [← hq, decide_eq_true hpos, Bool.true_and])
      clear h0 sl hq hb1 hx hxs
      go_wp2
      go_meet
      case rel => exact ⟨rfl, rfl⟩
  case rest =>
  obtain ⟨rfl, rfl⟩ := hcut
  clear hb1 sl hq hx hxs
  go_upto_if 15 with (fail)
  go_cut [0] (fun v0 wx => v0 = .string t ∧ w = wx)
  case first =>
    cases q with
    | true =>
      obtain ⟨g1, g2⟩ := HC.out.1 rfl
      go_wp2
      go_meet
      case rel => exact ⟨by rw [← g1], rfl⟩
    | false =>
      have g1 := HC.out.2 rfl
      go_wp2
      go_meet
      case rel => exact ⟨by rw [← g1], rfl⟩
  case rest =>
  obtain ⟨rfl, rfl⟩ := hcut
  clear HC
  go_wp2_with (first | ((with_reducible refine (HQ1.out _).mono ?_); rintro e wN ⟨v6, rfl, ho0, hb⟩; have nq_ := Aside0.mk (Kd.R_lower ho0 (below_size (by repeat (first | (with_reducible first | exact HB.out | apply below_alloc | apply pw_below_drewN | apply below_drew1) | exact HB.out)))); have nb_ := Aside0.mk (below_step (by repeat (first | (with_reducible first | exact HB.out | apply below_alloc | apply pw_below_drewN | apply below_drew1) | exact HB.out)) hb); clear HB; have HB := nb_; clear nb_; (try clear hb); have HQ := nq_; clear nq_ ho0; (obtain ⟨AQ, cQ, eQ⟩ := Kd.R_slice HQ.out); subst eQ))
  clear HQ1
  go_loopg [5, 25] (nm.length) (fun g v5 v25 w' => ∃ (j : Nat), v25 = .int .i64 j ∧ wN = w' ∧ Aside0 (g + j = nm.length) ∧ Aside0 ((l.drop j).all pLabel = r))
  case atStart => exact ⟨0, rfl, rfl, ⟨by omega⟩, HRES⟩
  case round =>
    obtain ⟨j, rfl, rfl, HJ, HI⟩ := hrel
    have hj : j ≤ nm.length := by have := HJ.out; omega
    by_cases hjl : j < nm.length
    · obtain ⟨ad2, eA2, hcell2⟩ := Kd.at_string (Kd.R_reads' HQ.out).2.2 (j : Int) (by omega) (by omega)
      subst eA2
      obtain ⟨p, hp1, hp2, hp3⟩ := HE.out j hjl
      rw [show rdOf ByteArray.empty nm (j : Int) = p by unfold rdOf; rw [Int.toNat_natCast]; exact hp1, Int.toNat_natCast] at hcell2
      have h2 : ∀ w, Calls Tryd.prog 20 #[.string p] w fun e w' => e = .returned (.bool (pLabel p.data.toList)) ∧ w = w' := fun w => DnsLabel_calls p hp2 w
      clear hp1
      obtain ⟨b, hb⟩ : ∃ b, pLabel p.data.toList = b := ⟨_, rfl⟩
      rw [hb] at h2 hp3
      clear hb
      have H2 := Aside0.mk h2
      clear h2
      cases b with
      | true =>
        have HN : Aside0 ((l.drop (j + 1)).all pLabel = r) := ⟨by rw [← HI.out, hp3]; rfl⟩
        clear hp3
        go_wp2_with (first | ((with_reducible refine (H2.out _).mono ?_); rintro e w' ⟨rfl, rfl⟩))
        go_roundg (gk - 1)
        case measure => have := HJ.out; omega
        case rel => exact ⟨j + 1, by go_num, rfl, ⟨by have := HJ.out; omega⟩, HN⟩
      | false =>
        have HN : Aside0 (r = false) := ⟨by rw [← HI.out, hp3]; rfl⟩
        clear hp3
        go_wp2_with (first | ((with_reducible refine (H2.out _).mono ?_); rintro e w' ⟨rfl, rfl⟩))
        go_ret
        exact ⟨by rw [HN.out]; rfl, HB.out⟩
    · have HN : Aside0 (r = true) := ⟨by rw [← HI.out, show j = nm.length by omega]; exact HZ.out⟩
      cases z with
      | true =>
        go_wp2_with (first | ((with_reducible refine (HS.out _).mono ?_); rintro e w' ⟨rfl, hb⟩; have nb_ := Aside0.mk (below_step (by repeat (first | (with_reducible first | exact HB.out | apply below_alloc | apply pw_below_drewN | apply below_drew1) | exact HB.out)) hb); clear HB; have HB := nb_; clear nb_; (try clear hb)))
        go_ret
        exact ⟨by rw [HN.out]; first | rfl | exact congrArg (fun b : Bool => Ending.returned (Value.bool b)) (by first | (simp; done) | (simp; omega)), (by repeat (first | (with_reducible first | exact HB.out | apply below_alloc | apply pw_below_drewN | apply below_drew1) | exact HB.out))⟩
      | false =>
        go_wp2_with (first | ((with_reducible refine (HS.out _).mono ?_); rintro e w' ⟨rfl, hb⟩; have nb_ := Aside0.mk (below_step (by repeat (first | (with_reducible first | exact HB.out | apply below_alloc | apply pw_below_drewN | apply below_drew1) | exact HB.out)) hb); clear HB; have HB := nb_; clear nb_; (try clear hb)))
        go_ret
        exact ⟨by rw [HN.out]; rfl, (by repeat (first | (with_reducible first | exact HB.out | apply below_alloc | apply pw_below_drewN | apply below_drew1) | exact HB.out))⟩

set_option maxHeartbeats 8000000 in
theorem errs73 (s : ByteArray) (hs : s.size ≤ 100000000) (w : World) (hT : Tab w) :
    Calls Tryd.prog 73 #[.string s] w fun e w' => Errs2 (pDom s.data.toList) w e w' := by
  obtain ⟨x, hx, hxs⟩ : ∃ x : L, s = mk x ∧ s.size = x.length := exists_mk s
  have HB := Aside0.mk (Below.refl w.heap.size w)
  have HR : Aside0 (Kd.R Kd.string 9 w w.heap.size (fun _ => True) (.slice none 0 0) ([] : List ByteArray)) := ⟨Kd.R_nil _ _ _ _ _⟩
  have HLEN : Aside0 (([] : List ByteArray).length ≤ 20) := ⟨by decide⟩
  rw [show s.data.toList = x by rw [hx]; rfl]
  by_cases h0 : s.size = 0
  · have hP : pDom x = false := by
      have : x = [] := List.eq_nil_of_length_eq_zero (by omega)
      rw [this]; decide
    have e0 : (((s.size : Nat) : Int) == 0) = true := by rw [beq_iff_eq]; omega
    rw [hP]
    clear hP hx hxs
    have HNEW : Aside0 (([] : List ByteArray) ++ [⟨#[114, 101, 113, 117, 105, 114, 101, 100]⟩] = [⟨#[114, 101, 113, 117, 105, 114, 101, 100]⟩]) := ⟨rfl⟩
    go_enter Tryd.func73, Tryd.ntmps73
    go_upto_region 1 with (fail)
    go_cut [3] (fun v3 wc => Aside0 (Kd.R Kd.string 9 wc w.heap.size (fun _ => True) v3 ([] : List ByteArray)) ∧ w = wc)
    case first =>
      go_wp2
      go_meet
      case rel => exact ⟨HR, rfl⟩
    case rest =>
      clear HR
      obtain ⟨HR, rfl⟩ := hcut
      go_wp2_with (first | ((with_reducible refine gate_builtin (b := .append) (xs := #[.tmp 11, .tmp 12]) rfl ?_); (try (refine gate_guard (by rfl) ?_; dsimp only)); at_builtin; refine Kd.R_append Kd.string (w0 := w) w.heap.size rfl (.tmp 11) (.tmp 12) 22 9 (.string ⟨#[]⟩) 16 rfl Tryd.underlying22 infoS rfl (by decide) (by omega) u3 (([] : List ByteArray)) ((⟨#[114, 101, 113, 117, 105, 114, 101, 100]⟩ : ByteArray)) [.string ((⟨#[114, 101, 113, 117, 105, 114, 101, 100]⟩ : ByteArray))] (fun _ => True) (fun _ => False) rfl rfl ?aP (fun _ hk => hk.elim) ?aF ?aO ?aB ?aS ?aL ?_; (case aP => exact rfl); (case aB => exact (by repeat (first | (with_reducible first | exact HB.out | apply below_alloc | apply pw_below_drewN | apply below_drew1) | exact HB.out))); (case aF => exact (fun _ _ => trivial)); (case aO => exact (by (with_reducible repeat (first | apply Kd.R_alloc | apply Kd.R_drewN | apply Kd.R_drew)); exact HR.out)); (case aS => exact (below_size (by repeat (first | (with_reducible first | exact HB.out | apply below_alloc | apply pw_below_drewN | apply below_drew1) | exact HB.out)))); (case aL => have := HLEN.out; (try simp only [List.length_map, List.length_nil] at *); omega); intro vN wN ho hb hg hat; rw [HNEW.out] at ho; clear HB; clear HR; have HB := Aside0.mk hb; have HR := Aside0.mk ho; clear ho hb hg hat))
      go_ret
      exact ⟨_, _, rfl, (by (with_reducible repeat (first | apply Kd.R_alloc | apply Kd.R_drewN | apply Kd.R_drew)); exact HR.out), rfl, by decide, by decide, (by repeat (first | (with_reducible first | exact HB.out | apply below_alloc | apply pw_below_drewN | apply below_drew1) | exact HB.out))⟩
  have e0 : (((s.size : Nat) : Int) == 0) = false := by rw [beq_eq_false_iff_ne]; omega
  have hpos : 0 < s.size := by omega
  obtain ⟨t, ht, hts, ht1, ht2⟩ := strip_ex hx
  have hP : pDom x = dom t.data.toList := by rw [ht]; rfl
  rw [hP]
  have h1 : ∀ w', Below w.heap.size w w' → Calls Tryd.prog 68 #[.string t] w' fun e w2 => Errs (most 253 t.data.toList && sub t.data.toList) w' e w2 := fun w' hb => errs68 t (by omega) w' (hT.below hb)
  have h2 : ∀ w, Calls Tryd.prog 95 #[.string t, .string ⟨#[46]⟩] w fun e w' => ∃ v0_ : Value, e = .returned (v0_) ∧ Kd.R Kd.string 9 w' w.heap.size (fun _ => True) v0_ ((pieces 46 t.data.toList).map mk) ∧ Below w.heap.size w w' := fun w => Split_calls 46 t (by omega) w
  obtain ⟨y, hy⟩ : ∃ y, t.data.toList = y := ⟨_, rfl⟩
  have hyl : y.length = t.size := by rw [← hy]; exact (Lib.size_eq t).symm
  rw [hy] at h1 h2 ⊢
  have hpl := pieces_len 46 y
  have hple := pieces_le 46 y
  obtain ⟨l, hl⟩ : ∃ l, pieces 46 y = l := ⟨_, rfl⟩
  have hdom : dom y = (l.all pLabel && ((most 253 y && sub y) && decide (2 ≤ l.length))) := by rw [← hl]; rfl
  rw [hl] at hpl hple h2
  rw [hdom]
  obtain ⟨nm, hnm⟩ : ∃ nm, l.map mk = nm := ⟨_, rfl⟩
  have hnl : nm.length = l.length := by rw [← hnm, List.length_map]
  rw [hnm] at h2
  rw [← hnl]
  have HE : Aside0 (∀ i, i < nm.length → ∃ p : ByteArray, nm.getD i ByteArray.empty = p ∧ p.size ≤ 100000000 ∧ (l.drop i).all pLabel = (pLabel p.data.toList && (l.drop (i + 1)).all pLabel)) := ⟨fun i hi => by
    have hi2 : i < l.length := by omega
    refine ⟨mk (l.getD i []), ?_, ?_, ?_⟩
    · rw [← hnm, List.getD_eq_getElem?_getD, List.getElem?_map, List.getElem?_eq_getElem hi2, getD_of _ [] hi2]; rfl
    · rw [mk_size, getD_of l [] hi2]; have := hple _ (List.getElem_mem hi2); omega
    · rw [List.drop_eq_getElem_cons hi2, List.all_cons, getD_of l [] hi2]; rfl⟩
  have HZ : Aside0 ((l.drop nm.length).all pLabel = true) := ⟨by rw [List.drop_eq_nil_of_le (by omega)]; rfl⟩
  have hnz : nm.length ≤ 140737488351 + 1 := by omega
  obtain ⟨r, hr⟩ : ∃ r, l.all pLabel = r := ⟨_, rfl⟩
  have HRES : Aside0 ((l.drop 0).all pLabel = r) := ⟨by rw [List.drop_zero]; exact hr⟩
  rw [hr]
  obtain ⟨z, hz⟩ : ∃ z, (most 253 y && sub y) = z := ⟨_, rfl⟩
  rw [hz] at h1 ⊢
  obtain ⟨b2, hb2d⟩ : ∃ b, decide (2 ≤ nm.length) = b := ⟨_, rfl⟩
  rw [hb2d]
  have hb1 := byteIs hx (s.size - 1) 46
  have HC : Aside0 ((x.getD (s.size - 1) 0 = 46 → s.extract 0 (s.size - 1) = t) ∧ (x.getD (s.size - 1) 0 ≠ 46 → s = t)) := ⟨fun g => ht1 (by rw [← hxs]; exact g), fun g => ht2 (by rw [← hxs]; exact g)⟩
  obtain ⟨q, hq⟩ : ∃ q, (x.getD (s.size - 1) 0 == 46) = q := ⟨_, rfl⟩
  have hb2 : ∀ h : s.size - 1 < s.size, (((s[s.size - 1]'h).toNat : Int) == 46) = q := fun h => (hb1 h).trans hq
  clear hb1
  have H1 := Aside0.mk h1; have H2 := Aside0.mk h2
  clear hl hpl hple hnm hnl hr hz hdom hyl h1 h2 hy hP ht ht1 ht2 hx hxs h0
  go_enter Tryd.func73, Tryd.ntmps73
  go_upto_region 1 with (fail)
  go_cut [3] (fun v3 wc => Aside0 (Kd.R Kd.string 9 wc w.heap.size (fun _ => True) v3 ([] : List ByteArray)) ∧ w = wc)
  case first =>
    go_wp2
    go_meet
    case rel => exact ⟨HR, rfl⟩
  case rest =>
  clear HR
  obtain ⟨HR, rfl⟩ := hcut
  go_upto_if 19 with (fail)
  go_cut [0] (fun v0 wx => v0 = .string t ∧ w = wx)
  case first =>
    cases q with
    | true =>
      have g1 := HC.out.1 (by simpa using hq)
      clear hq
      go_wp2
      go_meet
      case rel => exact ⟨by rw [← g1], rfl⟩
    | false =>
      have g1 := HC.out.2 (by simpa using hq)
      clear hq
      go_wp2
      go_meet
      case rel => exact ⟨by rw [← g1], rfl⟩
  case rest =>
  obtain ⟨rfl, rfl⟩ := hcut
  clear HC hq hb2
  cases z with
  | false =>
    go_wp2_with (first | ((with_reducible refine (H1.out _ (by repeat (first | (with_reducible first | exact HB.out | apply below_alloc | apply pw_below_drewN | apply below_drew1) | exact HB.out))).mono ?_); rintro e w' ⟨v0, xs, rfl, g1, g2, g3, g4, hb⟩; have nr_ := Aside0.mk (Kd.R_below (by (with_reducible repeat (first | apply Kd.R_alloc | apply Kd.R_drewN | apply Kd.R_drew)); exact HR.out) hb); clear HR; have HR := nr_; clear nr_; (obtain ⟨A1, c1, e1⟩ := Kd.R_slice g1); subst e1; have HQ := Aside0.mk (Kd.R_reads' g1); have hz : 0 < xs.length := (by cases xs with | nil => simp at g2 | cons a b => simp); (obtain ⟨r2, hr2, hj⟩ := zzJoin_calls xs g3 g4); have HJ := Aside0.mk hj; clear hj g1 g2 g3 g4; have nb_ := Aside0.mk (below_step (by repeat (first | (with_reducible first | exact HB.out | apply below_alloc | apply pw_below_drewN | apply below_drew1) | exact HB.out)) hb); clear HB; have HB := nb_; clear nb_; (try clear hb); (obtain ⟨ys, hys⟩ : ∃ ys, ([] : List ByteArray) ++ [r2] = ys := ⟨_, rfl⟩); have HNEW := Aside0.mk hys; clear hys) | ((with_reducible refine (HJ.out A1 c1 _ ?hC HQ.out.2.1).mono ?_); (case hC => (with_reducible repeat (first | exact HQ.out.2.2 | refine Kd.C_alloc ?_ _ | refine Kd.C_drewN ?_ _ | refine Kd.C_drew ?_))); rintro e w' ⟨rfl, ⟨nd, rfl⟩⟩) | ((with_reducible refine gate_builtin (b := .append) (xs := #[.tmp 30, .tmp 33]) rfl ?_); (try (refine gate_guard (by rfl) ?_; dsimp only)); at_builtin; refine Kd.R_append Kd.string (w0 := w) w.heap.size rfl (.tmp 30) (.tmp 33) 22 9 (.string ⟨#[]⟩) 16 rfl Tryd.underlying22 infoS rfl (by decide) (by omega) u3 (([] : List ByteArray)) (r2) [.string (r2)] (fun _ => True) (fun _ => False) rfl rfl ?aP (fun _ hk => hk.elim) ?aF ?aO ?aB ?aS ?aL ?_; (case aP => exact rfl); (case aB => exact (by repeat (first | (with_reducible first | exact HB.out | apply below_alloc | apply pw_below_drewN | apply below_drew1) | exact HB.out))); (case aF => exact (fun _ _ => trivial)); (case aO => exact (by (with_reducible repeat (first | apply Kd.R_alloc | apply Kd.R_drewN | apply Kd.R_drew)); exact HR.out)); (case aS => exact (below_size (by repeat (first | (with_reducible first | exact HB.out | apply below_alloc | apply pw_below_drewN | apply below_drew1) | exact HB.out)))); (case aL => have := HLEN.out; (try simp only [List.length_map, List.length_nil] at *); omega); intro vN wN ho hb hg hat; rw [HNEW.out] at ho; clear HB; clear HR; have HB := Aside0.mk hb; have HR := Aside0.mk ho; clear ho hb hg hat))
    go_ret
    exact ⟨_, ys, rfl, (by (with_reducible repeat (first | apply Kd.R_alloc | apply Kd.R_drewN | apply Kd.R_drew)); exact HR.out), (Errs.snoc HNEW.out).trans (by simp), by rw [← HNEW.out]; simp, fun p hp => by rw [← HNEW.out] at hp; simp at hp; subst hp; omega, (by repeat (first | (with_reducible first | exact HB.out | apply below_alloc | apply pw_below_drewN | apply below_drew1) | exact HB.out))⟩
  | true =>
    cases b2 with
    | true =>
      have h3 : 2 ≤ nm.length := by simpa using hb2d
      clear hb2d
      go_wp2_with (first | ((with_reducible refine (H1.out _ (by repeat (first | (with_reducible first | exact HB.out | apply below_alloc | apply pw_below_drewN | apply below_drew1) | exact HB.out))).mono ?_); rintro e w' ⟨v0, xs, rfl, g1, g2, g3, g4, hb⟩; have nr_ := Aside0.mk (Kd.R_below (by (with_reducible repeat (first | apply Kd.R_alloc | apply Kd.R_drewN | apply Kd.R_drew)); exact HR.out) hb); clear HR; have HR := nr_; clear nr_; (obtain ⟨A1, c1, e1⟩ := Kd.R_slice g1); subst e1; (obtain rfl : xs = [] := (by cases xs with | nil => rfl | cons a b => simp at g2)); clear g1 g2 g3 g4; have nb_ := Aside0.mk (below_step (by repeat (first | (with_reducible first | exact HB.out | apply below_alloc | apply pw_below_drewN | apply below_drew1) | exact HB.out)) hb); clear HB; have HB := nb_; clear nb_; (try clear hb)) | ((with_reducible refine (H2.out _).mono ?_); rintro e wN ⟨v0, rfl, ho0, hb⟩; have nr_ := Aside0.mk (Kd.R_below (by (with_reducible repeat (first | apply Kd.R_alloc | apply Kd.R_drewN | apply Kd.R_drew)); exact HR.out) hb); clear HR; have HR := nr_; clear nr_; have nq_ := Aside0.mk (Kd.R_lower ho0 (below_size (by repeat (first | (with_reducible first | exact HB.out | apply below_alloc | apply pw_below_drewN | apply below_drew1) | exact HB.out)))); have nb_ := Aside0.mk (below_step (by repeat (first | (with_reducible first | exact HB.out | apply below_alloc | apply pw_below_drewN | apply below_drew1) | exact HB.out)) hb); clear HB; have HB := nb_; clear nb_; (try clear hb); (try clear HP); have HP := nq_; clear nq_ ho0; (obtain ⟨AP, cP, eP⟩ := Kd.R_slice HP.out); subst eP))
      go_loopg [6, 7, 45] (nm.length) (fun g v6 v7 v45 w' => ∃ (j : Nat), v45 = .int .i64 j ∧ Aside0 (g + j = nm.length) ∧ Aside0 ((l.drop j).all pLabel = r) ∧ Aside0 (Kd.R Kd.string 9 w' w.heap.size (fun _ => True) u3 ([] : List ByteArray)) ∧ Aside0 (Kd.R Kd.string 9 w' w.heap.size (fun _ => True) (.slice AP nm.length cP) nm) ∧ Aside0 (Below w.heap.size w w'))
      case atStart => exact ⟨0, rfl, ⟨by omega⟩, HRES, HR, HP, HB⟩
      case round =>
        clear HR HP HB
        obtain ⟨j, rfl, HJJ, HI, HR, HP, HB⟩ := hrel
        generalize gk = go at *
        have hj : j ≤ nm.length := by have := HJJ.out; omega
        by_cases hjl : j < nm.length
        · obtain ⟨ad2, eA2, hcell2⟩ := Kd.at_string (Kd.R_reads' HP.out).2.2 (j : Int) (by omega) (by omega)
          subst eA2
          obtain ⟨p, hp1, hp2, hp3⟩ := HE.out j hjl
          rw [show rdOf ByteArray.empty nm (j : Int) = p by unfold rdOf; rw [Int.toNat_natCast]; exact hp1, Int.toNat_natCast] at hcell2
          have h5 : ∀ w, Calls Tryd.prog 50 #[.string p] w fun e w' => Errs (pLabel p.data.toList) w e w' := fun w => errs50 p (by omega) w
          clear hp1
          obtain ⟨b, hb⟩ : ∃ b, pLabel p.data.toList = b := ⟨_, rfl⟩
          rw [hb] at h5 hp3
          clear hb
          have H5 := Aside0.mk h5
          clear h5
          cases b with
          | true =>
            have HN : Aside0 ((l.drop (j + 1)).all pLabel = r) := ⟨by rw [← HI.out, hp3]; rfl⟩
            clear hp3
            go_wp2_with (first | ((with_reducible refine (H5.out _).mono ?_); rintro e wN ⟨v0, xs, rfl, g1, g2, g3, g4, hb⟩; have nr_ := Aside0.mk (Kd.R_below (by (with_reducible repeat (first | apply Kd.R_alloc | apply Kd.R_drewN | apply Kd.R_drew)); exact HR.out) hb); clear HR; have HR := nr_; clear nr_; have np_ := Aside0.mk (Kd.R_below (by (with_reducible repeat (first | apply Kd.R_alloc | apply Kd.R_drewN | apply Kd.R_drew)); exact HP.out) hb); clear HP; have HP := np_; clear np_; (obtain ⟨A1, c1, e1⟩ := Kd.R_slice g1); subst e1; (obtain rfl : xs = [] := (by cases xs with | nil => rfl | cons a b => simp at g2)); clear g1 g2 g3 g4; have nb_ := Aside0.mk (below_step (by repeat (first | (with_reducible first | exact HB.out | apply below_alloc | apply pw_below_drewN | apply below_drew1) | exact HB.out)) hb); clear HB; have HB := nb_; clear nb_; (try clear hb)))
            go_roundg (go - 1)
            case measure => have := HJJ.out; omega
            case rel => exact ⟨j + 1, by go_num, ⟨by have := HJJ.out; omega⟩, HN, ⟨by (with_reducible repeat (first | apply Kd.R_alloc | apply Kd.R_drewN | apply Kd.R_drew)); exact HR.out⟩, ⟨by (with_reducible repeat (first | apply Kd.R_alloc | apply Kd.R_drewN | apply Kd.R_drew)); exact HP.out⟩, ⟨(by repeat (first | (with_reducible first | exact HB.out | apply below_alloc | apply pw_below_drewN | apply below_drew1) | exact HB.out))⟩⟩
          | false =>
            have HN : Aside0 (r = false) := ⟨by rw [← HI.out, hp3]; rfl⟩
            clear hp3
            go_wp2_with (first | ((with_reducible refine (H5.out _).mono ?_); rintro e wN ⟨v0, xs, rfl, g1, g2, g3, g4, hb⟩; have nr_ := Aside0.mk (Kd.R_below (by (with_reducible repeat (first | apply Kd.R_alloc | apply Kd.R_drewN | apply Kd.R_drew)); exact HR.out) hb); clear HR; have HR := nr_; clear nr_; have np_ := Aside0.mk (Kd.R_below (by (with_reducible repeat (first | apply Kd.R_alloc | apply Kd.R_drewN | apply Kd.R_drew)); exact HP.out) hb); clear HP; have HP := np_; clear np_; (obtain ⟨A1, c1, e1⟩ := Kd.R_slice g1); subst e1; have HQ := Aside0.mk (Kd.R_reads' g1); have hz : 0 < xs.length := (by cases xs with | nil => simp at g2 | cons a b => simp); (obtain ⟨r2, hr2, hj⟩ := zzJoin_calls xs g3 g4); have HJ := Aside0.mk hj; clear hj g1 g2 g3 g4; have nb_ := Aside0.mk (below_step (by repeat (first | (with_reducible first | exact HB.out | apply below_alloc | apply pw_below_drewN | apply below_drew1) | exact HB.out)) hb); clear HB; have HB := nb_; clear nb_; (try clear hb); (obtain ⟨ys, hys⟩ : ∃ ys, ([] : List ByteArray) ++ [r2] = ys := ⟨_, rfl⟩); have HNEW := Aside0.mk hys; clear hys) | ((with_reducible refine (HJ.out A1 c1 _ ?hC HQ.out.2.1).mono ?_); (case hC => (with_reducible repeat (first | exact HQ.out.2.2 | refine Kd.C_alloc ?_ _ | refine Kd.C_drewN ?_ _ | refine Kd.C_drew ?_))); rintro e w' ⟨rfl, ⟨nd, rfl⟩⟩) | ((with_reducible refine gate_builtin (b := .append) (xs := #[.tmp 54, .tmp 57]) rfl ?_); (try (refine gate_guard (by rfl) ?_; dsimp only)); at_builtin; refine Kd.R_append Kd.string (w0 := w) w.heap.size rfl (.tmp 54) (.tmp 57) 22 9 (.string ⟨#[]⟩) 16 rfl Tryd.underlying22 infoS rfl (by decide) (by omega) u3 (([] : List ByteArray)) (r2) [.string (r2)] (fun _ => True) (fun _ => False) rfl rfl ?aP (fun _ hk => hk.elim) ?aF ?aO ?aB ?aS ?aL ?_; (case aP => exact rfl); (case aB => exact (by repeat (first | (with_reducible first | exact HB.out | apply below_alloc | apply pw_below_drewN | apply below_drew1) | exact HB.out))); (case aF => exact (fun _ _ => trivial)); (case aO => exact (by (with_reducible repeat (first | apply Kd.R_alloc | apply Kd.R_drewN | apply Kd.R_drew)); exact HR.out)); (case aS => exact (below_size (by repeat (first | (with_reducible first | exact HB.out | apply below_alloc | apply pw_below_drewN | apply below_drew1) | exact HB.out)))); (case aL => have := HLEN.out; (try simp only [List.length_map, List.length_nil] at *); omega); intro vN wN ho hb hg hat; rw [HNEW.out] at ho; clear HB; clear HR; have HB := Aside0.mk hb; have HR := Aside0.mk ho; clear ho hb hg hat))
            go_ret
            exact ⟨_, ys, rfl, (by (with_reducible repeat (first | apply Kd.R_alloc | apply Kd.R_drewN | apply Kd.R_drew)); exact HR.out), (Errs.snoc HNEW.out).trans (by rw [HN.out]; rfl), by rw [← HNEW.out]; simp, fun p hp => by rw [← HNEW.out] at hp; simp at hp; subst hp; omega, (by repeat (first | (with_reducible first | exact HB.out | apply below_alloc | apply pw_below_drewN | apply below_drew1) | exact HB.out))⟩
        · have HN : Aside0 (r = true) := ⟨by rw [← HI.out, show j = nm.length by omega]; exact HZ.out⟩
          go_wp2
          go_ret
          exact ⟨_, [], rfl, (by (with_reducible repeat (first | apply Kd.R_alloc | apply Kd.R_drewN | apply Kd.R_drew)); exact HR.out), by rw [HN.out]; rfl, by decide, fun p hp => by simp at hp, (by repeat (first | (with_reducible first | exact HB.out | apply below_alloc | apply pw_below_drewN | apply below_drew1) | exact HB.out))⟩
    | false =>
      have h3 : ¬ 2 ≤ nm.length := by simpa using hb2d
      clear hb2d
      have HNEW : Aside0 (([] : List ByteArray) ++ [⟨#[115, 104, 111, 117, 108, 100, 32, 98, 101, 32, 97, 32, 100, 111, 109, 97, 105, 110, 32, 119, 105, 116, 104, 32, 97, 116, 32, 108, 101, 97, 115, 116, 32, 116, 119, 111, 32, 115, 101, 103, 109, 101, 110, 116, 115, 32, 115, 101, 112, 97, 114, 97, 116, 101, 100, 32, 98, 121, 32, 100, 111, 116, 115]⟩] = [⟨#[115, 104, 111, 117, 108, 100, 32, 98, 101, 32, 97, 32, 100, 111, 109, 97, 105, 110, 32, 119, 105, 116, 104, 32, 97, 116, 32, 108, 101, 97, 115, 116, 32, 116, 119, 111, 32, 115, 101, 103, 109, 101, 110, 116, 115, 32, 115, 101, 112, 97, 114, 97, 116, 101, 100, 32, 98, 121, 32, 100, 111, 116, 115]⟩]) := ⟨rfl⟩
      go_wp2_with (first | ((with_reducible refine (H1.out _ (by repeat (first | (with_reducible first | exact HB.out | apply below_alloc | apply pw_below_drewN | apply below_drew1) | exact HB.out))).mono ?_); rintro e w' ⟨v0, xs, rfl, g1, g2, g3, g4, hb⟩; have nr_ := Aside0.mk (Kd.R_below (by (with_reducible repeat (first | apply Kd.R_alloc | apply Kd.R_drewN | apply Kd.R_drew)); exact HR.out) hb); clear HR; have HR := nr_; clear nr_; (obtain ⟨A1, c1, e1⟩ := Kd.R_slice g1); subst e1; (obtain rfl : xs = [] := (by cases xs with | nil => rfl | cons a b => simp at g2)); clear g1 g2 g3 g4; have nb_ := Aside0.mk (below_step (by repeat (first | (with_reducible first | exact HB.out | apply below_alloc | apply pw_below_drewN | apply below_drew1) | exact HB.out)) hb); clear HB; have HB := nb_; clear nb_; (try clear hb)) | ((with_reducible refine (H2.out _).mono ?_); rintro e wN ⟨v0, rfl, ho0, hb⟩; have nr_ := Aside0.mk (Kd.R_below (by (with_reducible repeat (first | apply Kd.R_alloc | apply Kd.R_drewN | apply Kd.R_drew)); exact HR.out) hb); clear HR; have HR := nr_; clear nr_; have nq_ := Aside0.mk (Kd.R_lower ho0 (below_size (by repeat (first | (with_reducible first | exact HB.out | apply below_alloc | apply pw_below_drewN | apply below_drew1) | exact HB.out)))); have nb_ := Aside0.mk (below_step (by repeat (first | (with_reducible first | exact HB.out | apply below_alloc | apply pw_below_drewN | apply below_drew1) | exact HB.out)) hb); clear HB; have HB := nb_; clear nb_; (try clear hb); (try clear HP); have HP := nq_; clear nq_ ho0; (obtain ⟨AP, cP, eP⟩ := Kd.R_slice HP.out); subst eP) | ((with_reducible refine gate_builtin (b := .append) (xs := #[.tmp 39, .tmp 40]) rfl ?_); (try (refine gate_guard (by rfl) ?_; dsimp only)); at_builtin; refine Kd.R_append Kd.string (w0 := w) w.heap.size rfl (.tmp 39) (.tmp 40) 22 9 (.string ⟨#[]⟩) 16 rfl Tryd.underlying22 infoS rfl (by decide) (by omega) u3 (([] : List ByteArray)) ((⟨#[115, 104, 111, 117, 108, 100, 32, 98, 101, 32, 97, 32, 100, 111, 109, 97, 105, 110, 32, 119, 105, 116, 104, 32, 97, 116, 32, 108, 101, 97, 115, 116, 32, 116, 119, 111, 32, 115, 101, 103, 109, 101, 110, 116, 115, 32, 115, 101, 112, 97, 114, 97, 116, 101, 100, 32, 98, 121, 32, 100, 111, 116, 115]⟩ : ByteArray)) [.string ((⟨#[115, 104, 111, 117, 108, 100, 32, 98, 101, 32, 97, 32, 100, 111, 109, 97, 105, 110, 32, 119, 105, 116, 104, 32, 97, 116, 32, 108, 101, 97, 115, 116, 32, 116, 119, 111, 32, 115, 101, 103, 109, 101, 110, 116, 115, 32, 115, 101, 112, 97, 114, 97, 116, 101, 100, 32, 98, 121, 32, 100, 111, 116, 115]⟩ : ByteArray))] (fun _ => True) (fun _ => False) rfl rfl ?aP (fun _ hk => hk.elim) ?aF ?aO ?aB ?aS ?aL ?_; (case aP => exact rfl); (case aB => exact (by repeat (first | (with_reducible first | exact HB.out | apply below_alloc | apply pw_below_drewN | apply below_drew1) | exact HB.out))); (case aF => exact (fun _ _ => trivial)); (case aO => exact (by (with_reducible repeat (first | apply Kd.R_alloc | apply Kd.R_drewN | apply Kd.R_drew)); exact HR.out)); (case aS => exact (below_size (by repeat (first | (with_reducible first | exact HB.out | apply below_alloc | apply pw_below_drewN | apply below_drew1) | exact HB.out)))); (case aL => have := HLEN.out; (try simp only [List.length_map, List.length_nil] at *); omega); intro vN wN ho hb hg hat; rw [HNEW.out] at ho; clear HB; clear HR; have HB := Aside0.mk hb; have HR := Aside0.mk ho; clear ho hb hg hat))
      go_ret
      exact ⟨_, _, rfl, (by (with_reducible repeat (first | apply Kd.R_alloc | apply Kd.R_drewN | apply Kd.R_drew)); exact HR.out), by simp, by decide, by decide, (by repeat (first | (with_reducible first | exact HB.out | apply below_alloc | apply pw_below_drewN | apply below_drew1) | exact HB.out))⟩
end Go.Proofs.YtdledchhpjkilaaDoor.Hand

