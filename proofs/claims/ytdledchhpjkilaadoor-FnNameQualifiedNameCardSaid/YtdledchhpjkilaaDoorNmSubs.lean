import Derived.Test.YtdledchhpjkilaaDoorNmMsg
import Derived.Test.YtdledchhpjkilaaDoorPFnNameDomainNamex2
/- zzSplit at one byte, Pieces: a text's parts between a byte. -/
namespace Go.Proofs.YtdledchhpjkilaaDoor.Hand
open Go.RowKit Go.Proofs.YtdledchhpjkilaaDoor.PFnNameDomainName Go.Proofs.YtdledchhpjkilaaDoorW.PrintWords Go.Proofs.YtdledchhpjkilaaDoorW.PrintLast Go.Proofs.YtdledchhpjkilaaDoorW.PrintMore Go.Proofs.YtdledchhpjkilaaDoor.Base
set_option linter.unusedVariables false
set_option linter.unusedSimpArgs false
set_option maxRecDepth 100000

/-- Pieces. -/
theorem pieces_l0 (x : L) (c : UInt8) (hx : x.length ≤ 140737488351232) :
    ∀ (d i f : Nat) (out : List L), i + d = x.length → f ≤ i → out.length ≤ i → x.length < 8796093022208 →
      Ev (fun k => spec_Pieces.l0 k (mk x) (c.toNat : Int) (out.map mk) f (x.length : Int) i) ((out ++ glue ((x.take i).drop f) (pieces c (x.drop i))).map mk) := by
  intro d
  induction d with
  | zero =>
    intro i f out hi hf ho hb
    have e : x.drop i = [] := List.drop_eq_nil_of_le (by omega)
    have e2 : i = x.length := by omega
    rw [e]
    refine Ev.step (f := fun _ => some ((out ++ glue ((x.take i).drop f) (pieces c [])).map mk)) (fun k => ?_) (Ev.now _)
    simp only [spec_Pieces.l0]
    rw [if_neg (by omega), if_pos (by omega), if_pos (by rw [mk_size]; omega), if_pos (by rw [List.length_map]; omega), mk_size, extract_mk]
    simp [glue, pieces, e2]
  | succ d ih =>
    intro i f out hi hf ho hb
    have hlt : i < x.length := by omega
    rw [drop_cons hlt, pieces]
    by_cases h : x.getD i 0 = c
    · rw [if_pos h]
      have h1 := ih (i + 1) (i + 1) (out ++ [(x.take i).drop f]) (by omega) (by omega) (by simp; omega) hb
      have e : (x.take (i + 1)).drop (i + 1) = [] := List.drop_eq_nil_of_le (by simp; omega)
      rw [e, glue_pieces_nil] at h1
      have e3 : (out ++ glue ((x.take i).drop f) ([] :: pieces c (x.drop (i + 1)))).map mk = (out ++ [(x.take i).drop f] ++ pieces c (x.drop (i + 1))).map mk := by simp [glue]
      rw [e3]
      exact Ev.step (fun k => by
        simp only [spec_Pieces.l0]
        rw [if_pos (by omega), if_pos (by omega), if_pos (by rw [mk_size]; omega), bt_mk, Int.toNat_natCast, if_pos (by rw [h]), if_pos (by omega), if_pos (by omega), if_pos (by rw [mk_size]; omega), if_pos (by rw [List.length_map]; omega), wrap_id (by omega) (by omega), extract_mk]
        simp) h1
    · rw [if_neg h, glue_glue, ← take_drop_snoc hlt hf]
      have h1 := ih (i + 1) f out (by omega) (by omega) (by omega) hb
      exact Ev.step (fun k => by
        simp only [spec_Pieces.l0]
        rw [if_pos (by omega), if_pos (by omega), if_pos (by rw [mk_size]; omega), bt_mk, Int.toNat_natCast, if_neg (fun e => h (UInt8.toNat_inj.1 (by omega))), wrap_id (by omega) (by omega)]
        rfl) h1
theorem pieces_ev (x : L) (c : UInt8) (hx : x.length < 8796093022208) : Ev (fun k => spec_Pieces.f k (mk x) (c.toNat : Int)) ((pieces c x).map mk) := by
  have h := pieces_l0 x c (by omega) x.length 0 0 [] (by omega) (by omega) (by simp) hx
  simp only [List.take_zero, List.drop_nil, List.drop_zero, List.nil_append, glue_pieces_nil] at h
  refine Ev.congr (fun k => ?_) h
  unfold spec_Pieces.f; rw [mk_size]; rfl


theorem pieces_cons (c : UInt8) (x : L) (i : Nat) (h : i < x.length) : glue (x.take i) (pieces c (x.drop i)) = if x.getD i 0 = c then x.take i :: pieces c (x.drop (i + 1)) else glue (x.take (i + 1)) (pieces c (x.drop (i + 1))) := by
  rw [drop_cons h, pieces]
  by_cases e : x.getD i 0 = c
  · rw [if_pos e, if_pos e]; simp [glue]
  · rw [if_neg e, if_neg e, glue_glue]
    congr 1
    have := take_drop_snoc (f := 0) h (by omega)
    simpa using this.symm
theorem zzSplit_l0 (c : UInt8) :
    ∀ (d : Nat) (x : L) (i : Nat) (out : List L), i + d = x.length → out.length + d + 1 < 8796093022208 → x.length ≤ 140737488351232 →
      Ev (fun k => validation_zzSplit.l0 k (mk x) (mk [c]) (out.map mk) i) ((out ++ glue (x.take i) (pieces c (x.drop i))).map mk) := by
  intro d
  induction d with
  | zero =>
    intro x i out hi ho hx
    have e : x.drop i = [] := List.drop_eq_nil_of_le (by omega)
    have e1 : wrap64 ((i : Int) + ((mk [c]).size : Int)) = (i : Int) + 1 := by rw [mk_size]; exact wrap_id (by simp; omega) (by simp; omega)
    refine Ev.step (f := fun _ => some ((out ++ glue (x.take i) (pieces c (x.drop i))).map mk)) (fun k => ?_) (Ev.now _)
    simp only [validation_zzSplit.l0]
    rw [e1, if_neg (by rw [mk_size]; omega), if_pos (by rw [List.length_map]; omega), e]
    simp [glue, pieces, List.take_of_length_le (show x.length ≤ i by omega)]
  | succ d ih =>
    intro x i out hi ho hx
    have hlt : i < x.length := by omega
    have e1 : wrap64 ((i : Int) + ((mk [c]).size : Int)) = (i : Int) + 1 := by rw [mk_size]; exact wrap_id (by simp; omega) (by simp; omega)
    have e2 : (mk x).extract (i : Int).toNat ((i : Int) + 1).toNat = mk [x.getD i 0] := by
      rw [extract_mk, show ((i : Int) + 1).toNat = i + 1 by omega, Int.toNat_natCast]
      congr 1
      rw [take_drop_snoc hlt (Nat.le_refl i)]
      simp
    rw [pieces_cons c x i hlt]
    by_cases h : x.getD i 0 = c
    · rw [if_pos h]
      have h1 := ih (x.drop (i + 1)) 0 (out ++ [x.take i]) (by simp; omega) (by simp; omega) (by simp; omega)
      simp only [List.take_zero, List.drop_zero, glue_pieces_nil] at h1
      have e3 : (out ++ [x.take i] ++ pieces c (x.drop (i + 1))).map mk = (out ++ x.take i :: pieces c (x.drop (i + 1))).map mk := by simp
      rw [e3] at h1
      refine Ev.step (fun k => ?_) h1
      simp only [validation_zzSplit.l0]
      rw [e1, if_pos (by rw [mk_size]; omega), if_pos (by omega), if_pos (by omega), e2, h, if_pos rfl, if_pos (by rw [mk_size]; omega), if_pos (by rw [List.length_map]; omega), if_pos (by omega), extract_mk, extract_mk, mk_size]
      rw [show ((i : Int) + 1).toNat = i + 1 by omega, Int.toNat_natCast]
      simp
    · rw [if_neg h]
      have h1 := ih x (i + 1) out (by omega) (by omega) hx
      refine Ev.step (fun k => ?_) h1
      simp only [validation_zzSplit.l0]
      rw [e1, if_pos (by rw [mk_size]; omega), if_pos (by omega), if_pos (by omega), e2, if_neg (by rw [mk_toList, mk_toList]; intro e; exact h (by simpa using e)), wrap_id (by omega) (by omega)]
      rfl
theorem split_ev (c : UInt8) (x : L) (hx : x.length ≤ 8000000000000) : Ev (fun k => validation_zzSplit.f k (mk x) (mk [c])) ((pieces c x).map mk) := by
  have h := zzSplit_l0 c x.length x 0 [] (by omega) (by simp; omega) (by omega)
  simp only [List.take_zero, List.drop_zero, List.nil_append, glue_pieces_nil] at h
  exact h
theorem Split_calls (c : UInt8) (s : ByteArray) (hs : s.size ≤ 8000000000000) (w : World) :
    Calls Tryd.prog 95 #[.string s, .string (mk [c])] w fun e w' => ∃ v0_ : Value, e = .returned (v0_) ∧ Kd.R Kd.string 9 w' w.heap.size (fun _ => True) v0_ ((pieces c s.data.toList).map mk) ∧ Below w.heap.size w w' := by
  obtain ⟨x, hx, hxs⟩ : ∃ x : L, s = mk x ∧ s.size = x.length := exists_mk s
  obtain ⟨k, hk⟩ := (split_ev c x (by omega)).rounds
  rw [show s.data.toList = x by rw [hx]; rfl, hx]
  exact validation_zzSplit.calls k (mk x) (mk [c]) _ w hk
theorem Pieces_calls (c : UInt8) (s : ByteArray) (hs : s.size ≤ 8000000000000) (w : World) :
    Calls Tryd.prog 69 #[.string s, .int .u8 (c.toNat : Int)] w fun e w' => ∃ v0_ : Value, e = .returned (v0_) ∧ Kd.R Kd.string 9 w' w.heap.size (fun _ => True) v0_ ((pieces c s.data.toList).map mk) ∧ Below w.heap.size w w' := by
  obtain ⟨x, hx, hxs⟩ : ∃ x : L, s = mk x ∧ s.size = x.length := exists_mk s
  obtain ⟨k, hk⟩ := (pieces_ev x c (by omega)).rounds
  rw [show s.data.toList = x by rw [hx]; rfl, hx]
  exact spec_Pieces.calls k (mk x) (c.toNat : Int) _ w hk
end Go.Proofs.YtdledchhpjkilaaDoor.Hand

/- Function 89: a subdomain's labels one by one. -/
namespace Go.Proofs.YtdledchhpjkilaaDoor.Hand
open Go.RowKit Go.Proofs.YtdledchhpjkilaaDoorW.PrintWords Go.Proofs.YtdledchhpjkilaaDoorW.PrintLast Go.Proofs.YtdledchhpjkilaaDoorW.PrintMore Go.Proofs.YtdledchhpjkilaaDoor.Base
set_option linter.unusedVariables false
set_option linter.unusedSimpArgs false
set_option maxRecDepth 100000
def sub (x : L) : Bool := (pieces 46 x).all label
set_option maxHeartbeats 4000000 in
theorem sub89_calls (s : ByteArray) (hs : s.size ≤ 140737488351) (w : World) :
    Calls Tryd.prog 89 #[.string s] w fun e w' => e = .returned (.bool (sub s.data.toList)) ∧ Below w.heap.size w w' := by
  obtain ⟨x, hx, hxs⟩ : ∃ x : L, s = mk x ∧ s.size = x.length := exists_mk s
  have hQ : ∀ w, Calls Tryd.prog 95 #[.string s, .string ⟨#[46]⟩] w fun e w' => ∃ v0_ : Value, e = .returned (v0_) ∧ Kd.R Kd.string 9 w' w.heap.size (fun _ => True) v0_ ((pieces 46 s.data.toList).map mk) ∧ Below w.heap.size w w' := fun w => Split_calls 46 s (by omega) w
  rw [show s.data.toList = x by rw [hx]; rfl] at hQ ⊢
  have hpl := pieces_len 46 x
  have hple := pieces_le 46 x
  have hres : (sub x) = ((pieces 46 x).all label && true) := by rw [Bool.and_true]; rfl
  rw [hres]
  clear hres
  obtain ⟨l, hl⟩ : ∃ l, pieces 46 x = l := ⟨_, rfl⟩
  rw [hl] at hQ hpl hple ⊢
  obtain ⟨nm, hnm⟩ : ∃ nm, l.map mk = nm := ⟨_, rfl⟩
  have hnl : nm.length = l.length := by rw [← hnm, List.length_map]
  rw [hnm] at hQ
  have HE : Aside0 (∀ i, i < nm.length → ∃ p : ByteArray, nm.getD i ByteArray.empty = p ∧ p.size ≤ 140737488351232 ∧ (l.drop i).all label = (label p.data.toList && (l.drop (i + 1)).all label)) := ⟨fun i hi => by
    have hi2 : i < l.length := by omega
    refine ⟨mk (l.getD i []), ?_, ?_, ?_⟩
    · rw [← hnm, List.getD_eq_getElem?_getD, List.getElem?_map, List.getElem?_eq_getElem hi2, getD_of _ [] hi2]; rfl
    · rw [mk_size, getD_of l [] hi2]; have := hple _ (List.getElem_mem hi2); omega
    · rw [List.drop_eq_getElem_cons hi2, List.all_cons, getD_of l [] hi2]; rfl⟩
  have HZ : Aside0 ((l.drop nm.length).all label = true) := ⟨by rw [List.drop_eq_nil_of_le (by omega)]; rfl⟩
  have hnz : nm.length ≤ 140737488351 + 1 := by omega
  obtain ⟨r, hr⟩ : ∃ r, l.all label = r := ⟨_, rfl⟩
  have HRES : Aside0 ((l.drop 0).all label = r) := ⟨by rw [List.drop_zero]; exact hr⟩
  rw [hr]
  have H1 := Aside0.mk hQ
  have HB := Aside0.mk (Below.refl w.heap.size w)
  clear hQ hx hxs hl hpl hple hnm hnl hr
  go_enter Tryd.func89, Tryd.ntmps89
  go_wp2_with (first | ((with_reducible refine (H1.out _).mono ?_); rintro e wN ⟨v6, rfl, ho0, hb⟩; have nq_ := Aside0.mk (Kd.R_lower ho0 (below_size (by repeat (first | (with_reducible first | exact HB.out | apply below_alloc | apply pw_below_drewN | apply below_drew1) | exact HB.out)))); have nb_ := Aside0.mk (below_step (by repeat (first | (with_reducible first | exact HB.out | apply below_alloc | apply pw_below_drewN | apply below_drew1) | exact HB.out)) hb); clear HB; have HB := nb_; clear nb_; (try clear hb); have HQ := nq_; clear nq_ ho0; (obtain ⟨AQ, cQ, eQ⟩ := Kd.R_slice HQ.out); subst eQ))
  clear H1
  go_loopg [4, 8] (nm.length) (fun g v4 v8 w' => ∃ (j : Nat), v8 = .int .i64 j ∧ wN = w' ∧ Aside0 (g + j = nm.length) ∧ Aside0 ((l.drop j).all label = r))
  case atStart => exact ⟨0, rfl, rfl, ⟨by omega⟩, HRES⟩
  case round =>
    obtain ⟨j, rfl, rfl, HJ, HI⟩ := hrel
    have hj : j ≤ nm.length := by have := HJ.out; omega
    by_cases hjl : j < nm.length
    · obtain ⟨ad2, eA2, hcell2⟩ := Kd.at_string (Kd.R_reads' HQ.out).2.2 (j : Int) (by omega) (by omega)
      subst eA2
      obtain ⟨p, hp1, hp2, hp3⟩ := HE.out j hjl
      rw [show rdOf ByteArray.empty nm (j : Int) = p by unfold rdOf; rw [Int.toNat_natCast]; exact hp1, Int.toNat_natCast] at hcell2
      have h2 : ∀ w, Calls Tryd.prog 78 #[.string p] w fun e w' => e = .returned (.bool (label p.data.toList)) ∧ w = w' := fun w => zzLabel_calls p hp2 w
      clear hp1
      obtain ⟨b, hb⟩ : ∃ b, label p.data.toList = b := ⟨_, rfl⟩
      rw [hb] at h2 hp3
      clear hb
      have H2 := Aside0.mk h2
      clear h2
      cases b with
      | true =>
        have HN : Aside0 ((l.drop (j + 1)).all label = r) := ⟨by rw [← HI.out, hp3]; rfl⟩
        clear hp3
        go_wp2_with (first | ((with_reducible refine (H2.out _).mono ?_); rintro e w' ⟨rfl, rfl⟩))
        go_roundg (gk - 1)
        case measure => have := HJ.out; omega
        case rel => exact ⟨j + 1, by go_num, rfl, ⟨by have := HJ.out; omega⟩, HN⟩
      | false =>
        have HN : Aside0 (r = false) := ⟨by rw [← HI.out, hp3]; rfl⟩
        clear hp3
        go_wp2_with (first | ((with_reducible refine (H2.out _).mono ?_); rintro e w' ⟨rfl, rfl⟩))
        go_ret
        exact ⟨by rw [HN.out]; rfl, HB.out⟩
    · have HN : Aside0 (r = true) := ⟨by rw [← HI.out, show j = nm.length by omega]; exact HZ.out⟩
      go_wp2
      go_ret
      exact ⟨by rw [HN.out]; first | rfl | exact congrArg (fun b : Bool => Ending.returned (Value.bool b)) (by simp), HB.out⟩
end Go.Proofs.YtdledchhpjkilaaDoor.Hand

/- Function 37: a subdomain's labels one by one. -/
namespace Go.Proofs.YtdledchhpjkilaaDoor.Hand
open Go.RowKit Go.Proofs.YtdledchhpjkilaaDoorW.PrintWords Go.Proofs.YtdledchhpjkilaaDoorW.PrintLast Go.Proofs.YtdledchhpjkilaaDoorW.PrintMore Go.Proofs.YtdledchhpjkilaaDoor.Base
set_option linter.unusedVariables false
set_option linter.unusedSimpArgs false
set_option maxRecDepth 100000
def pSub (x : L) : Bool := (pieces 46 x).all label && most 253 x
set_option maxHeartbeats 4000000 in
theorem sub37_calls (s : ByteArray) (hs : s.size ≤ 140737488351) (w : World) :
    Calls Tryd.prog 37 #[.string s] w fun e w' => e = .returned (.bool (pSub s.data.toList)) ∧ Below w.heap.size w w' := by
  obtain ⟨x, hx, hxs⟩ : ∃ x : L, s = mk x ∧ s.size = x.length := exists_mk s
  have hQ : ∀ w, Calls Tryd.prog 69 #[.string s, .int .u8 46] w fun e w' => ∃ v0_ : Value, e = .returned (v0_) ∧ Kd.R Kd.string 9 w' w.heap.size (fun _ => True) v0_ ((pieces 46 s.data.toList).map mk) ∧ Below w.heap.size w w' := fun w => Pieces_calls 46 s (by omega) w
  rw [show s.data.toList = x by rw [hx]; rfl] at hQ ⊢
  have hpl := pieces_len 46 x
  have hple := pieces_le 46 x
  have hres : (pSub x) = ((pieces 46 x).all label && decide ((s.size : Int) ≤ 253)) := by unfold pSub most; congr 1; rw [hxs, decide_eq_decide]; omega
  rw [hres]
  clear hres
  obtain ⟨l, hl⟩ : ∃ l, pieces 46 x = l := ⟨_, rfl⟩
  rw [hl] at hQ hpl hple ⊢
  obtain ⟨nm, hnm⟩ : ∃ nm, l.map mk = nm := ⟨_, rfl⟩
  have hnl : nm.length = l.length := by rw [← hnm, List.length_map]
  rw [hnm] at hQ
  have HE : Aside0 (∀ i, i < nm.length → ∃ p : ByteArray, nm.getD i ByteArray.empty = p ∧ p.size ≤ 140737488351232 ∧ (l.drop i).all label = (label p.data.toList && (l.drop (i + 1)).all label)) := ⟨fun i hi => by
    have hi2 : i < l.length := by omega
    refine ⟨mk (l.getD i []), ?_, ?_, ?_⟩
    · rw [← hnm, List.getD_eq_getElem?_getD, List.getElem?_map, List.getElem?_eq_getElem hi2, getD_of _ [] hi2]; rfl
    · rw [mk_size, getD_of l [] hi2]; have := hple _ (List.getElem_mem hi2); omega
    · rw [List.drop_eq_getElem_cons hi2, List.all_cons, getD_of l [] hi2]; rfl⟩
  have HZ : Aside0 ((l.drop nm.length).all label = true) := ⟨by rw [List.drop_eq_nil_of_le (by omega)]; rfl⟩
  have hnz : nm.length ≤ 140737488351 + 1 := by omega
  obtain ⟨r, hr⟩ : ∃ r, l.all label = r := ⟨_, rfl⟩
  have HRES : Aside0 ((l.drop 0).all label = r) := ⟨by rw [List.drop_zero]; exact hr⟩
  rw [hr]
  have H1 := Aside0.mk hQ
  have HB := Aside0.mk (Below.refl w.heap.size w)
  clear hQ hx hxs hl hpl hple hnm hnl hr
  go_enter Tryd.func37, Tryd.ntmps37
  go_wp2_with (first | ((with_reducible refine (H1.out _).mono ?_); rintro e wN ⟨v6, rfl, ho0, hb⟩; have nq_ := Aside0.mk (Kd.R_lower ho0 (below_size (by repeat (first | (with_reducible first | exact HB.out | apply below_alloc | apply pw_below_drewN | apply below_drew1) | exact HB.out)))); have nb_ := Aside0.mk (below_step (by repeat (first | (with_reducible first | exact HB.out | apply below_alloc | apply pw_below_drewN | apply below_drew1) | exact HB.out)) hb); clear HB; have HB := nb_; clear nb_; (try clear hb); have HQ := nq_; clear nq_ ho0; (obtain ⟨AQ, cQ, eQ⟩ := Kd.R_slice HQ.out); subst eQ))
  clear H1
  go_loopg [4, 8] (nm.length) (fun g v4 v8 w' => ∃ (j : Nat), v8 = .int .i64 j ∧ wN = w' ∧ Aside0 (g + j = nm.length) ∧ Aside0 ((l.drop j).all label = r))
  case atStart => exact ⟨0, rfl, rfl, ⟨by omega⟩, HRES⟩
  case round =>
    obtain ⟨j, rfl, rfl, HJ, HI⟩ := hrel
    have hj : j ≤ nm.length := by have := HJ.out; omega
    by_cases hjl : j < nm.length
    · obtain ⟨ad2, eA2, hcell2⟩ := Kd.at_string (Kd.R_reads' HQ.out).2.2 (j : Int) (by omega) (by omega)
      subst eA2
      obtain ⟨p, hp1, hp2, hp3⟩ := HE.out j hjl
      rw [show rdOf ByteArray.empty nm (j : Int) = p by unfold rdOf; rw [Int.toNat_natCast]; exact hp1, Int.toNat_natCast] at hcell2
      have h2 : ∀ w, Calls Tryd.prog 51 #[.string p, .func (.func 52) #[] #[], .string ⟨#[45]⟩] w fun e w' => e = .returned (.bool (label p.data.toList)) ∧ w = w' := fun w => ended52_calls Small_calls p ⟨#[45]⟩ hp2 (by decide) w
      clear hp1
      obtain ⟨b, hb⟩ : ∃ b, label p.data.toList = b := ⟨_, rfl⟩
      rw [hb] at h2 hp3
      clear hb
      have H2 := Aside0.mk h2
      clear h2
      cases b with
      | true =>
        have HN : Aside0 ((l.drop (j + 1)).all label = r) := ⟨by rw [← HI.out, hp3]; rfl⟩
        clear hp3
        go_wp2_with (first | ((with_reducible refine (H2.out _).mono ?_); rintro e w' ⟨rfl, rfl⟩))
        go_roundg (gk - 1)
        case measure => have := HJ.out; omega
        case rel => exact ⟨j + 1, by go_num, rfl, ⟨by have := HJ.out; omega⟩, HN⟩
      | false =>
        have HN : Aside0 (r = false) := ⟨by rw [← HI.out, hp3]; rfl⟩
        clear hp3
        go_wp2_with (first | ((with_reducible refine (H2.out _).mono ?_); rintro e w' ⟨rfl, rfl⟩))
        go_ret
        exact ⟨by rw [HN.out]; rfl, HB.out⟩
    · have HN : Aside0 (r = true) := ⟨by rw [← HI.out, show j = nm.length by omega]; exact HZ.out⟩
      go_wp2
      go_ret
      exact ⟨by rw [HN.out]; first | rfl | exact congrArg (fun b : Bool => Ending.returned (Value.bool b)) (by simp), HB.out⟩
end Go.Proofs.YtdledchhpjkilaaDoor.Hand

/- zzWildcard and DnsWild. -/
namespace Go.Proofs.YtdledchhpjkilaaDoor.Hand
open Go.RowKit Go.Proofs.YtdledchhpjkilaaDoorW.PrintWords Go.Proofs.YtdledchhpjkilaaDoorW.PrintLast Go.Proofs.YtdledchhpjkilaaDoorW.PrintMore Go.Proofs.YtdledchhpjkilaaDoor.Base
set_option linter.unusedVariables false
set_option linter.unusedSimpArgs false
set_option maxRecDepth 100000
def wild (x : L) : Bool := decide (2 < x.length) && (x.take 2 == [42, 46] && sub (x.drop 2))
def pWild (x : L) : Bool := most 253 x && wild x
theorem zzSub_calls (s : ByteArray) (hs : s.size ≤ 140737488351) (w : World) : Calls Tryd.prog 89 #[.string s] w fun e w' => e = .returned (.bool (sub s.data.toList)) ∧ Below w.heap.size w w' := sub89_calls s hs w
theorem pSub_calls (s : ByteArray) (hs : s.size ≤ 140737488351) (w : World) : Calls Tryd.prog 37 #[.string s] w fun e w' => e = .returned (.bool (most 253 s.data.toList && sub s.data.toList)) ∧ Below w.heap.size w w' := by
  have h := sub37_calls s hs w
  have e : pSub s.data.toList = (most 253 s.data.toList && sub s.data.toList) := by show (_ && most 253 s.data.toList) = _; rw [Bool.and_comm]; rfl
  rw [e] at h; exact h
set_option maxHeartbeats 1000000 in
theorem zzWild_calls (s : ByteArray) (hs : s.size ≤ 140737488351) (w : World) : Calls Tryd.prog 90 #[.string s] w fun e w' => e = .returned (.bool (wild s.data.toList)) ∧ Below w.heap.size w w' := by
  obtain ⟨x, hx, hxs⟩ : ∃ x : L, s = mk x ∧ s.size = x.length := exists_mk s
  have HB := Aside0.mk (Below.refl w.heap.size w)
  rw [show s.data.toList = x by rw [hx]; rfl]
  have hw : wild x = (decide (2 < s.size) && (x.take 2 == [42, 46] && sub (x.drop 2))) := by unfold wild; rw [hxs]
  by_cases h2 : 2 < s.size
  · obtain ⟨p, hp, hpz⟩ : ∃ p, s.extract 0 2 = p ∧ p.toList = x.take 2 := ⟨_, rfl, by rw [hx, extract_mk, mk_toList]; simp⟩
    obtain ⟨q, hq, hqz⟩ : ∃ q, s.extract 2 s.size = q ∧ q.data.toList = x.drop 2 := ⟨_, rfl, by rw [hx, extract_mk, mk_size, List.take_length]; rfl⟩
    have hqs : q.size ≤ 140737488351 := by rw [← hq]; simp; omega
    have h1 : ∀ w, Calls Tryd.prog 89 #[.string q] w fun e w' => e = .returned (.bool (sub (x.drop 2))) ∧ Below w.heap.size w w' := fun w => by have h := sub89_calls q hqs w; rw [hqz] at h; exact h
    have H1 := Aside0.mk h1
    by_cases h3 : x.take 2 = [42, 46]
    · have t0 : (p.toList == ([42, 46] : List UInt8)) = true := by rw [hpz]; exact beq_iff_eq.2 h3
      have HR : Aside0 (wild x = sub (x.drop 2)) := ⟨by rw [hw, h3]; simp [h2]⟩
      clear h1 h3 hpz hqz hw hx hxs
      go_enter Tryd.func90, Tryd.ntmps90
      go_wp2_with (first | ((with_reducible refine (H1.out _).mono ?_); rintro e w' ⟨rfl, hb⟩; have nb_ := Aside0.mk (below_step (by repeat (first | (with_reducible first | exact HB.out | apply below_alloc | apply pw_below_drewN | apply below_drew1) | exact HB.out)) hb); clear HB; have HB := nb_; clear nb_; (try clear hb)))
      go_ret
      exact ⟨by rw [HR.out]; rfl, (by repeat (first | (with_reducible first | exact HB.out | apply below_alloc | apply pw_below_drewN | apply below_drew1) | exact HB.out))⟩
    · have t0 : (p.toList == ([42, 46] : List UInt8)) = false := by rw [hpz]; exact beq_eq_false_iff_ne.2 h3
      have HR : Aside0 (wild x = false) := ⟨by rw [hw, show (x.take 2 == [42, 46]) = false from beq_eq_false_iff_ne.2 h3]; simp⟩
      clear h1 h3 hpz hqz hw hx hxs
      go_enter Tryd.func90, Tryd.ntmps90
      go_wp2
      go_ret
      exact ⟨by rw [HR.out]; rfl, (by repeat (first | (with_reducible first | exact HB.out | apply below_alloc | apply pw_below_drewN | apply below_drew1) | exact HB.out))⟩
  · have HR : Aside0 (wild x = false) := ⟨by rw [hw]; simp [h2]⟩
    clear hw hx hxs
    go_enter Tryd.func90, Tryd.ntmps90
    go_wp2
    go_ret
    exact ⟨by rw [HR.out]; rfl, (by repeat (first | (with_reducible first | exact HB.out | apply below_alloc | apply pw_below_drewN | apply below_drew1) | exact HB.out))⟩
set_option maxHeartbeats 1000000 in
theorem DnsWild_calls (s : ByteArray) (hs : s.size ≤ 140737488351) (w : World) : Calls Tryd.prog 39 #[.string s] w fun e w' => e = .returned (.bool (pWild s.data.toList)) ∧ Below w.heap.size w w' := by
  obtain ⟨x, hx, hxs⟩ : ∃ x : L, s = mk x ∧ s.size = x.length := exists_mk s
  have HB := Aside0.mk (Below.refl w.heap.size w)
  rw [show s.data.toList = x by rw [hx]; rfl]
  have hw : pWild x = (decide (s.size ≤ 253) && (decide (2 < s.size) && (x.take 2 == [42, 46] && sub (x.drop 2)))) := by unfold pWild most wild; rw [hxs]
  by_cases h0 : s.size ≤ 253
  · by_cases h2 : 2 < s.size
    · obtain ⟨p, hp, hpz⟩ : ∃ p, s.extract 0 2 = p ∧ p.toList = x.take 2 := ⟨_, rfl, by rw [hx, extract_mk, mk_toList]; simp⟩
      obtain ⟨q, hq, hqz⟩ : ∃ q, s.extract 2 s.size = q ∧ q.data.toList = x.drop 2 := ⟨_, rfl, by rw [hx, extract_mk, mk_size, List.take_length]; rfl⟩
      have hqs : q.size ≤ 140737488351 := by rw [← hq]; simp; omega
      have hps : pSub (x.drop 2) = sub (x.drop 2) := by
        have : most 253 (x.drop 2) = true := by unfold most; rw [decide_eq_true_eq, List.length_drop]; omega
        show ((pieces 46 (x.drop 2)).all label && most 253 (x.drop 2)) = _
        rw [this, Bool.and_true]; rfl
      have h1 : ∀ w, Calls Tryd.prog 37 #[.string q] w fun e w' => e = .returned (.bool (sub (x.drop 2))) ∧ Below w.heap.size w w' := fun w => by have h := sub37_calls q hqs w; rw [hqz, hps] at h; exact h
      have H1 := Aside0.mk h1
      by_cases h3 : x.take 2 = [42, 46]
      · have t0 : (p.toList == ([42, 46] : List UInt8)) = true := by rw [hpz]; exact beq_iff_eq.2 h3
        have HR : Aside0 (pWild x = sub (x.drop 2)) := ⟨by rw [hw, h3]; simp [h2, h0]⟩
        clear h1 h3 hpz hqz hw hx hxs hps
        go_enter Tryd.func39, Tryd.ntmps39
        go_wp2_with (first | ((with_reducible refine (H1.out _).mono ?_); rintro e w' ⟨rfl, hb⟩; have nb_ := Aside0.mk (below_step (by repeat (first | (with_reducible first | exact HB.out | apply below_alloc | apply pw_below_drewN | apply below_drew1) | exact HB.out)) hb); clear HB; have HB := nb_; clear nb_; (try clear hb)))
        go_ret
        exact ⟨by rw [HR.out]; rfl, (by repeat (first | (with_reducible first | exact HB.out | apply below_alloc | apply pw_below_drewN | apply below_drew1) | exact HB.out))⟩
      · have t0 : (p.toList == ([42, 46] : List UInt8)) = false := by rw [hpz]; exact beq_eq_false_iff_ne.2 h3
        have HR : Aside0 (pWild x = false) := ⟨by rw [hw, show (x.take 2 == [42, 46]) = false from beq_eq_false_iff_ne.2 h3]; simp⟩
        clear h1 h3 hpz hqz hw hx hxs hps
        go_enter Tryd.func39, Tryd.ntmps39
        go_wp2
        go_ret
        exact ⟨by rw [HR.out]; rfl, (by repeat (first | (with_reducible first | exact HB.out | apply below_alloc | apply pw_below_drewN | apply below_drew1) | exact HB.out))⟩
    · have HR : Aside0 (pWild x = false) := ⟨by rw [hw]; simp [h2]⟩
      clear hw hx hxs
      go_enter Tryd.func39, Tryd.ntmps39
      go_wp2
      go_ret
      exact ⟨by rw [HR.out]; rfl, (by repeat (first | (with_reducible first | exact HB.out | apply below_alloc | apply pw_below_drewN | apply below_drew1) | exact HB.out))⟩
  · have HR : Aside0 (pWild x = false) := ⟨by rw [hw]; simp [h0]⟩
    clear hw hx hxs
    go_enter Tryd.func39, Tryd.ntmps39
    go_wp2
    go_ret
    exact ⟨by rw [HR.out]; rfl, (by repeat (first | (with_reducible first | exact HB.out | apply below_alloc | apply pw_below_drewN | apply below_drew1) | exact HB.out))⟩
end Go.Proofs.YtdledchhpjkilaaDoor.Hand
