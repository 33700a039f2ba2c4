/- Function 37: a subdomain's labels one by one. -/
import Derived.Test.YteigfmchnblkgaaDoorNmSplit
namespace Go.Proofs.YteigfmchnblkgaaDoor.Hand
open Go.RowKit Go.Proofs.YteigfmchnblkgaaDoorW.PrintWords Go.Proofs.YteigfmchnblkgaaDoorW.PrintLast Go.Proofs.YteigfmchnblkgaaDoorW.PrintMore Go.Proofs.YteigfmchnblkgaaDoor.Base
set_option linter.unusedVariables false
set_option linter.unusedSimpArgs false
set_option maxRecDepth 100000
def pSub (x : L) : Bool := (pieces 46 x).all label && most 253 x
set_option maxHeartbeats 4000000 in
theorem sub37_calls (s : ByteArray) (hs : s.size ≤ 140737488351) (w : World) :
    Calls Tryd.prog 27 #[.string s] w fun e w' => e = .returned (.bool (pSub s.data.toList)) ∧ Below w.heap.size w w' := by
  obtain ⟨x, hx, hxs⟩ : ∃ x : L, s = mk x ∧ s.size = x.length := exists_mk s
  have hQ : ∀ w, Calls Tryd.prog 26 #[.string s, .int .u8 46] w fun e w' => ∃ v0_ : Value, e = .returned (v0_) ∧ Kd.R Kd.string 9 w' w.heap.size (fun _ => True) v0_ ((pieces 46 s.data.toList).map mk) ∧ Below w.heap.size w w' := fun w => Pieces_calls 46 s (by omega) w
  rw [show s.data.toList = x by rw [hx]; rfl] at hQ ⊢
  have hpl := pieces_len 46 x
  have hple := pieces_le 46 x
  have hres : (pSub x) = ((pieces 46 x).all label && decide ((s.size : Int) ≤ 253)) := by unfold pSub most; congr 1; rw [hxs, decide_eq_decide]; omega
  rw [hres]
  clear hres
  obtain ⟨l, hl⟩ : ∃ l, pieces 46 x = l := ⟨_, rfl⟩
  rw [hl] at hQ hpl hple ⊢
  obtain ⟨nm, hnm⟩ : ∃ nm, l.map mk = nm := ⟨_, rfl⟩
  have hnl : nm.length = l.length := by rw [← hnm, List.length_map]
  rw [hnm] at hQ
  have HE : Aside0 (∀ i, i < nm.length → ∃ p : ByteArray, nm.getD i ByteArray.empty = p ∧ p.size ≤ 140737488351232 ∧ (l.drop i).all label = (label p.data.toList && (l.drop (i + 1)).all label)) := ⟨fun i hi => by
    have hi2 : i < l.length := by omega
    refine ⟨mk (l.getD i []), ?_, ?_, ?_⟩
    · rw [← hnm, List.getD_eq_getElem?_getD, List.getElem?_map, List.getElem?_eq_getElem hi2, getD_of _ [] hi2]; rfl
    · rw [mk_size, getD_of l [] hi2]; have := hple _ (List.getElem_mem hi2); omega
    · rw [List.drop_eq_getElem_cons hi2, List.all_cons, getD_of l [] hi2]; rfl⟩
  have HZ : Aside0 ((l.drop nm.length).all label = true) := ⟨by rw [List.drop_eq_nil_of_le (by omega)]; rfl⟩
  have hnz : nm.length ≤ 140737488351 + 1 := by omega
  obtain ⟨r, hr⟩ : ∃ r, l.all label = r := ⟨_, rfl⟩
  have HRES : Aside0 ((l.drop 0).all label = r) := ⟨by rw [List.drop_zero]; exact hr⟩
  rw [hr]
  have H1 := Aside0.mk hQ
  have HB := Aside0.mk (Below.refl w.heap.size w)
  clear hQ hx hxs hl hpl hple hnm hnl hr
  go_enter Tryd.func27, Tryd.ntmps27
  go_wp2_with (first | ((with_reducible refine (H1.out _).mono ?_); rintro e wN ⟨v6, rfl, ho0, hb⟩; have nq_ := Aside0.mk (Kd.R_lower ho0 (below_size (by repeat (first | (with_reducible first | exact HB.out | apply below_alloc | apply pw_below_drewN | apply below_drew1) | exact HB.out)))); have nb_ := Aside0.mk (below_step (by repeat (first | (with_reducible first | exact HB.out | apply below_alloc | apply pw_below_drewN | apply below_drew1) | exact HB.out)) hb); clear HB; have HB := nb_; clear nb_; (try clear hb); have HQ := nq_; clear nq_ ho0; (obtain ⟨AQ, cQ, eQ⟩ := Kd.R_slice HQ.out); subst eQ))
  clear H1
  go_loopg [4, 8] (nm.length) (fun g v4 v8 w' => ∃ (j : Nat), v8 = .int .i64 j ∧ wN = w' ∧ Aside0 (g + j = nm.length) ∧ Aside0 ((l.drop j).all label = r))
  case atStart => exact ⟨0, rfl, rfl, ⟨by omega⟩, HRES⟩
  case round =>
    obtain ⟨j, rfl, rfl, HJ, HI⟩ := hrel
    have hj : j ≤ nm.length := by have := HJ.out; omega
    by_cases hjl : j < nm.length
    · obtain ⟨ad2, eA2, hcell2⟩ := Kd.at_string (Kd.R_reads' HQ.out).2.2 (j : Int) (by omega) (by omega)
      subst eA2
      obtain ⟨p, hp1, hp2, hp3⟩ := HE.out j hjl
      rw [show rdOf ByteArray.empty nm (j : Int) = p by unfold rdOf; rw [Int.toNat_natCast]; exact hp1, Int.toNat_natCast] at hcell2
      have h2 : ∀ w, Calls Tryd.prog 24 #[.string p, .func (.func 37) #[] #[], .string ⟨#[45]⟩] w fun e w' => e = .returned (.bool (label p.data.toList)) ∧ w = w' := fun w => ended52_calls Small_calls p ⟨#[45]⟩ hp2 (by decide) w
      clear hp1
      obtain ⟨b, hb⟩ : ∃ b, label p.data.toList = b := ⟨_, rfl⟩
      rw [hb] at h2 hp3
      clear hb
      have H2 := Aside0.mk h2
      clear h2
      cases b with
      | true =>
        have HN : Aside0 ((l.drop (j + 1)).all label = r) := ⟨by rw [← HI.out, hp3]; rfl⟩
        clear hp3
        go_wp2_with (first | ((with_reducible refine (H2.out _).mono ?_); rintro e w' ⟨rfl, rfl⟩))
        go_roundg (gk - 1)
        case measure => have := HJ.out; omega
        case rel => exact ⟨j + 1, by go_num, rfl, ⟨by have := HJ.out; omega⟩, HN⟩
      | false =>
        have HN : Aside0 (r = false) := ⟨by rw [← HI.out, hp3]; rfl⟩
        clear hp3
        go_wp2_with (first | ((with_reducible refine (H2.out _).mono ?_); rintro e w' ⟨rfl, rfl⟩))
        go_ret
        exact ⟨by rw [HN.out]; rfl, HB.out⟩
    · have HN : Aside0 (r = true) := ⟨by rw [← HI.out, show j = nm.length by omega]; exact HZ.out⟩
      go_wp2
      go_ret
      exact ⟨by rw [HN.out]; first | rfl | exact congrArg (fun b : Bool => Ending.returned (Value.bool b)) (by simp), HB.out⟩
end Go.Proofs.YteigfmchnblkgaaDoor.Hand
