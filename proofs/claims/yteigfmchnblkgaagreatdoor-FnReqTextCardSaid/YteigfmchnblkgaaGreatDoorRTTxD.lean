/- labels.safeSort. -/
import Derived.Test.YteigfmchnblkgaaGreatDoorRTTxC
namespace Go.Proofs.YteigfmchnblkgaaGreatDoor.Hand
open Go.RowKit Go.Proofs.YteigfmchnblkgaaGreatDoorW.PrintWords Go.Proofs.YteigfmchnblkgaaGreatDoorW.PrintLast Go.Proofs.YteigfmchnblkgaaGreatDoorW.PrintMore Go.Proofs.YteigfmchnblkgaaGreatDoor.Base
set_option linter.unusedVariables false
set_option linter.unusedSimpArgs false
set_option maxRecDepth 100000
theorem vL_mkD (vs : List ByteArray) : (vL vs).map mk = vs := by
  unfold vL
  rw [List.map_map]
  conv => rhs; rw [← List.map_id vs]
  exact List.map_congr_left fun q _ => mk_of q
theorem ltStr_le {x y : L} : Sort.ltStr y x = false ↔ x ≤ y := by
  unfold Sort.ltStr; simp
theorem ord_asc {vs : List ByteArray} (h : OrdTo vs vs.length) : Asc (vL vs) := by
  have key : ∀ d i : Nat, ∀ p q, vs[i]? = some p → vs[i + d + 1]? = some q → Sort.ltStr q.data.toList p.data.toList = false := by
    intro d
    induction d with
    | zero => intro i p q hp hq; exact h i p q (List.getElem?_eq_some_iff.1 hp).1 hp hq
    | succ d ih =>
      intro i p q hp hq
      have hl := (List.getElem?_eq_some_iff.1 hq).1
      obtain ⟨r, hr⟩ : ∃ r, vs[i + d + 1]? = some r := ⟨_, List.getElem?_eq_getElem (by omega)⟩
      have h1 := ih i p r hp hr
      have h2 := h (i + d + 1) r q (by omega) hr hq
      exact ltStr_le.2 (List.le_trans (ltStr_le.1 h1) (ltStr_le.1 h2))
  unfold Asc
  rw [List.pairwise_iff_getElem]
  intro i j hi hj hij
  have hi' : i < vs.length := by simpa [vL] using hi
  have hj' : j < vs.length := by simpa [vL] using hj
  have := key (j - i - 1) i vs[i] vs[j] (List.getElem?_eq_getElem hi') (by rw [show i + (j - i - 1) + 1 = j by omega]; exact List.getElem?_eq_getElem hj')
  simpa [vL] using this
set_option maxHeartbeats 8000000 in
theorem safeSort_calls (A : Option Addr) (c n : Nat) (vs : List ByteArray) (hn : vs.length = n) (hn2 : n ≤ 1000) (hc : n ≤ c) (w : World) (hC : Kd.C Kd.string w A n vs) :
    Calls Tryz.prog 90 #[.slice A n c] w fun e w' => ∃ (A' : Option Addr) (c' : Nat) (us : List L), e = .returned (.slice A' n c') ∧ Kd.C Kd.string w' A' n (us.map mk) ∧ us.Perm (vL vs) ∧ Asc us ∧ Below w.heap.size w w' := by
  have HSAS := Aside0.mk (SAS_calls A c n vs hn hn2 hc w hC)
  have HC := Aside0.mk hC
  have HLN := Aside0.mk hn
  have HSS := Aside0.mk Strings_calls
  have HL2 : Aside0 ((vL vs).length ≤ 1000000) := ⟨by rw [List.length_map, hn]; omega⟩
  clear hC hn
  go_enter Tryz.func90, Tryz.ntmps90
  go_wp2_with (first | ((with_reducible refine (HSAS.out).mono ?_); rintro e w1 ⟨b, rfl, hb, hb1⟩; have HOR := Aside0.mk hb; have HB := Aside0.mk hb1; clear hb hb1 HSAS; (try cases b)) | ((with_reducible refine gate_dst (N := 9) rfl ?_); (try (refine gate_guard (by rfl) ?_; dsimp only)); refine Kd.R_make Kd.string (w0 := w) w.heap.size 9 rfl (N := 9) rfl 29 (.tmp 8) (.tmp 8) rfl (n : Int) ?mx ?my Tryz.underlying29 (.string ⟨#[]⟩) 16 infoS rfl (by decide) (by decide) (⟨#[]⟩ : ByteArray) (okp := fun _ => True) (ok := fun _ => True) rfl (fun _ h => h) trivial (by omega) (by omega) HB.out (below_size HB.out) ?_; (case mx => rfl); (case my => rfl); intro v8 w2 hR hb hg hat; clear hg hat; rw [Int.toNat_natCast] at hR; have CV2 := Aside0.mk (Kd.C_below HC.out hb); have HD := Aside0.mk hR; clear HB; have HB := Aside0.mk hb; clear hb hR) | ((with_reducible refine gate_dst (N := 12) rfl ?_); (try (refine gate_guard (by rfl) ?_; dsimp only)); refine Kd.R_copy (⟨#[]⟩ : ByteArray) (w0 := w) w.heap.size rfl (.tmp 10) (.tmp 11) 29 29 9 rfl Tryz.underlying29 (by kernel_rfl) v8 (List.replicate n (⟨#[]⟩ : ByteArray)) vs A n c (fun _ => True) rfl rfl HD.out CV2.out HB.out (below_size HB.out) ?_; intro w3 hR hb hg; clear hg; rw [List.length_replicate, Nat.min_self, List.drop_eq_nil_of_le (by rw [List.length_replicate]; exact Nat.le_refl _), List.append_nil, List.take_of_length_le (by rw [HLN.out]; exact Nat.le_refl _)] at hR; clear HD HB CV2; have HD : Aside0 (Kd.R Kd.string 9 w3 w.heap.size (fun _ => True) v8 ((vL vs).map mk)) := ⟨by rw [vL_mkD]; exact hR⟩; have HB := Aside0.mk hb; clear hb hR) | ((with_reducible refine (HSS.out (vL vs) _ w.heap.size v8 HD.out HL2.out).mono ?_); rintro e w4 ⟨rfl, l', hp, ha, hR, hg⟩; have HP := Aside0.mk hp; have HAS := Aside0.mk ha; clear HD; have HD := Aside0.mk hR; have HGR := Aside0.mk hg; clear hp ha hR hg))
  · have HBF := Aside0.mk (pw_below_grown HB.out _ (below_size HB.out) HGR.out (fun k hk => by obtain ⟨inner, ho⟩ := Kd.R_own HD.out; exact own_base ho k hk))
    obtain ⟨A', c', rfl⟩ := Kd.R_slice HD.out
    have hrd := (Kd.R_reads' HD.out).2
    have HLL : Aside0 ((l'.map mk).length = n) := ⟨by rw [List.length_map, HP.out.length_eq, List.length_map, HLN.out]⟩
    rw [HLL.out] at hrd
    obtain ⟨hcn, hCn⟩ := hrd
    go_ret
    exact ⟨A', c', l', by (first | rfl | (rw [HLL.out]; rfl) | (rw [HLL.out])), hCn, HP.out, HAS.out, HBF.out⟩
  · have HA := Aside0.mk (ord_asc (vs := vs) (by rw [HLN.out]; first | exact HOR.out rfl | exact HOR.out trivial))
    go_ret
    exact ⟨A, c, vL vs, rfl, by rw [vL_mkD]; exact Kd.C_below HC.out HB.out, List.Perm.refl _, HA.out, HB.out⟩
end Go.Proofs.YteigfmchnblkgaaGreatDoor.Hand
