/- What spec.Words lets in: requirements that may be, of words; their text read again; what they select. No program in sight. -/
import Derived.Test.YteigfmchnblkgaaGreatDoorUFreeS
import Derived.Test.YteigfmchnblkgaaGreatDoorUSpWords
import Derived.Test.YteigfmchnblkgaaGreatDoorUGSelB
import Derived.Test.YteigfmchnblkgaaGreatDoorUGParB
namespace Go.Proofs.YteigfmchnblkgaaGreatDoor.Hand
open Go.RowKit Go.Proofs.YteigfmchnblkgaaGreatDoor.Base
set_option linter.unusedVariables false
set_option linter.unusedSimpArgs false
set_option maxRecDepth 100000
theorem words_t {l : List Rq} {m : Nat} (h : wordsN l m = true) : l.length ≤ m ∧ totB l ≤ 600 ∧ ∀ r ∈ l, reqW r = true := by
  unfold wordsN at h
  simp only [Bool.and_eq_true, decide_eq_true_eq] at h
  refine ⟨h.2.1, h.2.2, fun r hr => ?_⟩
  obtain ⟨j, hj, e⟩ := List.mem_iff_getElem.1 hr
  exact (okTo_get h.1 hj (by rw [List.getElem?_eq_getElem hj, e])).1
theorem reqW_t {r : Rq} (h : reqW r = true) : fairR r.1 r.2.1 r.2.2 = true ∧ r.2.2.length ≤ 5 ∧ (∀ v ∈ r.2.2, v ≠ []) := by
  unfold reqW reqB at h
  simp only [Bool.and_eq_true, decide_eq_true_eq] at h
  obtain ⟨h1, _, _, h5, _, h6⟩ := h
  rw [vL_mk] at h1
  refine ⟨h1, by simpa using h5, fun v hv e => ?_⟩
  have := List.all_eq_true.1 h6 (mk v) (List.mem_map.2 ⟨v, hv, rfl⟩)
  unfold okV at this
  simp only [Bool.and_eq_true, Bool.not_eq_true', mk_toList] at this
  rw [e] at this
  simp at this
theorem reqW_fair {r : Rq} (h : reqW r = true) : FairW r ∧ nz r.1 = true ∧ nz r.2.1 = true ∧ ∀ v ∈ r.2.2, nz v = true := by
  obtain ⟨h1, _, h3⟩ := reqW_t h
  obtain ⟨a, b, c⟩ := fair_words h1 h3
  exact ⟨⟨a, h1⟩, b, op_nz a, c⟩
theorem tot_totL (vs : List L) : tot (vs.map mk) = totL vs := by
  unfold tot totL
  rw [List.map_map]
  rfl
theorem totB_totR (l : List Rq) : totB l = totR l := by
  unfold totB totR
  congr 1
  refine List.map_congr_left fun r _ => ?_
  unfold szB
  rw [tot_totL, mk_size]
theorem toks_len (l : List Rq) (hw : ∀ r ∈ l, WordR r.1 r.2.1 r.2.2) : l.length ≤ (toksAll l).length := by
  have h : ∀ l : List Rq, l.length ≤ (l.flatMap tkF).length := by
    intro l
    induction l with
    | nil => exact Nat.le_refl _
    | cons r l ih => rw [List.flatMap_cons, List.length_append, List.length_cons, show (tkF r).length = (toksR r.1 r.2.1 r.2.2).length + 1 from rfl]; omega
  cases l with
  | nil => exact Nat.le_refl _
  | cons r l =>
    obtain ⟨k, s, t, e, _⟩ := toksR_head (hw r (List.mem_cons_self ..))
    have := h l
    show _ ≤ (toksR r.1 r.2.1 r.2.2 ++ l.flatMap tkF).length
    rw [List.length_append, e, List.length_cons, List.length_cons]; omega
/-- A free text of requirements, read. -/
theorem free_text {l : List Rq} (hw : ∀ r ∈ l, FairW r) (hz : ∀ r ∈ l, nz r.1 = true ∧ nz r.2.1 = true ∧ ∀ v ∈ r.2.2, nz v = true) (h5 : ∀ r ∈ l, r.2.2.length ≤ 5) (cs : L) :
    (∀ b ∈ outL (.gap :: pcsAll l) cs, b ≠ 0) ∧ (outL (.gap :: pcsAll l) cs).length ≤ 2 + totR l + 45 * l.length ∧ tokensL (outL (.gap :: pcsAll l) cs) = toksAll l ++ [(1, [])] ∧
    (toksAll l ++ [(1, [])]).length ≤ 15 * l.length + 1 ∧ pAll (toksAll l ++ [(1, [])]).length (toksAll l ++ [(1, [])]) = some (l.map setR) := by
  have hw' : ∀ r ∈ l, WordR r.1 r.2.1 r.2.2 := fun r hr => (hw r hr).1
  obtain ⟨o1, o2⟩ := okAll_pcs l hw'
  have h1 := (nz_all l hz).1
  refine ⟨out_nz (.gap :: pcsAll l) cs h1, ?_, ?_, ?_, ?_⟩
  · have a := out_sz (.gap :: pcsAll l) cs
    have b := sz_all l hw' h5
    have c : szP (.gap :: pcsAll l) = 2 + szP (pcsAll l) := rfl
    omega
  · have := tokens_pcs (.gap :: pcsAll l) cs o1
    rw [this]
    show tokP (pcsAll l) ++ _ = _
    rw [o2]
  · have := toksAll_len l h5
    rw [List.length_append]; simp only [List.length_cons, List.length_nil]; omega
  · refine pAll_toks l _ hw ?_
    have := toks_len l hw'
    rw [List.length_append]; simp only [List.length_cons, List.length_nil]; omega
theorem contains_setL (vs : List L) (y : L) : (setL vs).contains y = vs.contains y := by
  rw [Bool.eq_iff_iff, List.contains_iff_mem, List.contains_iff_mem]; exact setL_mem vs y
theorem meets_setL {key op : L} {vs : List L} (hw : WordR key op vs) (got : Option L) : meetsR op (setL vs) got = meetsR op vs got := by
  rcases hw.o with e | e | e | e
  · subst e; rfl
  · subst e; rfl
  · unfold meetsR
    rcases e with e | e <;> subst e
    · rw [if_pos (.inl rfl), if_pos (.inl rfl)]
      cases got with
      | none => rfl
      | some v => exact contains_setL vs v
    · rw [if_neg (by decide), if_pos (.inl rfl), if_neg (by decide), if_pos (.inl rfl)]
      cases got with
      | none => rfl
      | some v => show (!(setL vs).contains v) = !vs.contains v; rw [contains_setL]
  · obtain ⟨x, rfl⟩ := hw.n e
    rfl
abbrev mtR (m : List (L × L)) (r : Rq) : Bool := meetsR r.2.1 r.2.2 (mget m r.1)
theorem selR_set {l : List Rq} (hw : ∀ r ∈ l, FairW r) (m : List (L × L)) : selR (some (l.map setR)) m = l.all (mtR m) := by
  show (l.map setR).all (rqMeets m) = _
  rw [List.all_map]
  induction l with
  | nil => rfl
  | cons r l ih =>
    rw [List.all_cons, List.all_cons, ih fun x hx => hw x (List.mem_cons_of_mem _ hx)]
    congr 1
    exact meets_setL (hw r (List.mem_cons_self ..)).1 _
end Go.Proofs.YteigfmchnblkgaaGreatDoor.Hand
