/- Two ascending lists of the same texts are the same. -/
import Derived.Test.YteigfmchnblkgaaGreatDoorRTTxD
namespace Go.Proofs.YteigfmchnblkgaaGreatDoor.Hand
open Go.RowKit Go.Proofs.YteigfmchnblkgaaGreatDoorW.PrintWords Go.Proofs.YteigfmchnblkgaaGreatDoorW.PrintLast Go.Proofs.YteigfmchnblkgaaGreatDoorW.PrintMore Go.Proofs.YteigfmchnblkgaaGreatDoor.Base
theorem asc_unique {a b : List L} (h : a.Perm b) (ha : Asc a) (hb : Asc b) : a = b :=
  List.Perm.eq_of_pairwise (le := fun x y => Sort.ltStr y x = false) (fun _ _ _ _ h1 h2 => List.le_antisymm (ltStr_le.1 h1) (ltStr_le.1 h2)) ha hb h
theorem insS_asc {out : List L} {s : L} (h : Asc out) : Asc (insS out s) := by
  unfold insS
  split
  · exact h
  · have hle := posOf_le out s
    obtain ⟨p, hp⟩ : ∃ p, posOf out s = p := ⟨_, rfl⟩
    have h1 := posOf_lt out s
    have h2 := posOf_at out s
    rw [hp] at h1 h2 hle ⊢
    unfold Asc at h ⊢
    have hsp : (out.take p ++ out.drop p).Pairwise (fun x y => Sort.ltStr y x = false) := by rw [List.take_append_drop]; exact h
    rw [List.pairwise_append] at hsp
    obtain ⟨q1, q2, q3⟩ := hsp
    have htk : ∀ x ∈ out.take p, Sort.ltStr s x = false := fun x hx => by
      obtain ⟨k, hk, rfl⟩ := List.mem_iff_getElem.1 hx
      rw [List.length_take] at hk
      have := h1 k (by omega) (by omega)
      rw [List.getElem_take]
      unfold Sort.ltStr at this ⊢
      have h3 := of_decide_eq_true this
      exact decide_eq_false (List.le_of_lt h3)
    have hdr : ∀ x ∈ out.drop p, Sort.ltStr x s = false := fun x hx => by
      obtain ⟨k, hk, rfl⟩ := List.mem_iff_getElem.1 hx
      rw [List.length_drop] at hk
      have hp0 := h2 (by omega)
      rw [List.getElem_drop]
      rcases Nat.eq_zero_or_pos k with rfl | hk0
      · exact hp0
      · have := (List.pairwise_iff_getElem.1 h) p (p + k) (by omega) (by omega) (by omega)
        exact ltStr_le.2 (List.le_trans (ltStr_le.1 hp0) (ltStr_le.1 this))
    rw [List.pairwise_append]
    refine ⟨q1, List.pairwise_cons.2 ⟨hdr, q2⟩, fun x hx y hy => ?_⟩
    rcases List.mem_cons.1 hy with rfl | hy
    · exact htk x hx
    · exact q3 x hx y hy
theorem insS_perm {out : List L} {s : L} (h : (insS out s).length = out.length + 1) : (insS out s).Perm (s :: out) := by
  unfold insS at h ⊢
  split
  · rename_i h1; rw [if_pos h1] at h; omega
  · refine List.perm_middle.trans ?_
    rw [List.take_append_drop]
theorem foldl_perm : ∀ (l out : List L), Asc out → Asc (l.foldl insS out) ∧ (l.foldl insS out).length ≤ out.length + l.length ∧ ((l.foldl insS out).length = out.length + l.length → (l.foldl insS out).Perm (out ++ l))
  | [], out, h => ⟨h, by simp, fun _ => by simp⟩
  | s :: l, out, h => by
    obtain ⟨h1, h2, h3⟩ := foldl_perm l (insS out s) (insS_asc h)
    have h4 := insS_len out s
    refine ⟨h1, by simp only [List.foldl_cons, List.length_cons]; omega, fun he => ?_⟩
    simp only [List.foldl_cons, List.length_cons] at he ⊢
    refine (h3 (by omega)).trans ?_
    refine ((insS_perm (by omega)).append_right l).trans ?_
    simp only [List.cons_append]
    exact List.perm_middle.symm
/-- Values that differ, in order: they are SetOf's. -/
theorem setL_of_asc {l us : List L} (hd : (setL l).length = l.length) (hp : us.Perm l) (ha : Asc us) : us = setL l := by
  obtain ⟨h1, _, h3⟩ := foldl_perm l [] List.Pairwise.nil
  exact asc_unique (hp.trans (h3 (by simpa [setL] using hd)).symm) ha h1
end Go.Proofs.YteigfmchnblkgaaGreatDoor.Hand
