/- The plain law of the texts in order; impl.SetList, SetWithin, SetBoth. -/
import Derived.Test.YtghekbffjonceaaSetOf
namespace Go.Proofs.Ytghekbffjonceaa.Hand
open Go.RowKit Go.Proofs.YtghekbffjonceaaW.PrintWords Go.Proofs.YtghekbffjonceaaW.PrintLast Go.Proofs.YtghekbffjonceaaW.PrintMore Go.Proofs.Ytghekbffjonceaa.Base
set_option linter.unusedVariables false
set_option linter.unusedSimpArgs false
set_option maxRecDepth 100000
open Go.Sort (ltStr)
theorem lt_irr (x : L) : ltStr x x = false := Sort.swo_ltStr.irrefl x
theorem lt_tr {x y z : L} (h1 : ltStr x y = true) (h2 : ltStr y z = true) : ltStr x z = true := Sort.swo_ltStr.trans x y z h1 h2
theorem lt_tot {x y : L} (h1 : ltStr x y = false) (h2 : ltStr y x = false) : x = y := by
  simp only [ltStr, decide_eq_false_iff_not, List.not_lt] at h1 h2; exact List.le_antisymm h2 h1
abbrev Up (l : List L) : Prop := l.Pairwise fun x y => ltStr x y = true
def insR : List L → L → List L
  | [], s => [s]
  | y :: r, s => if ltStr y s = true then y :: insR r s else if y = s then y :: r else s :: y :: r
theorem insS_eq (out : List L) (s : L) : insS out s = insR out s := by
  induction out with
  | nil => simp [insS, posOf, insR]
  | cons y r ih =>
    unfold insR
    by_cases h : ltStr y s = true
    · rw [if_pos h, ← ih]
      have hp : posOf (y :: r) s = posOf r s + 1 := by simp [posOf, h]
      unfold insS
      rw [hp, List.getElem?_cons_succ]
      split <;> simp
    · have hp : posOf (y :: r) s = 0 := by simp [posOf, h]
      rw [if_neg h]
      unfold insS
      rw [hp, List.getElem?_cons_zero]
      by_cases e : y = s
      · subst e; simp
      · simp [e]
theorem insR_mem (out : List L) (s x : L) : x ∈ insR out s ↔ (x ∈ out ∨ x = s) := by
  induction out with
  | nil => simp [insR]
  | cons y r ih =>
    unfold insR
    split
    · rw [List.mem_cons, ih, List.mem_cons, or_assoc]
    · split
      · rename_i e
        subst e
        constructor
        · exact .inl
        · rintro (h | rfl)
          · exact h
          · exact List.mem_cons_self
      · rw [List.mem_cons]; constructor
        · rintro (h | h); exact .inr h; exact .inl h
        · rintro (h | h); exact .inr h; exact .inl h
theorem insR_up {out : List L} (h : Up out) (s : L) : Up (insR out s) := by
  induction out with
  | nil => simp [insR, Up]
  | cons y r ih =>
    have h1 := List.pairwise_cons.1 h
    unfold insR
    split
    · rename_i hy
      refine List.pairwise_cons.2 ⟨fun z hz => ?_, ih h1.2⟩
      rcases (insR_mem r s z).1 hz with hz | rfl
      · exact h1.1 z hz
      · exact hy
    · split
      · exact h
      · rename_i hy he
        have hs : ltStr s y = true := by
          cases e : ltStr s y with
          | true => rfl
          | false => exact absurd (lt_tot (by simpa using hy) e) he
        refine List.pairwise_cons.2 ⟨fun z hz => ?_, h⟩
        rcases List.mem_cons.1 hz with rfl | hz
        · exact hs
        · exact lt_tr hs (h1.1 z hz)
theorem fold_up (l : List L) : ∀ {out : List L}, Up out → Up (l.foldl insS out) ∧ ∀ x, x ∈ l.foldl insS out ↔ (x ∈ out ∨ x ∈ l) := by
  induction l with
  | nil => intro out h; exact ⟨h, by simp⟩
  | cons a l ih =>
    intro out h
    have h2 : Up (insS out a) := by rw [insS_eq]; exact insR_up h a
    obtain ⟨h3, h4⟩ := ih h2
    refine ⟨h3, fun x => ?_⟩
    rw [List.foldl_cons, h4, insS_eq, insR_mem, List.mem_cons, or_assoc]
theorem setL_up (l : List L) : Up (setL l) := (fold_up l (out := []) List.Pairwise.nil).1
theorem setL_mem (l : List L) (x : L) : x ∈ setL l ↔ x ∈ l := by have := (fold_up l (out := []) List.Pairwise.nil).2 x; simpa [setL] using this
theorem up_ext : ∀ {l m : List L}, Up l → Up m → (∀ y, y ∈ l ↔ y ∈ m) → l = m
  | [], [], _, _, _ => rfl
  | [], b :: m, _, _, h => absurd ((h b).2 List.mem_cons_self) (by simp)
  | a :: l, [], _, _, h => absurd ((h a).1 List.mem_cons_self) (by simp)
  | a :: l, b :: m, h1, h2, h => by
    have p1 := List.pairwise_cons.1 h1
    have p2 := List.pairwise_cons.1 h2
    have hab : a = b := by
      rcases List.mem_cons.1 ((h a).1 List.mem_cons_self) with e | ha
      · exact e
      · rcases List.mem_cons.1 ((h b).2 List.mem_cons_self) with e | hb
        · exact e.symm
        · have := lt_tr (p1.1 b hb) (p2.1 a ha); rw [lt_irr] at this; exact absurd this (by simp)
    subst hab
    congr 1
    refine up_ext p1.2 p2.2 fun y => ?_
    have hy := h y
    rw [List.mem_cons, List.mem_cons] at hy
    constructor
    · intro hl
      rcases hy.1 (.inr hl) with e | hm
      · subst e; have := p1.1 y hl; rw [lt_irr] at this; exact absurd this (by simp)
      · exact hm
    · intro hm
      rcases hy.2 (.inr hm) with e | hl
      · subst e; have := p2.1 y hm; rw [lt_irr] at this; exact absurd this (by simp)
      · exact hl
theorem asc_up {l : List L} (hn : l.Nodup) (ha : Asc l) : Up l := by
  refine List.Pairwise.imp₂ (fun a b (h1 : a ≠ b) (h2 : ltStr b a = false) => ?_) hn ha
  cases e : ltStr a b with
  | true => rfl
  | false => exact absurd (lt_tot e h2) h1
theorem asc_eq {l M : List L} (hn : l.Nodup) (ha : Asc l) (h : ∀ y, l.contains y = M.contains y) : l = setL M := by
  refine up_ext (asc_up hn ha) (setL_up M) fun y => ?_
  rw [setL_mem]
  have := h y
  rw [Bool.eq_iff_iff, List.contains_iff_mem, List.contains_iff_mem] at this
  exact this
theorem perm_contains {l ks : List L} (h : l.Perm ks) (y : L) : l.contains y = ks.contains y := by
  rw [Bool.eq_iff_iff, List.contains_iff_mem, List.contains_iff_mem]; exact h.mem_iff
theorem asc_perm {l ks M : List L} (hp : l.Perm ks) (hn : ks.Nodup) (ha : Asc l) (h : ∀ y, ks.contains y = M.contains y) : l = setL M ∧ ks.length = (setL M).length := by
  have e := asc_eq (hp.nodup_iff.2 hn) ha (fun y => (perm_contains hp y).trans (h y))
  exact ⟨e, by rw [← e]; exact hp.length_eq.symm⟩
theorem any_contains (ys : List L) (y : L) : (ys.map mk).any (fun p => y == p.data.toList) = ys.contains y := by
  rw [List.any_map, Bool.eq_iff_iff, List.any_eq_true, List.contains_iff_mem]
  constructor
  · rintro ⟨x, hx, h⟩; have : y = x := by simpa [mk] using h
    subst this; exact hx
  · intro h; exact ⟨y, h, by simp [mk]⟩
theorem new_contains (l : List L) (y : L) : (addAll [] (l.map mk)).contains y = l.contains y := by rw [addAll_contains, any_contains]; simp
/-- A set of the texts of l, with at most so many. -/
theorem same_len {ks : List L} {M : List L} (hn : ks.Nodup) (h : ∀ y, ks.contains y = M.contains y) : ks.length ≤ M.length ∧ ks.length = (setL M).length := by
  have hu := setL_up M
  have hnu : (setL M).Nodup := hu.imp (fun h e => by subst e; rw [lt_irr] at h; exact absurd h (by simp))
  have hp : ks.Perm (setL M) := (List.perm_ext_iff_of_nodup hn hnu).2 fun y => by
    rw [setL_mem]; have := h y; rw [Bool.eq_iff_iff, List.contains_iff_mem, List.contains_iff_mem] at this; exact this
  exact ⟨by rw [hp.length_eq]; exact setL_len M, hp.length_eq⟩
end Go.Proofs.Ytghekbffjonceaa.Hand
