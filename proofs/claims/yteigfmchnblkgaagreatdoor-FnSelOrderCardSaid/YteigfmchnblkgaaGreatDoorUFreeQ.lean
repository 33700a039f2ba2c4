/- Requirements as text: the pieces are in order, their tokens, and what the parser makes of them. No program in sight. -/
import Derived.Test.YteigfmchnblkgaaGreatDoorUFreeP
namespace Go.Proofs.YteigfmchnblkgaaGreatDoor.Hand
open Go.RowKit Go.Proofs.YteigfmchnblkgaaGreatDoor.Base
set_option linter.unusedVariables false
set_option linter.unusedSimpArgs false
set_option maxRecDepth 100000
theorem safe_comma {ps : List Pc} : safeP (.str [44] :: ps) = true := by unfold safeP; rw [hdP_str]; rfl
theorem safe_close {ps : List Pc} : safeP (.str [41] :: ps) = true := by unfold safeP; rw [hdP_str]; rfl
theorem safe_gap {ps : List Pc} : safeP (.gap :: ps) = safeP ps := rfl
theorem okF {f : L → List Pc} (hf : ∀ s ps, isWord s = true → okP ps = true → safeP ps = true → okP (f s ++ ps) = true ∧ safeP (f s ++ ps) = true) :
    ∀ (r : List L) (ps : List Pc), (∀ v ∈ r, isWord v = true) → okP ps = true → safeP ps = true → okP (r.flatMap f ++ ps) = true ∧ safeP (r.flatMap f ++ ps) = true
  | [], ps, _, h1, h2 => ⟨h1, h2⟩
  | v :: r, ps, hw, h1, h2 => by
    obtain ⟨a, b⟩ := okF hf r ps (fun x hx => hw x (List.mem_cons_of_mem _ hx)) h1 h2
    rw [List.flatMap_cons, List.append_assoc]
    exact hf v _ (hw v (List.mem_cons_self ..)) a b
theorem okV_pcs {vs : List L} {ps : List Pc} (hw : ∀ v ∈ vs, isWord v = true) (h1 : okP ps = true) (h2 : safeP ps = true) : okP (pcsV vs ++ ps) = true := by
  cases vs with
  | nil => exact h1
  | cons v r =>
    obtain ⟨a, b⟩ := okF (f := fun s => [.str [44], .gap, .str s, .gap]) (fun s ps hs h1 h2 => ⟨by
      show okP (.str [44] :: .gap :: .str s :: .gap :: ps) = true
      rw [okP_comma, okP_gap]; exact okP_word hs h1 (safe_wd h2), safe_comma⟩) r ps (fun x hx => hw x (List.mem_cons_of_mem _ hx)) h1 h2
    show okP (.str v :: .gap :: (r.flatMap _ ++ ps)) = true
    exact okP_word (hw v (List.mem_cons_self ..)) a (safe_wd (by rw [safe_gap]; exact b))
theorem okW_pcs {vs : List L} {ps : List Pc} (hw : ∀ v ∈ vs, isWord v = true) (h1 : okP ps = true) (h2 : safeP ps = true) : okP (pcwV vs ++ ps) = true := by
  cases vs with
  | nil => exact h1
  | cons v r =>
    obtain ⟨a, b⟩ := okF (f := fun s => [.str [44], .str s]) (fun s ps hs h1 h2 => ⟨by
      show okP (.str [44] :: .str s :: ps) = true
      rw [okP_comma]; exact okP_word hs h1 (safe_wd h2), safe_comma⟩) r ps (fun x hx => hw x (List.mem_cons_of_mem _ hx)) h1 h2
    show okP (.str v :: (r.flatMap _ ++ ps)) = true
    exact okP_word (hw v (List.mem_cons_self ..)) a (safe_wd b)
theorem tokF {f : L → List Pc} {g : L → List Tk} (hf : ∀ s ps, isWord s = true → tokP (f s ++ ps) = g s ++ tokP ps) :
    ∀ (r : List L) (ps : List Pc), (∀ v ∈ r, isWord v = true) → tokP (r.flatMap f ++ ps) = r.flatMap g ++ tokP ps
  | [], ps, _ => rfl
  | v :: r, ps, hw => by
    rw [List.flatMap_cons, List.flatMap_cons, List.append_assoc, hf v _ (hw v (List.mem_cons_self ..)), tokF hf r ps (fun x hx => hw x (List.mem_cons_of_mem _ hx)), List.append_assoc]
theorem tokP_comma {ps : List Pc} : tokP (.str [44] :: ps) = (3, [44]) :: tokP ps := rfl
theorem tokV_pcs {vs : List L} {ps : List Pc} (hw : ∀ v ∈ vs, isWord v = true) : tokP (pcsV vs ++ ps) = tkV vs ++ tokP ps := by
  cases vs with
  | nil => rfl
  | cons v r =>
    show tokP (.str v :: .gap :: (r.flatMap _ ++ ps)) = (kW v, v) :: (r.flatMap _ ++ tokP ps)
    rw [tokP_word (hw v (List.mem_cons_self ..)), tokP_gap]
    congr 1
    refine tokF (fun s ps hs => ?_) r ps (fun x hx => hw x (List.mem_cons_of_mem _ hx))
    show tokP (.str [44] :: .gap :: .str s :: .gap :: ps) = _
    rw [tokP_comma, tokP_gap, tokP_word hs, tokP_gap]; rfl
theorem tokW_pcs {vs : List L} {ps : List Pc} (hw : ∀ v ∈ vs, isWord v = true) : tokP (pcwV vs ++ ps) = tkV vs ++ tokP ps := by
  cases vs with
  | nil => rfl
  | cons v r =>
    show tokP (.str v :: (r.flatMap _ ++ ps)) = (kW v, v) :: (r.flatMap _ ++ tokP ps)
    rw [tokP_word (hw v (List.mem_cons_self ..))]
    congr 1
    refine tokF (fun s ps hs => ?_) r ps (fun x hx => hw x (List.mem_cons_of_mem _ hx))
    show tokP (.str [44] :: .str s :: ps) = _
    rw [tokP_comma, tokP_word hs]; rfl
/-- A requirement of words, its operator one that there is. -/
structure WordR (key op : L) (vs : List L) : Prop where
  k : isWord key = true
  v : ∀ x ∈ vs, isWord x = true
  o : op = [33] ∨ op = [101, 120, 105, 115, 116, 115] ∨ oIn op ∨ op = [103, 116] ∨ op = [108, 116] ∨ op = [61] ∨ op = [61, 61] ∨ op = [33, 61]
  n : op = [103, 116] ∨ op = [108, 116] ∨ op = [61] ∨ op = [61, 61] ∨ op = [33, 61] → ∃ x, vs = [x]
  m : oIn op → vs ≠ []
theorem word_ne61 {p : L} {ps : List Pc} (h : isWord p = true) : hdP (.str p :: ps) ≠ some 61 := by
  obtain ⟨d, e, _, h3⟩ := hdP_word (ps := ps) h
  rw [e]; intro e2; injection e2 with e2; exact h3 e2
theorem isWord_in {op : L} (h : oIn op) : isWord op = true := by rcases h with h | h <;> subst h <;> decide
theorem okR_pcs {key op : L} {vs : List L} {ps : List Pc} (hw : WordR key op vs) (h1 : okP ps = true) (h2 : safeP ps = true) :
    okP (pcsR key op vs ++ ps) = true ∧ tokP (pcsR key op vs ++ ps) = toksR key op vs ++ tokP ps := by
  have hk := hw.k
  rcases hw.o with e | e | e | e
  · subst e
    refine ⟨?_, ?_⟩
    · show okP (.str [33] :: .gap :: .str key :: ps) = true
      rw [okP_not (by rw [hdP_gap]; exact word_ne61 hk), okP_gap]; exact okP_word hk h1 (safe_wd h2)
    · show tokP (.str [33] :: .gap :: .str key :: ps) = _
      show (4, [33]) :: tokP (.gap :: .str key :: ps) = _
      rw [tokP_gap, tokP_word hk]; rfl
  · subst e
    exact ⟨okP_word hk h1 (safe_wd h2), tokP_word hk⟩
  · have ho := isWord_in e
    have hv := okV_pcs (ps := .str [41] :: ps) hw.v (by rw [okP_close]; exact h1) safe_close
    have ht := tokV_pcs (ps := .str [41] :: ps) hw.v
    have ep : pcsR key op vs ++ ps = .str key :: .str [32] :: .gap :: .str op :: .gap :: .str [40] :: .gap :: (pcsV vs ++ .str [41] :: ps) := by
      unfold pcsR
      rw [if_neg (by rcases e with e | e <;> subst e <;> decide), if_neg (by rcases e with e | e <;> subst e <;> decide), if_pos e]
      simp
    have et : toksR key op vs = (kW key, key) :: (kW op, op) :: (13, [40]) :: (tkV vs ++ [(2, [41])]) := by
      unfold toksR
      rw [if_neg (by rcases e with e | e <;> subst e <;> decide), if_neg (by rcases e with e | e <;> subst e <;> decide), if_pos e]
    rw [ep, et]
    refine ⟨?_, ?_⟩
    · refine okP_word hk ?_ (by rfl)
      rw [okP_sp, okP_gap]
      refine okP_word ho ?_ (by rfl)
      rw [okP_gap, okP_open, okP_gap]; exact hv
    · rw [tokP_word hk]
      show _ :: tokP (.gap :: .str op :: _) = _
      rw [tokP_gap, tokP_word ho, tokP_gap]
      show _ :: _ :: (13, [40]) :: tokP (.gap :: _) = _
      rw [tokP_gap, ht]
      show _ :: _ :: _ :: (tkV vs ++ (2, [41]) :: tokP ps) = _
      simp
  · obtain ⟨x, rfl⟩ := hw.n e
    have hx := hw.v x (List.mem_cons_self ..)
    have h0 := okP_word hx h1 (safe_wd h2)
    have ht := tokP_word (ps := ps) hx
    rcases e with e | e | e | e | e
    · subst e
      refine ⟨?_, ?_⟩
      · show okP (.str key :: .gap :: .str [62] :: .gap :: .str x :: ps) = true
        refine okP_word hk ?_ (by rfl)
        rw [okP_gap, okP_gt, okP_gap]; exact h0
      · show tokP (.str key :: .gap :: .str [62] :: .gap :: .str x :: ps) = _
        rw [tokP_word hk, tokP_gap]
        show _ :: (7, [62]) :: tokP (.gap :: _) = _
        rw [tokP_gap, ht]; rfl
    · subst e
      refine ⟨?_, ?_⟩
      · show okP (.str key :: .gap :: .str [60] :: .gap :: .str x :: ps) = true
        refine okP_word hk ?_ (by rfl)
        rw [okP_gap, okP_lt, okP_gap]; exact h0
      · show tokP (.str key :: .gap :: .str [60] :: .gap :: .str x :: ps) = _
        rw [tokP_word hk, tokP_gap]
        show _ :: (10, [60]) :: tokP (.gap :: _) = _
        rw [tokP_gap, ht]; rfl
    · subst e
      refine ⟨?_, ?_⟩
      · show okP (.str key :: .gap :: .str [61] :: .gap :: .str x :: ps) = true
        refine okP_word hk ?_ (by rfl)
        rw [okP_gap, okP_eq (by rw [hdP_gap]; exact word_ne61 hx), okP_gap]; exact h0
      · show tokP (.str key :: .gap :: .str [61] :: .gap :: .str x :: ps) = _
        rw [tokP_word hk, tokP_gap]
        show _ :: (6, [61]) :: tokP (.gap :: _) = _
        rw [tokP_gap, ht]; rfl
    · subst e
      refine ⟨?_, ?_⟩
      · show okP (.str key :: .gap :: .str [61, 61] :: .gap :: .str x :: ps) = true
        refine okP_word hk ?_ (by rfl)
        rw [okP_gap, okP_eq2, okP_gap]; exact h0
      · show tokP (.str key :: .gap :: .str [61, 61] :: .gap :: .str x :: ps) = _
        rw [tokP_word hk, tokP_gap]
        show _ :: (5, [61, 61]) :: tokP (.gap :: _) = _
        rw [tokP_gap, ht]; rfl
    · subst e
      refine ⟨?_, ?_⟩
      · show okP (.str key :: .gap :: .str [33, 61] :: .gap :: .str x :: ps) = true
        refine okP_word hk ?_ (by rfl)
        rw [okP_gap, okP_ne, okP_gap]; exact h0
      · show tokP (.str key :: .gap :: .str [33, 61] :: .gap :: .str x :: ps) = _
        rw [tokP_word hk, tokP_gap]
        show _ :: (11, [33, 61]) :: tokP (.gap :: _) = _
        rw [tokP_gap, ht]; rfl
theorem okRw_pcs {key op : L} {vs : List L} {ps : List Pc} (hw : WordR key op vs) (h1 : okP ps = true) (h2 : safeP ps = true) :
    okP (pcwR key op vs ++ ps) = true ∧ tokP (pcwR key op vs ++ ps) = toksR key op vs ++ tokP ps := by
  have hk := hw.k
  rcases hw.o with e | e | e | e
  · subst e
    refine ⟨?_, ?_⟩
    · show okP (.str [33] :: .str key :: ps) = true
      rw [okP_not (word_ne61 hk)]; exact okP_word hk h1 (safe_wd h2)
    · show tokP (.str [33] :: .str key :: ps) = _
      show (4, [33]) :: tokP (.str key :: ps) = _
      rw [tokP_word hk]; rfl
  · subst e
    exact ⟨okP_word hk h1 (safe_wd h2), tokP_word hk⟩
  · have ho := isWord_in e
    have hv := okW_pcs (ps := .str [41] :: ps) hw.v (by rw [okP_close]; exact h1) safe_close
    have ht := tokW_pcs (ps := .str [41] :: ps) hw.v
    have ep : pcwR key op vs ++ ps = .str key :: .str [32] :: .str op :: .str [32] :: .str [40] :: (pcwV vs ++ .str [41] :: ps) := by
      unfold pcwR
      rw [if_neg (by rcases e with e | e <;> subst e <;> decide), if_neg (by rcases e with e | e <;> subst e <;> decide), if_pos e]
      simp
    have et : toksR key op vs = (kW key, key) :: (kW op, op) :: (13, [40]) :: (tkV vs ++ [(2, [41])]) := by
      unfold toksR
      rw [if_neg (by rcases e with e | e <;> subst e <;> decide), if_neg (by rcases e with e | e <;> subst e <;> decide), if_pos e]
    rw [ep, et]
    refine ⟨?_, ?_⟩
    · refine okP_word hk ?_ (by rfl)
      rw [okP_sp]
      refine okP_word ho ?_ (by rfl)
      rw [okP_sp, okP_open]; exact hv
    · rw [tokP_word hk]
      show _ :: tokP (.str op :: _) = _
      rw [tokP_word ho]
      show _ :: _ :: (13, [40]) :: tokP (_) = _
      rw [ht]
      show _ :: _ :: _ :: (tkV vs ++ (2, [41]) :: tokP ps) = _
      simp
  · obtain ⟨x, rfl⟩ := hw.n e
    have hx := hw.v x (List.mem_cons_self ..)
    have h0 := okP_word hx h1 (safe_wd h2)
    have ht := tokP_word (ps := ps) hx
    rcases e with e | e | e | e | e
    · subst e
      refine ⟨?_, ?_⟩
      · show okP (.str key :: .str [62] :: .str x :: ps) = true
        refine okP_word hk ?_ (by rfl)
        rw [okP_gt]; exact h0
      · show tokP (.str key :: .str [62] :: .str x :: ps) = _
        rw [tokP_word hk]
        show _ :: (7, [62]) :: tokP (_) = _
        rw [ht]; rfl
    · subst e
      refine ⟨?_, ?_⟩
      · show okP (.str key :: .str [60] :: .str x :: ps) = true
        refine okP_word hk ?_ (by rfl)
        rw [okP_lt]; exact h0
      · show tokP (.str key :: .str [60] :: .str x :: ps) = _
        rw [tokP_word hk]
        show _ :: (10, [60]) :: tokP (_) = _
        rw [ht]; rfl
    · subst e
      refine ⟨?_, ?_⟩
      · show okP (.str key :: .str [61] :: .str x :: ps) = true
        refine okP_word hk ?_ (by rfl)
        rw [okP_eq (word_ne61 hx)]; exact h0
      · show tokP (.str key :: .str [61] :: .str x :: ps) = _
        rw [tokP_word hk]
        show _ :: (6, [61]) :: tokP (_) = _
        rw [ht]; rfl
    · subst e
      refine ⟨?_, ?_⟩
      · show okP (.str key :: .str [61, 61] :: .str x :: ps) = true
        refine okP_word hk ?_ (by rfl)
        rw [okP_eq2]; exact h0
      · show tokP (.str key :: .str [61, 61] :: .str x :: ps) = _
        rw [tokP_word hk]
        show _ :: (5, [61, 61]) :: tokP (_) = _
        rw [ht]; rfl
    · subst e
      refine ⟨?_, ?_⟩
      · show okP (.str key :: .str [33, 61] :: .str x :: ps) = true
        refine okP_word hk ?_ (by rfl)
        rw [okP_ne]; exact h0
      · show tokP (.str key :: .str [33, 61] :: .str x :: ps) = _
        rw [tokP_word hk]
        show _ :: (11, [33, 61]) :: tokP (_) = _
        rw [ht]; rfl
end Go.Proofs.YteigfmchnblkgaaGreatDoor.Hand
