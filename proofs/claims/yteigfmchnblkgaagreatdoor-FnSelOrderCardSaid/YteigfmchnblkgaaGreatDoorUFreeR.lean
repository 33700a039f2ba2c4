/- Requirements as text: what the parser makes of their tokens. No program in sight. -/
import Derived.Test.YteigfmchnblkgaaGreatDoorUFreeQ
namespace Go.Proofs.YteigfmchnblkgaaGreatDoor.Hand
open Go.RowKit Go.Proofs.YteigfmchnblkgaaGreatDoor.Base
set_option linter.unusedVariables false
set_option linter.unusedSimpArgs false
set_option maxRecDepth 100000
theorem addK_ne (ks : List L) (x : L) : addK ks x ≠ [] := by
  unfold addK
  split
  · rename_i h; intro e; subst e; cases h
  · simp
theorem addK_mem {ks : List L} {x y : L} : y ∈ addK ks x ↔ y ∈ ks ∨ y = x := by
  unfold addK
  split
  · rename_i h
    rw [List.contains_iff_mem] at h
    exact ⟨.inl, fun h2 => h2.elim id fun e => by rw [e]; exact h⟩
  · simp
theorem foldK_mem : ∀ (vs ks : List L) (y : L), y ∈ vs.foldl addK ks ↔ y ∈ ks ∨ y ∈ vs
  | [], ks, y => by simp
  | v :: vs, ks, y => by rw [List.foldl_cons, foldK_mem vs, addK_mem, List.mem_cons, or_assoc]
theorem setL_foldK (vs : List L) : setL (vs.foldl addK []) = setL vs :=
  up_ext (setL_up _) (setL_up _) fun y => by rw [setL_mem, setL_mem, foldK_mem]; simp
theorem setL_one (x : L) : setL [x] = [x] := rfl
theorem setL_isEmpty (vs : List L) : (setL vs).isEmpty = vs.isEmpty := by
  cases vs with
  | nil => rfl
  | cons v r =>
    cases e : setL (v :: r) with
    | nil => have := (setL_mem (v :: r) v).2 (List.mem_cons_self ..); rw [e] at this; cases this
    | cons a b => rfl
theorem fair_setL {key op : L} {vs : List L} (h : fairR key op vs = true) : fairR key op (setL vs) = true := by
  unfold fairR at h ⊢
  simp only [Bool.and_eq_true] at h ⊢
  obtain ⟨h1, h2, h3⟩ := h
  refine ⟨?_, ?_, h3⟩
  · unfold opOk at h1 ⊢
    split
    · rename_i e; rw [if_pos e] at h1; rw [setL_isEmpty]; exact h1
    · rename_i e; rw [if_neg e] at h1
      split
      · rename_i e; rw [if_pos e] at h1
        match vs, h1 with
        | [x], _ => rfl
      · rename_i e; rw [if_neg e] at h1
        split
        · rename_i e; rw [if_pos e] at h1
          match vs, h1 with
          | [], _ => rfl
        · rename_i e; rw [if_neg e] at h1
          split
          · rename_i e; rw [if_pos e] at h1
            match vs, h1 with
            | [x], h => exact h
          · rename_i e; rw [if_neg e] at h1; exact h1
  · rw [List.all_eq_true] at h2 ⊢
    exact fun x hx => h2 x ((setL_mem vs x).1 hx)
theorem pIds_toks : ∀ (r : List L) (v : L) (ks : List L) (m : Nat) (rest : List Tk), isWord v = true → (∀ x ∈ r, isWord x = true) → 2 * r.length + 1 ≤ m →
    pIds m ((kW v, v) :: (r.flatMap (fun s => [(3, [44]), (kW s, s)]) ++ (2, [41]) :: rest)) ks = some ((v :: r).foldl addK ks, (2, [41]) :: rest)
  | [], v, ks, m + 1, rest, hv, hr, hm => by
    unfold pIds
    rw [if_pos (kW_vk hv)]
    rfl
  | s :: r, v, ks, m + 2, rest, hv, hr, hm => by
    have hs := hr s (List.mem_cons_self ..)
    have ih := pIds_toks r s (addK ks v) m rest hs (fun x hx => hr x (List.mem_cons_of_mem _ hx)) (by simp only [List.length_cons] at hm; omega)
    have h1 : pIds (m + 1) ((3, [44]) :: (kW s, s) :: (r.flatMap (fun s => [((3 : Nat), ([44] : L)), (kW s, s)]) ++ (2, [41]) :: rest)) (addK ks v) = pIds m ((kW s, s) :: (r.flatMap (fun s => [((3 : Nat), ([44] : L)), (kW s, s)]) ++ (2, [41]) :: rest)) (addK ks v) := by
      conv => lhs; unfold pIds
      rw [if_neg (by decide), if_pos (by decide)]
      simp only [kW_vk hs]
      rw [if_neg (by decide), if_neg (by decide), if_neg (addK_ne ks v)]
    have h2 : pIds (m + 2) ((kW v, v) :: ((s :: r).flatMap (fun s => [((3 : Nat), ([44] : L)), (kW s, s)]) ++ (2, [41]) :: rest)) ks = pIds (m + 1) ((3, [44]) :: (kW s, s) :: (r.flatMap (fun s => [((3 : Nat), ([44] : L)), (kW s, s)]) ++ (2, [41]) :: rest)) (addK ks v) := by
      conv => lhs; unfold pIds
      rw [if_pos (kW_vk hv)]
      rfl
    rw [h2, h1, ih]
    rfl
theorem pVals_toks {vs : List L} (hn : vs ≠ []) (hw : ∀ x ∈ vs, isWord x = true) (rest : List Tk) : pVals ((13, [40]) :: (tkV vs ++ (2, [41]) :: rest)) = some (vs.foldl addK [], rest) := by
  cases vs with
  | nil => exact absurd rfl hn
  | cons v r =>
    have hv := hw v (List.mem_cons_self ..)
    have h := pIds_toks r v [] ((kW v, v) :: (r.flatMap (fun s => [((3 : Nat), ([44] : L)), (kW s, s)]) ++ (2, [41]) :: rest)).length rest hv (fun x hx => hw x (List.mem_cons_of_mem _ hx)) (by
      have e : ∀ r : List L, (r.flatMap (fun s => [((3 : Nat), ([44] : L)), (kW s, s)])).length = 2 * r.length := fun r => by
        induction r with
        | nil => rfl
        | cons s r ih => rw [List.flatMap_cons, List.length_append, ih, List.length_cons]; simp; omega
      rw [List.length_cons, List.length_append, e]; omega)
    unfold pVals
    dsimp only
    rw [if_pos (by decide)]
    show (if vk (kW v) = 8 ∨ vk (kW v) = 3 then _ else _) = _
    rw [if_pos (.inl (kW_vk hv))]
    show (match pIds ((kW v, v) :: (r.flatMap (fun s => [((3 : Nat), ([44] : L)), (kW s, s)]) ++ (2, [41]) :: rest)).length ((kW v, v) :: (r.flatMap (fun s => [((3 : Nat), ([44] : L)), (kW s, s)]) ++ (2, [41]) :: rest)) [] with
      | some (ks, (k3, _) :: ts3) => if vk k3 = 2 then some (ks, ts3) else none
      | _ => none) = _
    rw [h]
    rfl
theorem pOne_toks {x : L} (hx : isWord x = true) (rest : List Tk) : pOne ((kW x, x) :: rest) = some ([x], rest) := by
  unfold pOne
  dsimp only
  rw [kW_vk hx]
  rfl
theorem pKey_word {key : L} (hk : isWord key = true) (hq : pQ key = true) (ts : List Tk) : pKey ((kW key, key) :: ts) = some (key, if ePos ts then [101, 120, 105, 115, 116, 115] else [], ts) := by
  unfold pKey
  dsimp only
  rw [kW_vk hk, hq]
  rfl
theorem pOp_toks {op : L} (ho : oIn op ∨ op = [61] ∨ op = [61, 61] ∨ op = [33, 61]) (ts : List Tk) : pOp ((kW op, op) :: ts) = some (op, ts) := by
  rcases ho with (e | e) | e | e | e <;> subst e <;> rfl
theorem pReq_toks {key op : L} {vs : List L} (hw : WordR key op vs) (hf : fairR key op vs = true) (rest : List Tk) (hr : ePos rest = true) : pReq (toksR key op vs ++ rest) = some ((key, op, setL vs), rest) := by
  have hk := hw.k
  have hfs := fair_setL hf
  have hq : pQ key = true := by unfold fairR at hf; simp only [Bool.and_eq_true] at hf; exact hf.2.2
  have h0 : op = [33] ∨ op = [101, 120, 105, 115, 116, 115] → vs = [] := fun h => by
    unfold fairR at hf; simp only [Bool.and_eq_true] at hf
    have h1 := hf.1
    rcases h with h | h <;> subst h <;> (unfold opOk at h1; rw [if_neg (by decide), if_neg (by decide), if_pos (by decide)] at h1; simpa using h1)
  rcases hw.o with e | e | e | e
  · obtain rfl := h0 (.inl e)
    subst e
    show (match pKey ((4, [33]) :: (kW key, key) :: rest) with | none => none | some (key, op, ts1) => _) = _
    have : pKey ((4, [33]) :: (kW key, key) :: rest) = some (key, [33], rest) := by
      unfold pKey
      dsimp only
      rw [if_pos (by decide)]
      simp only [kW_vk hk, hq, if_true]
    rw [this]
    show (if ([33] : L) = [] then _ else if fairR key [33] [] = true then some ((key, [33], []), rest) else none) = _
    rw [if_neg (by decide), if_pos hf]
    rfl
  · obtain rfl := h0 (.inr e)
    subst e
    show (match pKey ((kW key, key) :: rest) with | none => none | some (key, op, ts1) => _) = _
    rw [pKey_word hk hq, hr]
    show (if ([101, 120, 105, 115, 116, 115] : L) = [] then _ else if fairR key [101, 120, 105, 115, 116, 115] [] = true then some ((key, [101, 120, 105, 115, 116, 115], []), rest) else none) = _
    rw [if_neg (by decide), if_pos hf]
    rfl
  · have et : toksR key op vs ++ rest = (kW key, key) :: (kW op, op) :: (13, [40]) :: (tkV vs ++ (2, [41]) :: rest) := by
      unfold toksR
      rw [if_neg (by rcases e with e | e <;> subst e <;> decide), if_neg (by rcases e with e | e <;> subst e <;> decide), if_pos e]
      simp
    have he : ePos ((kW op, op) :: (13, [40]) :: (tkV vs ++ (2, [41]) :: rest)) = false := by
      show (vk (kW op) = 1 || vk (kW op) = 3 : Bool) = false
      rw [kW_vk (isWord_in e)]; rfl
    rw [et]
    unfold pReq
    rw [pKey_word hk hq, he]
    show (if ([] : L) = [] then (match pOp ((kW op, op) :: (13, [40]) :: (tkV vs ++ (2, [41]) :: rest)) with | none => none | some (op, ts2) => _) else _) = _
    rw [if_pos rfl, pOp_toks (.inl e)]
    show (match (if oIn op then pVals ((13, [40]) :: (tkV vs ++ (2, [41]) :: rest)) else pOne _) with | none => none | some (ks, ts3) => if fairR key op (setL ks) then some ((key, op, setL ks), ts3) else none) = _
    rw [if_pos e, pVals_toks (hw.m e) hw.v]
    show (if fairR key op (setL (vs.foldl addK [])) then some ((key, op, setL (vs.foldl addK [])), rest) else none) = _
    rw [setL_foldK, if_pos hfs]
  · obtain ⟨x, rfl⟩ := hw.n e
    have hx := hw.v x (List.mem_cons_self ..)
    have key_ : ∀ k s, (kW key, key) :: (k, s) :: (kW x, x) :: rest = toksR key op [x] ++ rest → vk k ≠ 1 → vk k ≠ 3 → opT k = some op → ¬ oIn op → pReq (toksR key op [x] ++ rest) = some ((key, op, setL [x]), rest) := fun k s e1 h1 h3 ho hn => by
      rw [← e1]
      have he : ePos ((k, s) :: (kW x, x) :: rest) = false := by
        show (decide (vk k = 1) || decide (vk k = 3) : Bool) = false
        simp [h1, h3]
      unfold pReq
      rw [pKey_word hk hq, he]
      have hop : pOp ((k, s) :: (kW x, x) :: rest) = some (op, (kW x, x) :: rest) := by
        show (opT k).map _ = _
        rw [ho]; rfl
      show (if ([] : L) = [] then (match pOp ((k, s) :: (kW x, x) :: rest) with | none => none | some (op, ts2) => _) else _) = _
      rw [if_pos rfl, hop]
      show (match (if oIn op then pVals ((kW x, x) :: rest) else pOne ((kW x, x) :: rest)) with | none => none | some (ks, ts3) => if fairR key op (setL ks) then some ((key, op, setL ks), ts3) else none) = _
      rw [if_neg hn, pOne_toks hx]
      show (if fairR key op (setL [x]) then some ((key, op, setL [x]), rest) else none) = _
      rw [if_pos hfs]
    rcases e with e | e | e | e | e
    · subst e; exact key_ 7 [62] rfl (by decide) (by decide) rfl (by decide)
    · subst e; exact key_ 10 [60] rfl (by decide) (by decide) rfl (by decide)
    · subst e; exact key_ 6 [61] rfl (by decide) (by decide) rfl (by decide)
    · subst e; exact key_ 5 [61, 61] rfl (by decide) (by decide) rfl (by decide)
    · subst e; exact key_ 11 [33, 61] rfl (by decide) (by decide) rfl (by decide)
theorem toksR_head {key op : L} {vs : List L} (hw : WordR key op vs) : ∃ k s t, toksR key op vs = (k, s) :: t ∧ (vk k = 8 ∨ vk k = 4) := by
  unfold toksR
  split
  · exact ⟨4, [33], _, rfl, .inr (by decide)⟩
  repeat (first | exact ⟨_, _, _, rfl, .inl (kW_vk hw.k)⟩ | split)
/-- A requirement that may be, of words. -/
def FairW (r : Rq) : Prop := WordR r.1 r.2.1 r.2.2 ∧ fairR r.1 r.2.1 r.2.2 = true
abbrev setR (r : Rq) : Rq := (r.1, r.2.1, setL r.2.2)
theorem pAll_toks : ∀ (l : List Rq) (m : Nat), (∀ r ∈ l, FairW r) → l.length + 1 ≤ m → pAll m (toksAll l ++ [(1, [])]) = some (l.map setR)
  | [], m + 1, _, _ => rfl
  | [r], m + 1, hw, hm => by
    obtain ⟨h1, h2⟩ := hw r (List.mem_cons_self ..)
    obtain ⟨k, s, t, ht, hk⟩ := toksR_head h1
    have hp := pReq_toks h1 h2 [(1, [])] rfl
    rw [ht] at hp
    have e0 : toksAll [r] ++ [(1, [])] = (k, s) :: (t ++ [(1, [])]) := by
      show (toksR r.1 r.2.1 r.2.2 ++ []) ++ _ = _
      rw [ht]; simp
    rw [e0]
    unfold pAll
    rw [if_pos hk]
    rw [← List.cons_append, hp]
    rfl
  | r :: r2 :: l, m + 1, hw, hm => by
    obtain ⟨h1, h2⟩ := hw r (List.mem_cons_self ..)
    obtain ⟨g1, g2⟩ := hw r2 (List.mem_cons_of_mem _ (List.mem_cons_self ..))
    have ih := pAll_toks (r2 :: l) m (fun x hx => hw x (List.mem_cons_of_mem _ hx)) (by simp only [List.length_cons] at hm ⊢; omega)
    obtain ⟨k, s, t, ht, hk⟩ := toksR_head h1
    obtain ⟨k2, s2, t2, ht2, hk2⟩ := toksR_head g1
    have e1 : toksAll (r2 :: l) ++ [(1, [])] = (k2, s2) :: (t2 ++ (l.flatMap tkF) ++ [(1, [])]) := by
      show (toksR r2.1 r2.2.1 r2.2.2 ++ _) ++ _ = _
      rw [ht2]; simp
    have hp := pReq_toks h1 h2 ((3, [44]) :: (toksAll (r2 :: l) ++ [(1, [])])) rfl
    have e0 : toksAll (r :: r2 :: l) ++ [(1, [])] = (k, s) :: (t ++ (3, [44]) :: (toksAll (r2 :: l) ++ [(1, [])])) := by
      show (toksR r.1 r.2.1 r.2.2 ++ ((3, [44]) :: toksR r2.1 r2.2.1 r2.2.2 ++ l.flatMap _)) ++ _ = _
      rw [ht]
      show _ = (k, s) :: (t ++ (3, [44]) :: ((toksR r2.1 r2.2.1 r2.2.2 ++ _) ++ _))
      simp
    rw [ht, List.cons_append] at hp
    rw [e0]
    unfold pAll
    try dsimp only
    rw [if_pos hk, hp]
    try dsimp only
    rw [if_neg (by decide), if_pos (by decide), e1]
    try dsimp only
    rw [if_pos hk2, ← e1, ih]
    rfl
end Go.Proofs.YteigfmchnblkgaaGreatDoor.Hand
