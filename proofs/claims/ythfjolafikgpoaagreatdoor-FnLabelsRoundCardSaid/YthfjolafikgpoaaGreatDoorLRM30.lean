/- Requirements as text: what the parser makes of their tokens. No program in sight. -/
import Derived.Test.YthfjolafikgpoaaGreatDoorLRM29
import Derived.Test.YthfjolafikgpoaaGreatDoorLRM26
import Derived.Test.YthfjolafikgpoaaGreatDoorLRM14
import Derived.RegionTactic
import Derived.Deep.RegionLaw
import Derived.Deep.RegionWith
import Derived.Deep.RegionHeldLaw
import Derived.Test.YthfjolafikgpoaaGreatDoorLRM27
namespace Go.Proofs.YthfjolafikgpoaaGreatDoor.Hand
open Go.RowKit Go.Proofs.YthfjolafikgpoaaGreatDoor.Base
set_option linter.unusedVariables false
set_option linter.unusedSimpArgs false
set_option maxRecDepth 100000
theorem addK_ne (ks : List L) (x : L) : addK ks x ≠ [] := by
  unfold addK
  split
  · rename_i h; intro e; subst e; cases h
  · simp
theorem addK_mem {ks : List L} {x y : L} : y ∈ addK ks x ↔ y ∈ ks ∨ y = x := by
  unfold addK
  split
  · rename_i h
    rw [List.contains_iff_mem] at h
    exact ⟨.inl, fun h2 => h2.elim id fun e => by rw [e]; exact h⟩
  · simp
theorem foldK_mem : ∀ (vs ks : List L) (y : L), y ∈ vs.foldl addK ks ↔ y ∈ ks ∨ y ∈ vs
  | [], ks, y => by simp
  | v :: vs, ks, y => by rw [List.foldl_cons, foldK_mem vs, addK_mem, List.mem_cons, or_assoc]
theorem setL_foldK (vs : List L) : setL (vs.foldl addK []) = setL vs :=
  up_ext (setL_up _) (setL_up _) fun y => by rw [setL_mem, setL_mem, foldK_mem]; simp
theorem setL_one (x : L) : setL [x] = [x] := rfl
theorem setL_isEmpty (vs : List L) : (setL vs).isEmpty = vs.isEmpty := by
  cases vs with
  | nil => rfl
  | cons v r =>
    cases e : setL (v :: r) with
    | nil => have := (setL_mem (v :: r) v).2 (List.mem_cons_self ..); rw [e] at this; cases this
    | cons a b => rfl
theorem fair_setL {key op : L} {vs : List L} (h : fairR key op vs = true) : fairR key op (setL vs) = true := by
  unfold fairR at h ⊢
  simp only [Bool.and_eq_true] at h ⊢
  obtain ⟨h1, h2, h3⟩ := h
  refine ⟨?_, ?_, h3⟩
  · unfold opOk at h1 ⊢
    split
    · rename_i e; rw [if_pos e] at h1; rw [setL_isEmpty]; exact h1
    · rename_i e; rw [if_neg e] at h1
      split
      · rename_i e; rw [if_pos e] at h1
        match vs, h1 with
        | [x], _ => rfl
      · rename_i e; rw [if_neg e] at h1
        split
        · rename_i e; rw [if_pos e] at h1
          match vs, h1 with
          | [], _ => rfl
        · rename_i e; rw [if_neg e] at h1
          split
          · rename_i e; rw [if_pos e] at h1
            match vs, h1 with
            | [x], h => exact h
          · rename_i e; rw [if_neg e] at h1; exact h1
  · rw [List.all_eq_true] at h2 ⊢
    exact fun x hx => h2 x ((setL_mem vs x).1 hx)
theorem pIds_toks : ∀ (r : List L) (v : L) (ks : List L) (m : Nat) (rest : List Tk), isWord v = true → (∀ x ∈ r, isWord x = true) → 2 * r.length + 1 ≤ m →
    pIds m ((kW v, v) :: (r.flatMap (fun s => [(3, [44]), (kW s, s)]) ++ (2, [41]) :: rest)) ks = some ((v :: r).foldl addK ks, (2, [41]) :: rest)
  | [], v, ks, m + 1, rest, hv, hr, hm => by
    unfold pIds
    rw [if_pos (kW_vk hv)]
    rfl
  | s :: r, v, ks, m + 2, rest, hv, hr, hm => by
    have hs := hr s (List.mem_cons_self ..)
    have ih := pIds_toks r s (addK ks v) m rest hs (fun x hx => hr x (List.mem_cons_of_mem _ hx)) (by simp only [List.length_cons] at hm; omega)
    have h1 : pIds (m + 1) ((3, [44]) :: (kW s, s) :: (r.flatMap (fun s => [((3 : Nat), ([44] : L)), (kW s, s)]) ++ (2, [41]) :: rest)) (addK ks v) = pIds m ((kW s, s) :: (r.flatMap (fun s => [((3 : Nat), ([44] : L)), (kW s, s)]) ++ (2, [41]) :: rest)) (addK ks v) := by
      conv => lhs; unfold pIds
      rw [if_neg (by decide), if_pos (by decide)]
      simp only [kW_vk hs]
      rw [if_neg (by decide), if_neg (by decide), if_neg (addK_ne ks v)]
    have h2 : pIds (m + 2) ((kW v, v) :: ((s :: r).flatMap (fun s => [((3 : Nat), ([44] : L)), (kW s, s)]) ++ (2, [41]) :: rest)) ks = pIds (m + 1) ((3, [44]) :: (kW s, s) :: (r.flatMap (fun s => [((3 : Nat), ([44] : L)), (kW s, s)]) ++ (2, [41]) :: rest)) (addK ks v) := by
      conv => lhs; unfold pIds
      rw [if_pos (kW_vk hv)]
      rfl
    rw [h2, h1, ih]
    rfl
theorem pVals_toks {vs : List L} (hn : vs ≠ []) (hw : ∀ x ∈ vs, isWord x = true) (rest : List Tk) : pVals ((13, [40]) :: (tkV vs ++ (2, [41]) :: rest)) = some (vs.foldl addK [], rest) := by
  cases vs with
  | nil => exact absurd rfl hn
  | cons v r =>
    have hv := hw v (List.mem_cons_self ..)
    have h := pIds_toks r v [] ((kW v, v) :: (r.flatMap (fun s => [((3 : Nat), ([44] : L)), (kW s, s)]) ++ (2, [41]) :: rest)).length rest hv (fun x hx => hw x (List.mem_cons_of_mem _ hx)) (by
      have e : ∀ r : List L, (r.flatMap (fun s => [((3 : Nat), ([44] : L)), (kW s, s)])).length = 2 * r.length := fun r => by
        induction r with
        | nil => rfl
        | cons s r ih => rw [List.flatMap_cons, List.length_append, ih, List.length_cons]; simp; omega
      rw [List.length_cons, List.length_append, e]; omega)
    unfold pVals
    dsimp only
    rw [if_pos (by decide)]
    show (if vk (kW v) = 8 ∨ vk (kW v) = 3 then _ else _) = _
    rw [if_pos (.inl (kW_vk hv))]
    show (match pIds ((kW v, v) :: (r.flatMap (fun s => [((3 : Nat), ([44] : L)), (kW s, s)]) ++ (2, [41]) :: rest)).length ((kW v, v) :: (r.flatMap (fun s => [((3 : Nat), ([44] : L)), (kW s, s)]) ++ (2, [41]) :: rest)) [] with
      | some (ks, (k3, _) :: ts3) => if vk k3 = 2 then some (ks, ts3) else none
      | _ => none) = _
    rw [h]
    rfl
theorem pOne_toks {x : L} (hx : isWord x = true) (rest : List Tk) : pOne ((kW x, x) :: rest) = some ([x], rest) := by
  unfold pOne
  dsimp only
  rw [kW_vk hx]
  rfl
theorem pKey_word {key : L} (hk : isWord key = true) (hq : pQ key = true) (ts : List Tk) : pKey ((kW key, key) :: ts) = some (key, if ePos ts then [101, 120, 105, 115, 116, 115] else [], ts) := by
  unfold pKey
  dsimp only
  rw [kW_vk hk, hq]
  rfl
theorem pOp_toks {op : L} (ho : oIn op ∨ op = [61] ∨ op = [61, 61] ∨ op = [33, 61]) (ts : List Tk) : pOp ((kW op, op) :: ts) = some (op, ts) := by
  rcases ho with (e | e) | e | e | e <;> subst e <;> rfl
theorem pReq_toks {key op : L} {vs : List L} (hw : WordR key op vs) (hf : fairR key op vs = true) (rest : List Tk) (hr : ePos rest = true) : pReq (toksR key op vs ++ rest) = some ((key, op, setL vs), rest) := by
  have hk := hw.k
  have hfs := fair_setL hf
  have hq : pQ key = true := by unfold fairR at hf; simp only [Bool.and_eq_true] at hf; exact hf.2.2
  have h0 : op = [33] ∨ op = [101, 120, 105, 115, 116, 115] → vs = [] := fun h => by
    unfold fairR at hf; simp only [Bool.and_eq_true] at hf
    have h1 := hf.1
    rcases h with h | h <;> subst h <;> (unfold opOk at h1; rw [if_neg (by decide), if_neg (by decide), if_pos (by decide)] at h1; simpa using h1)
  rcases hw.o with e | e | e | e
  · obtain rfl := h0 (.inl e)
    subst e
    show (match pKey ((4, [33]) :: (kW key, key) :: rest) with | none => none | some (key, op, ts1) => _) = _
    have : pKey ((4, [33]) :: (kW key, key) :: rest) = some (key, [33], rest) := by
      unfold pKey
      dsimp only
      rw [if_pos (by decide)]
      simp only [kW_vk hk, hq, if_true]
    rw [this]
    show (if ([33] : L) = [] then _ else if fairR key [33] [] = true then some ((key, [33], []), rest) else none) = _
    rw [if_neg (by decide), if_pos hf]
    rfl
  · obtain rfl := h0 (.inr e)
    subst e
    show (match pKey ((kW key, key) :: rest) with | none => none | some (key, op, ts1) => _) = _
    rw [pKey_word hk hq, hr]
    show (if ([101, 120, 105, 115, 116, 115] : L) = [] then _ else if fairR key [101, 120, 105, 115, 116, 115] [] = true then some ((key, [101, 120, 105, 115, 116, 115], []), rest) else none) = _
    rw [if_neg (by decide), if_pos hf]
    rfl
  · have et : toksR key op vs ++ rest = (kW key, key) :: (kW op, op) :: (13, [40]) :: (tkV vs ++ (2, [41]) :: rest) := by
      unfold toksR
      rw [if_neg (by rcases e with e | e <;> subst e <;> decide), if_neg (by rcases e with e | e <;> subst e <;> decide), if_pos e]
      simp
    have he : ePos ((kW op, op) :: (13, [40]) :: (tkV vs ++ (2, [41]) :: rest)) = false := by
      show (vk (kW op) = 1 || vk (kW op) = 3 : Bool) = false
      rw [kW_vk (isWord_in e)]; rfl
    rw [et]
    unfold pReq
    rw [pKey_word hk hq, he]
    show (if ([] : L) = [] then (match pOp ((kW op, op) :: (13, [40]) :: (tkV vs ++ (2, [41]) :: rest)) with | none => none | some (op, ts2) => _) else _) = _
    rw [if_pos rfl, pOp_toks (.inl e)]
    show (match (if oIn op then pVals ((13, [40]) :: (tkV vs ++ (2, [41]) :: rest)) else pOne _) with | none => none | some (ks, ts3) => if fairR key op (setL ks) then some ((key, op, setL ks), ts3) else none) = _
    rw [if_pos e, pVals_toks (hw.m e) hw.v]
    show (if fairR key op (setL (vs.foldl addK [])) then some ((key, op, setL (vs.foldl addK [])), rest) else none) = _
    rw [setL_foldK, if_pos hfs]
  · obtain ⟨x, rfl⟩ := hw.n e
    have hx := hw.v x (List.mem_cons_self ..)
    have key_ : ∀ k s, (kW key, key) :: (k, s) :: (kW x, x) :: rest = toksR key op [x] ++ rest → vk k ≠ 1 → vk k ≠ 3 → opT k = some op → ¬ oIn op → pReq (toksR key op [x] ++ rest) = some ((key, op, setL [x]), rest) := fun k s e1 h1 h3 ho hn => by
      rw [← e1]
      have he : ePos ((k, s) :: (kW x, x) :: rest) = false := by
        show (decide (vk k = 1) || decide (vk k = 3) : Bool) = false
        simp [h1, h3]
      unfold pReq
      rw [pKey_word hk hq, he]
      have hop : pOp ((k, s) :: (kW x, x) :: rest) = some (op, (kW x, x) :: rest) := by
        show (opT k).map _ = _
        rw [ho]; rfl
      show (if ([] : L) = [] then (match pOp ((k, s) :: (kW x, x) :: rest) with | none => none | some (op, ts2) => _) else _) = _
      rw [if_pos rfl, hop]
      show (match (if oIn op then pVals ((kW x, x) :: rest) else pOne ((kW x, x) :: rest)) with | none => none | some (ks, ts3) => if fairR key op (setL ks) then some ((key, op, setL ks), ts3) else none) = _
      rw [if_neg hn, pOne_toks hx]
      show (if fairR key op (setL [x]) then some ((key, op, setL [x]), rest) else none) = _
      rw [if_pos hfs]
    rcases e with e | e | e | e | e
    · subst e; exact key_ 7 [62] rfl (by decide) (by decide) rfl (by decide)
    · subst e; exact key_ 10 [60] rfl (by decide) (by decide) rfl (by decide)
    · subst e; exact key_ 6 [61] rfl (by decide) (by decide) rfl (by decide)
    · subst e; exact key_ 5 [61, 61] rfl (by decide) (by decide) rfl (by decide)
    · subst e; exact key_ 11 [33, 61] rfl (by decide) (by decide) rfl (by decide)
theorem toksR_head {key op : L} {vs : List L} (hw : WordR key op vs) : ∃ k s t, toksR key op vs = (k, s) :: t ∧ (vk k = 8 ∨ vk k = 4) := by
  unfold toksR
  split
  · exact ⟨4, [33], _, rfl, .inr (by decide)⟩
  repeat (first | exact ⟨_, _, _, rfl, .inl (kW_vk hw.k)⟩ | split)
/-- A requirement that may be, of words. -/
def FairW (r : Rq) : Prop := WordR r.1 r.2.1 r.2.2 ∧ fairR r.1 r.2.1 r.2.2 = true
abbrev setR (r : Rq) : Rq := (r.1, r.2.1, setL r.2.2)
theorem pAll_toks : ∀ (l : List Rq) (m : Nat), (∀ r ∈ l, FairW r) → l.length + 1 ≤ m → pAll m (toksAll l ++ [(1, [])]) = some (l.map setR)
  | [], m + 1, _, _ => rfl
  | [r], m + 1, hw, hm => by
    obtain ⟨h1, h2⟩ := hw r (List.mem_cons_self ..)
    obtain ⟨k, s, t, ht, hk⟩ := toksR_head h1
    have hp := pReq_toks h1 h2 [(1, [])] rfl
    rw [ht] at hp
    have e0 : toksAll [r] ++ [(1, [])] = (k, s) :: (t ++ [(1, [])]) := by
      show (toksR r.1 r.2.1 r.2.2 ++ []) ++ _ = _
      rw [ht]; simp
    rw [e0]
    unfold pAll
    rw [if_pos hk]
    rw [← List.cons_append, hp]
    rfl
  | r :: r2 :: l, m + 1, hw, hm => by
    obtain ⟨h1, h2⟩ := hw r (List.mem_cons_self ..)
    obtain ⟨g1, g2⟩ := hw r2 (List.mem_cons_of_mem _ (List.mem_cons_self ..))
    have ih := pAll_toks (r2 :: l) m (fun x hx => hw x (List.mem_cons_of_mem _ hx)) (by simp only [List.length_cons] at hm ⊢; omega)
    obtain ⟨k, s, t, ht, hk⟩ := toksR_head h1
    obtain ⟨k2, s2, t2, ht2, hk2⟩ := toksR_head g1
    have e1 : toksAll (r2 :: l) ++ [(1, [])] = (k2, s2) :: (t2 ++ (l.flatMap tkF) ++ [(1, [])]) := by
      show (toksR r2.1 r2.2.1 r2.2.2 ++ _) ++ _ = _
      rw [ht2]; simp
    have hp := pReq_toks h1 h2 ((3, [44]) :: (toksAll (r2 :: l) ++ [(1, [])])) rfl
    have e0 : toksAll (r :: r2 :: l) ++ [(1, [])] = (k, s) :: (t ++ (3, [44]) :: (toksAll (r2 :: l) ++ [(1, [])])) := by
      show (toksR r.1 r.2.1 r.2.2 ++ ((3, [44]) :: toksR r2.1 r2.2.1 r2.2.2 ++ l.flatMap _)) ++ _ = _
      rw [ht]
      show _ = (k, s) :: (t ++ (3, [44]) :: ((toksR r2.1 r2.2.1 r2.2.2 ++ _) ++ _))
      simp
    rw [ht, List.cons_append] at hp
    rw [e0]
    unfold pAll
    try dsimp only
    rw [if_pos hk, hp]
    try dsimp only
    rw [if_neg (by decide), if_pos (by decide), e1]
    try dsimp only
    rw [if_pos hk2, ← e1, ih]
    rfl
end Go.Proofs.YthfjolafikgpoaaGreatDoor.Hand

/- Requirements as text: all of them; sizes; words out of names and values that may be. No program in sight. -/
namespace Go.Proofs.YthfjolafikgpoaaGreatDoor.Hand
open Go.RowKit Go.Proofs.YthfjolafikgpoaaGreatDoor.Base
set_option linter.unusedVariables false
set_option linter.unusedSimpArgs false
set_option maxRecDepth 100000
theorem okLw_pcs : ∀ l : List Rq, (∀ r ∈ l, WordR r.1 r.2.1 r.2.2) → okP (l.flatMap pcwF) = true ∧ safeP (l.flatMap pcwF) = true ∧
    tokP (l.flatMap pcwF) = l.flatMap tkF
  | [], _ => ⟨rfl, rfl, rfl⟩
  | r :: l, hw => by
    obtain ⟨h1, h2, h3⟩ := okLw_pcs l (fun x hx => hw x (List.mem_cons_of_mem _ hx))
    obtain ⟨a, b⟩ := okRw_pcs (ps := (l.flatMap pcwF)) (hw r (List.mem_cons_self ..)) h1 h2
    have e : ((r :: l).flatMap pcwF) = .str [44] :: (pcwR r.1 r.2.1 r.2.2 ++ (l.flatMap pcwF)) := by
      rw [List.flatMap_cons]; rfl
    rw [e]
    refine ⟨by rw [okP_comma]; exact a, safe_comma, ?_⟩
    rw [tokP_comma, b, h3, List.flatMap_cons]; rfl
theorem okAllw_pcs : ∀ l : List Rq, (∀ r ∈ l, WordR r.1 r.2.1 r.2.2) → okP (pcwAll l) = true ∧ tokP (pcwAll l) = toksAll l
  | [], _ => ⟨rfl, rfl⟩
  | r :: l, hw => by
    obtain ⟨h1, h2, h3⟩ := okLw_pcs l (fun x hx => hw x (List.mem_cons_of_mem _ hx))
    obtain ⟨a, b⟩ := okRw_pcs (ps := (l.flatMap pcwF)) (hw r (List.mem_cons_self ..)) h1 h2
    exact ⟨a, by show tokP (pcwR r.1 r.2.1 r.2.2 ++ l.flatMap pcwF) = _; rw [b, h3]; rfl⟩
theorem gapL_len (cs : L) : (gapL cs).length ≤ 2 := by
  cases cs with
  | nil => exact Nat.zero_le _
  | cons c r =>
    show (blankL c).length ≤ 2
    unfold blankL
    repeat (first | decide | split)
def nz (p : L) : Bool := p.all fun c => !(c == 0)
def nzP : List Pc → Bool
  | [] => true
  | .gap :: ps => nzP ps
  | .str p :: ps => nz p && nzP ps
theorem nzP_app (a b : List Pc) : nzP (a ++ b) = (nzP a && nzP b) := by
  induction a with
  | nil => rfl
  | cons p a ih => cases p with
    | gap => exact ih
    | str q => show (nz q && nzP (a ++ b)) = ((nz q && nzP a) && nzP b); rw [ih, Bool.and_assoc]
theorem out_nz : ∀ (ps : List Pc) (cs : L), nzP ps = true → ∀ b ∈ outL ps cs, b ≠ 0
  | [], _, _, b, hb => by cases hb
  | .gap :: ps, cs, h, b, hb => by
    rcases List.mem_append.1 hb with hb | hb
    · intro e; subst e
      have := List.all_eq_true.1 (gapL_ws cs) 0 hb
      cases this
    · exact out_nz ps cs.tail h b hb
  | .str p :: ps, cs, h, b, hb => by
    have h : (nz p && nzP ps) = true := h
    simp only [Bool.and_eq_true] at h
    rcases List.mem_append.1 hb with hb | hb
    · have := List.all_eq_true.1 h.1 b hb
      intro e; subst e; cases this
    · exact out_nz ps cs h.2 b hb
def totL (vs : List L) : Nat := (vs.map (·.length)).sum
/-- Tokens of all requirements: how many. -/
theorem toksV_len (vs : List L) : (tkV vs).length ≤ 2 * vs.length := by
  cases vs with
  | nil => exact Nat.zero_le _
  | cons v r =>
    have e : ∀ r : List L, (r.flatMap (fun s => [((3 : Nat), ([44] : L)), (kW s, s)])).length = 2 * r.length := fun r => by
      induction r with
      | nil => rfl
      | cons s r ih => rw [List.flatMap_cons, List.length_append, ih, List.length_cons]; simp; omega
    show (r.flatMap _).length + 1 ≤ _
    rw [e, List.length_cons]; omega
theorem toksR_len (key op : L) (vs : List L) : (toksR key op vs).length ≤ 2 * vs.length + 4 := by
  have := toksV_len vs
  unfold toksR
  split
  · simp
  split
  · simp
  split
  · simp only [List.length_cons, List.length_append, List.length_nil]; omega
  split
  · simp
  split
  · simp
  · simp
theorem toksAll_len (l : List Rq) (h5 : ∀ r ∈ l, r.2.2.length ≤ 5) : (toksAll l).length ≤ 15 * l.length := by
  have h : ∀ l : List Rq, (∀ r ∈ l, r.2.2.length ≤ 5) → (l.flatMap tkF).length ≤ 15 * l.length := by
    intro l
    induction l with
    | nil => intro _; exact Nat.zero_le _
    | cons r l ih =>
      intro h
      have h1 := ih (fun x hx => h x (List.mem_cons_of_mem _ hx))
      have h2 := toksR_len r.1 r.2.1 r.2.2
      have h3 := h r (List.mem_cons_self ..)
      rw [List.flatMap_cons, List.length_append, show (tkF r).length = (toksR r.1 r.2.1 r.2.2).length + 1 from rfl, List.length_cons]; omega
  cases l with
  | nil => exact Nat.zero_le _
  | cons r l =>
    have h1 := h l (fun x hx => h5 x (List.mem_cons_of_mem _ hx))
    have h2 := toksR_len r.1 r.2.1 r.2.2
    have h3 := h5 r (List.mem_cons_self ..)
    show (toksR r.1 r.2.1 r.2.2 ++ _).length ≤ _
    rw [List.length_append, List.length_cons]; omega
/-- Bytes of names. -/
def nmB (c : UInt8) : Bool := alnum c || (c == 45 || (c == 95 || (c == 46 || c == 47)))
theorem pieces_all (P : UInt8 → Bool) (c : UInt8) (hc : P c = true) : ∀ x : L, (∀ p ∈ pieces c x, p.all P = true) → x.all P = true
  | [], _ => rfl
  | b :: t, h => by
    unfold pieces at h
    by_cases e : b = c
    · rw [if_pos e] at h
      rw [List.all_cons, e, hc, Bool.true_and]
      exact pieces_all P c hc t fun p hp => h p (List.mem_cons_of_mem _ hp)
    · rw [if_neg e] at h
      have hne := pieces_ne c t
      rcases hp : pieces c t with _ | ⟨q, r⟩
      · exact absurd hp hne
      · rw [hp] at h
        have h1 := h (b :: q) (List.mem_cons_self ..)
        simp only [List.all_cons, Bool.and_eq_true] at h1 ⊢
        refine ⟨h1.1, pieces_all P c hc t fun p hp2 => ?_⟩
        rw [hp] at hp2
        rcases List.mem_cons.1 hp2 with e2 | hp2
        · rw [e2]; exact h1.2
        · exact h p (List.mem_cons_of_mem _ hp2)
theorem all_imp {P Q : UInt8 → Bool} (h : ∀ c, P c = true → Q c = true) {x : L} (hx : x.all P = true) : x.all Q = true :=
  List.all_eq_true.2 fun c hc => h c (List.all_eq_true.1 hx c hc)
theorem small_nmB (c : UInt8) (h : small c = true) : nmB c = true := by unfold nmB alnum; simp [h]
theorem endsF_bytes {p : UInt8 → Bool} {set x : L} (h : endsF p set x = true) : x.all (fun c => p c || inSet c set) = true := by
  unfold endsF allF at h
  simp only [Bool.and_eq_true] at h
  exact h.1.1
theorem pValue_all {x : L} (h : pValue x = true) : x.all nmB = true := by
  unfold pValue labelValue at h
  simp only [Bool.and_eq_true, Bool.or_eq_true, beq_iff_eq] at h
  rcases h.2 with e | h
  · subst e; rfl
  · refine all_imp (fun c hc => ?_) (endsF_bytes h)
    unfold nmB inSet at *
    simp only [Bool.or_eq_true, List.any_cons, List.any_nil, Bool.or_false, beq_iff_eq] at hc ⊢
    rcases hc with h | h | h | h
    · exact .inl h
    · exact .inr (.inl h.symm)
    · exact .inr (.inr (.inl h.symm))
    · exact .inr (.inr (.inr (.inl h.symm)))
theorem label_all {x : L} (h : label x = true) : x.all nmB = true := by
  refine all_imp (fun c hc => ?_) (endsF_bytes h)
  simp only [Bool.or_eq_true] at hc
  rcases hc with h | h
  · exact small_nmB c h
  · unfold inSet at h; simp only [List.any_cons, List.any_nil, Bool.or_false, beq_iff_eq] at h
    subst h; rfl
theorem sub_all {x : L} (h : sub x = true) : x.all nmB = true :=
  pieces_all nmB 46 rfl x fun p hp => label_all (List.all_eq_true.1 h p hp)
theorem pName_all {x : L} (h : pName x = true) : x.all nmB = true := by
  unfold pName at h; simp only [Bool.and_eq_true] at h; exact pValue_all h.2
theorem pQ_all {x : L} (h : pQ x = true) : x.all nmB = true ∧ x ≠ [] := by
  refine ⟨pieces_all nmB 47 rfl x fun p hp => ?_, fun e => by subst e; cases h⟩
  unfold pQ at h
  split at h
  · rename_i n e; rw [e] at hp; rw [List.mem_singleton.1 hp]; exact pName_all h
  · rename_i q n e
    simp only [Bool.and_eq_true] at h
    rw [e] at hp
    rcases List.mem_cons.1 hp with hp | hp
    · rw [hp]; exact sub_all h.1.2
    · rw [List.mem_singleton.1 hp]; exact pName_all h.2
  · cases h
theorem nmB_wd {c : UInt8} (h : nmB c = true) : isWd c = true ∧ c ≠ 0 := by
  refine ⟨?_, fun e => by subst e; cases h⟩
  by_cases hw : isWd c = true
  · exact hw
  · exfalso
    unfold isWd at hw
    simp only [Bool.not_eq_true', Bool.or_eq_false_iff, not_and, Bool.not_eq_false] at hw
    by_cases hs : isSp c = true
    · rcases sp_byte hs with e | e | e | e | e | e | e <;> subst e <;> cases h
    · have := hw (by simpa using hs)
      unfold isWs at this
      simp only [Bool.or_eq_true, beq_iff_eq] at this
      rcases this with ((e | e) | e) | e <;> subst e <;> cases h
theorem nmB_word {x : L} (h : x.all nmB = true) (hn : x ≠ []) : isWord x = true ∧ nz x = true := by
  unfold isWord nz
  refine ⟨?_, all_imp (fun c hc => by simpa using (nmB_wd hc).2) h⟩
  simp only [Bool.and_eq_true, Bool.not_eq_true', beq_eq_false_iff_ne]
  exact ⟨hn, all_imp (fun c hc => (nmB_wd hc).1) h⟩
/-- A requirement that may be, whose values are not empty, is one of words. -/
theorem fair_words {key op : L} {vs : List L} (h : fairR key op vs = true) (hn : ∀ v ∈ vs, v ≠ []) : WordR key op vs ∧ nz key = true ∧ (∀ v ∈ vs, nz v = true) := by
  have h0 := h
  unfold fairR at h
  simp only [Bool.and_eq_true] at h
  obtain ⟨h1, h2, h3⟩ := h
  obtain ⟨a, b⟩ := pQ_all h3
  have hv : ∀ v ∈ vs, isWord v = true ∧ nz v = true := fun v hv => nmB_word (pValue_all (List.all_eq_true.1 h2 v hv)) (hn v hv)
  refine ⟨⟨(nmB_word a b).1, fun v h => (hv v h).1, ?_, ?_, ?_⟩, (nmB_word a b).2, fun v h => (hv v h).2⟩
  · unfold opOk at h1
    split at h1
    · rename_i e; exact .inr (.inr (.inl e))
    split at h1
    · rename_i e; rcases e with e | e | e
      · exact .inr (.inr (.inr (.inr (.inr (.inl e)))))
      · exact .inr (.inr (.inr (.inr (.inr (.inr (.inl e))))))
      · exact .inr (.inr (.inr (.inr (.inr (.inr (.inr e))))))
    split at h1
    · rename_i e; rcases e with e | e
      · exact .inr (.inl e)
      · exact .inl e
    split at h1
    · rename_i e; rcases e with e | e
      · exact .inr (.inr (.inr (.inl e)))
      · exact .inr (.inr (.inr (.inr (.inl e))))
    · cases h1
  · intro e
    rcases e with e | e | e | e | e <;> subst e
    · unfold opOk at h1
      rw [if_neg (by decide), if_neg (by decide), if_neg (by decide), if_pos (by decide)] at h1
      match vs, h1 with
      | [x], _ => exact ⟨x, rfl⟩
    · unfold opOk at h1
      rw [if_neg (by decide), if_neg (by decide), if_neg (by decide), if_pos (by decide)] at h1
      match vs, h1 with
      | [x], _ => exact ⟨x, rfl⟩
    all_goals
      unfold opOk at h1
      rw [if_neg (by decide), if_pos (by decide)] at h1
      match vs, h1 with
      | [x], _ => exact ⟨x, rfl⟩
  · intro e hv; subst hv
    unfold opOk at h1
    rw [if_pos e] at h1
    cases h1
theorem nz_vals (f : L → List Pc) (hf : ∀ s, nz s = true → nzP (f s) = true) : ∀ r : List L, (∀ v ∈ r, nz v = true) → nzP (r.flatMap f) = true
  | [], _ => rfl
  | v :: r, h => by rw [List.flatMap_cons, nzP_app, hf v (h v (List.mem_cons_self ..)), nz_vals f hf r (fun x hx => h x (List.mem_cons_of_mem _ hx))]; rfl
theorem nz_pcsV {vs : List L} (h : ∀ v ∈ vs, nz v = true) : nzP (pcsV vs) = true := by
  cases vs with
  | nil => rfl
  | cons v r =>
    show (nz v && nzP (r.flatMap _)) = true
    rw [h v (List.mem_cons_self ..), nz_vals _ (fun s hs => by show (true && (nz s && true)) = true; rw [hs]; rfl) r (fun x hx => h x (List.mem_cons_of_mem _ hx))]; rfl
theorem nz_pcwV {vs : List L} (h : ∀ v ∈ vs, nz v = true) : nzP (pcwV vs) = true := by
  cases vs with
  | nil => rfl
  | cons v r =>
    show (nz v && nzP (r.flatMap _)) = true
    rw [h v (List.mem_cons_self ..), nz_vals _ (fun s hs => by show (true && (nz s && true)) = true; rw [hs]; rfl) r (fun x hx => h x (List.mem_cons_of_mem _ hx))]; rfl
theorem nz_headD {vs : List L} (h : ∀ v ∈ vs, nz v = true) : nz (vs.headD []) = true := by
  cases vs with
  | nil => rfl
  | cons v r => exact h v (List.mem_cons_self ..)
theorem nz_pcsR {key op : L} {vs : List L} (hk : nz key = true) (ho : nz op = true) (h : ∀ v ∈ vs, nz v = true) : nzP (pcsR key op vs) = true := by
  have h1 := nz_headD h
  have h2 := nz_pcsV h
  unfold pcsR
  split
  · show (true && (nz key && true)) = true; rw [hk]; rfl
  split
  · show (nz key && true) = true; rw [hk]; rfl
  split
  · rw [nzP_app, nzP_app, h2]
    show ((nz key && (true && (nz op && (true && true)))) && (true && (true && true))) = true; rw [hk, ho]; rfl
  split
  · show (nz key && (true && (nz (vs.headD []) && true))) = true; rw [hk, h1]; rfl
  split
  · show (nz key && (true && (nz (vs.headD []) && true))) = true; rw [hk, h1]; rfl
  · show (nz key && (nz op && (nz (vs.headD []) && true))) = true; rw [hk, ho, h1]; rfl
theorem nz_pcwR {key op : L} {vs : List L} (hk : nz key = true) (ho : nz op = true) (h : ∀ v ∈ vs, nz v = true) : nzP (pcwR key op vs) = true := by
  have h1 := nz_headD h
  have h2 := nz_pcwV h
  unfold pcwR
  split
  · show (true && (nz key && true)) = true; rw [hk]; rfl
  split
  · show (nz key && true) = true; rw [hk]; rfl
  split
  · rw [nzP_app, nzP_app, h2]
    show ((nz key && (true && (nz op && (true && (true && true))))) && (true && (true && true))) = true; rw [hk, ho]; rfl
  split
  · show (nz key && (true && (nz (vs.headD []) && true))) = true; rw [hk, h1]; rfl
  split
  · show (nz key && (true && (nz (vs.headD []) && true))) = true; rw [hk, h1]; rfl
  · show (nz key && (nz op && (nz (vs.headD []) && true))) = true; rw [hk, ho, h1]; rfl
theorem nz_all (l : List Rq) (h : ∀ r ∈ l, nz r.1 = true ∧ nz r.2.1 = true ∧ ∀ v ∈ r.2.2, nz v = true) : nzP (pcsAll l) = true ∧ nzP (pcwAll l) = true := by
  have h1 : ∀ l : List Rq, (∀ r ∈ l, nz r.1 = true ∧ nz r.2.1 = true ∧ ∀ v ∈ r.2.2, nz v = true) → nzP (l.flatMap pcF) = true ∧ nzP (l.flatMap pcwF) = true := by
    intro l
    induction l with
    | nil => intro _; exact ⟨rfl, rfl⟩
    | cons r l ih =>
      intro h
      obtain ⟨a, b⟩ := ih (fun x hx => h x (List.mem_cons_of_mem _ hx))
      obtain ⟨h1, h2, h3⟩ := h r (List.mem_cons_self ..)
      rw [List.flatMap_cons, List.flatMap_cons, nzP_app, nzP_app, a, b]
      constructor
      · show ((true && nzP (pcsR r.1 r.2.1 r.2.2 ++ [.gap])) && true) = true
        rw [nzP_app, nz_pcsR h1 h2 h3]; rfl
      · show ((true && nzP (pcwR r.1 r.2.1 r.2.2)) && true) = true
        rw [nz_pcwR h1 h2 h3]; rfl
  cases l with
  | nil => exact ⟨rfl, rfl⟩
  | cons r l =>
    obtain ⟨a, b⟩ := h1 l (fun x hx => h x (List.mem_cons_of_mem _ hx))
    obtain ⟨h1, h2, h3⟩ := h r (List.mem_cons_self ..)
    constructor
    · show nzP (pcsR r.1 r.2.1 r.2.2 ++ _) = true
      rw [nzP_app, nz_pcsR h1 h2 h3]; exact a
    · show nzP (pcwR r.1 r.2.1 r.2.2 ++ _) = true
      rw [nzP_app, nz_pcwR h1 h2 h3]; exact b
end Go.Proofs.YthfjolafikgpoaaGreatDoor.Hand

/- spec.Words over one requirement. -/
namespace Go.Proofs.YthfjolafikgpoaaGreatDoor.Hand
open Go.RowKit Go.Maps Go.Proofs.YthfjolafikgpoaaGreatDoorW.PrintWords Go.Proofs.YthfjolafikgpoaaGreatDoorW.PrintLast Go.Proofs.YthfjolafikgpoaaGreatDoorW.PrintMore Go.Proofs.YthfjolafikgpoaaGreatDoor.Base
set_option linter.unusedVariables false
set_option linter.unusedSimpArgs false
set_option maxRecDepth 100000
end Go.Proofs.YthfjolafikgpoaaGreatDoor.Hand

/- spec.Words, over any requirements. (Printed by wordsn.py out of LabWords.) -/
namespace Go.Proofs.YthfjolafikgpoaaGreatDoor.Hand
open Go.RowKit Go.Maps Go.Proofs.YthfjolafikgpoaaGreatDoorW.PrintWords Go.Proofs.YthfjolafikgpoaaGreatDoorW.PrintLast Go.Proofs.YthfjolafikgpoaaGreatDoorW.PrintMore Go.Proofs.YthfjolafikgpoaaGreatDoor.Base
set_option linter.unusedVariables false
set_option linter.unusedSimpArgs false
set_option maxRecDepth 100000
theorem mk_size (x : L) : (mk x).size = x.length := rfl
theorem mk_toList (x : L) : (mk x).toList = x := by rw [toList_eq]; rfl
theorem pQ_len {x : L} (h : pQ x = true) : x.length ≤ 400 := by
  have hl : ∀ (c : UInt8) (x : L), x.length + 1 = ((pieces c x).map fun p => p.length + 1).sum := by
    intro c x
    induction x with
    | nil => rfl
    | cons b t ih =>
      unfold pieces
      split
      · simp only [List.map_cons, List.sum_cons, List.length_nil, List.length_cons]; omega
      · rcases hp : pieces c t with _ | ⟨q, r⟩
        · exact absurd hp (pieces_ne c t)
        · rw [hp] at ih
          simp only [List.map_cons, List.sum_cons] at ih
          show _ = ((([b] ++ q) :: r).map _).sum
          simp only [List.map_cons, List.sum_cons, List.length_cons, List.length_append, List.length_nil]; omega
  have h1 := hl 47 x
  have hpv : ∀ n : L, pName n = true → n.length ≤ 63 := fun n h => by
    unfold pName pValue most at h; simp only [Bool.and_eq_true, decide_eq_true_eq] at h; exact h.2.1
  unfold pQ at h
  split at h
  · rename_i n e; rw [e] at h1; have := hpv n h; simp at h1; omega
  · rename_i p n e
    simp only [Bool.and_eq_true] at h
    rw [e] at h1
    have h2 := hpv n h.2
    have h3 := h.1.1
    unfold most at h3
    simp only [decide_eq_true_eq] at h3
    simp only [List.map_cons, List.map_nil, List.sum_cons, List.sum_nil] at h1; omega
  · cases h
end Go.Proofs.YthfjolafikgpoaaGreatDoor.Hand
