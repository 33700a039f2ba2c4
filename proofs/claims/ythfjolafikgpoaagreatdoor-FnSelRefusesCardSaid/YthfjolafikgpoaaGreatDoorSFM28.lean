/- impl.requirement. -/
import Derived.Test.YthfjolafikgpoaaGreatDoorSFGLabB
import Derived.RegionTactic
import Derived.Deep.RegionLaw
import Derived.Deep.RegionWith
import Derived.Deep.RegionHeldLaw
import Derived.Test.YthfjolafikgpoaaGreatDoorSFM26
import Derived.Tactics
import Derived.Tactics2
import Derived.Defers
import Derived.Recover
import Derived.Laws.Pointers
import Derived.Test.YthfjolafikgpoaaGreatDoorSFLabSetOf
import Derived.Test.YthfjolafikgpoaaGreatDoorSFGParB
import Derived.Test.YthfjolafikgpoaaGreatDoorSFM18
namespace Go.Proofs.YthfjolafikgpoaaGreatDoor.Hand
open Go.RowKit Go.Maps Go.Proofs.YthfjolafikgpoaaGreatDoorW.PrintWords Go.Proofs.YthfjolafikgpoaaGreatDoorW.PrintLast Go.Proofs.YthfjolafikgpoaaGreatDoorW.PrintMore Go.Proofs.YthfjolafikgpoaaGreatDoor.Base
set_option linter.unusedVariables false
set_option linter.unusedSimpArgs false
set_option maxRecDepth 100000
end Go.Proofs.YthfjolafikgpoaaGreatDoor.Hand
namespace Go.Proofs.YthfjolafikgpoaaGreatDoor.Hand
open Go.RowKit Go.Proofs.YthfjolafikgpoaaGreatDoorW.PrintWords Go.Proofs.YthfjolafikgpoaaGreatDoorW.PrintLast Go.Proofs.YthfjolafikgpoaaGreatDoorW.PrintMore Go.Proofs.YthfjolafikgpoaaGreatDoor.Base
set_option linter.unusedVariables false
set_option linter.unusedSimpArgs false
set_option maxRecDepth 100000
end Go.Proofs.YthfjolafikgpoaaGreatDoor.Hand
namespace Go.Proofs.YthfjolafikgpoaaGreatDoor.Hand
open Go.RowKit Go.Proofs.YthfjolafikgpoaaGreatDoor.Base
set_option linter.unusedVariables false
set_option linter.unusedSimpArgs false
set_option maxRecDepth 100000
theorem safe_comma {ps : List Pc} : safeP (.str [44] :: ps) = true := by unfold safeP; rw [hdP_str]; rfl
theorem safe_close {ps : List Pc} : safeP (.str [41] :: ps) = true := by unfold safeP; rw [hdP_str]; rfl
theorem safe_gap {ps : List Pc} : safeP (.gap :: ps) = safeP ps := rfl
theorem okF {f : L → List Pc} (hf : ∀ s ps, isWord s = true → okP ps = true → safeP ps = true → okP (f s ++ ps) = true ∧ safeP (f s ++ ps) = true) :
   ∀ (r : List L) (ps : List Pc), (∀ v ∈ r, isWord v = true) → okP ps = true → safeP ps = true → okP (r.flatMap f ++ ps) = true ∧ safeP (r.flatMap f ++ ps) = true
 | [], ps, _, h1, h2 => ⟨h1, h2⟩
 | v :: r, ps, hw, h1, h2 => by
   obtain ⟨a, b⟩ := okF hf r ps (fun x hx => hw x (List.mem_cons_of_mem _ hx)) h1 h2
   rw [List.flatMap_cons, List.append_assoc]
   exact hf v _ (hw v (List.mem_cons_self ..)) a b
theorem okV_pcs {vs : List L} {ps : List Pc} (hw : ∀ v ∈ vs, isWord v = true) (h1 : okP ps = true) (h2 : safeP ps = true) : okP (pcsV vs ++ ps) = true := by
 cases vs with
 | nil => exact h1
 | cons v r =>
   obtain ⟨a, b⟩ := okF (f := fun s => [.str [44], .gap, .str s, .gap]) (fun s ps hs h1 h2 => ⟨by
    show okP (.str [44] :: .gap :: .str s :: .gap :: ps) = true
    rw [okP_comma, okP_gap]; exact okP_word hs h1 (safe_wd h2), safe_comma⟩) r ps (fun x hx => hw x (List.mem_cons_of_mem _ hx)) h1 h2
   show okP (.str v :: .gap :: (r.flatMap _ ++ ps)) = true
   exact okP_word (hw v (List.mem_cons_self ..)) a (safe_wd (by rw [safe_gap]; exact b))
theorem tokF {f : L → List Pc} {g : L → List Tk} (hf : ∀ s ps, isWord s = true → tokP (f s ++ ps) = g s ++ tokP ps) :
   ∀ (r : List L) (ps : List Pc), (∀ v ∈ r, isWord v = true) → tokP (r.flatMap f ++ ps) = r.flatMap g ++ tokP ps
 | [], ps, _ => rfl
 | v :: r, ps, hw => by
   rw [List.flatMap_cons, List.flatMap_cons, List.append_assoc, hf v _ (hw v (List.mem_cons_self ..)), tokF hf r ps (fun x hx => hw x (List.mem_cons_of_mem _ hx)), List.append_assoc]
theorem tokP_comma {ps : List Pc} : tokP (.str [44] :: ps) = (3, [44]) :: tokP ps := rfl
theorem tokV_pcs {vs : List L} {ps : List Pc} (hw : ∀ v ∈ vs, isWord v = true) : tokP (pcsV vs ++ ps) = tkV vs ++ tokP ps := by
 cases vs with
 | nil => rfl
 | cons v r =>
   show tokP (.str v :: .gap :: (r.flatMap _ ++ ps)) = (kW v, v) :: (r.flatMap _ ++ tokP ps)
   rw [tokP_word (hw v (List.mem_cons_self ..)), tokP_gap]
   congr 1
   refine tokF (fun s ps hs => ?_) r ps (fun x hx => hw x (List.mem_cons_of_mem _ hx))
   show tokP (.str [44] :: .gap :: .str s :: .gap :: ps) = _
   rw [tokP_comma, tokP_gap, tokP_word hs, tokP_gap]; rfl
structure WordR (key op : L) (vs : List L) : Prop where
 k : isWord key = true
 v : ∀ x ∈ vs, isWord x = true
 o : op = [33] ∨ op = [101, 120, 105, 115, 116, 115] ∨ oIn op ∨ op = [103, 116] ∨ op = [108, 116] ∨ op = [61] ∨ op = [61, 61] ∨ op = [33, 61]
 n : op = [103, 116] ∨ op = [108, 116] ∨ op = [61] ∨ op = [61, 61] ∨ op = [33, 61] → ∃ x, vs = [x]
 m : oIn op → vs ≠ []
theorem word_ne61 {p : L} {ps : List Pc} (h : isWord p = true) : hdP (.str p :: ps) ≠ some 61 := by
 obtain ⟨d, e, _, h3⟩ := hdP_word (ps := ps) h
 rw [e]; intro e2; injection e2 with e2; exact h3 e2
theorem isWord_in {op : L} (h : oIn op) : isWord op = true := by rcases h with h | h <;> subst h <;> decide
theorem okR_pcs {key op : L} {vs : List L} {ps : List Pc} (hw : WordR key op vs) (h1 : okP ps = true) (h2 : safeP ps = true) :
   okP (pcsR key op vs ++ ps) = true ∧ tokP (pcsR key op vs ++ ps) = toksR key op vs ++ tokP ps := by
 have hk := hw.k
 rcases hw.o with e | e | e | e
 · subst e
   refine ⟨?_, ?_⟩
   · show okP (.str [33] :: .gap :: .str key :: ps) = true
     rw [okP_not (by rw [hdP_gap]; exact word_ne61 hk), okP_gap]; exact okP_word hk h1 (safe_wd h2)
   · show tokP (.str [33] :: .gap :: .str key :: ps) = _
     show (4, [33]) :: tokP (.gap :: .str key :: ps) = _
     rw [tokP_gap, tokP_word hk]; rfl
 · subst e
   exact ⟨okP_word hk h1 (safe_wd h2), tokP_word hk⟩
 · have ho := isWord_in e
   have hv := okV_pcs (ps := .str [41] :: ps) hw.v (by rw [okP_close]; exact h1) safe_close
   have ht := tokV_pcs (ps := .str [41] :: ps) hw.v
   have ep : pcsR key op vs ++ ps = .str key :: .str [32] :: .gap :: .str op :: .gap :: .str [40] :: .gap :: (pcsV vs ++ .str [41] :: ps) := by
    unfold pcsR
    rw [if_neg (by rcases e with e | e <;> subst e <;> decide), if_neg (by rcases e with e | e <;> subst e <;> decide), if_pos e]
    simp
   have et : toksR key op vs = (kW key, key) :: (kW op, op) :: (13, [40]) :: (tkV vs ++ [(2, [41])]) := by
    unfold toksR
    rw [if_neg (by rcases e with e | e <;> subst e <;> decide), if_neg (by rcases e with e | e <;> subst e <;> decide), if_pos e]
   rw [ep, et]
   refine ⟨?_, ?_⟩
   · refine okP_word hk ?_ (by rfl)
     rw [okP_sp, okP_gap]
     refine okP_word ho ?_ (by rfl)
     rw [okP_gap, okP_open, okP_gap]; exact hv
   · rw [tokP_word hk]
     show _ :: tokP (.gap :: .str op :: _) = _
     rw [tokP_gap, tokP_word ho, tokP_gap]
     show _ :: _ :: (13, [40]) :: tokP (.gap :: _) = _
     rw [tokP_gap, ht]
     show _ :: _ :: _ :: (tkV vs ++ (2, [41]) :: tokP ps) = _
     simp
 · obtain ⟨x, rfl⟩ := hw.n e
   have hx := hw.v x (List.mem_cons_self ..)
   have h0 := okP_word hx h1 (safe_wd h2)
   have ht := tokP_word (ps := ps) hx
   rcases e with e | e | e | e | e
   · subst e
     refine ⟨?_, ?_⟩
     · show okP (.str key :: .gap :: .str [62] :: .gap :: .str x :: ps) = true
       refine okP_word hk ?_ (by rfl)
       rw [okP_gap, okP_gt, okP_gap]; exact h0
     · show tokP (.str key :: .gap :: .str [62] :: .gap :: .str x :: ps) = _
       rw [tokP_word hk, tokP_gap]
       show _ :: (7, [62]) :: tokP (.gap :: _) = _
       rw [tokP_gap, ht]; rfl
   · subst e
     refine ⟨?_, ?_⟩
     · show okP (.str key :: .gap :: .str [60] :: .gap :: .str x :: ps) = true
       refine okP_word hk ?_ (by rfl)
       rw [okP_gap, okP_lt, okP_gap]; exact h0
     · show tokP (.str key :: .gap :: .str [60] :: .gap :: .str x :: ps) = _
       rw [tokP_word hk, tokP_gap]
       show _ :: (10, [60]) :: tokP (.gap :: _) = _
       rw [tokP_gap, ht]; rfl
   · subst e
     refine ⟨?_, ?_⟩
     · show okP (.str key :: .gap :: .str [61] :: .gap :: .str x :: ps) = true
       refine okP_word hk ?_ (by rfl)
       rw [okP_gap, okP_eq (by rw [hdP_gap]; exact word_ne61 hx), okP_gap]; exact h0
     · show tokP (.str key :: .gap :: .str [61] :: .gap :: .str x :: ps) = _
       rw [tokP_word hk, tokP_gap]
       show _ :: (6, [61]) :: tokP (.gap :: _) = _
       rw [tokP_gap, ht]; rfl
   · subst e
     refine ⟨?_, ?_⟩
     · show okP (.str key :: .gap :: .str [61, 61] :: .gap :: .str x :: ps) = true
       refine okP_word hk ?_ (by rfl)
       rw [okP_gap, okP_eq2, okP_gap]; exact h0
     · show tokP (.str key :: .gap :: .str [61, 61] :: .gap :: .str x :: ps) = _
       rw [tokP_word hk, tokP_gap]
       show _ :: (5, [61, 61]) :: tokP (.gap :: _) = _
       rw [tokP_gap, ht]; rfl
   · subst e
     refine ⟨?_, ?_⟩
     · show okP (.str key :: .gap :: .str [33, 61] :: .gap :: .str x :: ps) = true
       refine okP_word hk ?_ (by rfl)
       rw [okP_gap, okP_ne, okP_gap]; exact h0
     · show tokP (.str key :: .gap :: .str [33, 61] :: .gap :: .str x :: ps) = _
       rw [tokP_word hk, tokP_gap]
       show _ :: (11, [33, 61]) :: tokP (.gap :: _) = _
       rw [tokP_gap, ht]; rfl
theorem addK_ne (ks : List L) (x : L) : addK ks x ≠ [] := by
 unfold addK
 split
 · rename_i h; intro e; subst e; cases h
 · simp
theorem addK_mem {ks : List L} {x y : L} : y ∈ addK ks x ↔ y ∈ ks ∨ y = x := by
 unfold addK
 split
 · rename_i h
   rw [List.contains_iff_mem] at h
   exact ⟨.inl, fun h2 => h2.elim id fun e => by rw [e]; exact h⟩
 · simp
theorem foldK_mem : ∀ (vs ks : List L) (y : L), y ∈ vs.foldl addK ks ↔ y ∈ ks ∨ y ∈ vs
 | [], ks, y => by simp
 | v :: vs, ks, y => by rw [List.foldl_cons, foldK_mem vs, addK_mem, List.mem_cons, or_assoc]
theorem setL_foldK (vs : List L) : setL (vs.foldl addK []) = setL vs :=
 up_ext (setL_up _) (setL_up _) fun y => by rw [setL_mem, setL_mem, foldK_mem]; simp
theorem setL_one (x : L) : setL [x] = [x] := rfl
theorem setL_isEmpty (vs : List L) : (setL vs).isEmpty = vs.isEmpty := by
 cases vs with
 | nil => rfl
 | cons v r =>
   cases e : setL (v :: r) with
   | nil => have := (setL_mem (v :: r) v).2 (List.mem_cons_self ..); rw [e] at this; cases this
   | cons a b => rfl
theorem fair_setL {key op : L} {vs : List L} (h : fairR key op vs = true) : fairR key op (setL vs) = true := by
 unfold fairR at h ⊢
 simp only [Bool.and_eq_true] at h ⊢
 obtain ⟨h1, h2, h3⟩ := h
 refine ⟨?_, ?_, h3⟩
 · unfold opOk at h1 ⊢
   split
   · rename_i e; rw [if_pos e] at h1; rw [setL_isEmpty]; exact h1
   · rename_i e; rw [if_neg e] at h1
     split
     · rename_i e; rw [if_pos e] at h1
       match vs, h1 with
       | [x], _ => rfl
     · rename_i e; rw [if_neg e] at h1
       split
       · rename_i e; rw [if_pos e] at h1
         match vs, h1 with
         | [], _ => rfl
       · rename_i e; rw [if_neg e] at h1
         split
         · rename_i e; rw [if_pos e] at h1
           match vs, h1 with
           | [x], h => exact h
         · rename_i e; rw [if_neg e] at h1; exact h1
 · rw [List.all_eq_true] at h2 ⊢
   exact fun x hx => h2 x ((setL_mem vs x).1 hx)
theorem pIds_toks : ∀ (r : List L) (v : L) (ks : List L) (m : Nat) (rest : List Tk), isWord v = true → (∀ x ∈ r, isWord x = true) → 2 * r.length + 1 ≤ m →
   pIds m ((kW v, v) :: (r.flatMap (fun s => [(3, [44]), (kW s, s)]) ++ (2, [41]) :: rest)) ks = some ((v :: r).foldl addK ks, (2, [41]) :: rest)
 | [], v, ks, m + 1, rest, hv, hr, hm => by
   unfold pIds
   rw [if_pos (kW_vk hv)]
   rfl
 | s :: r, v, ks, m + 2, rest, hv, hr, hm => by
   have hs := hr s (List.mem_cons_self ..)
   have ih := pIds_toks r s (addK ks v) m rest hs (fun x hx => hr x (List.mem_cons_of_mem _ hx)) (by simp only [List.length_cons] at hm; omega)
   have h1 : pIds (m + 1) ((3, [44]) :: (kW s, s) :: (r.flatMap (fun s => [((3 : Nat), ([44] : L)), (kW s, s)]) ++ (2, [41]) :: rest)) (addK ks v) = pIds m ((kW s, s) :: (r.flatMap (fun s => [((3 : Nat), ([44] : L)), (kW s, s)]) ++ (2, [41]) :: rest)) (addK ks v) := by
    conv => lhs; unfold pIds
    rw [if_neg (by decide), if_pos (by decide)]
    simp only [kW_vk hs]
    rw [if_neg (by decide), if_neg (by decide), if_neg (addK_ne ks v)]
   have h2 : pIds (m + 2) ((kW v, v) :: ((s :: r).flatMap (fun s => [((3 : Nat), ([44] : L)), (kW s, s)]) ++ (2, [41]) :: rest)) ks = pIds (m + 1) ((3, [44]) :: (kW s, s) :: (r.flatMap (fun s => [((3 : Nat), ([44] : L)), (kW s, s)]) ++ (2, [41]) :: rest)) (addK ks v) := by
    conv => lhs; unfold pIds
    rw [if_pos (kW_vk hv)]
    rfl
   rw [h2, h1, ih]
   rfl
theorem pVals_toks {vs : List L} (hn : vs ≠ []) (hw : ∀ x ∈ vs, isWord x = true) (rest : List Tk) : pVals ((13, [40]) :: (tkV vs ++ (2, [41]) :: rest)) = some (vs.foldl addK [], rest) := by
 cases vs with
 | nil => exact absurd rfl hn
 | cons v r =>
   have hv := hw v (List.mem_cons_self ..)
   have h := pIds_toks r v [] ((kW v, v) :: (r.flatMap (fun s => [((3 : Nat), ([44] : L)), (kW s, s)]) ++ (2, [41]) :: rest)).length rest hv (fun x hx => hw x (List.mem_cons_of_mem _ hx)) (by
    have e : ∀ r : List L, (r.flatMap (fun s => [((3 : Nat), ([44] : L)), (kW s, s)])).length = 2 * r.length := fun r => by
     induction r with
     | nil => rfl
     | cons s r ih => rw [List.flatMap_cons, List.length_append, ih, List.length_cons]; simp; omega
    rw [List.length_cons, List.length_append, e]; omega)
   unfold pVals
   dsimp only
   rw [if_pos (by decide)]
   show (if vk (kW v) = 8 ∨ vk (kW v) = 3 then _ else _) = _
   rw [if_pos (.inl (kW_vk hv))]
   show (match pIds ((kW v, v) :: (r.flatMap (fun s => [((3 : Nat), ([44] : L)), (kW s, s)]) ++ (2, [41]) :: rest)).length ((kW v, v) :: (r.flatMap (fun s => [((3 : Nat), ([44] : L)), (kW s, s)]) ++ (2, [41]) :: rest)) [] with
     | some (ks, (k3, _) :: ts3) => if vk k3 = 2 then some (ks, ts3) else none
     | _ => none) = _
   rw [h]
   rfl
theorem pOne_toks {x : L} (hx : isWord x = true) (rest : List Tk) : pOne ((kW x, x) :: rest) = some ([x], rest) := by
 unfold pOne
 dsimp only
 rw [kW_vk hx]
 rfl
theorem pKey_word {key : L} (hk : isWord key = true) (hq : pQ key = true) (ts : List Tk) : pKey ((kW key, key) :: ts) = some (key, if ePos ts then [101, 120, 105, 115, 116, 115] else [], ts) := by
 unfold pKey
 dsimp only
 rw [kW_vk hk, hq]
 rfl
theorem pKey_bad {key : L} (hk : isWord key = true) (hq : pQ key = false) (ts : List Tk) : pKey ((kW key, key) :: ts) = none := by
 unfold pKey
 dsimp only
 rw [kW_vk hk, hq]
 rfl
theorem pOp_toks {op : L} (ho : oIn op ∨ op = [61] ∨ op = [61, 61] ∨ op = [33, 61]) (ts : List Tk) : pOp ((kW op, op) :: ts) = some (op, ts) := by
 rcases ho with (e | e) | e | e | e <;> subst e <;> rfl
theorem pReq_toks {key op : L} {vs : List L} (hw : WordR key op vs) (hf : fairR key op vs = true) (rest : List Tk) (hr : ePos rest = true) : pReq (toksR key op vs ++ rest) = some ((key, op, setL vs), rest) := by
 have hk := hw.k
 have hfs := fair_setL hf
 have hq : pQ key = true := by unfold fairR at hf; simp only [Bool.and_eq_true] at hf; exact hf.2.2
 have h0 : op = [33] ∨ op = [101, 120, 105, 115, 116, 115] → vs = [] := fun h => by
  unfold fairR at hf; simp only [Bool.and_eq_true] at hf
  have h1 := hf.1
  rcases h with h | h <;> subst h <;> (unfold opOk at h1; rw [if_neg (by decide), if_neg (by decide), if_pos (by decide)] at h1; simpa using h1)
 rcases hw.o with e | e | e | e
 · obtain rfl := h0 (.inl e)
   subst e
   show (match pKey ((4, [33]) :: (kW key, key) :: rest) with | none => none | some (key, op, ts1) => _) = _
   have : pKey ((4, [33]) :: (kW key, key) :: rest) = some (key, [33], rest) := by
    unfold pKey
    dsimp only
    rw [if_pos (by decide)]
    simp only [kW_vk hk, hq, if_true]
   rw [this]
   show (if ([33] : L) = [] then _ else if fairR key [33] [] = true then some ((key, [33], []), rest) else none) = _
   rw [if_neg (by decide), if_pos hf]
   rfl
 · obtain rfl := h0 (.inr e)
   subst e
   show (match pKey ((kW key, key) :: rest) with | none => none | some (key, op, ts1) => _) = _
   rw [pKey_word hk hq, hr]
   show (if ([101, 120, 105, 115, 116, 115] : L) = [] then _ else if fairR key [101, 120, 105, 115, 116, 115] [] = true then some ((key, [101, 120, 105, 115, 116, 115], []), rest) else none) = _
   rw [if_neg (by decide), if_pos hf]
   rfl
 · have et : toksR key op vs ++ rest = (kW key, key) :: (kW op, op) :: (13, [40]) :: (tkV vs ++ (2, [41]) :: rest) := by
    unfold toksR
    rw [if_neg (by rcases e with e | e <;> subst e <;> decide), if_neg (by rcases e with e | e <;> subst e <;> decide), if_pos e]
    simp
   have he : ePos ((kW op, op) :: (13, [40]) :: (tkV vs ++ (2, [41]) :: rest)) = false := by
    show (vk (kW op) = 1 || vk (kW op) = 3 : Bool) = false
    rw [kW_vk (isWord_in e)]; rfl
   rw [et]
   unfold pReq
   rw [pKey_word hk hq, he]
   show (if ([] : L) = [] then (match pOp ((kW op, op) :: (13, [40]) :: (tkV vs ++ (2, [41]) :: rest)) with | none => none | some (op, ts2) => _) else _) = _
   rw [if_pos rfl, pOp_toks (.inl e)]
   show (match (if oIn op then pVals ((13, [40]) :: (tkV vs ++ (2, [41]) :: rest)) else pOne _) with | none => none | some (ks, ts3) => if fairR key op (setL ks) then some ((key, op, setL ks), ts3) else none) = _
   rw [if_pos e, pVals_toks (hw.m e) hw.v]
   show (if fairR key op (setL (vs.foldl addK [])) then some ((key, op, setL (vs.foldl addK [])), rest) else none) = _
   rw [setL_foldK, if_pos hfs]
 · obtain ⟨x, rfl⟩ := hw.n e
   have hx := hw.v x (List.mem_cons_self ..)
   have key_ : ∀ k s, (kW key, key) :: (k, s) :: (kW x, x) :: rest = toksR key op [x] ++ rest → vk k ≠ 1 → vk k ≠ 3 → opT k = some op → ¬ oIn op → pReq (toksR key op [x] ++ rest) = some ((key, op, setL [x]), rest) := fun k s e1 h1 h3 ho hn => by
    rw [← e1]
    have he : ePos ((k, s) :: (kW x, x) :: rest) = false := by
     show (decide (vk k = 1) || decide (vk k = 3) : Bool) = false
     simp [h1, h3]
    unfold pReq
    rw [pKey_word hk hq, he]
    have hop : pOp ((k, s) :: (kW x, x) :: rest) = some (op, (kW x, x) :: rest) := by
     show (opT k).map _ = _
     rw [ho]; rfl
    show (if ([] : L) = [] then (match pOp ((k, s) :: (kW x, x) :: rest) with | none => none | some (op, ts2) => _) else _) = _
    rw [if_pos rfl, hop]
    show (match (if oIn op then pVals ((kW x, x) :: rest) else pOne ((kW x, x) :: rest)) with | none => none | some (ks, ts3) => if fairR key op (setL ks) then some ((key, op, setL ks), ts3) else none) = _
    rw [if_neg hn, pOne_toks hx]
    show (if fairR key op (setL [x]) then some ((key, op, setL [x]), rest) else none) = _
    rw [if_pos hfs]
   rcases e with e | e | e | e | e
   · subst e; exact key_ 7 [62] rfl (by decide) (by decide) rfl (by decide)
   · subst e; exact key_ 10 [60] rfl (by decide) (by decide) rfl (by decide)
   · subst e; exact key_ 6 [61] rfl (by decide) (by decide) rfl (by decide)
   · subst e; exact key_ 5 [61, 61] rfl (by decide) (by decide) rfl (by decide)
   · subst e; exact key_ 11 [33, 61] rfl (by decide) (by decide) rfl (by decide)
theorem toksR_head {key op : L} {vs : List L} (hw : WordR key op vs) : ∃ k s t, toksR key op vs = (k, s) :: t ∧ (vk k = 8 ∨ vk k = 4) := by
 unfold toksR
 split
 · exact ⟨4, [33], _, rfl, .inr (by decide)⟩
 repeat (first | exact ⟨_, _, _, rfl, .inl (kW_vk hw.k)⟩ | split)
def FairW (r : Rq) : Prop := WordR r.1 r.2.1 r.2.2 ∧ fairR r.1 r.2.1 r.2.2 = true
end Go.Proofs.YthfjolafikgpoaaGreatDoor.Hand
