/- Two ascending lists of the same texts are the same. -/
import Derived.Test.YthfjolafikgpoaaGreatDoorSAM26
import Derived.Test.YthfjolafikgpoaaGreatDoorSAM28
import Derived.Test.YthfjolafikgpoaaGreatDoorSAM18
namespace Go.Proofs.YthfjolafikgpoaaGreatDoor.Hand
open Go.RowKit Go.Proofs.YthfjolafikgpoaaGreatDoorW.PrintWords Go.Proofs.YthfjolafikgpoaaGreatDoorW.PrintLast Go.Proofs.YthfjolafikgpoaaGreatDoorW.PrintMore Go.Proofs.YthfjolafikgpoaaGreatDoor.Base
theorem asc_unique {a b : List L} (h : a.Perm b) (ha : Asc a) (hb : Asc b) : a = b :=
 List.Perm.eq_of_pairwise (le := fun x y => Sort.ltStr y x = false) (fun _ _ _ _ h1 h2 => List.le_antisymm (ltStr_le.1 h1) (ltStr_le.1 h2)) ha hb h
theorem insS_asc {out : List L} {s : L} (h : Asc out) : Asc (insS out s) := by
 unfold insS
 split
 · exact h
 · have hle := posOf_le out s
   obtain ⟨p, hp⟩ : ∃ p, posOf out s = p := ⟨_, rfl⟩
   have h1 := posOf_lt out s
   have h2 := posOf_at out s
   rw [hp] at h1 h2 hle ⊢
   unfold Asc at h ⊢
   have hsp : (out.take p ++ out.drop p).Pairwise (fun x y => Sort.ltStr y x = false) := by rw [List.take_append_drop]; exact h
   rw [List.pairwise_append] at hsp
   obtain ⟨q1, q2, q3⟩ := hsp
   have htk : ∀ x ∈ out.take p, Sort.ltStr s x = false := fun x hx => by
    obtain ⟨k, hk, rfl⟩ := List.mem_iff_getElem.1 hx
    rw [List.length_take] at hk
    have := h1 k (by omega) (by omega)
    rw [List.getElem_take]
    unfold Sort.ltStr at this ⊢
    have h3 := of_decide_eq_true this
    exact decide_eq_false (List.le_of_lt h3)
   have hdr : ∀ x ∈ out.drop p, Sort.ltStr x s = false := fun x hx => by
    obtain ⟨k, hk, rfl⟩ := List.mem_iff_getElem.1 hx
    rw [List.length_drop] at hk
    have hp0 := h2 (by omega)
    rw [List.getElem_drop]
    rcases Nat.eq_zero_or_pos k with rfl | hk0
    · exact hp0
    · have := (List.pairwise_iff_getElem.1 h) p (p + k) (by omega) (by omega) (by omega)
      exact ltStr_le.2 (List.le_trans (ltStr_le.1 hp0) (ltStr_le.1 this))
   rw [List.pairwise_append]
   refine ⟨q1, List.pairwise_cons.2 ⟨hdr, q2⟩, fun x hx y hy => ?_⟩
   rcases List.mem_cons.1 hy with rfl | hy
   · exact htk x hx
   · exact q3 x hx y hy
theorem insS_perm {out : List L} {s : L} (h : (insS out s).length = out.length + 1) : (insS out s).Perm (s :: out) := by
 unfold insS at h ⊢
 split
 · rename_i h1; rw [if_pos h1] at h; omega
 · refine List.perm_middle.trans ?_
   rw [List.take_append_drop]
theorem foldl_perm : ∀ (l out : List L), Asc out → Asc (l.foldl insS out) ∧ (l.foldl insS out).length ≤ out.length + l.length ∧ ((l.foldl insS out).length = out.length + l.length → (l.foldl insS out).Perm (out ++ l))
 | [], out, h => ⟨h, by simp, fun _ => by simp⟩
 | s :: l, out, h => by
   obtain ⟨h1, h2, h3⟩ := foldl_perm l (insS out s) (insS_asc h)
   have h4 := insS_len out s
   refine ⟨h1, by simp only [List.foldl_cons, List.length_cons]; omega, fun he => ?_⟩
   simp only [List.foldl_cons, List.length_cons] at he ⊢
   refine (h3 (by omega)).trans ?_
   refine ((insS_perm (by omega)).append_right l).trans ?_
   simp only [List.cons_append]
   exact List.perm_middle.symm
theorem setL_of_asc {l us : List L} (hd : (setL l).length = l.length) (hp : us.Perm l) (ha : Asc us) : us = setL l := by
 obtain ⟨h1, _, h3⟩ := foldl_perm l [] List.Pairwise.nil
 exact asc_unique (hp.trans (h3 (by simpa [setL] using hd)).symm) ha h1
set_option linter.unusedVariables false
set_option linter.unusedSimpArgs false
set_option maxRecDepth 100000
theorem ba_app3 (a b c : ByteArray) : a ++ b ++ c = a ++ (b ++ c) := ByteArray.append_assoc
theorem ba_lit2 (a b : L) : (⟨a.toArray⟩ : ByteArray) ++ ⟨b.toArray⟩ = ⟨(a ++ b).toArray⟩ := by
 apply ByteArray.ext; simp [ByteArray.data_append]
theorem op_mk {op : ByteArray} {l : L} (h : op.data.toList = l) : op = ⟨l.toArray⟩ := by
 apply ByteArray.ext; rw [← h]
theorem wr_text (key op m : ByteArray) (o : L) (h : op.data.toList = o) : key ++ ⟨#[32]⟩ ++ op ++ ⟨#[32, 40]⟩ ++ m ++ ⟨#[41]⟩ = key ++ ⟨([32] ++ o ++ [32]).toArray⟩ ++ ⟨#[40]⟩ ++ m ++ ⟨#[41]⟩ := by
 have e : (⟨#[32]⟩ : ByteArray) ++ op ++ ⟨#[32, 40]⟩ = ⟨([32] ++ o ++ [32]).toArray⟩ ++ ⟨#[40]⟩ := by
  rw [op_mk h, show (⟨#[32]⟩ : ByteArray) = ⟨([32] : L).toArray⟩ from rfl, show (⟨#[32, 40]⟩ : ByteArray) = ⟨([32, 40] : L).toArray⟩ from rfl, show (⟨#[40]⟩ : ByteArray) = ⟨([40] : L).toArray⟩ from rfl, ba_lit2, ba_lit2, ba_lit2]
  simp
 congr 2
 rw [ba_app3 key, ba_app3 key, ba_app3 key, e]
theorem setL_single (v : ByteArray) : joinB ⟨#[44]⟩ ((setL (vL [v])).map mk) = v := join_one v
set_option maxHeartbeats 4000000 in
theorem Written_calls (key op : ByteArray) (hk : key.size ≤ 2000) (c n : Nat) (vs : List ByteArray) (hn : vs.length = n) (hn2 : n ≤ 1000) (hc : n ≤ c) (hz : ∀ v ∈ vs, v.size ≤ 10000) (A : Option Addr) (w : World) (hC : Kd.C Kd.string w A n vs) (hf : opOk op.data.toList (vL vs) = true) :
   Calls Tryz.prog 51 #[.agg #[.string key, .string op, .slice A n c]] w fun e w' => e = .returned (.string (textM op.data.toList key (joinB ⟨#[44]⟩ ((setL (vL vs)).map mk)))) ∧ Below w.heap.size w w' := by
 have hx : op.toList = op.data.toList := toList_eq op
 have hvl : (vL vs).length = n := by rw [List.length_map, hn]
 have hsz : op.size = op.data.toList.length := rfl
 have hJ : (joinB ⟨#[44]⟩ ((setL (vL vs)).map mk)).size ≤ 20000000 := by
  refine Nat.le_trans (joinB_size ⟨#[44]⟩ 10000 _ fun p hp => ?_) ?_
  · obtain ⟨x, hx, rfl⟩ := List.mem_map.1 hp
    obtain ⟨q, hq, rfl⟩ := List.mem_map.1 ((setL_mem (vL vs) x).1 hx)
    rw [← mk_of q]; exact hz q hq
  · have := setL_len (vL vs)
    rw [List.length_map]
    refine Nat.le_trans (Nat.mul_le_mul (show _ ≤ 1000 by omega) (Nat.le_refl _)) ?_
    decide
 by_cases h : op.data.toList = [105, 110]
 · refine (Wr_in key op (hx.trans h) (by rw [hsz, h]; decide) hk vs n hn hn2 c hc hz _ rfl hJ A w hC).mono ?_
   rintro e w' ⟨rfl, h2⟩
   exact ⟨congrArg (fun s => Ending.returned (.string s)) (by rw [wr_text _ _ _ _ h]; rw [h]; rfl), h2⟩
 have h_in := h; clear h
 by_cases h : op.data.toList = [110, 111, 116, 105, 110]
 · refine (Wr_notin key op (hx.trans h) (by rw [hsz, h]; decide) hk vs n hn hn2 c hc hz _ rfl hJ A w hC).mono ?_
   rintro e w' ⟨rfl, h2⟩
   exact ⟨congrArg (fun s => Ending.returned (.string s)) (by rw [wr_text _ _ _ _ h]; rw [h]; rfl), h2⟩
 have h_notin := h; clear h
 by_cases h : op.data.toList = [61]
 · rw [h] at hf
   have h1 : n = 1 := by unfold opOk at hf; rw [← hvl]; simpa using hf
   obtain ⟨v, rfl⟩ := one_of (vs := vs) (by omega)
   obtain rfl : n = 1 := hn.symm
   refine (Wr_eq key op v (hx.trans h) (by rw [hsz, h]; decide) hk (by have := hz v (List.mem_cons_self ..); omega) c A w hC).mono ?_
   rintro e w' ⟨rfl, h2⟩
   exact ⟨congrArg (fun s => Ending.returned (.string s)) (by rw [setL_single, h]; rw [op_mk h]; rfl), h2⟩
 have h_eq := h; clear h
 by_cases h : op.data.toList = [61, 61]
 · rw [h] at hf
   have h1 : n = 1 := by unfold opOk at hf; rw [← hvl]; simpa using hf
   obtain ⟨v, rfl⟩ := one_of (vs := vs) (by omega)
   obtain rfl : n = 1 := hn.symm
   refine (Wr_deq key op v (hx.trans h) (by rw [hsz, h]; decide) hk (by have := hz v (List.mem_cons_self ..); omega) c A w hC).mono ?_
   rintro e w' ⟨rfl, h2⟩
   exact ⟨congrArg (fun s => Ending.returned (.string s)) (by rw [setL_single, h]; rw [op_mk h]; rfl), h2⟩
 have h_deq := h; clear h
 by_cases h : op.data.toList = [33, 61]
 · rw [h] at hf
   have h1 : n = 1 := by unfold opOk at hf; rw [← hvl]; simpa using hf
   obtain ⟨v, rfl⟩ := one_of (vs := vs) (by omega)
   obtain rfl : n = 1 := hn.symm
   refine (Wr_ne key op v (hx.trans h) (by rw [hsz, h]; decide) hk (by have := hz v (List.mem_cons_self ..); omega) c A w hC).mono ?_
   rintro e w' ⟨rfl, h2⟩
   exact ⟨congrArg (fun s => Ending.returned (.string s)) (by rw [setL_single, h]; rw [op_mk h]; rfl), h2⟩
 have h_ne := h; clear h
 by_cases h : op.data.toList = [103, 116]
 · rw [h] at hf
   have h1 : n = 1 := by 
     unfold opOk at hf
     rw [if_neg (by decide), if_neg (by decide), if_neg (by decide), if_pos (by decide)] at hf
     rw [← hvl]
     match vL vs, hf with
     | [x], _ => rfl
   obtain ⟨v, rfl⟩ := one_of (vs := vs) (by omega)
   obtain rfl : n = 1 := hn.symm
   refine (Wr_gt key op v (hx.trans h) (by rw [hsz, h]; decide) hk (by have := hz v (List.mem_cons_self ..); omega) c A w hC).mono ?_
   rintro e w' ⟨rfl, h2⟩
   exact ⟨congrArg (fun s => Ending.returned (.string s)) (by rw [setL_single, h]; rfl), h2⟩
 have h_gt := h; clear h
 by_cases h : op.data.toList = [108, 116]
 · rw [h] at hf
   have h1 : n = 1 := by 
     unfold opOk at hf
     rw [if_neg (by decide), if_neg (by decide), if_neg (by decide), if_pos (by decide)] at hf
     rw [← hvl]
     match vL vs, hf with
     | [x], _ => rfl
   obtain ⟨v, rfl⟩ := one_of (vs := vs) (by omega)
   obtain rfl : n = 1 := hn.symm
   refine (Wr_lt key op v (hx.trans h) (by rw [hsz, h]; decide) hk (by have := hz v (List.mem_cons_self ..); omega) c A w hC).mono ?_
   rintro e w' ⟨rfl, h2⟩
   exact ⟨congrArg (fun s => Ending.returned (.string s)) (by rw [setL_single, h]; rfl), h2⟩
 have h_lt := h; clear h
 by_cases h : op.data.toList = [101, 120, 105, 115, 116, 115]
 · refine (Wr_ex key op (hx.trans h) hk c n A w).mono ?_
   rintro e w' ⟨rfl, h2⟩
   exact ⟨congrArg (fun s => Ending.returned (.string s)) (by rw [h]; rfl), h2⟩
 have h_ex := h; clear h
 by_cases h : op.data.toList = [33]
 · refine (Wr_nex key op (hx.trans h) hk c n A w).mono ?_
   rintro e w' ⟨rfl, h2⟩
   exact ⟨congrArg (fun s => Ending.returned (.string s)) (by rw [h]; rfl), h2⟩
 have h_nex := h; clear h
 exfalso
 unfold opOk at hf
 rw [if_neg (by rintro (h | h); exact h_in h; exact h_notin h), if_neg (by rintro (h | h | h); exact h_eq h; exact h_deq h; exact h_ne h), if_neg (by rintro (h | h); exact h_ex h; exact h_nex h), if_neg (by rintro (h | h); exact h_gt h; exact h_lt h)] at hf
 cases hf
end Go.Proofs.YthfjolafikgpoaaGreatDoor.Hand
namespace Go.Proofs.YthfjolafikgpoaaGreatDoor.Hand
open Go.RowKit Go.Proofs.YthfjolafikgpoaaGreatDoor.Base
set_option linter.unusedVariables false
set_option linter.unusedSimpArgs false
set_option maxRecDepth 100000
theorem safe_comma {ps : List Pc} : safeP (.str [44] :: ps) = true := by unfold safeP; rw [hdP_str]; rfl
theorem safe_close {ps : List Pc} : safeP (.str [41] :: ps) = true := by unfold safeP; rw [hdP_str]; rfl
theorem okF {f : L → List Pc} (hf : ∀ s ps, isWord s = true → okP ps = true → safeP ps = true → okP (f s ++ ps) = true ∧ safeP (f s ++ ps) = true) :
   ∀ (r : List L) (ps : List Pc), (∀ v ∈ r, isWord v = true) → okP ps = true → safeP ps = true → okP (r.flatMap f ++ ps) = true ∧ safeP (r.flatMap f ++ ps) = true
 | [], ps, _, h1, h2 => ⟨h1, h2⟩
 | v :: r, ps, hw, h1, h2 => by
   obtain ⟨a, b⟩ := okF hf r ps (fun x hx => hw x (List.mem_cons_of_mem _ hx)) h1 h2
   rw [List.flatMap_cons, List.append_assoc]
   exact hf v _ (hw v (List.mem_cons_self ..)) a b
theorem okW_pcs {vs : List L} {ps : List Pc} (hw : ∀ v ∈ vs, isWord v = true) (h1 : okP ps = true) (h2 : safeP ps = true) : okP (pcwV vs ++ ps) = true := by
 cases vs with
 | nil => exact h1
 | cons v r =>
   obtain ⟨a, b⟩ := okF (f := fun s => [.str [44], .str s]) (fun s ps hs h1 h2 => ⟨by
    show okP (.str [44] :: .str s :: ps) = true
    rw [okP_comma]; exact okP_word hs h1 (safe_wd h2), safe_comma⟩) r ps (fun x hx => hw x (List.mem_cons_of_mem _ hx)) h1 h2
   show okP (.str v :: (r.flatMap _ ++ ps)) = true
   exact okP_word (hw v (List.mem_cons_self ..)) a (safe_wd b)
theorem tokF {f : L → List Pc} {g : L → List Tk} (hf : ∀ s ps, isWord s = true → tokP (f s ++ ps) = g s ++ tokP ps) :
   ∀ (r : List L) (ps : List Pc), (∀ v ∈ r, isWord v = true) → tokP (r.flatMap f ++ ps) = r.flatMap g ++ tokP ps
 | [], ps, _ => rfl
 | v :: r, ps, hw => by
   rw [List.flatMap_cons, List.flatMap_cons, List.append_assoc, hf v _ (hw v (List.mem_cons_self ..)), tokF hf r ps (fun x hx => hw x (List.mem_cons_of_mem _ hx)), List.append_assoc]
theorem tokP_comma {ps : List Pc} : tokP (.str [44] :: ps) = (3, [44]) :: tokP ps := rfl
theorem tokW_pcs {vs : List L} {ps : List Pc} (hw : ∀ v ∈ vs, isWord v = true) : tokP (pcwV vs ++ ps) = tkV vs ++ tokP ps := by
 cases vs with
 | nil => rfl
 | cons v r =>
   show tokP (.str v :: (r.flatMap _ ++ ps)) = (kW v, v) :: (r.flatMap _ ++ tokP ps)
   rw [tokP_word (hw v (List.mem_cons_self ..))]
   congr 1
   refine tokF (fun s ps hs => ?_) r ps (fun x hx => hw x (List.mem_cons_of_mem _ hx))
   show tokP (.str [44] :: .str s :: ps) = _
   rw [tokP_comma, tokP_word hs]; rfl
structure WordR (key op : L) (vs : List L) : Prop where
 k : isWord key = true
 v : ∀ x ∈ vs, isWord x = true
 o : op = [33] ∨ op = [101, 120, 105, 115, 116, 115] ∨ oIn op ∨ op = [103, 116] ∨ op = [108, 116] ∨ op = [61] ∨ op = [61, 61] ∨ op = [33, 61]
 n : op = [103, 116] ∨ op = [108, 116] ∨ op = [61] ∨ op = [61, 61] ∨ op = [33, 61] → ∃ x, vs = [x]
 m : oIn op → vs ≠ []
theorem word_ne61 {p : L} {ps : List Pc} (h : isWord p = true) : hdP (.str p :: ps) ≠ some 61 := by
 obtain ⟨d, e, _, h3⟩ := hdP_word (ps := ps) h
 rw [e]; intro e2; injection e2 with e2; exact h3 e2
theorem isWord_in {op : L} (h : oIn op) : isWord op = true := by rcases h with h | h <;> subst h <;> decide
theorem okRw_pcs {key op : L} {vs : List L} {ps : List Pc} (hw : WordR key op vs) (h1 : okP ps = true) (h2 : safeP ps = true) :
   okP (pcwR key op vs ++ ps) = true ∧ tokP (pcwR key op vs ++ ps) = toksR key op vs ++ tokP ps := by
 have hk := hw.k
 rcases hw.o with e | e | e | e
 · subst e
   refine ⟨?_, ?_⟩
   · show okP (.str [33] :: .str key :: ps) = true
     rw [okP_not (word_ne61 hk)]; exact okP_word hk h1 (safe_wd h2)
   · show tokP (.str [33] :: .str key :: ps) = _
     show (4, [33]) :: tokP (.str key :: ps) = _
     rw [tokP_word hk]; rfl
 · subst e
   exact ⟨okP_word hk h1 (safe_wd h2), tokP_word hk⟩
 · have ho := isWord_in e
   have hv := okW_pcs (ps := .str [41] :: ps) hw.v (by rw [okP_close]; exact h1) safe_close
   have ht := tokW_pcs (ps := .str [41] :: ps) hw.v
   have ep : pcwR key op vs ++ ps = .str key :: .str [32] :: .str op :: .str [32] :: .str [40] :: (pcwV vs ++ .str [41] :: ps) := by
    unfold pcwR
    rw [if_neg (by rcases e with e | e <;> subst e <;> decide), if_neg (by rcases e with e | e <;> subst e <;> decide), if_pos e]
    simp
   have et : toksR key op vs = (kW key, key) :: (kW op, op) :: (13, [40]) :: (tkV vs ++ [(2, [41])]) := by
    unfold toksR
    rw [if_neg (by rcases e with e | e <;> subst e <;> decide), if_neg (by rcases e with e | e <;> subst e <;> decide), if_pos e]
   rw [ep, et]
   refine ⟨?_, ?_⟩
   · refine okP_word hk ?_ (by rfl)
     rw [okP_sp]
     refine okP_word ho ?_ (by rfl)
     rw [okP_sp, okP_open]; exact hv
   · rw [tokP_word hk]
     show _ :: tokP (.str op :: _) = _
     rw [tokP_word ho]
     show _ :: _ :: (13, [40]) :: tokP (_) = _
     rw [ht]
     show _ :: _ :: _ :: (tkV vs ++ (2, [41]) :: tokP ps) = _
     simp
 · obtain ⟨x, rfl⟩ := hw.n e
   have hx := hw.v x (List.mem_cons_self ..)
   have h0 := okP_word hx h1 (safe_wd h2)
   have ht := tokP_word (ps := ps) hx
   rcases e with e | e | e | e | e
   · subst e
     refine ⟨?_, ?_⟩
     · show okP (.str key :: .str [62] :: .str x :: ps) = true
       refine okP_word hk ?_ (by rfl)
       rw [okP_gt]; exact h0
     · show tokP (.str key :: .str [62] :: .str x :: ps) = _
       rw [tokP_word hk]
       show _ :: (7, [62]) :: tokP (_) = _
       rw [ht]; rfl
   · subst e
     refine ⟨?_, ?_⟩
     · show okP (.str key :: .str [60] :: .str x :: ps) = true
       refine okP_word hk ?_ (by rfl)
       rw [okP_lt]; exact h0
     · show tokP (.str key :: .str [60] :: .str x :: ps) = _
       rw [tokP_word hk]
       show _ :: (10, [60]) :: tokP (_) = _
       rw [ht]; rfl
   · subst e
     refine ⟨?_, ?_⟩
     · show okP (.str key :: .str [61] :: .str x :: ps) = true
       refine okP_word hk ?_ (by rfl)
       rw [okP_eq (word_ne61 hx)]; exact h0
     · show tokP (.str key :: .str [61] :: .str x :: ps) = _
       rw [tokP_word hk]
       show _ :: (6, [61]) :: tokP (_) = _
       rw [ht]; rfl
   · subst e
     refine ⟨?_, ?_⟩
     · show okP (.str key :: .str [61, 61] :: .str x :: ps) = true
       refine okP_word hk ?_ (by rfl)
       rw [okP_eq2]; exact h0
     · show tokP (.str key :: .str [61, 61] :: .str x :: ps) = _
       rw [tokP_word hk]
       show _ :: (5, [61, 61]) :: tokP (_) = _
       rw [ht]; rfl
   · subst e
     refine ⟨?_, ?_⟩
     · show okP (.str key :: .str [33, 61] :: .str x :: ps) = true
       refine okP_word hk ?_ (by rfl)
       rw [okP_ne]; exact h0
     · show tokP (.str key :: .str [33, 61] :: .str x :: ps) = _
       rw [tokP_word hk]
       show _ :: (11, [33, 61]) :: tokP (_) = _
       rw [ht]; rfl
theorem addK_ne (ks : List L) (x : L) : addK ks x ≠ [] := by
 unfold addK
 split
 · rename_i h; intro e; subst e; cases h
 · simp
theorem addK_mem {ks : List L} {x y : L} : y ∈ addK ks x ↔ y ∈ ks ∨ y = x := by
 unfold addK
 split
 · rename_i h
   rw [List.contains_iff_mem] at h
   exact ⟨.inl, fun h2 => h2.elim id fun e => by rw [e]; exact h⟩
 · simp
theorem foldK_mem : ∀ (vs ks : List L) (y : L), y ∈ vs.foldl addK ks ↔ y ∈ ks ∨ y ∈ vs
 | [], ks, y => by simp
 | v :: vs, ks, y => by rw [List.foldl_cons, foldK_mem vs, addK_mem, List.mem_cons, or_assoc]
theorem setL_foldK (vs : List L) : setL (vs.foldl addK []) = setL vs :=
 up_ext (setL_up _) (setL_up _) fun y => by rw [setL_mem, setL_mem, foldK_mem]; simp
theorem setL_isEmpty (vs : List L) : (setL vs).isEmpty = vs.isEmpty := by
 cases vs with
 | nil => rfl
 | cons v r =>
   cases e : setL (v :: r) with
   | nil => have := (setL_mem (v :: r) v).2 (List.mem_cons_self ..); rw [e] at this; cases this
   | cons a b => rfl
theorem fair_setL {key op : L} {vs : List L} (h : fairR key op vs = true) : fairR key op (setL vs) = true := by
 unfold fairR at h ⊢
 simp only [Bool.and_eq_true] at h ⊢
 obtain ⟨h1, h2, h3⟩ := h
 refine ⟨?_, ?_, h3⟩
 · unfold opOk at h1 ⊢
   split
   · rename_i e; rw [if_pos e] at h1; rw [setL_isEmpty]; exact h1
   · rename_i e; rw [if_neg e] at h1
     split
     · rename_i e; rw [if_pos e] at h1
       match vs, h1 with
       | [x], _ => rfl
     · rename_i e; rw [if_neg e] at h1
       split
       · rename_i e; rw [if_pos e] at h1
         match vs, h1 with
         | [], _ => rfl
       · rename_i e; rw [if_neg e] at h1
         split
         · rename_i e; rw [if_pos e] at h1
           match vs, h1 with
           | [x], h => exact h
         · rename_i e; rw [if_neg e] at h1; exact h1
 · rw [List.all_eq_true] at h2 ⊢
   exact fun x hx => h2 x ((setL_mem vs x).1 hx)
theorem pIds_toks : ∀ (r : List L) (v : L) (ks : List L) (m : Nat) (rest : List Tk), isWord v = true → (∀ x ∈ r, isWord x = true) → 2 * r.length + 1 ≤ m →
   pIds m ((kW v, v) :: (r.flatMap (fun s => [(3, [44]), (kW s, s)]) ++ (2, [41]) :: rest)) ks = some ((v :: r).foldl addK ks, (2, [41]) :: rest)
 | [], v, ks, m + 1, rest, hv, hr, hm => by
   unfold pIds
   rw [if_pos (kW_vk hv)]
   rfl
 | s :: r, v, ks, m + 2, rest, hv, hr, hm => by
   have hs := hr s (List.mem_cons_self ..)
   have ih := pIds_toks r s (addK ks v) m rest hs (fun x hx => hr x (List.mem_cons_of_mem _ hx)) (by simp only [List.length_cons] at hm; omega)
   have h1 : pIds (m + 1) ((3, [44]) :: (kW s, s) :: (r.flatMap (fun s => [((3 : Nat), ([44] : L)), (kW s, s)]) ++ (2, [41]) :: rest)) (addK ks v) = pIds m ((kW s, s) :: (r.flatMap (fun s => [((3 : Nat), ([44] : L)), (kW s, s)]) ++ (2, [41]) :: rest)) (addK ks v) := by
    conv => lhs; unfold pIds
    rw [if_neg (by decide), if_pos (by decide)]
    simp only [kW_vk hs]
    rw [if_neg (by decide), if_neg (by decide), if_neg (addK_ne ks v)]
   have h2 : pIds (m + 2) ((kW v, v) :: ((s :: r).flatMap (fun s => [((3 : Nat), ([44] : L)), (kW s, s)]) ++ (2, [41]) :: rest)) ks = pIds (m + 1) ((3, [44]) :: (kW s, s) :: (r.flatMap (fun s => [((3 : Nat), ([44] : L)), (kW s, s)]) ++ (2, [41]) :: rest)) (addK ks v) := by
    conv => lhs; unfold pIds
    rw [if_pos (kW_vk hv)]
    rfl
   rw [h2, h1, ih]
   rfl
theorem pVals_toks {vs : List L} (hn : vs ≠ []) (hw : ∀ x ∈ vs, isWord x = true) (rest : List Tk) : pVals ((13, [40]) :: (tkV vs ++ (2, [41]) :: rest)) = some (vs.foldl addK [], rest) := by
 cases vs with
 | nil => exact absurd rfl hn
 | cons v r =>
   have hv := hw v (List.mem_cons_self ..)
   have h := pIds_toks r v [] ((kW v, v) :: (r.flatMap (fun s => [((3 : Nat), ([44] : L)), (kW s, s)]) ++ (2, [41]) :: rest)).length rest hv (fun x hx => hw x (List.mem_cons_of_mem _ hx)) (by
    have e : ∀ r : List L, (r.flatMap (fun s => [((3 : Nat), ([44] : L)), (kW s, s)])).length = 2 * r.length := fun r => by
     induction r with
     | nil => rfl
     | cons s r ih => rw [List.flatMap_cons, List.length_append, ih, List.length_cons]; simp; omega
    rw [List.length_cons, List.length_append, e]; omega)
   unfold pVals
   dsimp only
   rw [if_pos (by decide)]
   show (if vk (kW v) = 8 ∨ vk (kW v) = 3 then _ else _) = _
   rw [if_pos (.inl (kW_vk hv))]
   show (match pIds ((kW v, v) :: (r.flatMap (fun s => [((3 : Nat), ([44] : L)), (kW s, s)]) ++ (2, [41]) :: rest)).length ((kW v, v) :: (r.flatMap (fun s => [((3 : Nat), ([44] : L)), (kW s, s)]) ++ (2, [41]) :: rest)) [] with
     | some (ks, (k3, _) :: ts3) => if vk k3 = 2 then some (ks, ts3) else none
     | _ => none) = _
   rw [h]
   rfl
theorem pOne_toks {x : L} (hx : isWord x = true) (rest : List Tk) : pOne ((kW x, x) :: rest) = some ([x], rest) := by
 unfold pOne
 dsimp only
 rw [kW_vk hx]
 rfl
theorem pKey_word {key : L} (hk : isWord key = true) (hq : pQ key = true) (ts : List Tk) : pKey ((kW key, key) :: ts) = some (key, if ePos ts then [101, 120, 105, 115, 116, 115] else [], ts) := by
 unfold pKey
 dsimp only
 rw [kW_vk hk, hq]
 rfl
theorem pOp_toks {op : L} (ho : oIn op ∨ op = [61] ∨ op = [61, 61] ∨ op = [33, 61]) (ts : List Tk) : pOp ((kW op, op) :: ts) = some (op, ts) := by
 rcases ho with (e | e) | e | e | e <;> subst e <;> rfl
theorem pReq_toks {key op : L} {vs : List L} (hw : WordR key op vs) (hf : fairR key op vs = true) (rest : List Tk) (hr : ePos rest = true) : pReq (toksR key op vs ++ rest) = some ((key, op, setL vs), rest) := by
 have hk := hw.k
 have hfs := fair_setL hf
 have hq : pQ key = true := by unfold fairR at hf; simp only [Bool.and_eq_true] at hf; exact hf.2.2
 have h0 : op = [33] ∨ op = [101, 120, 105, 115, 116, 115] → vs = [] := fun h => by
  unfold fairR at hf; simp only [Bool.and_eq_true] at hf
  have h1 := hf.1
  rcases h with h | h <;> subst h <;> (unfold opOk at h1; rw [if_neg (by decide), if_neg (by decide), if_pos (by decide)] at h1; simpa using h1)
 rcases hw.o with e | e | e | e
 · obtain rfl := h0 (.inl e)
   subst e
   show (match pKey ((4, [33]) :: (kW key, key) :: rest) with | none => none | some (key, op, ts1) => _) = _
   have : pKey ((4, [33]) :: (kW key, key) :: rest) = some (key, [33], rest) := by
    unfold pKey
    dsimp only
    rw [if_pos (by decide)]
    simp only [kW_vk hk, hq, if_true]
   rw [this]
   show (if ([33] : L) = [] then _ else if fairR key [33] [] = true then some ((key, [33], []), rest) else none) = _
   rw [if_neg (by decide), if_pos hf]
   rfl
 · obtain rfl := h0 (.inr e)
   subst e
   show (match pKey ((kW key, key) :: rest) with | none => none | some (key, op, ts1) => _) = _
   rw [pKey_word hk hq, hr]
   show (if ([101, 120, 105, 115, 116, 115] : L) = [] then _ else if fairR key [101, 120, 105, 115, 116, 115] [] = true then some ((key, [101, 120, 105, 115, 116, 115], []), rest) else none) = _
   rw [if_neg (by decide), if_pos hf]
   rfl
 · have et : toksR key op vs ++ rest = (kW key, key) :: (kW op, op) :: (13, [40]) :: (tkV vs ++ (2, [41]) :: rest) := by
    unfold toksR
    rw [if_neg (by rcases e with e | e <;> subst e <;> decide), if_neg (by rcases e with e | e <;> subst e <;> decide), if_pos e]
    simp
   have he : ePos ((kW op, op) :: (13, [40]) :: (tkV vs ++ (2, [41]) :: rest)) = false := by
    show (vk (kW op) = 1 || vk (kW op) = 3 : Bool) = false
    rw [kW_vk (isWord_in e)]; rfl
   rw [et]
   unfold pReq
   rw [pKey_word hk hq, he]
   show (if ([] : L) = [] then (match pOp ((kW op, op) :: (13, [40]) :: (tkV vs ++ (2, [41]) :: rest)) with | none => none | some (op, ts2) => _) else _) = _
   rw [if_pos rfl, pOp_toks (.inl e)]
   show (match (if oIn op then pVals ((13, [40]) :: (tkV vs ++ (2, [41]) :: rest)) else pOne _) with | none => none | some (ks, ts3) => if fairR key op (setL ks) then some ((key, op, setL ks), ts3) else none) = _
   rw [if_pos e, pVals_toks (hw.m e) hw.v]
   show (if fairR key op (setL (vs.foldl addK [])) then some ((key, op, setL (vs.foldl addK [])), rest) else none) = _
   rw [setL_foldK, if_pos hfs]
 · obtain ⟨x, rfl⟩ := hw.n e
   have hx := hw.v x (List.mem_cons_self ..)
   have key_ : ∀ k s, (kW key, key) :: (k, s) :: (kW x, x) :: rest = toksR key op [x] ++ rest → vk k ≠ 1 → vk k ≠ 3 → opT k = some op → ¬ oIn op → pReq (toksR key op [x] ++ rest) = some ((key, op, setL [x]), rest) := fun k s e1 h1 h3 ho hn => by
    rw [← e1]
    have he : ePos ((k, s) :: (kW x, x) :: rest) = false := by
     show (decide (vk k = 1) || decide (vk k = 3) : Bool) = false
     simp [h1, h3]
    unfold pReq
    rw [pKey_word hk hq, he]
    have hop : pOp ((k, s) :: (kW x, x) :: rest) = some (op, (kW x, x) :: rest) := by
     show (opT k).map _ = _
     rw [ho]; rfl
    show (if ([] : L) = [] then (match pOp ((k, s) :: (kW x, x) :: rest) with | none => none | some (op, ts2) => _) else _) = _
    rw [if_pos rfl, hop]
    show (match (if oIn op then pVals ((kW x, x) :: rest) else pOne ((kW x, x) :: rest)) with | none => none | some (ks, ts3) => if fairR key op (setL ks) then some ((key, op, setL ks), ts3) else none) = _
    rw [if_neg hn, pOne_toks hx]
    show (if fairR key op (setL [x]) then some ((key, op, setL [x]), rest) else none) = _
    rw [if_pos hfs]
   rcases e with e | e | e | e | e
   · subst e; exact key_ 7 [62] rfl (by decide) (by decide) rfl (by decide)
   · subst e; exact key_ 10 [60] rfl (by decide) (by decide) rfl (by decide)
   · subst e; exact key_ 6 [61] rfl (by decide) (by decide) rfl (by decide)
   · subst e; exact key_ 5 [61, 61] rfl (by decide) (by decide) rfl (by decide)
   · subst e; exact key_ 11 [33, 61] rfl (by decide) (by decide) rfl (by decide)
theorem toksR_head {key op : L} {vs : List L} (hw : WordR key op vs) : ∃ k s t, toksR key op vs = (k, s) :: t ∧ (vk k = 8 ∨ vk k = 4) := by
 unfold toksR
 split
 · exact ⟨4, [33], _, rfl, .inr (by decide)⟩
 repeat (first | exact ⟨_, _, _, rfl, .inl (kW_vk hw.k)⟩ | split)
def FairW (r : Rq) : Prop := WordR r.1 r.2.1 r.2.2 ∧ fairR r.1 r.2.1 r.2.2 = true
abbrev setR (r : Rq) : Rq := (r.1, r.2.1, setL r.2.2)
theorem pAll_toks : ∀ (l : List Rq) (m : Nat), (∀ r ∈ l, FairW r) → l.length + 1 ≤ m → pAll m (toksAll l ++ [(1, [])]) = some (l.map setR)
 | [], m + 1, _, _ => rfl
 | [r], m + 1, hw, hm => by
   obtain ⟨h1, h2⟩ := hw r (List.mem_cons_self ..)
   obtain ⟨k, s, t, ht, hk⟩ := toksR_head h1
   have hp := pReq_toks h1 h2 [(1, [])] rfl
   rw [ht] at hp
   have e0 : toksAll [r] ++ [(1, [])] = (k, s) :: (t ++ [(1, [])]) := by
    show (toksR r.1 r.2.1 r.2.2 ++ []) ++ _ = _
    rw [ht]; simp
   rw [e0]
   unfold pAll
   rw [if_pos hk]
   rw [← List.cons_append, hp]
   rfl
 | r :: r2 :: l, m + 1, hw, hm => by
   obtain ⟨h1, h2⟩ := hw r (List.mem_cons_self ..)
   obtain ⟨g1, g2⟩ := hw r2 (List.mem_cons_of_mem _ (List.mem_cons_self ..))
   have ih := pAll_toks (r2 :: l) m (fun x hx => hw x (List.mem_cons_of_mem _ hx)) (by simp only [List.length_cons] at hm ⊢; omega)
   obtain ⟨k, s, t, ht, hk⟩ := toksR_head h1
   obtain ⟨k2, s2, t2, ht2, hk2⟩ := toksR_head g1
   have e1 : toksAll (r2 :: l) ++ [(1, [])] = (k2, s2) :: (t2 ++ (l.flatMap tkF) ++ [(1, [])]) := by
    show (toksR r2.1 r2.2.1 r2.2.2 ++ _) ++ _ = _
    rw [ht2]; simp
   have hp := pReq_toks h1 h2 ((3, [44]) :: (toksAll (r2 :: l) ++ [(1, [])])) rfl
   have e0 : toksAll (r :: r2 :: l) ++ [(1, [])] = (k, s) :: (t ++ (3, [44]) :: (toksAll (r2 :: l) ++ [(1, [])])) := by
    show (toksR r.1 r.2.1 r.2.2 ++ ((3, [44]) :: toksR r2.1 r2.2.1 r2.2.2 ++ l.flatMap _)) ++ _ = _
    rw [ht]
    show _ = (k, s) :: (t ++ (3, [44]) :: ((toksR r2.1 r2.2.1 r2.2.2 ++ _) ++ _))
    simp
   rw [ht, List.cons_append] at hp
   rw [e0]
   unfold pAll
   try dsimp only
   rw [if_pos hk, hp]
   try dsimp only
   rw [if_neg (by decide), if_pos (by decide), e1]
   try dsimp only
   rw [if_pos hk2, ← e1, ih]
   rfl
end Go.Proofs.YthfjolafikgpoaaGreatDoor.Hand
