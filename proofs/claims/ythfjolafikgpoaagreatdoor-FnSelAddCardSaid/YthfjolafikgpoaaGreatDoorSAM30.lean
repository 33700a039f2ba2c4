/- Requirements as text: all of them; sizes; words out of names and values that may be. No program in sight. -/
import Derived.Test.YthfjolafikgpoaaGreatDoorSAM29
import Derived.Test.YthfjolafikgpoaaGreatDoorSASpWords
import Derived.Test.YthfjolafikgpoaaGreatDoorSAM23
import Derived.Test.YthfjolafikgpoaaGreatDoorSAGParB
namespace Go.Proofs.YthfjolafikgpoaaGreatDoor.Hand
open Go.RowKit Go.Proofs.YthfjolafikgpoaaGreatDoor.Base
set_option linter.unusedVariables false
set_option linter.unusedSimpArgs false
set_option maxRecDepth 100000
theorem okLw_pcs : ∀ l : List Rq, (∀ r ∈ l, WordR r.1 r.2.1 r.2.2) → okP (l.flatMap pcwF) = true ∧ safeP (l.flatMap pcwF) = true ∧
   tokP (l.flatMap pcwF) = l.flatMap tkF
 | [], _ => ⟨rfl, rfl, rfl⟩
 | r :: l, hw => by
   obtain ⟨h1, h2, h3⟩ := okLw_pcs l (fun x hx => hw x (List.mem_cons_of_mem _ hx))
   obtain ⟨a, b⟩ := okRw_pcs (ps := (l.flatMap pcwF)) (hw r (List.mem_cons_self ..)) h1 h2
   have e : ((r :: l).flatMap pcwF) = .str [44] :: (pcwR r.1 r.2.1 r.2.2 ++ (l.flatMap pcwF)) := by
    rw [List.flatMap_cons]; rfl
   rw [e]
   refine ⟨by rw [okP_comma]; exact a, safe_comma, ?_⟩
   rw [tokP_comma, b, h3, List.flatMap_cons]; rfl
theorem okAllw_pcs : ∀ l : List Rq, (∀ r ∈ l, WordR r.1 r.2.1 r.2.2) → okP (pcwAll l) = true ∧ tokP (pcwAll l) = toksAll l
 | [], _ => ⟨rfl, rfl⟩
 | r :: l, hw => by
   obtain ⟨h1, h2, h3⟩ := okLw_pcs l (fun x hx => hw x (List.mem_cons_of_mem _ hx))
   obtain ⟨a, b⟩ := okRw_pcs (ps := (l.flatMap pcwF)) (hw r (List.mem_cons_self ..)) h1 h2
   exact ⟨a, by show tokP (pcwR r.1 r.2.1 r.2.2 ++ l.flatMap pcwF) = _; rw [b, h3]; rfl⟩
def szP : List Pc → Nat
 | [] => 0
 | .gap :: ps => 2 + szP ps
 | .str p :: ps => p.length + szP ps
theorem szP_app (a b : List Pc) : szP (a ++ b) = szP a + szP b := by
 induction a with
 | nil => simp [szP]
 | cons p a ih => cases p with
   | gap => show 2 + szP (a ++ b) = _; rw [ih, szP]; omega
   | str q => show q.length + szP (a ++ b) = _; rw [ih, szP]; omega
theorem gapL_len (cs : L) : (gapL cs).length ≤ 2 := by
 cases cs with
 | nil => exact Nat.zero_le _
 | cons c r =>
   show (blankL c).length ≤ 2
   unfold blankL
   repeat (first | decide | split)
theorem out_sz : ∀ (ps : List Pc) (cs : L), (outL ps cs).length ≤ szP ps
 | [], _ => Nat.zero_le _
 | .gap :: ps, cs => by
   have := out_sz ps cs.tail
   have := gapL_len cs
   show (gapL cs ++ outL ps cs.tail).length ≤ 2 + szP ps
   rw [List.length_append]; omega
 | .str p :: ps, cs => by
   have := out_sz ps cs
   show (p ++ outL ps cs).length ≤ p.length + szP ps
   rw [List.length_append]; omega
def nz (p : L) : Bool := p.all fun c => !(c == 0)
def nzP : List Pc → Bool
 | [] => true
 | .gap :: ps => nzP ps
 | .str p :: ps => nz p && nzP ps
theorem nzP_app (a b : List Pc) : nzP (a ++ b) = (nzP a && nzP b) := by
 induction a with
 | nil => rfl
 | cons p a ih => cases p with
   | gap => exact ih
   | str q => show (nz q && nzP (a ++ b)) = ((nz q && nzP a) && nzP b); rw [ih, Bool.and_assoc]
theorem out_nz : ∀ (ps : List Pc) (cs : L), nzP ps = true → ∀ b ∈ outL ps cs, b ≠ 0
 | [], _, _, b, hb => by cases hb
 | .gap :: ps, cs, h, b, hb => by
   rcases List.mem_append.1 hb with hb | hb
   · intro e; subst e
     have := List.all_eq_true.1 (gapL_ws cs) 0 hb
     cases this
   · exact out_nz ps cs.tail h b hb
 | .str p :: ps, cs, h, b, hb => by
   have h : (nz p && nzP ps) = true := h
   simp only [Bool.and_eq_true] at h
   rcases List.mem_append.1 hb with hb | hb
   · have := List.all_eq_true.1 h.1 b hb
     intro e; subst e; cases this
   · exact out_nz ps cs h.2 b hb
def totL (vs : List L) : Nat := (vs.map (·.length)).sum
theorem sz_valsF (f : L → List Pc) (n : Nat) (hf : ∀ s, szP (f s) = s.length + n) : ∀ r : List L, szP (r.flatMap f) = totL r + n * r.length
 | [] => rfl
 | v :: r => by
   rw [List.flatMap_cons, szP_app, hf, sz_valsF f n hf r, List.length_cons, Nat.mul_add]
   show _ = v.length + totL r + _
   omega
theorem sz_valsw (vs : List L) : szP (pcwV vs) ≤ totL vs + vs.length := by
 cases vs with
 | nil => exact Nat.zero_le _
 | cons v r =>
   show v.length + szP (r.flatMap _) ≤ (v.length + totL r) + _
   rw [sz_valsF _ 1 (fun s => by show 1 + (s.length + 0) = _; omega) r, List.length_cons]; omega
theorem headD_len (vs : List L) : (vs.headD []).length ≤ totL vs := by
 cases vs with
 | nil => exact Nat.zero_le _
 | cons v r => show v.length ≤ v.length + totL r; omega
theorem op_len {key op : L} {vs : List L} (hw : WordR key op vs) : op.length ≤ 6 := by
 rcases hw.o with e | e | (e | e) | e | e | e | e | e <;> subst e <;> decide
theorem sz_reqw {key op : L} {vs : List L} (hw : WordR key op vs) : szP (pcwR key op vs) ≤ key.length + totL vs + vs.length + 10 := by
 have h1 := headD_len vs
 have h2 := sz_valsw vs
 have h3 := op_len hw
 unfold pcwR
 split
 · show 1 + (key.length + 0) ≤ _; omega
 split
 · show key.length + 0 ≤ _; omega
 split
 · rw [szP_app, szP_app]
   show key.length + (1 + (op.length + (1 + (1 + 0)))) + (szP (pcwV vs) + (1 + 0)) ≤ _
   omega
 split
 · show key.length + (1 + ((vs.headD []).length + 0)) ≤ _; omega
 split
 · show key.length + (1 + ((vs.headD []).length + 0)) ≤ _; omega
 · show key.length + (op.length + ((vs.headD []).length + 0)) ≤ _; omega
def totR (l : List Rq) : Nat := (l.map fun r => r.1.length + totL r.2.2).sum
theorem sz_flatw (l : List Rq) (hw : ∀ r ∈ l, WordR r.1 r.2.1 r.2.2) (h5 : ∀ r ∈ l, r.2.2.length ≤ 5) : szP (l.flatMap pcwF) ≤ totR l + 16 * l.length := by
 induction l with
 | nil => exact Nat.zero_le _
 | cons r l ih =>
   have h1 := ih (fun x hx => hw x (List.mem_cons_of_mem _ hx)) (fun x hx => h5 x (List.mem_cons_of_mem _ hx))
   have h2 := sz_reqw (hw r (List.mem_cons_self ..))
   have h3 := h5 r (List.mem_cons_self ..)
   rw [List.flatMap_cons, szP_app]
   show 1 + szP (pcwR r.1 r.2.1 r.2.2) + _ ≤ (r.1.length + totL r.2.2 + totR l) + _
   rw [List.length_cons]
   omega
theorem sz_allw (l : List Rq) (hw : ∀ r ∈ l, WordR r.1 r.2.1 r.2.2) (h5 : ∀ r ∈ l, r.2.2.length ≤ 5) : szP (pcwAll l) ≤ totR l + 16 * l.length := by
 cases l with
 | nil => exact Nat.zero_le _
 | cons r l =>
   have h1 := sz_flatw l (fun x hx => hw x (List.mem_cons_of_mem _ hx)) (fun x hx => h5 x (List.mem_cons_of_mem _ hx))
   have h2 := sz_reqw (hw r (List.mem_cons_self ..))
   have h3 := h5 r (List.mem_cons_self ..)
   show szP (pcwR r.1 r.2.1 r.2.2 ++ _) ≤ (r.1.length + totL r.2.2 + totR l) + _
   rw [szP_app, List.length_cons]
   omega
theorem toksV_len (vs : List L) : (tkV vs).length ≤ 2 * vs.length := by
 cases vs with
 | nil => exact Nat.zero_le _
 | cons v r =>
   have e : ∀ r : List L, (r.flatMap (fun s => [((3 : Nat), ([44] : L)), (kW s, s)])).length = 2 * r.length := fun r => by
    induction r with
    | nil => rfl
    | cons s r ih => rw [List.flatMap_cons, List.length_append, ih, List.length_cons]; simp; omega
   show (r.flatMap _).length + 1 ≤ _
   rw [e, List.length_cons]; omega
theorem toksR_len (key op : L) (vs : List L) : (toksR key op vs).length ≤ 2 * vs.length + 4 := by
 have := toksV_len vs
 unfold toksR
 split
 · simp
 split
 · simp
 split
 · simp only [List.length_cons, List.length_append, List.length_nil]; omega
 split
 · simp
 split
 · simp
 · simp
theorem toksAll_len (l : List Rq) (h5 : ∀ r ∈ l, r.2.2.length ≤ 5) : (toksAll l).length ≤ 15 * l.length := by
 have h : ∀ l : List Rq, (∀ r ∈ l, r.2.2.length ≤ 5) → (l.flatMap tkF).length ≤ 15 * l.length := by
  intro l
  induction l with
  | nil => intro _; exact Nat.zero_le _
  | cons r l ih =>
    intro h
    have h1 := ih (fun x hx => h x (List.mem_cons_of_mem _ hx))
    have h2 := toksR_len r.1 r.2.1 r.2.2
    have h3 := h r (List.mem_cons_self ..)
    rw [List.flatMap_cons, List.length_append, show (tkF r).length = (toksR r.1 r.2.1 r.2.2).length + 1 from rfl, List.length_cons]; omega
 cases l with
 | nil => exact Nat.zero_le _
 | cons r l =>
   have h1 := h l (fun x hx => h5 x (List.mem_cons_of_mem _ hx))
   have h2 := toksR_len r.1 r.2.1 r.2.2
   have h3 := h5 r (List.mem_cons_self ..)
   show (toksR r.1 r.2.1 r.2.2 ++ _).length ≤ _
   rw [List.length_append, List.length_cons]; omega
def nmB (c : UInt8) : Bool := alnum c || (c == 45 || (c == 95 || (c == 46 || c == 47)))
theorem pieces_all (P : UInt8 → Bool) (c : UInt8) (hc : P c = true) : ∀ x : L, (∀ p ∈ pieces c x, p.all P = true) → x.all P = true
 | [], _ => rfl
 | b :: t, h => by
   unfold pieces at h
   by_cases e : b = c
   · rw [if_pos e] at h
     rw [List.all_cons, e, hc, Bool.true_and]
     exact pieces_all P c hc t fun p hp => h p (List.mem_cons_of_mem _ hp)
   · rw [if_neg e] at h
     have hne := pieces_ne c t
     rcases hp : pieces c t with _ | ⟨q, r⟩
     · exact absurd hp hne
     · rw [hp] at h
       have h1 := h (b :: q) (List.mem_cons_self ..)
       simp only [List.all_cons, Bool.and_eq_true] at h1 ⊢
       refine ⟨h1.1, pieces_all P c hc t fun p hp2 => ?_⟩
       rw [hp] at hp2
       rcases List.mem_cons.1 hp2 with e2 | hp2
       · rw [e2]; exact h1.2
       · exact h p (List.mem_cons_of_mem _ hp2)
theorem all_imp {P Q : UInt8 → Bool} (h : ∀ c, P c = true → Q c = true) {x : L} (hx : x.all P = true) : x.all Q = true :=
 List.all_eq_true.2 fun c hc => h c (List.all_eq_true.1 hx c hc)
theorem small_nmB (c : UInt8) (h : small c = true) : nmB c = true := by unfold nmB alnum; simp [h]
theorem endsF_bytes {p : UInt8 → Bool} {set x : L} (h : endsF p set x = true) : x.all (fun c => p c || inSet c set) = true := by
 unfold endsF allF at h
 simp only [Bool.and_eq_true] at h
 exact h.1.1
theorem pValue_all {x : L} (h : pValue x = true) : x.all nmB = true := by
 unfold pValue labelValue at h
 simp only [Bool.and_eq_true, Bool.or_eq_true, beq_iff_eq] at h
 rcases h.2 with e | h
 · subst e; rfl
 · refine all_imp (fun c hc => ?_) (endsF_bytes h)
   unfold nmB inSet at *
   simp only [Bool.or_eq_true, List.any_cons, List.any_nil, Bool.or_false, beq_iff_eq] at hc ⊢
   rcases hc with h | h | h | h
   · exact .inl h
   · exact .inr (.inl h.symm)
   · exact .inr (.inr (.inl h.symm))
   · exact .inr (.inr (.inr (.inl h.symm)))
theorem label_all {x : L} (h : label x = true) : x.all nmB = true := by
 refine all_imp (fun c hc => ?_) (endsF_bytes h)
 simp only [Bool.or_eq_true] at hc
 rcases hc with h | h
 · exact small_nmB c h
 · unfold inSet at h; simp only [List.any_cons, List.any_nil, Bool.or_false, beq_iff_eq] at h
   subst h; rfl
theorem sub_all {x : L} (h : sub x = true) : x.all nmB = true :=
 pieces_all nmB 46 rfl x fun p hp => label_all (List.all_eq_true.1 h p hp)
theorem pName_all {x : L} (h : pName x = true) : x.all nmB = true := by
 unfold pName at h; simp only [Bool.and_eq_true] at h; exact pValue_all h.2
theorem pQ_all {x : L} (h : pQ x = true) : x.all nmB = true ∧ x ≠ [] := by
 refine ⟨pieces_all nmB 47 rfl x fun p hp => ?_, fun e => by subst e; cases h⟩
 unfold pQ at h
 split at h
 · rename_i n e; rw [e] at hp; rw [List.mem_singleton.1 hp]; exact pName_all h
 · rename_i q n e
   simp only [Bool.and_eq_true] at h
   rw [e] at hp
   rcases List.mem_cons.1 hp with hp | hp
   · rw [hp]; exact sub_all h.1.2
   · rw [List.mem_singleton.1 hp]; exact pName_all h.2
 · cases h
theorem nmB_wd {c : UInt8} (h : nmB c = true) : isWd c = true ∧ c ≠ 0 := by
 refine ⟨?_, fun e => by subst e; cases h⟩
 by_cases hw : isWd c = true
 · exact hw
 · exfalso
   unfold isWd at hw
   simp only [Bool.not_eq_true', Bool.or_eq_false_iff, not_and, Bool.not_eq_false] at hw
   by_cases hs : isSp c = true
   · rcases sp_byte hs with e | e | e | e | e | e | e <;> subst e <;> cases h
   · have := hw (by simpa using hs)
     unfold isWs at this
     simp only [Bool.or_eq_true, beq_iff_eq] at this
     rcases this with ((e | e) | e) | e <;> subst e <;> cases h
theorem nmB_word {x : L} (h : x.all nmB = true) (hn : x ≠ []) : isWord x = true ∧ nz x = true := by
 unfold isWord nz
 refine ⟨?_, all_imp (fun c hc => by simpa using (nmB_wd hc).2) h⟩
 simp only [Bool.and_eq_true, Bool.not_eq_true', beq_eq_false_iff_ne]
 exact ⟨hn, all_imp (fun c hc => (nmB_wd hc).1) h⟩
theorem fair_words {key op : L} {vs : List L} (h : fairR key op vs = true) (hn : ∀ v ∈ vs, v ≠ []) : WordR key op vs ∧ nz key = true ∧ (∀ v ∈ vs, nz v = true) := by
 have h0 := h
 unfold fairR at h
 simp only [Bool.and_eq_true] at h
 obtain ⟨h1, h2, h3⟩ := h
 obtain ⟨a, b⟩ := pQ_all h3
 have hv : ∀ v ∈ vs, isWord v = true ∧ nz v = true := fun v hv => nmB_word (pValue_all (List.all_eq_true.1 h2 v hv)) (hn v hv)
 refine ⟨⟨(nmB_word a b).1, fun v h => (hv v h).1, ?_, ?_, ?_⟩, (nmB_word a b).2, fun v h => (hv v h).2⟩
 · unfold opOk at h1
   split at h1
   · rename_i e; exact .inr (.inr (.inl e))
   split at h1
   · rename_i e; rcases e with e | e | e
     · exact .inr (.inr (.inr (.inr (.inr (.inl e)))))
     · exact .inr (.inr (.inr (.inr (.inr (.inr (.inl e))))))
     · exact .inr (.inr (.inr (.inr (.inr (.inr (.inr e))))))
   split at h1
   · rename_i e; rcases e with e | e
     · exact .inr (.inl e)
     · exact .inl e
   split at h1
   · rename_i e; rcases e with e | e
     · exact .inr (.inr (.inr (.inl e)))
     · exact .inr (.inr (.inr (.inr (.inl e))))
   · cases h1
 · intro e
   rcases e with e | e | e | e | e <;> subst e
   · unfold opOk at h1
     rw [if_neg (by decide), if_neg (by decide), if_neg (by decide), if_pos (by decide)] at h1
     match vs, h1 with
     | [x], _ => exact ⟨x, rfl⟩
   · unfold opOk at h1
     rw [if_neg (by decide), if_neg (by decide), if_neg (by decide), if_pos (by decide)] at h1
     match vs, h1 with
     | [x], _ => exact ⟨x, rfl⟩
   all_goals
     unfold opOk at h1
     rw [if_neg (by decide), if_pos (by decide)] at h1
     match vs, h1 with
     | [x], _ => exact ⟨x, rfl⟩
 · intro e hv; subst hv
   unfold opOk at h1
   rw [if_pos e] at h1
   cases h1
theorem nz_vals (f : L → List Pc) (hf : ∀ s, nz s = true → nzP (f s) = true) : ∀ r : List L, (∀ v ∈ r, nz v = true) → nzP (r.flatMap f) = true
 | [], _ => rfl
 | v :: r, h => by rw [List.flatMap_cons, nzP_app, hf v (h v (List.mem_cons_self ..)), nz_vals f hf r (fun x hx => h x (List.mem_cons_of_mem _ hx))]; rfl
theorem nz_pcsV {vs : List L} (h : ∀ v ∈ vs, nz v = true) : nzP (pcsV vs) = true := by
 cases vs with
 | nil => rfl
 | cons v r =>
   show (nz v && nzP (r.flatMap _)) = true
   rw [h v (List.mem_cons_self ..), nz_vals _ (fun s hs => by show (true && (nz s && true)) = true; rw [hs]; rfl) r (fun x hx => h x (List.mem_cons_of_mem _ hx))]; rfl
theorem nz_pcwV {vs : List L} (h : ∀ v ∈ vs, nz v = true) : nzP (pcwV vs) = true := by
 cases vs with
 | nil => rfl
 | cons v r =>
   show (nz v && nzP (r.flatMap _)) = true
   rw [h v (List.mem_cons_self ..), nz_vals _ (fun s hs => by show (true && (nz s && true)) = true; rw [hs]; rfl) r (fun x hx => h x (List.mem_cons_of_mem _ hx))]; rfl
theorem nz_headD {vs : List L} (h : ∀ v ∈ vs, nz v = true) : nz (vs.headD []) = true := by
 cases vs with
 | nil => rfl
 | cons v r => exact h v (List.mem_cons_self ..)
theorem nz_pcsR {key op : L} {vs : List L} (hk : nz key = true) (ho : nz op = true) (h : ∀ v ∈ vs, nz v = true) : nzP (pcsR key op vs) = true := by
 have h1 := nz_headD h
 have h2 := nz_pcsV h
 unfold pcsR
 split
 · show (true && (nz key && true)) = true; rw [hk]; rfl
 split
 · show (nz key && true) = true; rw [hk]; rfl
 split
 · rw [nzP_app, nzP_app, h2]
   show ((nz key && (true && (nz op && (true && true)))) && (true && (true && true))) = true; rw [hk, ho]; rfl
 split
 · show (nz key && (true && (nz (vs.headD []) && true))) = true; rw [hk, h1]; rfl
 split
 · show (nz key && (true && (nz (vs.headD []) && true))) = true; rw [hk, h1]; rfl
 · show (nz key && (nz op && (nz (vs.headD []) && true))) = true; rw [hk, ho, h1]; rfl
theorem nz_pcwR {key op : L} {vs : List L} (hk : nz key = true) (ho : nz op = true) (h : ∀ v ∈ vs, nz v = true) : nzP (pcwR key op vs) = true := by
 have h1 := nz_headD h
 have h2 := nz_pcwV h
 unfold pcwR
 split
 · show (true && (nz key && true)) = true; rw [hk]; rfl
 split
 · show (nz key && true) = true; rw [hk]; rfl
 split
 · rw [nzP_app, nzP_app, h2]
   show ((nz key && (true && (nz op && (true && (true && true))))) && (true && (true && true))) = true; rw [hk, ho]; rfl
 split
 · show (nz key && (true && (nz (vs.headD []) && true))) = true; rw [hk, h1]; rfl
 split
 · show (nz key && (true && (nz (vs.headD []) && true))) = true; rw [hk, h1]; rfl
 · show (nz key && (nz op && (nz (vs.headD []) && true))) = true; rw [hk, ho, h1]; rfl
theorem op_nz {key op : L} {vs : List L} (hw : WordR key op vs) : nz op = true := by
 rcases hw.o with e | e | (e | e) | e | e | e | e | e <;> subst e <;> decide
theorem nz_all (l : List Rq) (h : ∀ r ∈ l, nz r.1 = true ∧ nz r.2.1 = true ∧ ∀ v ∈ r.2.2, nz v = true) : nzP (pcsAll l) = true ∧ nzP (pcwAll l) = true := by
 have h1 : ∀ l : List Rq, (∀ r ∈ l, nz r.1 = true ∧ nz r.2.1 = true ∧ ∀ v ∈ r.2.2, nz v = true) → nzP (l.flatMap pcF) = true ∧ nzP (l.flatMap pcwF) = true := by
  intro l
  induction l with
  | nil => intro _; exact ⟨rfl, rfl⟩
  | cons r l ih =>
    intro h
    obtain ⟨a, b⟩ := ih (fun x hx => h x (List.mem_cons_of_mem _ hx))
    obtain ⟨h1, h2, h3⟩ := h r (List.mem_cons_self ..)
    rw [List.flatMap_cons, List.flatMap_cons, nzP_app, nzP_app, a, b]
    constructor
    · show ((true && nzP (pcsR r.1 r.2.1 r.2.2 ++ [.gap])) && true) = true
      rw [nzP_app, nz_pcsR h1 h2 h3]; rfl
    · show ((true && nzP (pcwR r.1 r.2.1 r.2.2)) && true) = true
      rw [nz_pcwR h1 h2 h3]; rfl
 cases l with
 | nil => exact ⟨rfl, rfl⟩
 | cons r l =>
   obtain ⟨a, b⟩ := h1 l (fun x hx => h x (List.mem_cons_of_mem _ hx))
   obtain ⟨h1, h2, h3⟩ := h r (List.mem_cons_self ..)
   constructor
   · show nzP (pcsR r.1 r.2.1 r.2.2 ++ _) = true
     rw [nzP_app, nz_pcsR h1 h2 h3]; exact a
   · show nzP (pcwR r.1 r.2.1 r.2.2 ++ _) = true
     rw [nzP_app, nz_pcwR h1 h2 h3]; exact b
theorem words_t {l : List Rq} {m : Nat} (h : wordsN l m = true) : l.length ≤ m ∧ totB l ≤ 600 ∧ ∀ r ∈ l, reqW r = true := by
 unfold wordsN at h
 simp only [Bool.and_eq_true, decide_eq_true_eq] at h
 refine ⟨h.2.1, h.2.2, fun r hr => ?_⟩
 obtain ⟨j, hj, e⟩ := List.mem_iff_getElem.1 hr
 exact (okTo_get h.1 hj (by rw [List.getElem?_eq_getElem hj, e])).1
theorem reqW_t {r : Rq} (h : reqW r = true) : fairR r.1 r.2.1 r.2.2 = true ∧ r.2.2.length ≤ 5 ∧ (∀ v ∈ r.2.2, v ≠ []) := by
 unfold reqW reqB at h
 simp only [Bool.and_eq_true, decide_eq_true_eq] at h
 obtain ⟨h1, _, _, h5, _, h6⟩ := h
 rw [vL_mk] at h1
 refine ⟨h1, by simpa using h5, fun v hv e => ?_⟩
 have := List.all_eq_true.1 h6 (mk v) (List.mem_map.2 ⟨v, hv, rfl⟩)
 unfold okV at this
 simp only [Bool.and_eq_true, Bool.not_eq_true', mk_toList] at this
 rw [e] at this
 simp at this
theorem reqW_fair {r : Rq} (h : reqW r = true) : FairW r ∧ nz r.1 = true ∧ nz r.2.1 = true ∧ ∀ v ∈ r.2.2, nz v = true := by
 obtain ⟨h1, _, h3⟩ := reqW_t h
 obtain ⟨a, b, c⟩ := fair_words h1 h3
 exact ⟨⟨a, h1⟩, b, op_nz a, c⟩
theorem tot_totL (vs : List L) : tot (vs.map mk) = totL vs := by
 unfold tot totL
 rw [List.map_map]
 rfl
theorem totB_totR (l : List Rq) : totB l = totR l := by
 unfold totB totR
 congr 1
 refine List.map_congr_left fun r _ => ?_
 unfold szB
 rw [tot_totL, mk_size]
theorem toks_len (l : List Rq) (hw : ∀ r ∈ l, WordR r.1 r.2.1 r.2.2) : l.length ≤ (toksAll l).length := by
 have h : ∀ l : List Rq, l.length ≤ (l.flatMap tkF).length := by
  intro l
  induction l with
  | nil => exact Nat.le_refl _
  | cons r l ih => rw [List.flatMap_cons, List.length_append, List.length_cons, show (tkF r).length = (toksR r.1 r.2.1 r.2.2).length + 1 from rfl]; omega
 cases l with
 | nil => exact Nat.le_refl _
 | cons r l =>
   obtain ⟨k, s, t, e, _⟩ := toksR_head (hw r (List.mem_cons_self ..))
   have := h l
   show _ ≤ (toksR r.1 r.2.1 r.2.2 ++ l.flatMap tkF).length
   rw [List.length_append, e, List.length_cons, List.length_cons]; omega
end Go.Proofs.YthfjolafikgpoaaGreatDoor.Hand
