/- impl.pairs: a map's labels by their keys. -/
import Derived.Test.YteigfmchnblkgaaGreatDoorLOM26
import Derived.Test.YteigfmchnblkgaaGreatDoorLOM25
import Derived.Test.YteigfmchnblkgaaGreatDoorLOM18
namespace Go.Proofs.YteigfmchnblkgaaGreatDoor.Hand
open Go.RowKit Go.Maps Go.Proofs.YteigfmchnblkgaaGreatDoorW.PrintWords Go.Proofs.YteigfmchnblkgaaGreatDoorW.PrintLast Go.Proofs.YteigfmchnblkgaaGreatDoorW.PrintMore Go.Proofs.YteigfmchnblkgaaGreatDoor.Base
open Go.Sort (ltStr)
set_option linter.unusedVariables false
set_option linter.unusedSimpArgs false
set_option maxRecDepth 100000
/-- The pairs that were told so far, when the keys of left are still to come. -/
def prR (ks : List LP) (left : List L) (xs : List LP) : Prop := (xs.map (·.1)).Nodup ∧ ∀ k v, (k, v) ∈ xs ↔ (k ∉ left ∧ mget ks k = some v)
theorem prR_start (ks : List LP) : prR ks (dk ks) [] := by
  refine ⟨List.nodup_nil, fun k v => ⟨fun h => absurd h (by simp), fun ⟨h1, h2⟩ => absurd (dk_mem.2 ⟨v, h2⟩) h1⟩⟩
theorem prR_step {ks : List LP} {left : List L} {xs : List LP} {k v : L} (h : prR ks left xs) (hk : k ∈ left) (hv : mget ks k = some v) : prR ks (delK left k) (xs ++ [(k, v)]) := by
  obtain ⟨h1, h2⟩ := h
  have hnk : k ∉ xs.map (·.1) := fun hm => by
    obtain ⟨q, hq, e⟩ := List.mem_map.1 hm
    obtain ⟨qk, qv⟩ := q
    obtain rfl : qk = k := e
    exact ((h2 _ _).1 hq).1 hk
  refine ⟨?_, fun x y => ?_⟩
  · rw [List.map_append, List.nodup_append]
    refine ⟨h1, List.pairwise_singleton _ _, fun a ha b hb e => ?_⟩
    obtain rfl : b = k := by simpa using hb
    exact hnk (e ▸ ha)
  · rw [List.mem_append, List.mem_singleton, h2, delK_in]
    constructor
    · rintro (⟨a, b⟩ | e)
      · exact ⟨fun c => a c.1, b⟩
      · obtain ⟨rfl, rfl⟩ := Prod.mk.inj e
        exact ⟨fun c => c.2 rfl, hv⟩
    · rintro ⟨a, b⟩
      by_cases e : x = k
      · subst e
        rw [hv] at b
        exact .inr (by rw [Option.some.inj b])
      · exact .inl ⟨fun c => a ⟨c, e⟩, b⟩
theorem pk_all {e : Nat} {w : World} {base : Nat} {ok : Nat → Prop} {v : Value} {xs : List (ByteArray × ByteArray)} (h : PK.R e w base ok v xs) : PK.R e w base (fun _ => True) v xs := ⟨fun _ _ => trivial, encP _, pk_own h, reps_enc _⟩
set_option maxHeartbeats 8000000 in
theorem Pairs_calls (b N : Nat) (ks : List LP) (hl : (dk ks).length ≤ 1000) (w : World) (h : IsLz w b N ks) :
    Calls Tryz.prog 67 #[.map (some b)] w fun e w' => ∃ (v : Value) (xs : List LP), e = .returned v ∧ PK.R 45 w' w.heap.size (fun _ => True) v (xs.map mkP) ∧ SK xs ∧ (∀ k v, (k, v) ∈ xs ↔ mget ks k = some v) ∧ Below w.heap.size w w' := by
  have HS := Aside0.mk h
  have HL := Aside0.mk hl
  have HB0 := Aside0.mk (Below.refl w.heap.size w)
  have HSO := Aside0.mk (fun l W base v hR hn => sortF_calls l W base v hR hn)
  have HBL : Aside0 (b < w.heap.size) := ⟨h.lt⟩
  clear h hl
  go_enter Tryz.func67, Tryz.ntmps67
  go_wp2_with (first | (at_range; refine range_lab _ 91 Tryz.underlying91 rfl _ rfl b N ks rfl HS.out ?_; intro w2 hrg hg hs2; have HRG := Aside0.mk hrg; have HB2 := Aside0.mk (pw_below_grown HB0.out none (below_size HB0.out) hg (fun j hj => by cases hj)); clear hrg hg hs2))
  clear HB0 HS
  try go_frame
  go_loopg [3, 4, 5] ((dk ks).length) (fun g v3 v4 v5 w' => ∃ (left : List L) (xs : List LP), Aside0 (LzR w' b w.heap.size N g ks left ∧ left.Nodup) ∧ Aside0 (prR ks left xs ∧ xs.length + left.length = (dk ks).length) ∧ Aside0 (PK.R 45 w' w.heap.size (fun k => k ≠ w.heap.size) v3 (xs.map mkP)) ∧ Aside0 (Below w.heap.size w w'))
  case atStart => exact ⟨dk ks, [], ⟨HRG.out, dk_nodup ks⟩, ⟨prR_start ks, by simp⟩, ⟨Kd.R_nil _ _ _ _ _⟩, HB2⟩
  case round =>
    clear HRG HB2
    obtain ⟨left, xs, HRG, HP, HR, HB⟩ := hrel
    obtain ⟨A3, c3, e3⟩ := Kd.R_slice HR.out
    rw [List.length_map] at e3
    subst e3
    go_wp2_with (first | (at_next; refine next_lab _ rfl _ rfl b w.heap.size N gk ks left rfl HRG.out.1 ?_ ?_))
    · intro h0 hl0
      subst hl0
      have HSV := Aside0.mk (HSO.out xs wr w.heap.size (.slice A3 xs.length c3) (pk_all HR.out) (by have := HP.out.2; have := HL.out; simp at *; omega))
      have HRO := Aside0.mk (pk_all HR.out)
      clear h0 HRG HSO HR
      go_wp2_with (first | ((with_reducible refine (HSV.out).mono ?_); rintro e w4 ⟨rfl, l', hp, hpw, hr, hg⟩; have HB4 := Aside0.mk (pw_below_grown HB.out _ (below_size HB.out) hg (fun k hk => own_base (pk_own HRO.out) k hk)); have HR4 := Aside0.mk hr; have HPM := Aside0.mk hp; have HPW := Aside0.mk hpw; clear hp hpw hr hg HSV))
      go_ret
      refine ⟨_, l', rfl, HR4.out, sk_of_sorted HPW.out ((HPM.out.map _).nodup_iff.2 HP.out.1.1), fun k v => ?_, HB4.out⟩
      rw [HPM.out.mem_iff, HP.out.1.2]
      simp
    · intro s v w3 cnt hs hv hrg hlt hg hsz hen
      have HB3 := Aside0.mk (pw_below_grown HB.out _ (below_size HB.out) hg (fun k hk => by cases hk; exact Nat.le_refl _))
      have HN3 := Aside0.mk (delK_nodup HRG.out.2 s.data.toList)
      have hdl := delK_len HRG.out.2 s.data.toList
      rw [if_pos (List.contains_iff_mem.2 hs)] at hdl
      have HPS := Aside0.mk (prR_step HP.out.1 hs hv)
      have HNL : Aside0 ((xs ++ [(s.data.toList, v.data.toList)]).length + (delK left s.data.toList).length = (dk ks).length ∧ xs.length ≤ 1000) := ⟨by have := HP.out.2; have := HL.out; rw [List.length_append, List.length_singleton]; omega⟩
      have HR3 : Aside0 (PK.R 45 w3 w.heap.size (fun k => k ≠ w.heap.size) (.slice A3 xs.length c3) (xs.map mkP)) := ⟨Kd.R_grown HR.out hg (fun k hk e => hk (Option.some.inj e))⟩
      have HSZ : Aside0 (w.heap.size < w3.heap.size) := ⟨by obtain ⟨x, y, z, t, hi⟩ := hrg.iter; exact (Array.getElem?_eq_some_iff.1 hi).1⟩
      have HF3 : Aside0 (∀ k, w3.heap.size ≤ k → k ≠ w.heap.size) := ⟨fun k hk e => by have := HSZ.out; omega⟩
      have HLT := Aside0.mk hlt
      have HRG3 := Aside0.mk hrg
      have HOW : Aside0 (∀ k, (Value.slice A3 xs.length c3).ownBlock = some k → w.heap.size ≤ k ∧ k ≠ w.heap.size) := ⟨fun k hk => ⟨own_base (pk_own HR.out) k hk, HR.out.1 k hk⟩⟩
      clear HRG HP HB hs hv hrg hlt hg hsz hdl HR
      go_wp2_with (first | ((with_reducible refine gate_builtin (b := .append) (xs := #[.tmp 13, .tmp 17]) rfl ?_); (try (refine gate_guard (by rfl) ?_; dsimp only)); at_builtin; refine Kd.R_append PK (w0 := w) w.heap.size rfl (.tmp 13) (.tmp 17) 22 45 (.agg #[.string ⟨#[]⟩, .string ⟨#[]⟩]) 32 rfl Tryz.underlying22 infoPr rfl (by decide) (by decide) (.slice A3 xs.length c3) (xs.map mkP) (s, v) [.string s, .string v] (fun k => k ≠ w.heap.size) (fun _ => False) rfl rfl ?aP (fun _ hk => hk.elim) ?aF ?aO ?aB ?aS ?aL ?_; (case aP => exact ⟨[_], [_], rfl, rfl, rfl⟩); (case aB => exact HB3.out); (case aF => exact HF3.out); (case aO => exact HR3.out); (case aS => exact below_size HB3.out); (case aL => have := HNL.out; rw [List.length_map]; omega); intro vN wN2 ho hb hg hat; have HR4 := Aside0.mk ho; have HB4 := Aside0.mk hb; have HRG4 := Aside0.mk (HRG3.out.kept hg (fun e => by have := (HOW.out _ e.symm).1; have := HBL.out; omega) (fun e => (HOW.out _ e.symm).2 rfl)); clear ho hb hg hat))
      go_roundg cnt
      case measure => exact HLT.out
      case rel => exact ⟨_, xs ++ [(s.data.toList, v.data.toList)], ⟨HRG4.out, HN3.out⟩, ⟨HPS.out, HNL.out.1⟩, ⟨by rw [List.map_append]; exact HR4.out⟩, HB4⟩
end Go.Proofs.YteigfmchnblkgaaGreatDoor.Hand

/- Requirements as text: the pieces are in order, their tokens, and what the parser makes of them. No program in sight. -/
namespace Go.Proofs.YteigfmchnblkgaaGreatDoor.Hand
open Go.RowKit Go.Proofs.YteigfmchnblkgaaGreatDoor.Base
set_option linter.unusedVariables false
set_option linter.unusedSimpArgs false
set_option maxRecDepth 100000
/-- A requirement of words, its operator one that there is. -/
structure WordR (key op : L) (vs : List L) : Prop where
  k : isWord key = true
  v : ∀ x ∈ vs, isWord x = true
  o : op = [33] ∨ op = [101, 120, 105, 115, 116, 115] ∨ oIn op ∨ op = [103, 116] ∨ op = [108, 116] ∨ op = [61] ∨ op = [61, 61] ∨ op = [33, 61]
  n : op = [103, 116] ∨ op = [108, 116] ∨ op = [61] ∨ op = [61, 61] ∨ op = [33, 61] → ∃ x, vs = [x]
  m : oIn op → vs ≠ []
end Go.Proofs.YteigfmchnblkgaaGreatDoor.Hand

/- Requirements as text: what the parser makes of their tokens. No program in sight. -/
namespace Go.Proofs.YteigfmchnblkgaaGreatDoor.Hand
open Go.RowKit Go.Proofs.YteigfmchnblkgaaGreatDoor.Base
set_option linter.unusedVariables false
set_option linter.unusedSimpArgs false
set_option maxRecDepth 100000
end Go.Proofs.YteigfmchnblkgaaGreatDoor.Hand

/- Requirements as text: all of them; sizes; words out of names and values that may be. No program in sight. -/
namespace Go.Proofs.YteigfmchnblkgaaGreatDoor.Hand
open Go.RowKit Go.Proofs.YteigfmchnblkgaaGreatDoor.Base
set_option linter.unusedVariables false
set_option linter.unusedSimpArgs false
set_option maxRecDepth 100000
/-- The most that a text of pieces has. -/
def szP : List Pc → Nat
  | [] => 0
  | .gap :: ps => 2 + szP ps
  | .str p :: ps => p.length + szP ps
theorem szP_app (a b : List Pc) : szP (a ++ b) = szP a + szP b := by
  induction a with
  | nil => simp [szP]
  | cons p a ih => cases p with
    | gap => show 2 + szP (a ++ b) = _; rw [ih, szP]; omega
    | str q => show q.length + szP (a ++ b) = _; rw [ih, szP]; omega
theorem gapL_len (cs : L) : (gapL cs).length ≤ 2 := by
  cases cs with
  | nil => exact Nat.zero_le _
  | cons c r =>
    show (blankL c).length ≤ 2
    unfold blankL
    repeat (first | decide | split)
theorem out_sz : ∀ (ps : List Pc) (cs : L), (outL ps cs).length ≤ szP ps
  | [], _ => Nat.zero_le _
  | .gap :: ps, cs => by
    have := out_sz ps cs.tail
    have := gapL_len cs
    show (gapL cs ++ outL ps cs.tail).length ≤ 2 + szP ps
    rw [List.length_append]; omega
  | .str p :: ps, cs => by
    have := out_sz ps cs
    show (p ++ outL ps cs).length ≤ p.length + szP ps
    rw [List.length_append]; omega
def nz (p : L) : Bool := p.all fun c => !(c == 0)
def totL (vs : List L) : Nat := (vs.map (·.length)).sum
theorem sz_valsF (f : L → List Pc) (n : Nat) (hf : ∀ s, szP (f s) = s.length + n) : ∀ r : List L, szP (r.flatMap f) = totL r + n * r.length
  | [] => rfl
  | v :: r => by
    rw [List.flatMap_cons, szP_app, hf, sz_valsF f n hf r, List.length_cons, Nat.mul_add]
    show _ = v.length + totL r + _
    omega
theorem sz_vals (vs : List L) : szP (pcsV vs) ≤ totL vs + 5 * vs.length := by
  cases vs with
  | nil => exact Nat.zero_le _
  | cons v r =>
    show v.length + (2 + szP (r.flatMap _)) ≤ (v.length + totL r) + _
    rw [sz_valsF _ 5 (fun s => by show 1 + (2 + (s.length + (2 + 0))) = _; omega) r, List.length_cons]; omega
theorem headD_len (vs : List L) : (vs.headD []).length ≤ totL vs := by
  cases vs with
  | nil => exact Nat.zero_le _
  | cons v r => show v.length ≤ v.length + totL r; omega
theorem op_len {key op : L} {vs : List L} (hw : WordR key op vs) : op.length ≤ 6 := by
  rcases hw.o with e | e | (e | e) | e | e | e | e | e <;> subst e <;> decide
theorem sz_req {key op : L} {vs : List L} (hw : WordR key op vs) : szP (pcsR key op vs) ≤ key.length + totL vs + 5 * vs.length + 15 := by
  have h1 := headD_len vs
  have h2 := sz_vals vs
  have h3 := op_len hw
  unfold pcsR
  split
  · show 1 + (2 + (key.length + 0)) ≤ _; omega
  split
  · show key.length + 0 ≤ _; omega
  split
  · rw [szP_app, szP_app]
    show key.length + (1 + (2 + (op.length + (2 + (1 + (2 + 0)))))) + (szP (pcsV vs) + (1 + 0)) ≤ _
    omega
  split
  · show key.length + (2 + (1 + (2 + ((vs.headD []).length + 0)))) ≤ _; omega
  split
  · show key.length + (2 + (1 + (2 + ((vs.headD []).length + 0)))) ≤ _; omega
  · show key.length + (2 + (op.length + (2 + ((vs.headD []).length + 0)))) ≤ _; omega
/-- The bytes of keys and values. -/
def totR (l : List Rq) : Nat := (l.map fun r => r.1.length + totL r.2.2).sum
theorem sz_flat (l : List Rq) (hw : ∀ r ∈ l, WordR r.1 r.2.1 r.2.2) (h5 : ∀ r ∈ l, r.2.2.length ≤ 5) : szP (l.flatMap pcF) ≤ totR l + 45 * l.length := by
  induction l with
  | nil => exact Nat.zero_le _
  | cons r l ih =>
    have h1 := ih (fun x hx => hw x (List.mem_cons_of_mem _ hx)) (fun x hx => h5 x (List.mem_cons_of_mem _ hx))
    have h2 := sz_req (hw r (List.mem_cons_self ..))
    have h3 := h5 r (List.mem_cons_self ..)
    rw [List.flatMap_cons, szP_app]
    show 1 + (2 + szP (pcsR r.1 r.2.1 r.2.2 ++ [.gap])) + _ ≤ (r.1.length + totL r.2.2 + totR l) + _
    rw [szP_app, List.length_cons]
    show 1 + (2 + (szP (pcsR r.1 r.2.1 r.2.2) + (2 + 0))) + _ ≤ _
    omega
theorem sz_all (l : List Rq) (hw : ∀ r ∈ l, WordR r.1 r.2.1 r.2.2) (h5 : ∀ r ∈ l, r.2.2.length ≤ 5) : szP (pcsAll l) ≤ totR l + 45 * l.length := by
  cases l with
  | nil => exact Nat.zero_le _
  | cons r l =>
    have h1 := sz_flat l (fun x hx => hw x (List.mem_cons_of_mem _ hx)) (fun x hx => h5 x (List.mem_cons_of_mem _ hx))
    have h2 := sz_req (hw r (List.mem_cons_self ..))
    have h3 := h5 r (List.mem_cons_self ..)
    show szP (pcsR r.1 r.2.1 r.2.2 ++ .gap :: _) ≤ (r.1.length + totL r.2.2 + totR l) + _
    rw [szP_app, List.length_cons]
    show _ + (2 + _) ≤ _
    omega
/-- Bytes of names. -/
def nmB (c : UInt8) : Bool := alnum c || (c == 45 || (c == 95 || (c == 46 || c == 47)))
theorem pieces_all (P : UInt8 → Bool) (c : UInt8) (hc : P c = true) : ∀ x : L, (∀ p ∈ pieces c x, p.all P = true) → x.all P = true
  | [], _ => rfl
  | b :: t, h => by
    unfold pieces at h
    by_cases e : b = c
    · rw [if_pos e] at h
      rw [List.all_cons, e, hc, Bool.true_and]
      exact pieces_all P c hc t fun p hp => h p (List.mem_cons_of_mem _ hp)
    · rw [if_neg e] at h
      have hne := pieces_ne c t
      rcases hp : pieces c t with _ | ⟨q, r⟩
      · exact absurd hp hne
      · rw [hp] at h
        have h1 := h (b :: q) (List.mem_cons_self ..)
        simp only [List.all_cons, Bool.and_eq_true] at h1 ⊢
        refine ⟨h1.1, pieces_all P c hc t fun p hp2 => ?_⟩
        rw [hp] at hp2
        rcases List.mem_cons.1 hp2 with e2 | hp2
        · rw [e2]; exact h1.2
        · exact h p (List.mem_cons_of_mem _ hp2)
theorem all_imp {P Q : UInt8 → Bool} (h : ∀ c, P c = true → Q c = true) {x : L} (hx : x.all P = true) : x.all Q = true :=
  List.all_eq_true.2 fun c hc => h c (List.all_eq_true.1 hx c hc)
theorem small_nmB (c : UInt8) (h : small c = true) : nmB c = true := by unfold nmB alnum; simp [h]
theorem endsF_bytes {p : UInt8 → Bool} {set x : L} (h : endsF p set x = true) : x.all (fun c => p c || inSet c set) = true := by
  unfold endsF allF at h
  simp only [Bool.and_eq_true] at h
  exact h.1.1
theorem pValue_all {x : L} (h : pValue x = true) : x.all nmB = true := by
  unfold pValue labelValue at h
  simp only [Bool.and_eq_true, Bool.or_eq_true, beq_iff_eq] at h
  rcases h.2 with e | h
  · subst e; rfl
  · refine all_imp (fun c hc => ?_) (endsF_bytes h)
    unfold nmB inSet at *
    simp only [Bool.or_eq_true, List.any_cons, List.any_nil, Bool.or_false, beq_iff_eq] at hc ⊢
    rcases hc with h | h | h | h
    · exact .inl h
    · exact .inr (.inl h.symm)
    · exact .inr (.inr (.inl h.symm))
    · exact .inr (.inr (.inr (.inl h.symm)))
theorem label_all {x : L} (h : label x = true) : x.all nmB = true := by
  refine all_imp (fun c hc => ?_) (endsF_bytes h)
  simp only [Bool.or_eq_true] at hc
  rcases hc with h | h
  · exact small_nmB c h
  · unfold inSet at h; simp only [List.any_cons, List.any_nil, Bool.or_false, beq_iff_eq] at h
    subst h; rfl
theorem sub_all {x : L} (h : sub x = true) : x.all nmB = true :=
  pieces_all nmB 46 rfl x fun p hp => label_all (List.all_eq_true.1 h p hp)
theorem pName_all {x : L} (h : pName x = true) : x.all nmB = true := by
  unfold pName at h; simp only [Bool.and_eq_true] at h; exact pValue_all h.2
theorem pQ_all {x : L} (h : pQ x = true) : x.all nmB = true ∧ x ≠ [] := by
  refine ⟨pieces_all nmB 47 rfl x fun p hp => ?_, fun e => by subst e; cases h⟩
  unfold pQ at h
  split at h
  · rename_i n e; rw [e] at hp; rw [List.mem_singleton.1 hp]; exact pName_all h
  · rename_i q n e
    simp only [Bool.and_eq_true] at h
    rw [e] at hp
    rcases List.mem_cons.1 hp with hp | hp
    · rw [hp]; exact sub_all h.1.2
    · rw [List.mem_singleton.1 hp]; exact pName_all h.2
  · cases h
theorem nmB_wd {c : UInt8} (h : nmB c = true) : isWd c = true ∧ c ≠ 0 := by
  refine ⟨?_, fun e => by subst e; cases h⟩
  by_cases hw : isWd c = true
  · exact hw
  · exfalso
    unfold isWd at hw
    simp only [Bool.not_eq_true', Bool.or_eq_false_iff, not_and, Bool.not_eq_false] at hw
    by_cases hs : isSp c = true
    · rcases sp_byte hs with e | e | e | e | e | e | e <;> subst e <;> cases h
    · have := hw (by simpa using hs)
      unfold isWs at this
      simp only [Bool.or_eq_true, beq_iff_eq] at this
      rcases this with ((e | e) | e) | e <;> subst e <;> cases h
theorem nmB_word {x : L} (h : x.all nmB = true) (hn : x ≠ []) : isWord x = true ∧ nz x = true := by
  unfold isWord nz
  refine ⟨?_, all_imp (fun c hc => by simpa using (nmB_wd hc).2) h⟩
  simp only [Bool.and_eq_true, Bool.not_eq_true', beq_eq_false_iff_ne]
  exact ⟨hn, all_imp (fun c hc => (nmB_wd hc).1) h⟩
/-- A requirement that may be, whose values are not empty, is one of words. -/
theorem fair_words {key op : L} {vs : List L} (h : fairR key op vs = true) (hn : ∀ v ∈ vs, v ≠ []) : WordR key op vs ∧ nz key = true ∧ (∀ v ∈ vs, nz v = true) := by
  have h0 := h
  unfold fairR at h
  simp only [Bool.and_eq_true] at h
  obtain ⟨h1, h2, h3⟩ := h
  obtain ⟨a, b⟩ := pQ_all h3
  have hv : ∀ v ∈ vs, isWord v = true ∧ nz v = true := fun v hv => nmB_word (pValue_all (List.all_eq_true.1 h2 v hv)) (hn v hv)
  refine ⟨⟨(nmB_word a b).1, fun v h => (hv v h).1, ?_, ?_, ?_⟩, (nmB_word a b).2, fun v h => (hv v h).2⟩
  · unfold opOk at h1
    split at h1
    · rename_i e; exact .inr (.inr (.inl e))
    split at h1
    · rename_i e; rcases e with e | e | e
      · exact .inr (.inr (.inr (.inr (.inr (.inl e)))))
      · exact .inr (.inr (.inr (.inr (.inr (.inr (.inl e))))))
      · exact .inr (.inr (.inr (.inr (.inr (.inr (.inr e))))))
    split at h1
    · rename_i e; rcases e with e | e
      · exact .inr (.inl e)
      · exact .inl e
    split at h1
    · rename_i e; rcases e with e | e
      · exact .inr (.inr (.inr (.inl e)))
      · exact .inr (.inr (.inr (.inr (.inl e))))
    · cases h1
  · intro e
    rcases e with e | e | e | e | e <;> subst e
    · unfold opOk at h1
      rw [if_neg (by decide), if_neg (by decide), if_neg (by decide), if_pos (by decide)] at h1
      match vs, h1 with
      | [x], _ => exact ⟨x, rfl⟩
    · unfold opOk at h1
      rw [if_neg (by decide), if_neg (by decide), if_neg (by decide), if_pos (by decide)] at h1
      match vs, h1 with
      | [x], _ => exact ⟨x, rfl⟩
    all_goals
      unfold opOk at h1
      rw [if_neg (by decide), if_pos (by decide)] at h1
      match vs, h1 with
      | [x], _ => exact ⟨x, rfl⟩
  · intro e hv; subst hv
    unfold opOk at h1
    rw [if_pos e] at h1
    cases h1
end Go.Proofs.YteigfmchnblkgaaGreatDoor.Hand

/- What impl.LabelsBoth answers, by the lists of spec.Keyed. No program in sight. -/
namespace Go.Proofs.YteigfmchnblkgaaGreatDoor.Hand
open Go.RowKit Go.Maps Go.Proofs.YteigfmchnblkgaaGreatDoorW.PrintWords Go.Proofs.YteigfmchnblkgaaGreatDoorW.PrintLast Go.Proofs.YteigfmchnblkgaaGreatDoorW.PrintMore Go.Proofs.YteigfmchnblkgaaGreatDoor.Base
open Go.Sort (ltStr)
set_option linter.unusedVariables false
set_option linter.unusedSimpArgs false
end Go.Proofs.YteigfmchnblkgaaGreatDoor.Hand

/- impl.LabelsMerge. -/
namespace Go.Proofs.YteigfmchnblkgaaGreatDoor.Hand
open Go.RowKit Go.Maps Go.Proofs.YteigfmchnblkgaaGreatDoorW.PrintWords Go.Proofs.YteigfmchnblkgaaGreatDoorW.PrintLast Go.Proofs.YteigfmchnblkgaaGreatDoorW.PrintMore Go.Proofs.YteigfmchnblkgaaGreatDoor.Base
open Go.Sort (ltStr)
set_option linter.unusedVariables false
set_option linter.unusedSimpArgs false
set_option maxRecDepth 100000
theorem dk_le : ∀ m : List LP, (dk m).length ≤ m.length
  | [] => Nat.le_refl _
  | p :: m => by
    unfold dk
    have := dk_le m
    split <;> simp only [List.length_cons] <;> omega
end Go.Proofs.YteigfmchnblkgaaGreatDoor.Hand
