/- The law FnSelRound. (Printed by lawsr.py.) -/
import Derived.Test.YthfjolafikgpoaaGreatDoorSFM32
import Derived.Test.YthfjolafikgpoaaGreatDoorSFM23
import Derived.Test.YthfjolafikgpoaaGreatDoorSFM29
import Derived.Test.YthfjolafikgpoaaGreatDoorSFFreely
import Derived.Test.YthfjolafikgpoaaGreatDoorSFM18
import Derived.Test.YthfjolafikgpoaaGreatDoorSFGParC
import Derived.Laws.CopyOwn
import Derived.Below
import Derived.Test.YthfjolafikgpoaaGreatDoorSFM4
import Derived.Test.YthfjolafikgpoaaGreatDoorSFM10
import Derived.Test.YthfjolafikgpoaaGreatDoorSFLabSetOf
namespace Go.Proofs.YthfjolafikgpoaaGreatDoor.Hand
open Go.RowKit Go.Maps Go.Proofs.YthfjolafikgpoaaGreatDoorW.PrintWords Go.Proofs.YthfjolafikgpoaaGreatDoorW.PrintLast Go.Proofs.YthfjolafikgpoaaGreatDoorW.PrintMore Go.Proofs.YthfjolafikgpoaaGreatDoor.Base
set_option linter.unusedVariables false
set_option linter.unusedSimpArgs false
set_option maxRecDepth 100000
theorem Bts.atR_ {w W : World} {A : Option Addr} {n : Nat} {cs : L} (h : Bts w A n cs) (hb : Below w.heap.size w W) : Bts W A n cs :=
 ⟨h.1, h.2.1, fun i c hc => by
  obtain ⟨ad, e, h1, h2⟩ := h.2.2 i c hc
  exact ⟨ad, e, (hb.cell (p := ad.add i) (by rw [add_block_]; exact h2)).trans h1, Nat.lt_of_lt_of_le h2 hb.size⟩⟩
theorem totR_memR {r : Rq} : ∀ {l : List Rq}, r ∈ l → r.1.length + totL r.2.2 ≤ totR l
 | y :: l, h => by
   show _ ≤ (y.1.length + totL y.2.2) + totR l
   rcases List.mem_cons.1 h with h | h
   · rw [h]; omega
   · have := totR_memR h; omega
abbrev FE := ByteArray × ByteArray × (Option Addr × Nat × Nat)
def KSl : Kd (Option Addr × Nat × Nat) := Kd.scalar (fun t => .slice t.1 t.2.1 t.2.2) (fun _ => rfl)
def KF : Kd FE := Kd.pair Kd.string (Kd.pair Kd.string KSl)
theorem infoIQ : (Tryz.prog.info? 53).map (fun i => (i.zero, i.size, i.bytes)) = some (some (.agg #[.string ⟨#[]⟩, .string ⟨#[]⟩, .slice none 0 0]), 3, 56) := by kernel_rfl
abbrev feC (f : FE) : List Value := [.string f.1, .string f.2.1, .slice f.2.2.1 f.2.2.2.1 f.2.2.2.2]
theorem kf_K (w : World) (f : FE) : KF.K w f (feC f) := ⟨[_], [_, _], rfl, rfl, [_], [_], rfl, rfl, rfl⟩
theorem kf_cs {w : World} {f : FE} {cs : List Value} (h : KF.K w f cs) : cs = feC f := by
 obtain ⟨c0, c1, rfl, h0, c2, c3, rfl, h2, h3⟩ := h
 have e0 : c0 = [.string f.1] := h0
 have e2 : c2 = [.string f.2.1] := h2
 have e3 : c3 = [.slice f.2.2.1 f.2.2.2.1 f.2.2.2.2] := h3
 subst e0 e2 e3
 rfl
def FR (w : World) (p : FE × Rq) : Prop := p.1.1 = mk p.2.1 ∧ p.1.2.1 = mk p.2.2.1 ∧ p.1.2.2.2.1 = p.2.2.2.length ∧ p.2.2.2.length ≤ p.1.2.2.2.2 ∧ Kd.C Kd.string w p.1.2.2.1 p.2.2.2.length (p.2.2.2.map mk)
theorem kf_kq {w : World} {A : Option Addr} {n : Nat} {ps : List (FE × Rq)} (h : KF.C w A n (ps.map (·.1))) (hr : ∀ p ∈ ps, FR w p) : KQ.C w A n (rqV (ps.map (·.2))) := by
 obtain ⟨h1, h2, h3⟩ := h
 refine ⟨by simpa [rqV] using h1, h2, fun hn => ?_⟩
 obtain ⟨ad, rfl, hat⟩ := h3 hn
 refine ⟨ad, rfl, fun j q hq => ?_⟩
 rw [rqV, List.getElem?_map, List.getElem?_map] at hq
 obtain ⟨p, hp⟩ : ∃ p, ps[j]? = some p := by
  cases e : ps[j]? with
  | none => rw [e] at hq; cases hq
  | some p => exact ⟨p, rfl⟩
 rw [hp] at hq
 injection hq with hq
 subst hq
 obtain ⟨c, hc, hK, hcell⟩ := hat j p.1 (by rw [List.getElem?_map, hp]; rfl)
 obtain ⟨f0, f1, f2, f3, f4⟩ := hr p (List.mem_of_getElem? hp)
 have hcs := kf_cs hK
 subst hcs
 refine ⟨feC p.1, rfl, ?_, hcell⟩
 have e : feC p.1 = [.string (mk p.2.1), .string (mk p.2.2.1), .slice p.1.2.2.1 (p.2.2.2.map mk).length p.1.2.2.2.2] := by
  unfold feC
  rw [f0, f1, f2, List.length_map]
 rw [e]
 exact ⟨[_], [_, _], rfl, rfl, [_], [_], rfl, rfl, p.1.2.2.1, p.1.2.2.2.2, rfl, by rw [List.length_map]; exact f3, by rw [List.length_map]; exact f4⟩
theorem one_C {W : World} {b : Nat} {s : ByteArray} (h : W.heap[b]? = some (.cells #[.string s] 9 (0, 0))) : Kd.C Kd.string W (some ⟨b, 0, none⟩) 1 [s] := by
 refine ⟨rfl, by decide, fun _ => ⟨_, rfl, fun j p hp => ?_⟩⟩
 have hpj : p = s ∧ j = 0 := by
  match j, hp with
  | 0, hp => exact ⟨(Option.some.inj hp).symm, rfl⟩
 obtain ⟨rfl, rfl⟩ := hpj
 refine ⟨[.string p], rfl, rfl, fun i u hu => ?_⟩
 have had : ∀ k, (⟨b, 0, none⟩ : Addr).add k = ⟨b, k, none⟩ := fun k => by rw [add_spot rfl]; simp
 rw [had]
 have hc := blk_cell h (0 * Kd.string.sz + i)
 refine hc.trans ?_
 match i, hu with
 | 0, hu => exact hu
end Go.Proofs.YthfjolafikgpoaaGreatDoor.Hand
namespace Go.Proofs.YthfjolafikgpoaaGreatDoor.Hand
open Go.RowKit
set_option linter.unusedVariables false
set_option linter.unusedSimpArgs false
end Go.Proofs.YthfjolafikgpoaaGreatDoor.Hand
namespace Go.Proofs.YthfjolafikgpoaaGreatDoor.Hand
open Go.RowKit Go.Maps Go.Proofs.YthfjolafikgpoaaGreatDoorW.PrintWords Go.Proofs.YthfjolafikgpoaaGreatDoorW.PrintLast Go.Proofs.YthfjolafikgpoaaGreatDoorW.PrintMore Go.Proofs.YthfjolafikgpoaaGreatDoor.Base
open Go.Sort (ltStr)
set_option linter.unusedVariables false
set_option linter.unusedSimpArgs false
set_option maxRecDepth 100000
def encF (xs : List FE) : List Value := xs.flatMap feC
theorem encF_len (xs : List FE) : (encF xs).length = xs.length * 3 := by
 induction xs with
 | nil => rfl
 | cons p xs ih => rw [List.length_cons]; show (encF xs).length + 1 + 1 + 1 = _; rw [ih]; omega
theorem encF_drop (xs : List FE) (n : Nat) : (encF xs).drop (n * 3) = encF (xs.drop n) := by
 induction xs generalizing n with
 | nil => simp [encF]
 | cons p xs ih =>
   cases n with
   | zero => rfl
   | succ n =>
     show (feC p ++ encF xs).drop ((n + 1) * 3) = encF (xs.drop n)
     rw [← ih, show (n + 1) * 3 = n * 3 + 1 + 1 + 1 by omega]; rfl
theorem reps_encF {w : World} {base : Nat} {ok : Nat → Prop} : ∀ (xs : List FE), Reps (KF.M w base ok) 3 xs (encF xs) := fun xs => by
 refine ⟨encF_len xs, fun j p hp => ?_⟩
 obtain ⟨hj, e⟩ := List.getElem?_eq_some_iff.1 hp
 rw [encF_drop, List.drop_eq_getElem_cons hj, e]
 exact ⟨[_], [_, _], rfl, rfl, [_], [_], rfl, rfl, rfl⟩
theorem kf_of_own {e : Nat} {w : World} {base : Nat} {v : Value} {xs : List FE} (h : w.ownsRow base e 3 v xs.length (encF xs)) : KF.R e w base (fun _ => True) v xs := ⟨fun _ _ => trivial, encF xs, h, reps_encF xs⟩
theorem kq_elem2 {w : World} {A : Option Addr} {n : Nat} {l : List Rq} (h : KQ.C w A n (rqV l)) (hn : l.length = n) : ∃ ps : List (FE × Rq), ps.map (·.2) = l ∧ (∀ p ∈ ps, FR w p) ∧
   ∀ (j : Nat) p, ps[j]? = some p → ∃ ad, A = some ad ∧ w.cell? (ad.add (j * 3)) = some (.string p.1.1) ∧ w.cell? ⟨(ad.add (j * 3)).block, (ad.add (j * 3)).off + 1, none⟩ = some (.string p.1.2.1) ∧ w.cell? ⟨(ad.add (j * 3)).block, (ad.add (j * 3)).off + 2, none⟩ = some (.slice p.1.2.2.1 p.1.2.2.2.1 p.1.2.2.2.2) := by
 have each : ∀ i : Fin l.length, ∃ p : FE × Rq, p.2 = l[i] ∧ FR w p ∧ ∃ ad, A = some ad ∧ w.cell? (ad.add (i * 3)) = some (.string p.1.1) ∧ w.cell? ⟨(ad.add (i * 3)).block, (ad.add (i * 3)).off + 1, none⟩ = some (.string p.1.2.1) ∧ w.cell? ⟨(ad.add (i * 3)).block, (ad.add (i * 3)).off + 2, none⟩ = some (.slice p.1.2.2.1 p.1.2.2.2.1 p.1.2.2.2.2) := by
  intro i
  obtain ⟨ad, B, c, e, k0, k1, k2, hc, hC⟩ := kq_at2 h i.1 (by have := i.2; omega) l[i] (List.getElem?_eq_getElem i.2)
  exact ⟨((mk l[i].1, mk l[i].2.1, (B, l[i].2.2.length, c)), l[i]), rfl, ⟨rfl, rfl, rfl, hc, hC⟩, ad, e, k0, k1, k2⟩
 refine ⟨List.ofFn fun i => (each i).choose, ?_, ?_, ?_⟩
 · apply List.ext_getElem
   · simp
   · intro i h1 h2
     rw [List.getElem_map, List.getElem_ofFn]
     exact (each ⟨i, h2⟩).choose_spec.1
 · intro p hp
   obtain ⟨i, rfl⟩ := List.mem_ofFn.1 hp
   exact (each i).choose_spec.2.1
 · intro j p hp
   obtain ⟨hj, e⟩ := List.getElem?_eq_some_iff.1 hp
   rw [List.getElem_ofFn] at e
   have := (each ⟨j, by simpa using hj⟩).choose_spec.2.2
   rw [e] at this
   exact this
theorem pAll_bad (q : Rq) (hq : WordR q.1 q.2.1 q.2.2) (hb : pReq (toksR q.1 q.2.1 q.2.2 ++ [(1, [])]) = none) : ∀ (l : List Rq) (m : Nat), (∀ r ∈ l, FairW r) → pAll m (toksAll (l ++ [q]) ++ [(1, [])]) = none
 | _, 0, _ => rfl
 | [], m + 1, hw => by
   obtain ⟨k, s, t, ht, hk⟩ := toksR_head hq
   rw [ht] at hb
   have e0 : toksAll ([] ++ [q]) ++ [(1, [])] = (k, s) :: (t ++ [(1, [])]) := by
    show (toksR q.1 q.2.1 q.2.2 ++ []) ++ _ = _
    rw [ht]; simp
   rw [e0]
   unfold pAll
   rw [if_pos hk, ← List.cons_append, hb]
 | r :: l, m + 1, hw => by
   obtain ⟨h1, h2⟩ := hw r (List.mem_cons_self ..)
   have ih := pAll_bad q hq hb l m (fun x hx => hw x (List.mem_cons_of_mem _ hx))
   obtain ⟨x, xs, hx⟩ : ∃ x xs, l ++ [q] = x :: xs := by cases l <;> simp
   have g1 : WordR x.1 x.2.1 x.2.2 := by
    have hm : x ∈ l ++ [q] := by rw [hx]; exact List.mem_cons_self ..
    rcases List.mem_append.1 hm with h | h
    · exact (hw x (List.mem_cons_of_mem _ h)).1
    · rw [List.mem_singleton.1 h]; exact hq
   rw [List.cons_append]
   rw [hx] at ih ⊢
   obtain ⟨k, s, t, ht, hk⟩ := toksR_head h1
   obtain ⟨k2, s2, t2, ht2, hk2⟩ := toksR_head g1
   have e1 : toksAll (x :: xs) ++ [(1, [])] = (k2, s2) :: (t2 ++ (xs.flatMap tkF) ++ [(1, [])]) := by
    show (toksR x.1 x.2.1 x.2.2 ++ _) ++ _ = _
    rw [ht2]; simp
   have hp := pReq_toks h1 h2 ((3, [44]) :: (toksAll (x :: xs) ++ [(1, [])])) rfl
   have e0 : toksAll (r :: x :: xs) ++ [(1, [])] = (k, s) :: (t ++ (3, [44]) :: (toksAll (x :: xs) ++ [(1, [])])) := by
    show (toksR r.1 r.2.1 r.2.2 ++ ((3, [44]) :: toksR x.1 x.2.1 x.2.2 ++ xs.flatMap _)) ++ _ = _
    rw [ht]
    show _ = (k, s) :: (t ++ (3, [44]) :: ((toksR x.1 x.2.1 x.2.2 ++ _) ++ _))
    simp
   rw [ht, List.cons_append] at hp
   rw [e0]
   unfold pAll
   try dsimp only
   rw [if_pos hk, hp]
   try dsimp only
   rw [if_neg (by decide), if_pos (by decide), e1]
   try dsimp only
   rw [if_pos hk2, ← e1, ih]
   rfl
def badC (c : UInt8) : Bool := alnum c || (c == 45 || (c == 95 || c == 46))
theorem bad_nm {x : L} (h : x.all badC = true) : x.all nmB = true := all_imp (fun c hc => by
 unfold badC at hc; unfold nmB
 revert hc
 cases alnum c <;> cases (c == 45) <;> cases (c == 95) <;> cases (c == 46) <;> simp) h
theorem pieces_one {c : UInt8} : ∀ {x : L}, c ∉ x → pieces c x = [x]
 | [], _ => rfl
 | b :: t, h => by
   unfold pieces
   rw [if_neg (fun e : b = c => h (by rw [e]; exact List.mem_cons_self ..)), pieces_one (fun hm => h (List.mem_cons_of_mem _ hm))]
   rfl
theorem bad_q {x : L} (h : x.all badC = true) (hv : pValue x = false) : pQ x = false := by
 have hs : (47 : UInt8) ∉ x := fun hm => absurd (List.all_eq_true.1 h 47 hm) (by decide)
 unfold pQ
 rw [pieces_one hs]
 show pName x = false
 unfold pName
 rw [hv, Bool.and_false]
def badR (x : L) (v : Bool) : Rq := if v then ([122, 122], [61], [x]) else (x, [101, 120, 105, 115, 116, 115], [])
theorem bad_word {x : L} (h : x.all badC = true) (hn : x ≠ []) (v : Bool) : WordR (badR x v).1 (badR x v).2.1 (badR x v).2.2 ∧ nz (badR x v).1 = true ∧ nz (badR x v).2.1 = true ∧ (∀ y ∈ (badR x v).2.2, nz y = true) ∧ (badR x v).2.2.length ≤ 5 ∧ (badR x v).1.length + totL (badR x v).2.2 ≤ x.length + 2 := by
 obtain ⟨w1, w2⟩ := nmB_word (bad_nm h) hn
 cases v
 · refine ⟨⟨w1, fun y hy => absurd hy List.not_mem_nil, .inr (.inl rfl), fun e => ?_, fun e => ?_⟩, w2, rfl, fun y hy => absurd hy List.not_mem_nil, Nat.zero_le _, ?_⟩
   · exact absurd (show ([101, 120, 105, 115, 116, 115] : L) = [103, 116] ∨ ([101, 120, 105, 115, 116, 115] : L) = [108, 116] ∨ ([101, 120, 105, 115, 116, 115] : L) = [61] ∨ ([101, 120, 105, 115, 116, 115] : L) = [61, 61] ∨ ([101, 120, 105, 115, 116, 115] : L) = [33, 61] from e) (by decide)
   · exact absurd (show oIn [101, 120, 105, 115, 116, 115] from e) (by decide)
   · show x.length + 0 ≤ _; omega
 · refine ⟨⟨rfl, fun y hy => ?_, .inr (.inr (.inr (.inr (.inr (.inl rfl))))), fun _ => ⟨x, rfl⟩, fun e => absurd (show oIn [61] from e) (by decide)⟩, rfl, rfl, fun y hy => ?_, (show 1 ≤ 5 by decide), ?_⟩
   · rw [List.mem_singleton.1 hy]; exact w1
   · rw [List.mem_singleton.1 hy]; exact w2
   · show 2 + (x.length + 0) ≤ _; omega
theorem bad_req {x : L} (h : x.all badC = true) (hn : x ≠ []) (hv : pValue x = false) (v : Bool) : pReq (toksR (badR x v).1 (badR x v).2.1 (badR x v).2.2 ++ [(1, [])]) = none := by
 obtain ⟨w1, w2⟩ := nmB_word (bad_nm h) hn
 cases v
 · show pReq ([(kW x, x)] ++ [(1, [])]) = none
   unfold pReq
   rw [List.singleton_append, pKey_bad w1 (bad_q h hv)]
 · show pReq ([(kW [122, 122], [122, 122]), (kW [61], [61]), (kW x, x)] ++ [(1, [])]) = none
   unfold pReq
   rw [List.cons_append, pKey_word (by rfl) (by decide)]
   have ep : ePos ([(kW [61], [61]), (kW x, x)] ++ [(1, [])]) = false := by rfl
   rw [ep]
   simp only [Bool.false_eq_true, if_false]
   rw [if_pos trivial, List.cons_append, pOp_toks (.inr (.inl rfl))]
   dsimp only
   rw [if_neg (by decide), List.singleton_append, pOne_toks w1]
   dsimp only
   rw [setL_one]
   have hf : fairR [122, 122] [61] [x] = false := by
    unfold fairR
    rw [List.all_cons, hv, Bool.false_and, Bool.false_and, Bool.and_false]
   rw [hf]
   rfl
theorem free_bad {l : List Rq} {q : Rq} (hw : ∀ r ∈ l, FairW r) (hq : WordR q.1 q.2.1 q.2.2) (hb : pReq (toksR q.1 q.2.1 q.2.2 ++ [(1, [])]) = none) (hz : ∀ r ∈ l ++ [q], nz r.1 = true ∧ nz r.2.1 = true ∧ ∀ v ∈ r.2.2, nz v = true) (h5 : ∀ r ∈ l ++ [q], r.2.2.length ≤ 5) (cs : L) :
   (∀ b ∈ outL (.gap :: pcsAll (l ++ [q])) cs, b ≠ 0) ∧ (outL (.gap :: pcsAll (l ++ [q])) cs).length ≤ 2 + totR (l ++ [q]) + 45 * (l.length + 1) ∧ tokensL (outL (.gap :: pcsAll (l ++ [q])) cs) = toksAll (l ++ [q]) ++ [(1, [])] ∧
   (toksAll (l ++ [q]) ++ [(1, [])]).length ≤ 15 * (l.length + 1) + 1 ∧ pAll (toksAll (l ++ [q]) ++ [(1, [])]).length (toksAll (l ++ [q]) ++ [(1, [])]) = none := by
 have hw' : ∀ r ∈ l ++ [q], WordR r.1 r.2.1 r.2.2 := fun r hr => by
  rcases List.mem_append.1 hr with h | h
  · exact (hw r h).1
  · rw [List.mem_singleton.1 h]; exact hq
 have hln : (l ++ [q]).length = l.length + 1 := by rw [List.length_append]; rfl
 obtain ⟨o1, o2⟩ := okAll_pcs (l ++ [q]) hw'
 have h1 := (nz_all (l ++ [q]) hz).1
 refine ⟨out_nz (.gap :: pcsAll (l ++ [q])) cs h1, ?_, ?_, ?_, pAll_bad q hq hb l _ hw⟩
 · have a := out_sz (.gap :: pcsAll (l ++ [q])) cs
   have b := sz_all (l ++ [q]) hw' h5
   have c : szP (.gap :: pcsAll (l ++ [q])) = 2 + szP (pcsAll (l ++ [q])) := rfl
   rw [hln] at b
   omega
 · have := tokens_pcs (.gap :: pcsAll (l ++ [q])) cs o1
   rw [this]
   show tokP (pcsAll (l ++ [q])) ++ _ = _
   rw [o2]
 · have := toksAll_len (l ++ [q]) h5
   rw [hln] at this
   rw [List.length_append]; simp only [List.length_cons, List.length_nil]; omega
end Go.Proofs.YthfjolafikgpoaaGreatDoor.Hand
