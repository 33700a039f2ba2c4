/- Requirements in a row whose values' slices are told by themselves. (Lines of LawSO.) -/
import Derived.Test.YthfjolafikgpoaaGreatDoorSAM18
import Derived.Test.YthfjolafikgpoaaGreatDoorSAGParC
import Derived.Test.YthfjolafikgpoaaGreatDoorSAM23
import Derived.Laws.CopyOwn
import Derived.Below
import Derived.Test.YthfjolafikgpoaaGreatDoorSAM4
import Derived.Test.YthfjolafikgpoaaGreatDoorSAM10
import Derived.Test.YthfjolafikgpoaaGreatDoorSALabSetOf
import Derived.Test.YthfjolafikgpoaaGreatDoorSAM33
namespace Go.Proofs.YthfjolafikgpoaaGreatDoor.Hand
open Go.RowKit Go.Maps Go.Proofs.YthfjolafikgpoaaGreatDoorW.PrintWords Go.Proofs.YthfjolafikgpoaaGreatDoorW.PrintLast Go.Proofs.YthfjolafikgpoaaGreatDoorW.PrintMore Go.Proofs.YthfjolafikgpoaaGreatDoor.Base
set_option linter.unusedVariables false
set_option linter.unusedSimpArgs false
set_option maxRecDepth 100000
abbrev FE := ByteArray × ByteArray × (Option Addr × Nat × Nat)
def KSl : Kd (Option Addr × Nat × Nat) := Kd.scalar (fun t => .slice t.1 t.2.1 t.2.2) (fun _ => rfl)
def KF : Kd FE := Kd.pair Kd.string (Kd.pair Kd.string KSl)
theorem infoIQ : (Tryz.prog.info? 53).map (fun i => (i.zero, i.size, i.bytes)) = some (some (.agg #[.string ⟨#[]⟩, .string ⟨#[]⟩, .slice none 0 0]), 3, 56) := by kernel_rfl
abbrev feC (f : FE) : List Value := [.string f.1, .string f.2.1, .slice f.2.2.1 f.2.2.2.1 f.2.2.2.2]
theorem kf_cs {w : World} {f : FE} {cs : List Value} (h : KF.K w f cs) : cs = feC f := by
 obtain ⟨c0, c1, rfl, h0, c2, c3, rfl, h2, h3⟩ := h
 have e0 : c0 = [.string f.1] := h0
 have e2 : c2 = [.string f.2.1] := h2
 have e3 : c3 = [.slice f.2.2.1 f.2.2.2.1 f.2.2.2.2] := h3
 subst e0 e2 e3
 rfl
def FR (w : World) (p : FE × Rq) : Prop := p.1.1 = mk p.2.1 ∧ p.1.2.1 = mk p.2.2.1 ∧ p.1.2.2.2.1 = p.2.2.2.length ∧ p.2.2.2.length ≤ p.1.2.2.2.2 ∧ Kd.C Kd.string w p.1.2.2.1 p.2.2.2.length (p.2.2.2.map mk)
theorem kf_kq {w : World} {A : Option Addr} {n : Nat} {ps : List (FE × Rq)} (h : KF.C w A n (ps.map (·.1))) (hr : ∀ p ∈ ps, FR w p) : KQ.C w A n (rqV (ps.map (·.2))) := by
 obtain ⟨h1, h2, h3⟩ := h
 refine ⟨by simpa [rqV] using h1, h2, fun hn => ?_⟩
 obtain ⟨ad, rfl, hat⟩ := h3 hn
 refine ⟨ad, rfl, fun j q hq => ?_⟩
 rw [rqV, List.getElem?_map, List.getElem?_map] at hq
 obtain ⟨p, hp⟩ : ∃ p, ps[j]? = some p := by
  cases e : ps[j]? with
  | none => rw [e] at hq; cases hq
  | some p => exact ⟨p, rfl⟩
 rw [hp] at hq
 injection hq with hq
 subst hq
 obtain ⟨c, hc, hK, hcell⟩ := hat j p.1 (by rw [List.getElem?_map, hp]; rfl)
 obtain ⟨f0, f1, f2, f3, f4⟩ := hr p (List.mem_of_getElem? hp)
 have hcs := kf_cs hK
 subst hcs
 refine ⟨feC p.1, rfl, ?_, hcell⟩
 have e : feC p.1 = [.string (mk p.2.1), .string (mk p.2.2.1), .slice p.1.2.2.1 (p.2.2.2.map mk).length p.1.2.2.2.2] := by
  unfold feC
  rw [f0, f1, f2, List.length_map]
 rw [e]
 exact ⟨[_], [_, _], rfl, rfl, [_], [_], rfl, rfl, p.1.2.2.1, p.1.2.2.2.2, rfl, by rw [List.length_map]; exact f3, by rw [List.length_map]; exact f4⟩
end Go.Proofs.YthfjolafikgpoaaGreatDoor.Hand
namespace Go.Proofs.YthfjolafikgpoaaGreatDoor.Hand
open Go.RowKit
set_option linter.unusedVariables false
set_option linter.unusedSimpArgs false
end Go.Proofs.YthfjolafikgpoaaGreatDoor.Hand
namespace Go.Proofs.YthfjolafikgpoaaGreatDoor.Hand
open Go.RowKit Go.Maps Go.Proofs.YthfjolafikgpoaaGreatDoorW.PrintWords Go.Proofs.YthfjolafikgpoaaGreatDoorW.PrintLast Go.Proofs.YthfjolafikgpoaaGreatDoorW.PrintMore Go.Proofs.YthfjolafikgpoaaGreatDoor.Base
open Go.Sort (ltStr)
set_option linter.unusedVariables false
set_option linter.unusedSimpArgs false
set_option maxRecDepth 100000
theorem ins_asc {gt : Rq → Rq → Bool} (ht : ∀ a b c, gt a b = false → gt b c = false → gt a c = false) (ha : ∀ a b, gt a b = true → gt b a = false) {l : List Rq} {r : Rq} {i : Nat} (hi : i ≤ l.length) (hs : l.Pairwise fun a b => gt a b = false) (h1 : ∀ (k : Nat) x, i ≤ k → l[k]? = some x → gt x r = true) (h0 : ∀ (m : Nat) x, i = m + 1 → l[m]? = some x → gt x r = false) : (l.take i ++ r :: l.drop i).Pairwise fun a b => gt a b = false := by
 have hs2 := hs
 rw [← List.take_append_drop i l, List.pairwise_append] at hs2
 obtain ⟨p1, p2, p3⟩ := hs2
 rw [List.pairwise_append, List.pairwise_cons]
 refine ⟨p1, ⟨fun x hx => ?_, p2⟩, fun a hA b hB => ?_⟩
 · obtain ⟨k, hk, e⟩ := List.mem_drop_iff_getElem.1 hx
   exact ha _ _ (h1 (i + k) x (by omega) (by rw [List.getElem?_eq_getElem (by omega), ← e]))
 · rcases List.mem_cons.1 hB with e | hB
   · subst e
     obtain ⟨k, hk, e⟩ := List.mem_take_iff_getElem.1 hA
     have hki : k < i := by omega
     obtain ⟨m, rfl⟩ : ∃ m, i = m + 1 := ⟨i - 1, by omega⟩
     have hm : m < l.length := by omega
     have h2 := h0 m l[m] rfl (List.getElem?_eq_getElem hm)
     by_cases hkm : k = m
     · subst hkm; rw [← e]; exact h2
     · rw [← e]; exact ht _ _ _ ((List.pairwise_iff_getElem.1 hs) k m (by omega) hm (by omega)) h2
   · exact p3 a hA b hB
theorem ins_perm {α : Type} {l m : List α} {r : α} (i : Nat) (h : l.Perm m) : (l.take i ++ r :: l.drop i).Perm (m ++ [r]) := by
 refine List.perm_middle.trans ?_
 rw [List.take_append_drop]
 exact ((h.cons r).trans (List.perm_append_comm (l₁ := [r]) (l₂ := m)))
theorem ins_next {α : Type} (l : List α) (g : α) {m : Nat} (h : m < l.length) : (l.take (m + 1) ++ g :: l.drop (m + 1)).set (m + 1) l[m] = l.take m ++ l[m] :: l.drop m := by
 have e1 : (l.take (m + 1)).length = m + 1 := by rw [List.length_take]; omega
 rw [List.set_append_right _ _ (by omega), e1, Nat.sub_self, List.set_cons_zero, List.drop_eq_getElem_cons h, List.take_add_one, List.getElem?_eq_getElem h, Option.toList_some, List.append_assoc, List.singleton_append]
theorem ins_set {α : Type} (l : List α) (g r : α) {i : Nat} (h : i ≤ l.length) : (l.take i ++ g :: l.drop i).set i r = l.take i ++ r :: l.drop i := by
 have e1 : (l.take i).length = i := by rw [List.length_take]; omega
 rw [List.set_append_right _ _ (by omega), e1, Nat.sub_self, List.set_cons_zero]
theorem ins_get {α : Type} (l : List α) (g : α) {i m : Nat} (h : i ≤ l.length) (hm : m < i) : (l.take i ++ g :: l.drop i)[m]? = l[m]? := by
 rw [List.getElem?_append_left (by rw [List.length_take]; omega), List.getElem?_take_of_lt hm]
theorem ins_len {α : Type} (l : List α) (g : α) {i : Nat} (h : i ≤ l.length) : (l.take i ++ g :: l.drop i).length = l.length + 1 := by simp; omega
theorem kf_at {w : World} {A : Option Addr} {n : Nat} {fs : List FE} (h : KF.C w A n fs) (i : Nat) (f : FE) (hf : fs[i]? = some f) :
   ∃ ad, A = some ad ∧ w.cell? (ad.add (i * 3)) = some (.string f.1) ∧ w.cell? ⟨(ad.add (i * 3)).block, (ad.add (i * 3)).off + 1, none⟩ = some (.string f.2.1) ∧ w.cell? ⟨(ad.add (i * 3)).block, (ad.add (i * 3)).off + 2, none⟩ = some (.slice f.2.2.1 f.2.2.2.1 f.2.2.2.2) := by
 obtain ⟨h1, h2, h3⟩ := h
 obtain ⟨ad, rfl, hat⟩ := h3 (by have := (List.getElem?_eq_some_iff.1 hf).1; omega)
 obtain ⟨c, hc, hK, hcell⟩ := hat i f hf
 have e := kf_cs hK
 subst e
 have k0 := hcell 0 _ rfl
 have k1 := hcell 1 _ rfl
 have k2 := hcell 2 _ rfl
 refine ⟨ad, rfl, ?_, ?_, ?_⟩
 · exact k0
 · show w.cell? ((ad.add (i * 3)).add 1) = _
   rw [add_add]; exact k1
 · show w.cell? ((ad.add (i * 3)).add 2) = _
   rw [add_add]; exact k2
theorem kfm_cs {w : World} {base : Nat} {ok : Nat → Prop} {f : FE} {cs : List Value} (h : KF.M w base ok f cs) : cs = feC f := by
 obtain ⟨c0, c1, rfl, h0, c2, c3, rfl, h2, h3⟩ := h
 have e0 : c0 = [.string f.1] := h0
 have e2 : c2 = [.string f.2.1] := h2
 have e3 : c3 = [.slice f.2.2.1 f.2.2.2.1 f.2.2.2.2] := h3
 subst e0 e2 e3
 rfl
def encF (xs : List FE) : List Value := xs.flatMap feC
theorem encF_len (xs : List FE) : (encF xs).length = xs.length * 3 := by
 induction xs with
 | nil => rfl
 | cons p xs ih => rw [List.length_cons]; show (encF xs).length + 1 + 1 + 1 = _; rw [ih]; omega
theorem encF_take (xs : List FE) (n : Nat) : (encF xs).take (n * 3) = encF (xs.take n) := by
 induction xs generalizing n with
 | nil => simp [encF]
 | cons p xs ih =>
   cases n with
   | zero => rfl
   | succ n =>
     show (feC p ++ encF xs).take ((n + 1) * 3) = feC p ++ encF (xs.take n)
     rw [← ih, show (n + 1) * 3 = n * 3 + 1 + 1 + 1 by omega]; rfl
theorem encF_drop (xs : List FE) (n : Nat) : (encF xs).drop (n * 3) = encF (xs.drop n) := by
 induction xs generalizing n with
 | nil => simp [encF]
 | cons p xs ih =>
   cases n with
   | zero => rfl
   | succ n =>
     show (feC p ++ encF xs).drop ((n + 1) * 3) = encF (xs.drop n)
     rw [← ih, show (n + 1) * 3 = n * 3 + 1 + 1 + 1 by omega]; rfl
theorem encF_app (a b : List FE) : encF (a ++ b) = encF a ++ encF b := by simp [encF]
theorem reps_encF {w : World} {base : Nat} {ok : Nat → Prop} : ∀ (xs : List FE), Reps (KF.M w base ok) 3 xs (encF xs) := fun xs => by
 refine ⟨encF_len xs, fun j p hp => ?_⟩
 obtain ⟨hj, e⟩ := List.getElem?_eq_some_iff.1 hp
 rw [encF_drop, List.drop_eq_getElem_cons hj, e]
 exact ⟨[_], [_, _], rfl, rfl, [_], [_], rfl, rfl, rfl⟩
theorem encF_reps {w : World} {base : Nat} {ok : Nat → Prop} : ∀ (xs : List FE) (inner : List Value), Reps (KF.M w base ok) 3 xs inner → inner = encF xs
 | [], inner, h => by
   have := h.1
   simpa [encF] using this
 | p :: xs, inner, h => by
   have hl := h.1
   have h0 := kfm_cs (h.2 0 p rfl)
   rw [Nat.zero_mul, List.drop_zero] at h0
   have hr : Reps (KF.M w base ok) 3 xs (inner.drop 3) := by
    refine ⟨by rw [List.length_drop, hl, List.length_cons]; omega, fun j q hq => ?_⟩
    have := h.2 (j + 1) q hq
    rw [List.drop_drop]
    rw [show (j + 1) * 3 = 3 + j * 3 by omega] at this
    exact this
   have ih := encF_reps xs _ hr
   rw [← List.take_append_drop 3 inner, h0, ih]
   rfl
theorem kf_own {e : Nat} {w : World} {base : Nat} {ok : Nat → Prop} {v : Value} {xs : List FE} (h : KF.R e w base ok v xs) : w.ownsRow base e 3 v xs.length (encF xs) := by
 obtain ⟨_, inner, ho, hr⟩ := h
 rw [← encF_reps xs inner hr]; exact ho
theorem kf_of_own {e : Nat} {w : World} {base : Nat} {v : Value} {xs : List FE} (h : w.ownsRow base e 3 v xs.length (encF xs)) : KF.R e w base (fun _ => True) v xs := ⟨fun _ _ => trivial, encF xs, h, reps_encF xs⟩
theorem kq_elem2 {w : World} {A : Option Addr} {n : Nat} {l : List Rq} (h : KQ.C w A n (rqV l)) (hn : l.length = n) : ∃ ps : List (FE × Rq), ps.map (·.2) = l ∧ (∀ p ∈ ps, FR w p) ∧
   ∀ (j : Nat) p, ps[j]? = some p → ∃ ad, A = some ad ∧ w.cell? (ad.add (j * 3)) = some (.string p.1.1) ∧ w.cell? ⟨(ad.add (j * 3)).block, (ad.add (j * 3)).off + 1, none⟩ = some (.string p.1.2.1) ∧ w.cell? ⟨(ad.add (j * 3)).block, (ad.add (j * 3)).off + 2, none⟩ = some (.slice p.1.2.2.1 p.1.2.2.2.1 p.1.2.2.2.2) := by
 have each : ∀ i : Fin l.length, ∃ p : FE × Rq, p.2 = l[i] ∧ FR w p ∧ ∃ ad, A = some ad ∧ w.cell? (ad.add (i * 3)) = some (.string p.1.1) ∧ w.cell? ⟨(ad.add (i * 3)).block, (ad.add (i * 3)).off + 1, none⟩ = some (.string p.1.2.1) ∧ w.cell? ⟨(ad.add (i * 3)).block, (ad.add (i * 3)).off + 2, none⟩ = some (.slice p.1.2.2.1 p.1.2.2.2.1 p.1.2.2.2.2) := by
  intro i
  obtain ⟨ad, B, c, e, k0, k1, k2, hc, hC⟩ := kq_at2 h i.1 (by have := i.2; omega) l[i] (List.getElem?_eq_getElem i.2)
  exact ⟨((mk l[i].1, mk l[i].2.1, (B, l[i].2.2.length, c)), l[i]), rfl, ⟨rfl, rfl, rfl, hc, hC⟩, ad, e, k0, k1, k2⟩
 refine ⟨List.ofFn fun i => (each i).choose, ?_, ?_, ?_⟩
 · apply List.ext_getElem
   · simp
   · intro i h1 h2
     rw [List.getElem_map, List.getElem_ofFn]
     exact (each ⟨i, h2⟩).choose_spec.1
 · intro p hp
   obtain ⟨i, rfl⟩ := List.mem_ofFn.1 hp
   exact (each i).choose_spec.2.1
 · intro j p hp
   obtain ⟨hj, e⟩ := List.getElem?_eq_some_iff.1 hp
   rw [List.getElem_ofFn] at e
   have := (each ⟨j, by simpa using hj⟩).choose_spec.2.2
   rw [e] at this
   exact this
theorem put_kf {e : Nat} {W : World} {base g cap : Nat} {xs : List FE} (hR : KF.R e W base (fun _ => True) (.slice (some ⟨g, 0, none⟩) xs.length cap) xs) (p : Nat) (hp : p < xs.length) (f : FE) :
   ∃ o0 o1 o2, W.cell? ⟨g, p * 3, none⟩ = some o0 ∧ W.cell? ⟨g, p * 3 + 1, none⟩ = some o1 ∧ W.cell? ⟨g, p * 3 + 2, none⟩ = some o2 ∧ W.frozen? ⟨g, p * 3, none⟩ = false ∧ W.frozen? ⟨g, p * 3 + 1, none⟩ = false ∧ W.frozen? ⟨g, p * 3 + 2, none⟩ = false ∧
   (W.setCell ⟨g, p * 3, none⟩ (.string f.1)).cell? ⟨g, p * 3 + 1, none⟩ = some o1 ∧ (W.setCell ⟨g, p * 3, none⟩ (.string f.1)).frozen? ⟨g, p * 3 + 1, none⟩ = false ∧
   ((W.setCell ⟨g, p * 3, none⟩ (.string f.1)).setCell ⟨g, p * 3 + 1, none⟩ (.string f.2.1)).cell? ⟨g, p * 3 + 2, none⟩ = some o2 ∧ ((W.setCell ⟨g, p * 3, none⟩ (.string f.1)).setCell ⟨g, p * 3 + 1, none⟩ (.string f.2.1)).frozen? ⟨g, p * 3 + 2, none⟩ = false ∧ base ≤ g ∧
   KF.R e (((W.setCell ⟨g, p * 3, none⟩ (.string f.1)).setCell ⟨g, p * 3 + 1, none⟩ (.string f.2.1)).setCell ⟨g, p * 3 + 2, none⟩ (.slice f.2.2.1 f.2.2.2.1 f.2.2.2.2)) base (fun _ => True) (.slice (some ⟨g, 0, none⟩) xs.length cap) (xs.set p f) := by
 have hown := kf_own hR
 obtain ⟨hl, ⟨e0, _⟩ | ⟨g', cap', cur, e0, hbase, hcur, hn, hcm, hsz, htk⟩⟩ := hown
 · exact absurd e0 (by simp)
 · have hg : g' = g ∧ cap' = cap := by
    simp only [Value.slice.injEq, Option.some.injEq, Addr.mk.injEq] at e0
    exact ⟨e0.1.1.symm, e0.2.2.symm⟩
   obtain ⟨rfl, rfl⟩ := hg
   have hsz2 : xs.length * 3 ≤ cur.size := by
    have h := congrArg List.length htk
    rw [List.length_take, encF_len, Array.length_toList] at h
    omega
   have hx : ∀ i, i < 3 → ∃ o, cur[p * 3 + i]? = some o := fun i hi => ⟨_, Array.getElem?_eq_getElem (by omega)⟩
   obtain ⟨o0, h0⟩ := hx 0 (by omega)
   obtain ⟨o1, h1⟩ := hx 1 (by omega)
   obtain ⟨o2, h2⟩ := hx 2 (by omega)
   rw [Nat.add_zero] at h0
   have hput1 := blk_put hcur (p * 3) (.string f.1) (cs' := cur.setIfInBounds (p * 3) (.string f.1)) rfl
   have hput2 := blk_put hput1 (p * 3 + 1) (.string f.2.1) (cs' := (cur.setIfInBounds (p * 3) (.string f.1)).setIfInBounds (p * 3 + 1) (.string f.2.1)) rfl
   have hput3 := blk_put hput2 (p * 3 + 2) (.slice f.2.2.1 f.2.2.2.1 f.2.2.2.2) (cs' := ((cur.setIfInBounds (p * 3) (.string f.1)).setIfInBounds (p * 3 + 1) (.string f.2.1)).setIfInBounds (p * 3 + 2) (.slice f.2.2.1 f.2.2.2.1 f.2.2.2.2)) rfl
   refine ⟨o0, o1, o2, (blk_cell hcur _).trans h0, (blk_cell hcur _).trans h1, (blk_cell hcur _).trans h2, blk_frozen hcur _, blk_frozen hcur _, blk_frozen hcur _, (blk_cell hput1 _).trans (by rw [Array.getElem?_setIfInBounds_ne (by omega)]; exact h1), blk_frozen hput1 _, (blk_cell hput2 _).trans (by rw [Array.getElem?_setIfInBounds_ne (by omega), Array.getElem?_setIfInBounds_ne (by omega)]; exact h2), blk_frozen hput2 _, hbase, kf_of_own ?_⟩
   refine ⟨by rw [encF_len, List.length_set], .inr ⟨g', cap', _, by rw [List.length_set], hbase, hput3, by rw [List.length_set]; exact hn, hcm, by rw [Array.size_setIfInBounds, Array.size_setIfInBounds, Array.size_setIfInBounds]; exact hsz, ?_⟩⟩
   rw [List.length_set, Array.toList_setIfInBounds, Array.toList_setIfInBounds, Array.toList_setIfInBounds, List.take_set, List.take_set, List.take_set, htk]
   have hpx : (encF xs).drop (p * 3) = feC xs[p] ++ encF (xs.drop (p + 1)) := by
    rw [encF_drop, List.drop_eq_getElem_cons hp]; rfl
   have e1 : encF xs = encF (xs.take p) ++ (feC xs[p] ++ encF (xs.drop (p + 1))) := by
    rw [← hpx, ← encF_take, List.take_append_drop]
   have e2 : xs.set p f = xs.take p ++ f :: xs.drop (p + 1) := List.set_eq_take_append_cons_drop .. |>.trans (if_pos hp)
   have hln : (encF (xs.take p)).length = p * 3 := by rw [encF_len, List.length_take]; congr 1; omega
   rw [e1, e2, encF_app]
   rw [List.set_append_right _ _ (by omega), hln, Nat.sub_self]
   rw [List.set_append_right _ _ (by omega), hln, show p * 3 + 1 - p * 3 = 1 by omega]
   rw [List.set_append_right _ _ (by omega), hln, show p * 3 + 2 - p * 3 = 2 by omega]
   rfl
end Go.Proofs.YthfjolafikgpoaaGreatDoor.Hand
