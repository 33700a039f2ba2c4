/- Requirements put in at their place: pure, and a row of such elements. (Printed by orda.py.) -/
import Derived.Test.YthfjolafikgpoaaGreatDoorSDM36
import Derived.BigQuiet
namespace Go.Proofs.YthfjolafikgpoaaGreatDoor.Hand
open Go.RowKit Go.Maps Go.Proofs.YthfjolafikgpoaaGreatDoorW.PrintWords Go.Proofs.YthfjolafikgpoaaGreatDoorW.PrintLast Go.Proofs.YthfjolafikgpoaaGreatDoorW.PrintMore Go.Proofs.YthfjolafikgpoaaGreatDoor.Base
open Go.Sort (ltStr)
set_option linter.unusedVariables false
set_option linter.unusedSimpArgs false
set_option maxRecDepth 100000
theorem ins_asc {gt : Rq → Rq → Bool} (ht : ∀ a b c, gt a b = false → gt b c = false → gt a c = false) (ha : ∀ a b, gt a b = true → gt b a = false) {l : List Rq} {r : Rq} {i : Nat} (hi : i ≤ l.length) (hs : l.Pairwise fun a b => gt a b = false) (h1 : ∀ (k : Nat) x, i ≤ k → l[k]? = some x → gt x r = true) (h0 : ∀ (m : Nat) x, i = m + 1 → l[m]? = some x → gt x r = false) : (l.take i ++ r :: l.drop i).Pairwise fun a b => gt a b = false := by
 have hs2 := hs
 rw [← List.take_append_drop i l, List.pairwise_append] at hs2
 obtain ⟨p1, p2, p3⟩ := hs2
 rw [List.pairwise_append, List.pairwise_cons]
 refine ⟨p1, ⟨fun x hx => ?_, p2⟩, fun a hA b hB => ?_⟩
 · obtain ⟨k, hk, e⟩ := List.mem_drop_iff_getElem.1 hx
   exact ha _ _ (h1 (i + k) x (by omega) (by rw [List.getElem?_eq_getElem (by omega), ← e]))
 · rcases List.mem_cons.1 hB with e | hB
   · subst e
     obtain ⟨k, hk, e⟩ := List.mem_take_iff_getElem.1 hA
     have hki : k < i := by omega
     obtain ⟨m, rfl⟩ : ∃ m, i = m + 1 := ⟨i - 1, by omega⟩
     have hm : m < l.length := by omega
     have h2 := h0 m l[m] rfl (List.getElem?_eq_getElem hm)
     by_cases hkm : k = m
     · subst hkm; rw [← e]; exact h2
     · rw [← e]; exact ht _ _ _ ((List.pairwise_iff_getElem.1 hs) k m (by omega) hm (by omega)) h2
   · exact p3 a hA b hB
theorem ins_perm {α : Type} {l m : List α} {r : α} (i : Nat) (h : l.Perm m) : (l.take i ++ r :: l.drop i).Perm (m ++ [r]) := by
 refine List.perm_middle.trans ?_
 rw [List.take_append_drop]
 exact ((h.cons r).trans (List.perm_append_comm (l₁ := [r]) (l₂ := m)))
theorem ins_next {α : Type} (l : List α) (g : α) {m : Nat} (h : m < l.length) : (l.take (m + 1) ++ g :: l.drop (m + 1)).set (m + 1) l[m] = l.take m ++ l[m] :: l.drop m := by
 have e1 : (l.take (m + 1)).length = m + 1 := by rw [List.length_take]; omega
 rw [List.set_append_right _ _ (by omega), e1, Nat.sub_self, List.set_cons_zero, List.drop_eq_getElem_cons h, List.take_add_one, List.getElem?_eq_getElem h, Option.toList_some, List.append_assoc, List.singleton_append]
theorem ins_set {α : Type} (l : List α) (g r : α) {i : Nat} (h : i ≤ l.length) : (l.take i ++ g :: l.drop i).set i r = l.take i ++ r :: l.drop i := by
 have e1 : (l.take i).length = i := by rw [List.length_take]; omega
 rw [List.set_append_right _ _ (by omega), e1, Nat.sub_self, List.set_cons_zero]
theorem ins_get {α : Type} (l : List α) (g : α) {i m : Nat} (h : i ≤ l.length) (hm : m < i) : (l.take i ++ g :: l.drop i)[m]? = l[m]? := by
 rw [List.getElem?_append_left (by rw [List.length_take]; omega), List.getElem?_take_of_lt hm]
theorem ins_len {α : Type} (l : List α) (g : α) {i : Nat} (h : i ≤ l.length) : (l.take i ++ g :: l.drop i).length = l.length + 1 := by simp; omega
theorem kf_at {w : World} {A : Option Addr} {n : Nat} {fs : List FE} (h : KF.C w A n fs) (i : Nat) (f : FE) (hf : fs[i]? = some f) :
   ∃ ad, A = some ad ∧ w.cell? (ad.add (i * 3)) = some (.string f.1) ∧ w.cell? ⟨(ad.add (i * 3)).block, (ad.add (i * 3)).off + 1, none⟩ = some (.string f.2.1) ∧ w.cell? ⟨(ad.add (i * 3)).block, (ad.add (i * 3)).off + 2, none⟩ = some (.slice f.2.2.1 f.2.2.2.1 f.2.2.2.2) := by
 obtain ⟨h1, h2, h3⟩ := h
 obtain ⟨ad, rfl, hat⟩ := h3 (by have := (List.getElem?_eq_some_iff.1 hf).1; omega)
 obtain ⟨c, hc, hK, hcell⟩ := hat i f hf
 have e := kf_cs hK
 subst e
 have k0 := hcell 0 _ rfl
 have k1 := hcell 1 _ rfl
 have k2 := hcell 2 _ rfl
 refine ⟨ad, rfl, ?_, ?_, ?_⟩
 · exact k0
 · show w.cell? ((ad.add (i * 3)).add 1) = _
   rw [add_add]; exact k1
 · show w.cell? ((ad.add (i * 3)).add 2) = _
   rw [add_add]; exact k2
theorem kfm_cs {w : World} {base : Nat} {ok : Nat → Prop} {f : FE} {cs : List Value} (h : KF.M w base ok f cs) : cs = feC f := by
 obtain ⟨c0, c1, rfl, h0, c2, c3, rfl, h2, h3⟩ := h
 have e0 : c0 = [.string f.1] := h0
 have e2 : c2 = [.string f.2.1] := h2
 have e3 : c3 = [.slice f.2.2.1 f.2.2.2.1 f.2.2.2.2] := h3
 subst e0 e2 e3
 rfl
def encF (xs : List FE) : List Value := xs.flatMap feC
theorem encF_len (xs : List FE) : (encF xs).length = xs.length * 3 := by
 induction xs with
 | nil => rfl
 | cons p xs ih => rw [List.length_cons]; show (encF xs).length + 1 + 1 + 1 = _; rw [ih]; omega
theorem encF_take (xs : List FE) (n : Nat) : (encF xs).take (n * 3) = encF (xs.take n) := by
 induction xs generalizing n with
 | nil => simp [encF]
 | cons p xs ih =>
   cases n with
   | zero => rfl
   | succ n =>
     show (feC p ++ encF xs).take ((n + 1) * 3) = feC p ++ encF (xs.take n)
     rw [← ih, show (n + 1) * 3 = n * 3 + 1 + 1 + 1 by omega]; rfl
theorem encF_drop (xs : List FE) (n : Nat) : (encF xs).drop (n * 3) = encF (xs.drop n) := by
 induction xs generalizing n with
 | nil => simp [encF]
 | cons p xs ih =>
   cases n with
   | zero => rfl
   | succ n =>
     show (feC p ++ encF xs).drop ((n + 1) * 3) = encF (xs.drop n)
     rw [← ih, show (n + 1) * 3 = n * 3 + 1 + 1 + 1 by omega]; rfl
theorem encF_app (a b : List FE) : encF (a ++ b) = encF a ++ encF b := by simp [encF]
theorem reps_encF {w : World} {base : Nat} {ok : Nat → Prop} : ∀ (xs : List FE), Reps (KF.M w base ok) 3 xs (encF xs) := fun xs => by
 refine ⟨encF_len xs, fun j p hp => ?_⟩
 obtain ⟨hj, e⟩ := List.getElem?_eq_some_iff.1 hp
 rw [encF_drop, List.drop_eq_getElem_cons hj, e]
 exact ⟨[_], [_, _], rfl, rfl, [_], [_], rfl, rfl, rfl⟩
theorem encF_reps {w : World} {base : Nat} {ok : Nat → Prop} : ∀ (xs : List FE) (inner : List Value), Reps (KF.M w base ok) 3 xs inner → inner = encF xs
 | [], inner, h => by
   have := h.1
   simpa [encF] using this
 | p :: xs, inner, h => by
   have hl := h.1
   have h0 := kfm_cs (h.2 0 p rfl)
   rw [Nat.zero_mul, List.drop_zero] at h0
   have hr : Reps (KF.M w base ok) 3 xs (inner.drop 3) := by
    refine ⟨by rw [List.length_drop, hl, List.length_cons]; omega, fun j q hq => ?_⟩
    have := h.2 (j + 1) q hq
    rw [List.drop_drop]
    rw [show (j + 1) * 3 = 3 + j * 3 by omega] at this
    exact this
   have ih := encF_reps xs _ hr
   rw [← List.take_append_drop 3 inner, h0, ih]
   rfl
theorem kf_own {e : Nat} {w : World} {base : Nat} {ok : Nat → Prop} {v : Value} {xs : List FE} (h : KF.R e w base ok v xs) : w.ownsRow base e 3 v xs.length (encF xs) := by
 obtain ⟨_, inner, ho, hr⟩ := h
 rw [← encF_reps xs inner hr]; exact ho
theorem kf_of_own {e : Nat} {w : World} {base : Nat} {v : Value} {xs : List FE} (h : w.ownsRow base e 3 v xs.length (encF xs)) : KF.R e w base (fun _ => True) v xs := ⟨fun _ _ => trivial, encF xs, h, reps_encF xs⟩
theorem kq_elem2 {w : World} {A : Option Addr} {n : Nat} {l : List Rq} (h : KQ.C w A n (rqV l)) (hn : l.length = n) : ∃ ps : List (FE × Rq), ps.map (·.2) = l ∧ (∀ p ∈ ps, FR w p) ∧
   ∀ (j : Nat) p, ps[j]? = some p → ∃ ad, A = some ad ∧ w.cell? (ad.add (j * 3)) = some (.string p.1.1) ∧ w.cell? ⟨(ad.add (j * 3)).block, (ad.add (j * 3)).off + 1, none⟩ = some (.string p.1.2.1) ∧ w.cell? ⟨(ad.add (j * 3)).block, (ad.add (j * 3)).off + 2, none⟩ = some (.slice p.1.2.2.1 p.1.2.2.2.1 p.1.2.2.2.2) := by
 have each : ∀ i : Fin l.length, ∃ p : FE × Rq, p.2 = l[i] ∧ FR w p ∧ ∃ ad, A = some ad ∧ w.cell? (ad.add (i * 3)) = some (.string p.1.1) ∧ w.cell? ⟨(ad.add (i * 3)).block, (ad.add (i * 3)).off + 1, none⟩ = some (.string p.1.2.1) ∧ w.cell? ⟨(ad.add (i * 3)).block, (ad.add (i * 3)).off + 2, none⟩ = some (.slice p.1.2.2.1 p.1.2.2.2.1 p.1.2.2.2.2) := by
  intro i
  obtain ⟨ad, B, c, e, k0, k1, k2, hc, hC⟩ := kq_at2 h i.1 (by have := i.2; omega) l[i] (List.getElem?_eq_getElem i.2)
  exact ⟨((mk l[i].1, mk l[i].2.1, (B, l[i].2.2.length, c)), l[i]), rfl, ⟨rfl, rfl, rfl, hc, hC⟩, ad, e, k0, k1, k2⟩
 refine ⟨List.ofFn fun i => (each i).choose, ?_, ?_, ?_⟩
 · apply List.ext_getElem
   · simp
   · intro i h1 h2
     rw [List.getElem_map, List.getElem_ofFn]
     exact (each ⟨i, h2⟩).choose_spec.1
 · intro p hp
   obtain ⟨i, rfl⟩ := List.mem_ofFn.1 hp
   exact (each i).choose_spec.2.1
 · intro j p hp
   obtain ⟨hj, e⟩ := List.getElem?_eq_some_iff.1 hp
   rw [List.getElem_ofFn] at e
   have := (each ⟨j, by simpa using hj⟩).choose_spec.2.2
   rw [e] at this
   exact this
theorem put_kf {e : Nat} {W : World} {base g cap : Nat} {xs : List FE} (hR : KF.R e W base (fun _ => True) (.slice (some ⟨g, 0, none⟩) xs.length cap) xs) (p : Nat) (hp : p < xs.length) (f : FE) :
   ∃ o0 o1 o2, W.cell? ⟨g, p * 3, none⟩ = some o0 ∧ W.cell? ⟨g, p * 3 + 1, none⟩ = some o1 ∧ W.cell? ⟨g, p * 3 + 2, none⟩ = some o2 ∧ W.frozen? ⟨g, p * 3, none⟩ = false ∧ W.frozen? ⟨g, p * 3 + 1, none⟩ = false ∧ W.frozen? ⟨g, p * 3 + 2, none⟩ = false ∧
   (W.setCell ⟨g, p * 3, none⟩ (.string f.1)).cell? ⟨g, p * 3 + 1, none⟩ = some o1 ∧ (W.setCell ⟨g, p * 3, none⟩ (.string f.1)).frozen? ⟨g, p * 3 + 1, none⟩ = false ∧
   ((W.setCell ⟨g, p * 3, none⟩ (.string f.1)).setCell ⟨g, p * 3 + 1, none⟩ (.string f.2.1)).cell? ⟨g, p * 3 + 2, none⟩ = some o2 ∧ ((W.setCell ⟨g, p * 3, none⟩ (.string f.1)).setCell ⟨g, p * 3 + 1, none⟩ (.string f.2.1)).frozen? ⟨g, p * 3 + 2, none⟩ = false ∧ base ≤ g ∧
   KF.R e (((W.setCell ⟨g, p * 3, none⟩ (.string f.1)).setCell ⟨g, p * 3 + 1, none⟩ (.string f.2.1)).setCell ⟨g, p * 3 + 2, none⟩ (.slice f.2.2.1 f.2.2.2.1 f.2.2.2.2)) base (fun _ => True) (.slice (some ⟨g, 0, none⟩) xs.length cap) (xs.set p f) := by
 have hown := kf_own hR
 obtain ⟨hl, ⟨e0, _⟩ | ⟨g', cap', cur, e0, hbase, hcur, hn, hcm, hsz, htk⟩⟩ := hown
 · exact absurd e0 (by simp)
 · have hg : g' = g ∧ cap' = cap := by
    simp only [Value.slice.injEq, Option.some.injEq, Addr.mk.injEq] at e0
    exact ⟨e0.1.1.symm, e0.2.2.symm⟩
   obtain ⟨rfl, rfl⟩ := hg
   have hsz2 : xs.length * 3 ≤ cur.size := by
    have h := congrArg List.length htk
    rw [List.length_take, encF_len, Array.length_toList] at h
    omega
   have hx : ∀ i, i < 3 → ∃ o, cur[p * 3 + i]? = some o := fun i hi => ⟨_, Array.getElem?_eq_getElem (by omega)⟩
   obtain ⟨o0, h0⟩ := hx 0 (by omega)
   obtain ⟨o1, h1⟩ := hx 1 (by omega)
   obtain ⟨o2, h2⟩ := hx 2 (by omega)
   rw [Nat.add_zero] at h0
   have hput1 := blk_put hcur (p * 3) (.string f.1) (cs' := cur.setIfInBounds (p * 3) (.string f.1)) rfl
   have hput2 := blk_put hput1 (p * 3 + 1) (.string f.2.1) (cs' := (cur.setIfInBounds (p * 3) (.string f.1)).setIfInBounds (p * 3 + 1) (.string f.2.1)) rfl
   have hput3 := blk_put hput2 (p * 3 + 2) (.slice f.2.2.1 f.2.2.2.1 f.2.2.2.2) (cs' := ((cur.setIfInBounds (p * 3) (.string f.1)).setIfInBounds (p * 3 + 1) (.string f.2.1)).setIfInBounds (p * 3 + 2) (.slice f.2.2.1 f.2.2.2.1 f.2.2.2.2)) rfl
   refine ⟨o0, o1, o2, (blk_cell hcur _).trans h0, (blk_cell hcur _).trans h1, (blk_cell hcur _).trans h2, blk_frozen hcur _, blk_frozen hcur _, blk_frozen hcur _, (blk_cell hput1 _).trans (by rw [Array.getElem?_setIfInBounds_ne (by omega)]; exact h1), blk_frozen hput1 _, (blk_cell hput2 _).trans (by rw [Array.getElem?_setIfInBounds_ne (by omega), Array.getElem?_setIfInBounds_ne (by omega)]; exact h2), blk_frozen hput2 _, hbase, kf_of_own ?_⟩
   refine ⟨by rw [encF_len, List.length_set], .inr ⟨g', cap', _, by rw [List.length_set], hbase, hput3, by rw [List.length_set]; exact hn, hcm, by rw [Array.size_setIfInBounds, Array.size_setIfInBounds, Array.size_setIfInBounds]; exact hsz, ?_⟩⟩
   rw [List.length_set, Array.toList_setIfInBounds, Array.toList_setIfInBounds, Array.toList_setIfInBounds, List.take_set, List.take_set, List.take_set, htk]
   have hpx : (encF xs).drop (p * 3) = feC xs[p] ++ encF (xs.drop (p + 1)) := by
    rw [encF_drop, List.drop_eq_getElem_cons hp]; rfl
   have e1 : encF xs = encF (xs.take p) ++ (feC xs[p] ++ encF (xs.drop (p + 1))) := by
    rw [← hpx, ← encF_take, List.take_append_drop]
   have e2 : xs.set p f = xs.take p ++ f :: xs.drop (p + 1) := List.set_eq_take_append_cons_drop .. |>.trans (if_pos hp)
   have hln : (encF (xs.take p)).length = p * 3 := by rw [encF_len, List.length_take]; congr 1; omega
   rw [e1, e2, encF_app]
   rw [List.set_append_right _ _ (by omega), hln, Nat.sub_self]
   rw [List.set_append_right _ _ (by omega), hln, show p * 3 + 1 - p * 3 = 1 by omega]
   rw [List.set_append_right _ _ (by omega), hln, show p * 3 + 2 - p * 3 = 2 by omega]
   rfl
def jfl (r : List L) : L := r.flatMap fun s => 44 :: s
def jc : List L → L
 | [] => []
 | v :: r => v ++ jfl r
theorem joinB_jc (vs : List L) : joinB ⟨#[44]⟩ (vs.map mk) = mk (jc vs) := by
 rw [join_pcw vs []]
 congr 1
 cases vs with
 | nil => rfl
 | cons v r =>
   show v ++ outL (r.flatMap fun s => [.str [44], .str s]) [] = v ++ jfl r
   congr 1
   induction r with
   | nil => rfl
   | cons s r ih =>
     rw [List.flatMap_cons]
     show [44] ++ (s ++ outL (r.flatMap fun s => [.str [44], .str s]) []) = _
     rw [ih]; rfl
def cm (s : L) : Prop := s = [] ∨ s.head? = some 44
theorem jfl_cm (r : List L) : cm (jfl r) := by
 cases r with
 | nil => exact .inl rfl
 | cons s r => exact .inr rfl
theorem cut44 : ∀ {x y s t : L}, (44 : UInt8) ∉ x → (44 : UInt8) ∉ y → cm s → cm t → x ++ s = y ++ t → x = y ∧ s = t
 | [], [], s, t, _, _, _, _, h => ⟨rfl, h⟩
 | [], b :: y, s, t, _, hy, hs, _, h => by
   rcases hs with hs | hs
   · subst hs; cases h
   · cases s with
     | nil => cases hs
     | cons c s =>
       injection hs with hs
       injection h with h1 h2
       exact absurd (by rw [← h1, hs]; exact List.mem_cons_self ..) hy
 | a :: x, [], s, t, hx, _, _, ht, h => by
   rcases ht with ht | ht
   · subst ht; cases h
   · cases t with
     | nil => cases ht
     | cons c t =>
       injection ht with ht
       injection h with h1 h2
       exact absurd (by rw [h1, ht]; exact List.mem_cons_self ..) hx
 | a :: x, b :: y, s, t, hx, hy, hs, ht, h => by
   injection h with h1 h2
   obtain ⟨e1, e2⟩ := cut44 (fun hm => hx (List.mem_cons_of_mem _ hm)) (fun hm => hy (List.mem_cons_of_mem _ hm)) hs ht h2
   exact ⟨by rw [h1, e1], e2⟩
theorem jfl_inj : ∀ {a b : List L}, (∀ x ∈ a, (44 : UInt8) ∉ x) → (∀ x ∈ b, (44 : UInt8) ∉ x) → jfl a = jfl b → a = b
 | [], [], _, _, _ => rfl
 | [], y :: b, _, _, h => by cases h
 | x :: a, [], _, _, h => by cases h
 | x :: a, y :: b, ha, hb, h => by
   have h1 : x ++ jfl a = y ++ jfl b := by injection h
   obtain ⟨e1, e2⟩ := cut44 (ha x (List.mem_cons_self ..)) (hb y (List.mem_cons_self ..)) (jfl_cm a) (jfl_cm b) h1
   rw [e1, jfl_inj (fun x hx => ha x (List.mem_cons_of_mem _ hx)) (fun x hx => hb x (List.mem_cons_of_mem _ hx)) e2]
theorem jc_inj {a b : List L} (hn : a ≠ []) (hm : b ≠ []) (ha : ∀ x ∈ a, (44 : UInt8) ∉ x) (hb : ∀ x ∈ b, (44 : UInt8) ∉ x) (h : jc a = jc b) : a = b := by
 cases a with
 | nil => exact absurd rfl hn
 | cons x a =>
   cases b with
   | nil => exact absurd rfl hm
   | cons y b =>
     have h1 : x ++ jfl a = y ++ jfl b := h
     obtain ⟨e1, e2⟩ := cut44 (ha x (List.mem_cons_self ..)) (hb y (List.mem_cons_self ..)) (jfl_cm a) (jfl_cm b) h1
     rw [e1, jfl_inj (fun x hx => ha x (List.mem_cons_of_mem _ hx)) (fun x hx => hb x (List.mem_cons_of_mem _ hx)) e2]
def behL (op m : L) : L :=
 if op = [105, 110] then [32, 105, 110, 32, 40] ++ (m ++ [41])
 else if op = [110, 111, 116, 105, 110] then [32, 110, 111, 116, 105, 110, 32, 40] ++ (m ++ [41])
 else if op = [103, 116] then 62 :: m
 else if op = [108, 116] then 60 :: m
 else if op = [101, 120, 105, 115, 116, 115] then []
 else op ++ m
theorem txt_list (r : Rq) : txtV r = mk (if r.2.1 = [33] then 33 :: r.1 else r.1 ++ behL r.2.1 (jc r.2.2)) := by
 unfold txtV textM
 rw [joinB_jc]
 generalize jc r.2.2 = m
 have e : ∀ a b : L, mk a ++ mk b = mk (a ++ b) := fun a b => (mk_app_ a b).symm
 by_cases h1 : r.2.1 = [105, 110]
 · rw [if_pos h1, h1, if_neg (by decide)]
   show mk r.1 ++ mk [32, 105, 110, 32] ++ mk [40] ++ mk m ++ mk [41] = mk (r.1 ++ ([32, 105, 110, 32, 40] ++ (m ++ [41])))
   simp only [e, List.append_assoc]; rfl
 rw [if_neg h1]
 by_cases h2 : r.2.1 = [110, 111, 116, 105, 110]
 · rw [if_pos h2, h2, if_neg (by decide)]
   show mk r.1 ++ mk [32, 110, 111, 116, 105, 110, 32] ++ mk [40] ++ mk m ++ mk [41] = mk (r.1 ++ ([32, 110, 111, 116, 105, 110, 32, 40] ++ (m ++ [41])))
   simp only [e, List.append_assoc]; rfl
 rw [if_neg h2]
 by_cases h3 : r.2.1 = [103, 116]
 · rw [if_pos h3, h3, if_neg (by decide)]
   show mk r.1 ++ mk [62] ++ mk m = mk (r.1 ++ ([62] ++ m))
   simp only [e, List.append_assoc]
 rw [if_neg h3]
 by_cases h4 : r.2.1 = [108, 116]
 · rw [if_pos h4, h4, if_neg (by decide)]
   show mk r.1 ++ mk [60] ++ mk m = mk (r.1 ++ ([60] ++ m))
   simp only [e, List.append_assoc]
 rw [if_neg h4]
 by_cases h5 : r.2.1 = [101, 120, 105, 115, 116, 115]
 · rw [if_pos h5, h5, if_neg (by decide)]
   show mk r.1 = mk (r.1 ++ [])
   rw [List.append_nil]
 rw [if_neg h5]
 by_cases h6 : r.2.1 = [33]
 · rw [if_pos h6, if_pos h6]
   show mk [33] ++ mk r.1 = mk ([33] ++ r.1)
   rw [e]
 rw [if_neg h6, if_neg h6]
 unfold behL
 rw [if_neg h1, if_neg h2, if_neg h3, if_neg h4, if_neg h5]
 show mk r.1 ++ mk r.2.1 ++ mk m = _
 simp only [e, List.append_assoc]
inductive OpV (op : L) (vs : List L) : Prop
 | isIn (e : op = [105, 110]) (h : vs ≠ [])
 | isNotin (e : op = [110, 111, 116, 105, 110]) (h : vs ≠ [])
 | eq (e : op = [61]) (v : L) (h : vs = [v])
 | eqeq (e : op = [61, 61]) (v : L) (h : vs = [v])
 | ne (e : op = [33, 61]) (v : L) (h : vs = [v])
 | gt (e : op = [103, 116]) (v : L) (h : vs = [v])
 | lt (e : op = [108, 116]) (v : L) (h : vs = [v])
 | exs (e : op = [101, 120, 105, 115, 116, 115]) (h : vs = [])
 | no (e : op = [33]) (h : vs = [])
theorem len_one {vs : List L} (h : (vs.length == 1) = true) : ∃ v, vs = [v] := by
 match vs, h with
 | [v], _ => exact ⟨v, rfl⟩
theorem opV_of {op : L} {vs : List L} (h : opOk op vs = true) : OpV op vs := by
 unfold opOk at h
 split at h
 · rename_i e
   have hn : vs ≠ [] := fun e2 => by subst e2; cases h
   rcases e with e | e
   · exact .isIn e hn
   · exact .isNotin e hn
 split at h
 · rename_i e
   obtain ⟨v, hv⟩ := len_one h
   rcases e with e | e | e
   · exact .eq e v hv
   · exact .eqeq e v hv
   · exact .ne e v hv
 split at h
 · rename_i e
   have hv : vs = [] := List.length_eq_zero_iff.1 (by simpa using h)
   rcases e with e | e
   · exact .exs e hv
   · exact .no e hv
 split at h
 · rename_i e
   split at h
   · rename_i v
     rcases e with e | e
     · exact .gt e v rfl
     · exact .lt e v rfl
   · cases h
 · cases h
theorem nm_no {x : L} (h : x.all nmB = true) (c : UInt8) (hc : nmB c = false) : c ∉ x := fun hm => by
 have := List.all_eq_true.1 h c hm
 rw [hc] at this; cases this
theorem txt_inj {r q : Rq} (hr : fairR r.1 r.2.1 r.2.2 = true) (hq : fairR q.1 q.2.1 q.2.2 = true) (hk : r.1 = q.1) (ht : txtV r = txtV q) : r = q := by
 obtain ⟨k, op, vs⟩ := r
 obtain ⟨k2, op2, vs2⟩ := q
 unfold fairR at hr hq
 simp only [Bool.and_eq_true, List.all_eq_true] at hr hq hk
 subst hk
 obtain ⟨h1, h2, h3⟩ := hr
 obtain ⟨g1, g2, g3⟩ := hq
 obtain ⟨kn, kne⟩ := pQ_all h3
 have k33 := nm_no kn 33 rfl
 have c1 : ∀ x ∈ vs, (44 : UInt8) ∉ x := fun x hx => nm_no (pValue_all (h2 x hx)) 44 rfl
 have c2 : ∀ x ∈ vs2, (44 : UInt8) ∉ x := fun x hx => nm_no (pValue_all (g2 x hx)) 44 rfl
 have d1 : ∀ x ∈ vs, (61 : UInt8) ∉ x := fun x hx => nm_no (pValue_all (h2 x hx)) 61 rfl
 have d2 : ∀ x ∈ vs2, (61 : UInt8) ∉ x := fun x hx => nm_no (pValue_all (g2 x hx)) 61 rfl
 rw [txt_list, txt_list] at ht
 have ht2 := mk_inj ht
 have hbang : ∀ t : L, 33 :: k ≠ k ++ t := fun t e => by
  cases k with
  | nil => exact kne rfl
  | cons c k =>
    injection e with e1 e2
    exact k33 (by rw [← e1]; exact List.mem_cons_self ..)
 have hfin : vs ≠ [] → vs2 ≠ [] → jc vs = jc vs2 → vs = vs2 := fun a b h => jc_inj a b c1 c2 h
 clear ht h3 kn kne k33 g3 h2 g2 c1 c2
 have O1 := opV_of h1
 have O2 := opV_of g1
 clear h1 g1
 rcases O1 with ⟨e, n1⟩ | ⟨e, n1⟩ | ⟨e, v, n1⟩ | ⟨e, v, n1⟩ | ⟨e, v, n1⟩ | ⟨e, v, n1⟩ | ⟨e, v, n1⟩ | ⟨e, n1⟩ | ⟨e, n1⟩ <;>
 rcases O2 with ⟨f, n2⟩ | ⟨f, n2⟩ | ⟨f, u, n2⟩ | ⟨f, u, n2⟩ | ⟨f, u, n2⟩ | ⟨f, u, n2⟩ | ⟨f, u, n2⟩ | ⟨f, n2⟩ | ⟨f, n2⟩ <;>
 (have e' : op = _ := e; have f' : op2 = _ := f; subst e' f'; clear e f) <;>
 first
   | (exfalso; exact hbang _ ht2)
   | (exfalso; exact hbang _ ht2.symm)
   | (exfalso; simp [behL] at ht2; done)
   | (have ht3 := List.append_cancel_left (show k ++ _ = k ++ _ from ht2)
      simp [behL] at ht3
      first
        | (rw [hfin n1 n2 ht3]; done)
        | (rw [hfin (by rw [n1]; simp) (by rw [n2]; simp) ht3]; done)
        | (rw [n1, n2]; done))
   | (rw [n1, n2]; done)
   | (exfalso
      have ht3 := List.append_cancel_left (show k ++ _ = k ++ _ from ht2)
      have n1' : vs = [_] := n1
      have n2' : vs2 = [_] := n2
      subst n1' n2'
      simp [behL, jc, jfl] at ht3
      first
        | exact d1 _ (List.mem_cons_self ..) (by rw [ht3]; exact List.mem_cons_self ..)
        | exact d2 _ (List.mem_cons_self ..) (by rw [← ht3]; exact List.mem_cons_self ..))
def gtS (a b : Rq) : Bool := klt b a || (b.1 == a.1 && ltStr (txtV b).toList (txtV a).toList)
theorem gtS_f {a b : Rq} : gtS a b = false ↔ klt b a = false ∧ (b.1 = a.1 → ltStr (txtV b).toList (txtV a).toList = false) := by
 unfold gtS
 rw [Bool.or_eq_false_iff]
 refine and_congr_right fun _ => ?_
 by_cases e : b.1 = a.1
 · simp [e]
 · simp [e]
theorem lt_asym {x y : L} (h : ltStr x y = true) : ltStr y x = false := by
 cases e : ltStr y x
 · rfl
 · have := lt_tr h e; rw [lt_irr] at this; cases this
theorem lt_ntr {x y z : L} (h1 : ltStr y x = false) (h2 : ltStr z y = false) : ltStr z x = false := by
 cases e : ltStr z x
 · rfl
 · exfalso
   by_cases h3 : ltStr x y = true
   · have := lt_tr e h3; rw [h2] at this; cases this
   · have e1 : x = y := lt_tot (by simpa using h3) h1
     rw [e1, h2] at e; cases e
theorem gtS_tr (a b c : Rq) (h1 : gtS a b = false) (h2 : gtS b c = false) : gtS a c = false := by
 rw [gtS_f] at *
 refine ⟨lt_ntr h1.1 h2.1, fun e => ?_⟩
 have e1 : b.1 = a.1 := by
  have p1 : ltStr b.1 a.1 = false := h1.1
  have p2 : ltStr c.1 b.1 = false := h2.1
  rw [e] at p2
  exact lt_tot p1 p2
 exact lt_ntr (h1.2 e1) (h2.2 (e.trans e1.symm))
theorem gtS_as (a b : Rq) (h : gtS a b = true) : gtS b a = false := by
 rw [gtS_f]
 unfold gtS at h
 rw [Bool.or_eq_true] at h
 rcases h with h | h
 · refine ⟨lt_asym h, fun e => ?_⟩
   have h2 : ltStr b.1 a.1 = true := h
   rw [e, lt_irr] at h2; cases h2
 · rw [Bool.and_eq_true, beq_iff_eq] at h
   refine ⟨?_, fun _ => lt_asym h.2⟩
   show ltStr a.1 b.1 = false
   rw [h.1, lt_irr]
theorem gtS_eq {a b : Rq} (ha : fairR a.1 a.2.1 a.2.2 = true) (hb : fairR b.1 b.2.1 b.2.2 = true) (h1 : gtS a b = false) (h2 : gtS b a = false) : a = b := by
 rw [gtS_f] at h1 h2
 have e : a.1 = b.1 := lt_tot h2.1 h1.1
 have e2 : (txtV a).toList = (txtV b).toList := lt_tot (h2.2 e) (h1.2 e.symm)
 refine txt_inj ha hb e ?_
 rw [txt_list, txt_list] at e2 ⊢
 rw [mk_toList, mk_toList] at e2
 rw [e2]
def SAsc (l : List Rq) : Prop := l.Pairwise fun a b => gtS a b = false
theorem sasc_uniq {a b : List Rq} (hp : a.Perm b) (hf : ∀ r ∈ a, fairR r.1 r.2.1 r.2.2 = true) (ha : SAsc a) (hb : SAsc b) : a = b :=
 List.Perm.eq_of_pairwise (le := fun x y => gtS x y = false) (fun x y hx hy h1 h2 => gtS_eq (hf x hx) (hf y (hp.mem_iff.2 hy)) h1 h2) ha hb hp
theorem gt_bytes (a b : L) : (!Op.bytesLess a b && !(a == b)) = Op.bytesLess b a := by
 rw [ltS, ltS]
 by_cases e : a = b
 · subst e; rw [lt_irr]; simp
 · rw [beq_eq_false_iff_ne.2 e]
   cases h : ltStr a b <;> cases h2 : ltStr b a
   · exact absurd (lt_tot h h2) e
   · rfl
   · rfl
   · exact absurd (lt_tr h h2) (by rw [lt_irr]; decide)
end Go.Proofs.YthfjolafikgpoaaGreatDoor.Hand
