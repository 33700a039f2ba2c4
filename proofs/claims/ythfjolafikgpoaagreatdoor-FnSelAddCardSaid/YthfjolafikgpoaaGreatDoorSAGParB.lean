/- The plain law of the texts in order; impl.SetList, SetWithin, SetBoth. -/
import Derived.Test.YthfjolafikgpoaaGreatDoorSALabSetOf
import Derived.Test.YthfjolafikgpoaaGreatDoorSAGSetA
import Derived.Test.YthfjolafikgpoaaGreatDoorSAGParA
import Derived.Test.YthfjolafikgpoaaGreatDoorSAGLabB
namespace Go.Proofs.YthfjolafikgpoaaGreatDoor.Hand
open Go.RowKit Go.Proofs.YthfjolafikgpoaaGreatDoorW.PrintWords Go.Proofs.YthfjolafikgpoaaGreatDoorW.PrintLast Go.Proofs.YthfjolafikgpoaaGreatDoorW.PrintMore Go.Proofs.YthfjolafikgpoaaGreatDoor.Base
set_option linter.unusedVariables false
set_option linter.unusedSimpArgs false
set_option maxRecDepth 100000
open Go.Sort (ltStr)
theorem lt_irr (x : L) : ltStr x x = false := Sort.swo_ltStr.irrefl x
theorem lt_tr {x y z : L} (h1 : ltStr x y = true) (h2 : ltStr y z = true) : ltStr x z = true := Sort.swo_ltStr.trans x y z h1 h2
theorem lt_tot {x y : L} (h1 : ltStr x y = false) (h2 : ltStr y x = false) : x = y := by
 simp only [ltStr, decide_eq_false_iff_not, List.not_lt] at h1 h2; exact List.le_antisymm h2 h1
abbrev Up (l : List L) : Prop := l.Pairwise fun x y => ltStr x y = true
def insR : List L → L → List L
 | [], s => [s]
 | y :: r, s => if ltStr y s = true then y :: insR r s else if y = s then y :: r else s :: y :: r
theorem insS_eq (out : List L) (s : L) : insS out s = insR out s := by
 induction out with
 | nil => simp [insS, posOf, insR]
 | cons y r ih =>
   unfold insR
   by_cases h : ltStr y s = true
   · rw [if_pos h, ← ih]
     have hp : posOf (y :: r) s = posOf r s + 1 := by simp [posOf, h]
     unfold insS
     rw [hp, List.getElem?_cons_succ]
     split <;> simp
   · have hp : posOf (y :: r) s = 0 := by simp [posOf, h]
     rw [if_neg h]
     unfold insS
     rw [hp, List.getElem?_cons_zero]
     by_cases e : y = s
     · subst e; simp
     · simp [e]
theorem insR_mem (out : List L) (s x : L) : x ∈ insR out s ↔ (x ∈ out ∨ x = s) := by
 induction out with
 | nil => simp [insR]
 | cons y r ih =>
   unfold insR
   split
   · rw [List.mem_cons, ih, List.mem_cons, or_assoc]
   · split
     · rename_i e
       subst e
       constructor
       · exact .inl
       · rintro (h | rfl)
         · exact h
         · exact List.mem_cons_self
     · rw [List.mem_cons]; constructor
       · rintro (h | h); exact .inr h; exact .inl h
       · rintro (h | h); exact .inr h; exact .inl h
theorem insR_up {out : List L} (h : Up out) (s : L) : Up (insR out s) := by
 induction out with
 | nil => simp [insR, Up]
 | cons y r ih =>
   have h1 := List.pairwise_cons.1 h
   unfold insR
   split
   · rename_i hy
     refine List.pairwise_cons.2 ⟨fun z hz => ?_, ih h1.2⟩
     rcases (insR_mem r s z).1 hz with hz | rfl
     · exact h1.1 z hz
     · exact hy
   · split
     · exact h
     · rename_i hy he
       have hs : ltStr s y = true := by
        cases e : ltStr s y with
        | true => rfl
        | false => exact absurd (lt_tot (by simpa using hy) e) he
       refine List.pairwise_cons.2 ⟨fun z hz => ?_, h⟩
       rcases List.mem_cons.1 hz with rfl | hz
       · exact hs
       · exact lt_tr hs (h1.1 z hz)
theorem fold_up (l : List L) : ∀ {out : List L}, Up out → Up (l.foldl insS out) ∧ ∀ x, x ∈ l.foldl insS out ↔ (x ∈ out ∨ x ∈ l) := by
 induction l with
 | nil => intro out h; exact ⟨h, by simp⟩
 | cons a l ih =>
   intro out h
   have h2 : Up (insS out a) := by rw [insS_eq]; exact insR_up h a
   obtain ⟨h3, h4⟩ := ih h2
   refine ⟨h3, fun x => ?_⟩
   rw [List.foldl_cons, h4, insS_eq, insR_mem, List.mem_cons, or_assoc]
theorem setL_up (l : List L) : Up (setL l) := (fold_up l (out := []) List.Pairwise.nil).1
theorem setL_mem (l : List L) (x : L) : x ∈ setL l ↔ x ∈ l := by have := (fold_up l (out := []) List.Pairwise.nil).2 x; simpa [setL] using this
theorem up_ext : ∀ {l m : List L}, Up l → Up m → (∀ y, y ∈ l ↔ y ∈ m) → l = m
 | [], [], _, _, _ => rfl
 | [], b :: m, _, _, h => absurd ((h b).2 List.mem_cons_self) (by simp)
 | a :: l, [], _, _, h => absurd ((h a).1 List.mem_cons_self) (by simp)
 | a :: l, b :: m, h1, h2, h => by
   have p1 := List.pairwise_cons.1 h1
   have p2 := List.pairwise_cons.1 h2
   have hab : a = b := by
    rcases List.mem_cons.1 ((h a).1 List.mem_cons_self) with e | ha
    · exact e
    · rcases List.mem_cons.1 ((h b).2 List.mem_cons_self) with e | hb
      · exact e.symm
      · have := lt_tr (p1.1 b hb) (p2.1 a ha); rw [lt_irr] at this; exact absurd this (by simp)
   subst hab
   congr 1
   refine up_ext p1.2 p2.2 fun y => ?_
   have hy := h y
   rw [List.mem_cons, List.mem_cons] at hy
   constructor
   · intro hl
     rcases hy.1 (.inr hl) with e | hm
     · subst e; have := p1.1 y hl; rw [lt_irr] at this; exact absurd this (by simp)
     · exact hm
   · intro hm
     rcases hy.2 (.inr hm) with e | hl
     · subst e; have := p2.1 y hm; rw [lt_irr] at this; exact absurd this (by simp)
     · exact hl
theorem asc_up {l : List L} (hn : l.Nodup) (ha : Asc l) : Up l := by
 refine List.Pairwise.imp₂ (fun a b (h1 : a ≠ b) (h2 : ltStr b a = false) => ?_) hn ha
 cases e : ltStr a b with
 | true => rfl
 | false => exact absurd (lt_tot e h2) h1
theorem asc_eq {l M : List L} (hn : l.Nodup) (ha : Asc l) (h : ∀ y, l.contains y = M.contains y) : l = setL M := by
 refine up_ext (asc_up hn ha) (setL_up M) fun y => ?_
 rw [setL_mem]
 have := h y
 rw [Bool.eq_iff_iff, List.contains_iff_mem, List.contains_iff_mem] at this
 exact this
theorem perm_contains {l ks : List L} (h : l.Perm ks) (y : L) : l.contains y = ks.contains y := by
 rw [Bool.eq_iff_iff, List.contains_iff_mem, List.contains_iff_mem]; exact h.mem_iff
theorem asc_perm {l ks M : List L} (hp : l.Perm ks) (hn : ks.Nodup) (ha : Asc l) (h : ∀ y, ks.contains y = M.contains y) : l = setL M ∧ ks.length = (setL M).length := by
 have e := asc_eq (hp.nodup_iff.2 hn) ha (fun y => (perm_contains hp y).trans (h y))
 exact ⟨e, by rw [← e]; exact hp.length_eq.symm⟩
end Go.Proofs.YthfjolafikgpoaaGreatDoor.Hand
namespace Go.Proofs.YthfjolafikgpoaaGreatDoor.Hand
open Go.RowKit Go.Maps Go.Proofs.YthfjolafikgpoaaGreatDoorW.PrintWords Go.Proofs.YthfjolafikgpoaaGreatDoorW.PrintLast Go.Proofs.YthfjolafikgpoaaGreatDoorW.PrintMore Go.Proofs.YthfjolafikgpoaaGreatDoor.Base
set_option linter.unusedVariables false
set_option linter.unusedSimpArgs false
set_option maxRecDepth 100000
theorem VX.of {w0 w w1 : World} {pb g q b N : Nat} {T : List Tk} {ks : List L} (h : VX w w1 pb g T q b N ks) (hk : Kb w0 w pb) : VX w0 w1 pb g T q b N ks := ⟨h.px, h.st, hk.trans h.kb, Nat.le_trans hk.size h.nw⟩
theorem pIds_end : ∀ (m : Nat) (ts ts' : List Tk) (ks ks' : List L), pIds m ts ks = some (ks', ts') → ∃ k s ts3, ts' = (k, s) :: ts3 ∧ vk k = 2
 | 0, _, _, _, _, h => by cases h
 | m + 1, [], _, _, _, h => by cases h
 | m + 1, (k, s) :: ts, ts', ks, ks', h => by
   unfold pIds at h
   split at h
   · cases ts with
     | nil => cases h
     | cons t ts =>
       simp only at h
       split at h
       · exact pIds_end m _ _ _ _ h
       · split at h
         · rename_i h2
           simp only [Option.some.injEq, Prod.mk.injEq] at h; exact ⟨t.1, t.2, ts, h.2.symm, h2⟩
         · cases h
   · split at h
     · cases ts with
       | nil => cases h
       | cons t ts =>
         simp only at h
         split at h
         · rename_i h2
           simp only [Option.some.injEq, Prod.mk.injEq] at h; exact ⟨t.1, t.2, ts, h.2.symm, h2⟩
         · split at h
           · exact pIds_end m _ _ _ _ h
           · exact pIds_end m _ _ _ _ h
     · cases h
theorem New1_calls (W : World) (H : Nat) (hH : W.heap.size = H) :
   Calls Tryz.prog 174 #[.slice (some ⟨H, 0, none⟩) 1 1] (W.alloc (.cells #[.string ⟨#[]⟩] 9)) fun e w' => ∃ b, e = .returned (.map (some b)) ∧ W.heap.size ≤ b ∧ IsSet w' b 1 [[]] ∧ Below (W.alloc (.cells #[.string ⟨#[]⟩] 9)).heap.size (W.alloc (.cells #[.string ⟨#[]⟩] 9)) w' :=
 (New_calls (some ⟨H, 0, none⟩) 1 [⟨#[]⟩] (fun p hp => by simp at hp; subst hp; decide) (by simp) _ (C_lit W H hH [⟨#[]⟩] (by simp)) (by simp)).mono fun e w' ⟨b, h1, h2, h3, h4⟩ => ⟨b, h1, by have := h2; simp at this; omega, h3, h4⟩
set_option maxHeartbeats 8000000 in
theorem vals_calls (pb g p : Nat) (T ts : List Tk) (k : Nat) (s : L) (hT : T.length ≤ 900) (hE : EndsT T) (hz : ∀ t ∈ T, t.2.length ≤ 1000000) (ht : T.drop p = (k, s) :: ts) (w : World) (h : PX w pb g T p) :
   Calls Tryz.prog 147 #[.pointer (some ⟨pb, 0, none⟩)] w fun e w' => ValP (pVals (T.drop p)) w pb g T e w' ∧ Kb w w' pb := by
 have HC := Aside0.mk (cons1_calls pb g p T ts k s (by omega) ht w h)
 have HN := Aside0.mk ENew_calls
 rw [ht]
 by_cases hk : vk k = 13
 rotate_left
 · have HR : Aside0 (pVals ((k, s) :: ts) = none) := ⟨by unfold pVals; simp only; rw [if_neg hk]⟩
   obtain ⟨kk, hkk⟩ : ∃ kk, vk k = kk := ⟨_, rfl⟩
   rw [hkk] at HC hk
   have f1 : ((kk : Int) != 13) = true := by rw [bne_iff_ne]; omega
   clear hkk hk hT hE hz ht h
   go_enter Tryz.func147, Tryz.ntmps147
   go_wp2_with (first | ((with_reducible refine (HC.out).mono ?_); rintro e w1 ⟨rfl, hp1, hk1⟩; have HP1 := Aside0.mk hp1; have HK1 := Aside0.mk hk1; clear hp1 hk1 HC) | ((with_reducible refine (HN.out _ _).mono ?_); rintro e w5 ⟨rfl, hb⟩; have HK5 := Aside0.mk (HK1.out.trans (Kb.of_below hb pb)); clear hb))
   go_ret2
   exact ⟨ValP.none' HR.out ⟨_, rfl⟩, HK5.out⟩
 obtain ⟨k2, s2, ts2, hts, ht2⟩ := hE.more ht (by omega)
 rw [hk] at HC
 have HL := Aside0.mk (fun (W : World) (h : PX W pb g T (p + 1)) => look_calls pb g (p + 1) T ts2 k2 s2 (by omega) ht2 W h)
 by_cases h83 : vk k2 = 8 ∨ vk k2 = 3
 · have HID := Aside0.mk (fun (W : World) (h : PX W pb g T (p + 1)) => ids_calls pb g (p + 1) T hT hE hz (by rw [ht2]; simp) W h)
   rw [drop_one ht] at HID
   cases hr : pIds ts.length ts [] with
   | none =>
     rw [hr] at HID
     have HR : Aside0 (pVals ((k, s) :: ts) = none) := ⟨by unfold pVals; simp only; rw [if_pos hk, hts]; simp only; rw [if_pos h83, ← hts, hr]⟩
     rcases h83 with h8 | h3
     · rw [h8] at HL
       clear hT hE hz ht h hk hts ht2 h8
       clear hr
       go_enter Tryz.func147, Tryz.ntmps147
       go_wp2_with (first | ((with_reducible refine (HC.out).mono ?_); rintro e w1 ⟨rfl, hp1, hk1⟩; have HP1 := Aside0.mk hp1; have HK1 := Aside0.mk hk1; clear hp1 hk1 HC) | ((with_reducible refine (HL.out _ HP1.out).mono ?_); rintro e w2 ⟨rfl, hb⟩; have HP2 := Aside0.mk (HP1.out.below hb); have HK2 := Aside0.mk (HK1.out.trans (Kb.of_below hb pb)); clear hb HL) | ((with_reducible refine (HID.out _ HP2.out).mono ?_); rintro e w3 ⟨⟨mv, v, rfl, gv, rfl⟩, hk3⟩; have HK3 := Aside0.mk (HK2.out.trans hk3); clear hk3 HID))
       go_ret2
       exact ⟨ValP.none' HR.out ⟨_, rfl⟩, HK3.out⟩
     · rw [h3] at HL
       clear hT hE hz ht h hk hts ht2 h3
       clear hr
       go_enter Tryz.func147, Tryz.ntmps147
       go_wp2_with (first | ((with_reducible refine (HC.out).mono ?_); rintro e w1 ⟨rfl, hp1, hk1⟩; have HP1 := Aside0.mk hp1; have HK1 := Aside0.mk hk1; clear hp1 hk1 HC) | ((with_reducible refine (HL.out _ HP1.out).mono ?_); rintro e w2 ⟨rfl, hb⟩; have HP2 := Aside0.mk (HP1.out.below hb); have HK2 := Aside0.mk (HK1.out.trans (Kb.of_below hb pb)); clear hb HL) | ((with_reducible refine (HID.out _ HP2.out).mono ?_); rintro e w3 ⟨⟨mv, v, rfl, gv, rfl⟩, hk3⟩; have HK3 := Aside0.mk (HK2.out.trans hk3); clear hk3 HID))
       go_ret2
       exact ⟨ValP.none' HR.out ⟨_, rfl⟩, HK3.out⟩
   | some r =>
     obtain ⟨ks, ts'⟩ := r
     obtain ⟨k3, s3, ts3, hts3, hk3⟩ := pIds_end _ _ _ _ _ hr
     rw [hr, hts3] at HID
     have HR : Aside0 (pVals ((k, s) :: ts) = some (ks, ts3)) := ⟨by unfold pVals; simp only; rw [if_pos hk, hts]; simp only; rw [if_pos h83, ← hts, hr, hts3]; simp only; rw [if_pos hk3]⟩
     have HC3 := Aside0.mk (fun (q : Nat) (hq : (k3, s3) :: ts3 = T.drop q) (W : World) (h : PX W pb g T q) => cons1_calls pb g q T ts3 k3 s3 (by omega) hq.symm W h)
     rw [hk3] at HC3
     rcases h83 with h8 | h3
     · rw [h8] at HL
       clear hT hE hz ht h hk hts ht2 h8
       clear hr hts3 hk3
       go_enter Tryz.func147, Tryz.ntmps147
       go_wp2_with (first | ((with_reducible refine (HC.out).mono ?_); rintro e w1 ⟨rfl, hp1, hk1⟩; have HP1 := Aside0.mk hp1; have HK1 := Aside0.mk hk1; clear hp1 hk1 HC) | ((with_reducible refine (HL.out _ HP1.out).mono ?_); rintro e w2 ⟨rfl, hb⟩; have HP2 := Aside0.mk (HP1.out.below hb); have HK2 := Aside0.mk (HK1.out.trans (Kb.of_below hb pb)); clear hb HL) | ((with_reducible refine (HID.out _ HP2.out).mono ?_); rintro e w3 ⟨⟨b, N, q, rfl, hq, hv⟩, hkb⟩; have HX3 := Aside0.mk (hv.of HK2.out); have HQ := Aside0.mk hq; have HD := Aside0.mk (drop_one hq.symm); clear hv hkb hq HID) | ((with_reducible refine (HC3.out _ HQ.out _ HX3.out.px).mono ?_); rintro e w4 ⟨rfl, hp4, hk4⟩; have HX4 := Aside0.mk (HX3.out.move hp4 hk4); clear hp4 hk4 HC3))
       go_ret2
       exact ⟨ValP.some' HR.out HD.out.symm HX4.out, HX4.out.kb⟩
     · rw [h3] at HL
       clear hT hE hz ht h hk hts ht2 h3
       clear hr hts3 hk3
       go_enter Tryz.func147, Tryz.ntmps147
       go_wp2_with (first | ((with_reducible refine (HC.out).mono ?_); rintro e w1 ⟨rfl, hp1, hk1⟩; have HP1 := Aside0.mk hp1; have HK1 := Aside0.mk hk1; clear hp1 hk1 HC) | ((with_reducible refine (HL.out _ HP1.out).mono ?_); rintro e w2 ⟨rfl, hb⟩; have HP2 := Aside0.mk (HP1.out.below hb); have HK2 := Aside0.mk (HK1.out.trans (Kb.of_below hb pb)); clear hb HL) | ((with_reducible refine (HID.out _ HP2.out).mono ?_); rintro e w3 ⟨⟨b, N, q, rfl, hq, hv⟩, hkb⟩; have HX3 := Aside0.mk (hv.of HK2.out); have HQ := Aside0.mk hq; have HD := Aside0.mk (drop_one hq.symm); clear hv hkb hq HID) | ((with_reducible refine (HC3.out _ HQ.out _ HX3.out.px).mono ?_); rintro e w4 ⟨rfl, hp4, hk4⟩; have HX4 := Aside0.mk (HX3.out.move hp4 hk4); clear hp4 hk4 HC3))
       go_ret2
       exact ⟨ValP.some' HR.out HD.out.symm HX4.out, HX4.out.kb⟩
 by_cases h2 : vk k2 = 2
 · have HR : Aside0 (pVals ((k, s) :: ts) = some ([[]], ts2)) := ⟨by unfold pVals; simp only; rw [if_pos hk, hts]; simp only; rw [if_neg h83, if_pos h2]⟩
   have HC2 := Aside0.mk (fun (W : World) (h : PX W pb g T (p + 1)) => cons1_calls pb g (p + 1) T ts2 k2 s2 (by omega) ht2 W h)
   have HD := Aside0.mk (drop_one ht2)
   rw [h2] at HL HC2
   clear hT hE hz ht h hk hts ht2 h2 h83
   go_enter Tryz.func147, Tryz.ntmps147
   go_wp2_with (first | ((with_reducible refine (HC.out).mono ?_); rintro e w1 ⟨rfl, hp1, hk1⟩; have HP1 := Aside0.mk hp1; have HK1 := Aside0.mk hk1; clear hp1 hk1 HC) | ((with_reducible refine (HL.out _ HP1.out).mono ?_); rintro e w2 ⟨rfl, hb⟩; have HP2 := Aside0.mk (HP1.out.below hb); have HK2 := Aside0.mk (HK1.out.trans (Kb.of_below hb pb)); clear hb HL) | ((with_reducible refine (HC2.out _ HP2.out).mono ?_); rintro e w3 ⟨rfl, hp3, hk3⟩; have HP3 := Aside0.mk hp3; have HK3 := Aside0.mk (HK2.out.trans hk3); clear hp3 hk3 HC2) | ((with_reducible refine (New1_calls _ _ rfl).mono ?_); rintro e w4 ⟨b, rfl, hb, hS, hbl⟩; have hbl2 := below_step (below_alloc (Below.refl w3.heap.size w3) (.cells #[.string ⟨#[]⟩] 9)) hbl; have HX4 := Aside0.mk (VX.mk (HP3.out.below hbl2) hS (HK3.out.trans (Kb.of_below hbl2 pb)) (Nat.le_trans HK3.out.size hb)); clear hb hS hbl hbl2))
   go_ret2
   exact ⟨ValP.some' HR.out HD.out.symm HX4.out, HX4.out.kb⟩
 have HR : Aside0 (pVals ((k, s) :: ts) = none) := ⟨by unfold pVals; simp only; rw [if_pos hk, hts]; simp only; rw [if_neg h83, if_neg h2]⟩
 obtain ⟨kk, hkk⟩ : ∃ kk, vk k2 = kk := ⟨_, rfl⟩
 rw [hkk] at HL h2 h83
 have f2 : ((kk : Int) == 2) = false := by rw [beq_eq_false_iff_ne]; omega
 have f3 : ((kk : Int) == 3) = false := by rw [beq_eq_false_iff_ne]; omega
 have f8 : ((kk : Int) == 8) = false := by rw [beq_eq_false_iff_ne]; omega
 clear hkk h2 h83 hT hE hz ht h hk hts ht2
 go_enter Tryz.func147, Tryz.ntmps147
 go_wp2_with (first | ((with_reducible refine (HC.out).mono ?_); rintro e w1 ⟨rfl, hp1, hk1⟩; have HP1 := Aside0.mk hp1; have HK1 := Aside0.mk hk1; clear hp1 hk1 HC) | ((with_reducible refine (HL.out _ HP1.out).mono ?_); rintro e w2 ⟨rfl, hb⟩; have HP2 := Aside0.mk (HP1.out.below hb); have HK2 := Aside0.mk (HK1.out.trans (Kb.of_below hb pb)); clear hb HL) | ((with_reducible refine (HN.out _ _).mono ?_); rintro e w5 ⟨rfl, hb⟩; have HK5 := Aside0.mk (HK2.out.trans (Kb.of_below hb pb)); clear hb))
 go_ret2
 exact ⟨ValP.none' HR.out ⟨_, rfl⟩, HK5.out⟩
def Sm (l : List L) : Prop := ∀ x ∈ l, x.length ≤ 1000000
theorem Sm.add {ks : List L} {s : L} (h : Sm ks) (hs : s.length ≤ 1000000) : Sm (addK ks s) := by
 unfold addK; split
 · exact h
 · intro x hx; rcases List.mem_append.1 hx with h1 | h1
   · exact h x h1
   · obtain rfl : x = s := by simpa using h1
     exact hs
theorem Sm.emp {ks : List L} (h : Sm ks) : Sm (if ks = [] then [[]] else ks) := by
 split
 · intro x hx; obtain rfl : x = [] := by simpa using hx
   exact Nat.zero_le _
 · exact h
theorem pIds_sm : ∀ (m : Nat) (ts ts' : List Tk) (ks ks' : List L), (∀ t ∈ ts, t.2.length ≤ 1000000) → Sm ks → pIds m ts ks = some (ks', ts') → Sm ks'
 | 0, _, _, _, _, _, _, h => by cases h
 | m + 1, [], _, _, _, _, _, h => by cases h
 | m + 1, (k, s) :: ts, ts', ks, ks', ht, hk, h => by
   have hs : s.length ≤ 1000000 := ht (k, s) List.mem_cons_self
   have ht' : ∀ t ∈ ts, t.2.length ≤ 1000000 := fun t h => ht t (List.mem_cons_of_mem _ h)
   unfold pIds at h
   split at h
   · cases ts with
     | nil => cases h
     | cons t ts =>
       simp only at h
       split at h
       · exact pIds_sm m _ _ _ _ ht' (hk.add hs) h
       · split at h
         · simp only [Option.some.injEq, Prod.mk.injEq] at h; rw [← h.1]; exact hk.add hs
         · cases h
   · split at h
     · cases ts with
       | nil => cases h
       | cons t ts =>
         simp only at h
         split at h
         · simp only [Option.some.injEq, Prod.mk.injEq] at h; rw [← h.1]; exact hk.emp.add (Nat.zero_le _)
         · split at h
           · exact pIds_sm m _ _ _ _ (fun t h => ht' t (List.mem_cons_of_mem _ h)) (hk.emp.add (Nat.zero_le _)) h
           · exact pIds_sm m _ _ _ _ ht' hk.emp h
     · cases h
theorem sm_one {s : L} (h : s.length ≤ 1000000) : Sm [s] := fun x hx => by
 obtain rfl : x = s := by simpa using hx
 exact h
theorem pVals_sm {ts ts' : List Tk} {ks : List L} (ht : ∀ t ∈ ts, t.2.length ≤ 1000000) (hl : ts.length ≤ 900) (h : pVals ts = some (ks, ts')) : Sm ks ∧ ks.length ≤ 900 := by
 unfold pVals at h
 split at h
 · cases h
 · rename_i k s ts1
   split at h
   · cases ts1 with
     | nil => cases h
     | cons t ts2 =>
       simp only at h
       split at h
       · split at h
         · rename_i ks k3 s3 ts3 e
           split at h
           · simp only [Option.some.injEq, Prod.mk.injEq] at h
             obtain ⟨rfl, rfl⟩ := h
             have h2 := pIds_len _ _ _ _ _ e
             exact ⟨pIds_sm _ _ _ _ _ (fun t h => ht t (List.mem_cons_of_mem _ h)) (fun x hx => by cases hx) e, by simp only [List.length_cons, List.length_nil] at h2 hl; omega⟩
           · cases h
         · cases h
       · split at h
         · simp only [Option.some.injEq, Prod.mk.injEq] at h; rw [← h.1]; exact ⟨sm_one (Nat.zero_le _), by decide⟩
         · cases h
   · cases h
theorem pOne_sm {ts ts' : List Tk} {ks : List L} (ht : ∀ t ∈ ts, t.2.length ≤ 1000000) (h : pOne ts = some (ks, ts')) : Sm ks ∧ ks.length ≤ 900 := by
 unfold pOne at h
 split at h
 · cases h
 · rename_i k s ts1
   split at h
   · simp only [Option.some.injEq, Prod.mk.injEq] at h; rw [← h.1]; exact ⟨sm_one (Nat.zero_le _), by decide⟩
   · split at h
     · simp only [Option.some.injEq, Prod.mk.injEq] at h; rw [← h.1]; exact ⟨sm_one (ht (k, s) List.mem_cons_self), by simp⟩
     · cases h
theorem pKey_op {ts ts' : List Tk} {k op : L} (h : pKey ts = some (k, op, ts')) : op = [] ∨ op = [33] ∨ op = [101, 120, 105, 115, 116, 115] := by
 unfold pKey at h
 split at h
 · cases h
 · split at h
   · split at h
     · cases h
     · split at h
       · split at h
         · simp only [Option.some.injEq, Prod.mk.injEq] at h; exact .inr (.inl h.2.1.symm)
         · cases h
       · cases h
   · split at h
     · split at h
       · simp only [Option.some.injEq, Prod.mk.injEq] at h
         have h2 := h.2.1
         split at h2
         · exact .inr (.inr h2.symm)
         · exact .inl h2.symm
       · cases h
     · cases h
theorem pKey_next {T ts' : List Tk} {p : Nat} {k op : L} (hE : EndsT T) (hz : ∀ t ∈ T, t.2.length ≤ 1000000) (h : pKey (T.drop p) = some (k, op, ts')) : ts' ≠ [] ∧ k.length ≤ 1000000 := by
 have mem : ∀ {q k s ts}, T.drop q = (k, s) :: ts → s.length ≤ 1000000 := fun {q k s ts} e => hz (k, s) (List.mem_of_mem_drop (by rw [e]; exact List.mem_cons_self))
 cases e : T.drop p with
 | nil => rw [e] at h; cases h
 | cons t ts =>
   obtain ⟨k1, s1⟩ := t
   rw [e] at h
   unfold pKey at h
   simp only at h
   split at h
   · cases ts with
     | nil => cases h
     | cons t2 ts2 =>
       obtain ⟨k2, s2⟩ := t2
       simp only at h
       split at h
       · rename_i h8
         split at h
         · simp only [Option.some.injEq, Prod.mk.injEq] at h
           have e2 : T.drop (p + 1) = (k2, s2) :: ts2 := drop_one e
           refine ⟨fun e3 => ?_, by rw [← h.1]; exact mem e2⟩
           rw [h.2.2, e3] at e2
           have := hE _ _ _ e2
           subst this; exact absurd h8 (by decide)
         · cases h
       · cases h
   · split at h
     · rename_i h8
       split at h
       · simp only [Option.some.injEq, Prod.mk.injEq] at h
         refine ⟨fun e3 => ?_, by rw [← h.1]; exact mem e⟩
         rw [h.2.2, e3] at e
         have := hE _ _ _ e
         subst this; exact absurd h8 (by decide)
       · cases h
     · cases h
theorem pOp_op {ts ts' : List Tk} {op : L} (h : pOp ts = some (op, ts')) : (op = [105, 110] ∨ op = [61] ∨ op = [61, 61] ∨ op = [103, 116] ∨ op = [108, 116] ∨ op = [110, 111, 116, 105, 110] ∨ op = [33, 61]) ∧ ∃ k s, ts = (k, s) :: ts' ∧ vk k ≠ 1 := by
 cases ts with
 | nil => cases h
 | cons t ts =>
   obtain ⟨k, s⟩ := t
   unfold pOp at h
   simp only at h
   cases e : opT k with
   | none => rw [e] at h; cases h
   | some v =>
     rw [e] at h
     simp only [Option.map_some, Option.some.injEq, Prod.mk.injEq] at h
     obtain ⟨rfl, rfl⟩ := h
     refine ⟨?_, k, s, rfl, ?_⟩
     · unfold opT at e
       repeat' (split at e; · simp only [Option.some.injEq] at e; subst e; simp)
       cases e
     · intro h1
       have := vk_of h1 (by decide)
       subst this; cases e
def RqAt (w : World) (b B : Nat) (r : Rq) : Prop :=
 ∃ (A : Option Addr) (c : Nat), w.heap[b]? = some (.cells #[.string (mk r.1), .string (mk r.2.1), .slice A r.2.2.length c] 88 (0, 0)) ∧ Kd.R Kd.string 9 w B (fun _ => True) (.slice A r.2.2.length c) (r.2.2.map mk)
def ReqP (r : Option (Rq × List Tk)) (w0 : World) (pb g : Nat) (T : List Tk) (e : Ending) (w' : World) : Prop := match r with
 | some (rq, ts') => ∃ b p', e = .returned (.tuple #[.pointer (some ⟨b, 0, none⟩), .nilIface]) ∧ ts' = T.drop p' ∧ PX w' pb g T p' ∧ w0.heap.size ≤ b ∧ RqAt w' b w0.heap.size rq
 | none => ∃ v, e = .returned (.tuple #[.pointer none, v]) ∧ IsErr v
theorem ReqP.some' {rq : Rq} {ts' : List Tk} {pb g : Nat} {T : List Tk} {r : Option (Rq × List Tk)} {w0 w' : World} {b p' : Nat} (hr : r = some (rq, ts')) (h3 : ts' = T.drop p') (h4 : PX w' pb g T p') (h5 : w0.heap.size ≤ b) (h6 : RqAt w' b w0.heap.size rq) : ReqP r w0 pb g T (.returned (.tuple #[.pointer (some ⟨b, 0, none⟩), .nilIface])) w' := by
 subst hr; exact ⟨b, p', rfl, h3, h4, h5, h6⟩
theorem ReqP.none' {pb g : Nat} {T : List Tk} {r : Option (Rq × List Tk)} {w0 w' : World} {v : Value} (hr : r = none) (h : IsErr v) : ReqP r w0 pb g T (.returned (.tuple #[.pointer none, v])) w' := by
 subst hr; exact ⟨v, rfl, h⟩
theorem vL_mk (l : List L) : vL (l.map mk) = l := by
 induction l with
 | nil => rfl
 | cons a l ih => rw [List.map_cons, vL, List.map_cons]; congr 1
theorem setL_sm {ks : List L} (h : Sm ks) : ∀ p ∈ (setL ks).map mk, p.size ≤ 100000000 := fun p hp => by
 obtain ⟨x, hx, rfl⟩ := List.mem_map.1 hp
 have := h x ((setL_mem ks x).1 hx)
 rw [mk_size]; omega
set_option maxHeartbeats 16000000 in
theorem req_calls (pb g p : Nat) (T ts : List Tk) (k : Nat) (s : L) (hT : T.length ≤ 900) (hE : EndsT T) (hz : ∀ t ∈ T, t.2.length ≤ 1000000) (ht : T.drop p = (k, s) :: ts) (w0 w : World) (h : PX w pb g T p) (hV : TV w0) (hb0 : Below w0.heap.size w0 w) (hp0 : w0.heap.size ≤ pb) :
   Calls Tryz.prog 117 #[.pointer (some ⟨pb, 0, none⟩)] w fun e w' => ReqP (pReq (T.drop p)) w pb g T e w' ∧ Kb w w' pb := by
 have HKEY := Aside0.mk (key_calls pb g p T ts k s (by omega) hE hz ht w0 w h hV hb0 hp0)
 have HTV := Aside0.mk (fun (W : World) (hk : Kb w W pb) => hV.below (hb0.trans (hk.below hp0 hb0.size)))
 have HLT := Aside0.mk h.lt
 clear h hV hb0
 cases hkey : pKey (T.drop p) with
 | none =>
   rw [hkey] at HKEY
   have HR : Aside0 (pReq (T.drop p) = none) := ⟨by unfold pReq; rw [hkey]⟩
   clear hkey hE hz ht
   go_enter Tryz.func117, Tryz.ntmps117
   go_wp2_with (first | ((with_reducible refine (HKEY.out).mono ?_); rintro e w1 ⟨⟨v, rfl, gv, rfl⟩, hk1⟩; have HK1 := Aside0.mk hk1; clear hk1 HKEY))
   go_ret2
   exact ⟨ReqP.none' HR.out ⟨_, rfl⟩, HK1.out⟩
 | some r =>
   obtain ⟨key, op, ts1⟩ := r
   obtain ⟨hne, hkz⟩ := pKey_next hE hz hkey
   have hop := pKey_op hkey
   rw [hkey] at HKEY
   by_cases ho : op = [33]
   · subst ho
     have HKEY : Aside0 (Calls Tryz.prog 145 #[.pointer (some ⟨pb, 0, none⟩)] w fun e w' => (e = .returned (.tuple #[.string (mk key), .string ⟨#[33]⟩, .nilIface]) ∧ ∃ p', ts1 = T.drop p' ∧ PX w' pb g T p') ∧ Kb w w' pb) := ⟨HKEY.out⟩
     have HNEW := Aside0.mk (fun (A : Option Addr) (W : World) (hC : Kd.C Kd.string W A 0 []) (hk : Kb w W pb) => NewReq_calls (mk key) ⟨#[33]⟩ (by rw [mk_size]; omega) A 0 0 [] rfl (by omega) (fun p hp => by cases hp) W hC (HTV.out W hk))
     rw [show (mk key).data.toList = key from rfl, show (⟨#[33]⟩ : ByteArray).data.toList = [33] from rfl, show vL [] = [] from rfl] at HNEW
     cases hfr : fairR key [33] []
     · rw [hfr] at HNEW
       have HR : Aside0 (pReq (T.drop p) = none) := ⟨by unfold pReq; rw [hkey]; simp only; rw [if_neg (by decide), hfr]; rfl⟩
       clear hfr hkey hE hz ht hop hne
       go_enter Tryz.func117, Tryz.ntmps117
       go_wp2_with (first | ((with_reducible refine (HKEY.out).mono ?_); rintro e w1 ⟨⟨rfl, p1, hd1, hp1⟩, hk1⟩; have HP1 := Aside0.mk hp1; have HK1 := Aside0.mk hk1; have HD1 := Aside0.mk hd1; clear hp1 hk1 hd1 HKEY) | ((with_reducible refine (HNEW.out _ _ ?hC ?hK).mono ?_); (case hC => exact C_lit w1 _ rfl [] (by decide)); (case hK => exact HK1.out.trans (Kb.of_below (below_alloc (Below.refl _ _) _) pb)); rintro e w2 ⟨hc, hb⟩; have hb2 := below_step (below_alloc (Below.refl w1.heap.size w1) (.cells #[] 9)) hb; obtain ⟨gv, rfl⟩ := hc.2 rfl; have HP2 := Aside0.mk (HP1.out.below hb2); have HK2 := Aside0.mk (HK1.out.trans (Kb.of_below hb2 pb)); clear hc hb2 hb HNEW))
       go_ret2
       exact ⟨ReqP.none' HR.out ⟨_, rfl⟩, HK2.out⟩
     · rw [hfr] at HNEW
       have HR : Aside0 (pReq (T.drop p) = some ((key, [33], []), ts1)) := ⟨by unfold pReq; rw [hkey]; simp only; rw [if_neg (by decide), hfr]; rfl⟩
       clear hfr hkey hE hz ht hop hne
       go_enter Tryz.func117, Tryz.ntmps117
       go_wp2_with (first | ((with_reducible refine (HKEY.out).mono ?_); rintro e w1 ⟨⟨rfl, p1, hd1, hp1⟩, hk1⟩; have HP1 := Aside0.mk hp1; have HK1 := Aside0.mk hk1; have HD1 := Aside0.mk hd1; clear hp1 hk1 hd1 HKEY) | ((with_reducible refine (HNEW.out _ _ ?hC ?hK).mono ?_); (case hC => exact C_lit w1 _ rfl [] (by decide)); (case hK => exact HK1.out.trans (Kb.of_below (below_alloc (Below.refl _ _) _) pb)); rintro e w2 ⟨hc, hb⟩; have hb2 := below_step (below_alloc (Below.refl w1.heap.size w1) (.cells #[] 9)) hb; obtain ⟨b, rfl, hlb, hbb⟩ := hc.1 rfl; have HBB := Aside0.mk hbb; have HLB : Aside0 (w.heap.size ≤ b) := ⟨by have := HK1.out.size; simp at hlb; omega⟩; have HRR := Aside0.mk (Kd.R_below (R_empty w1 w.heap.size HK1.out.size) hb); clear hlb hbb; have HP2 := Aside0.mk (HP1.out.below hb2); have HK2 := Aside0.mk (HK1.out.trans (Kb.of_below hb2 pb)); clear hc hb2 hb HNEW))
       go_ret2
       exact ⟨ReqP.some' HR.out HD1.out HP2.out HLB.out ⟨_, _, HBB.out, HRR.out⟩, HK2.out⟩
   by_cases ho : op = [101, 120, 105, 115, 116, 115]
   · subst ho
     have HKEY : Aside0 (Calls Tryz.prog 145 #[.pointer (some ⟨pb, 0, none⟩)] w fun e w' => (e = .returned (.tuple #[.string (mk key), .string ⟨#[101, 120, 105, 115, 116, 115]⟩, .nilIface]) ∧ ∃ p', ts1 = T.drop p' ∧ PX w' pb g T p') ∧ Kb w w' pb) := ⟨HKEY.out⟩
     have HNEW := Aside0.mk (fun (A : Option Addr) (W : World) (hC : Kd.C Kd.string W A 0 []) (hk : Kb w W pb) => NewReq_calls (mk key) ⟨#[101, 120, 105, 115, 116, 115]⟩ (by rw [mk_size]; omega) A 0 0 [] rfl (by omega) (fun p hp => by cases hp) W hC (HTV.out W hk))
     rw [show (mk key).data.toList = key from rfl, show (⟨#[101, 120, 105, 115, 116, 115]⟩ : ByteArray).data.toList = [101, 120, 105, 115, 116, 115] from rfl, show vL [] = [] from rfl] at HNEW
     cases hfr : fairR key [101, 120, 105, 115, 116, 115] []
     · rw [hfr] at HNEW
       have HR : Aside0 (pReq (T.drop p) = none) := ⟨by unfold pReq; rw [hkey]; simp only; rw [if_neg (by decide), hfr]; rfl⟩
       clear hfr hkey hE hz ht hop hne
       go_enter Tryz.func117, Tryz.ntmps117
       go_wp2_with (first | ((with_reducible refine (HKEY.out).mono ?_); rintro e w1 ⟨⟨rfl, p1, hd1, hp1⟩, hk1⟩; have HP1 := Aside0.mk hp1; have HK1 := Aside0.mk hk1; have HD1 := Aside0.mk hd1; clear hp1 hk1 hd1 HKEY) | ((with_reducible refine (HNEW.out _ _ ?hC ?hK).mono ?_); (case hC => exact C_lit w1 _ rfl [] (by decide)); (case hK => exact HK1.out.trans (Kb.of_below (below_alloc (Below.refl _ _) _) pb)); rintro e w2 ⟨hc, hb⟩; have hb2 := below_step (below_alloc (Below.refl w1.heap.size w1) (.cells #[] 9)) hb; obtain ⟨gv, rfl⟩ := hc.2 rfl; have HP2 := Aside0.mk (HP1.out.below hb2); have HK2 := Aside0.mk (HK1.out.trans (Kb.of_below hb2 pb)); clear hc hb2 hb HNEW))
       go_ret2
       exact ⟨ReqP.none' HR.out ⟨_, rfl⟩, HK2.out⟩
     · rw [hfr] at HNEW
       have HR : Aside0 (pReq (T.drop p) = some ((key, [101, 120, 105, 115, 116, 115], []), ts1)) := ⟨by unfold pReq; rw [hkey]; simp only; rw [if_neg (by decide), hfr]; rfl⟩
       clear hfr hkey hE hz ht hop hne
       go_enter Tryz.func117, Tryz.ntmps117
       go_wp2_with (first | ((with_reducible refine (HKEY.out).mono ?_); rintro e w1 ⟨⟨rfl, p1, hd1, hp1⟩, hk1⟩; have HP1 := Aside0.mk hp1; have HK1 := Aside0.mk hk1; have HD1 := Aside0.mk hd1; clear hp1 hk1 hd1 HKEY) | ((with_reducible refine (HNEW.out _ _ ?hC ?hK).mono ?_); (case hC => exact C_lit w1 _ rfl [] (by decide)); (case hK => exact HK1.out.trans (Kb.of_below (below_alloc (Below.refl _ _) _) pb)); rintro e w2 ⟨hc, hb⟩; have hb2 := below_step (below_alloc (Below.refl w1.heap.size w1) (.cells #[] 9)) hb; obtain ⟨b, rfl, hlb, hbb⟩ := hc.1 rfl; have HBB := Aside0.mk hbb; have HLB : Aside0 (w.heap.size ≤ b) := ⟨by have := HK1.out.size; simp at hlb; omega⟩; have HRR := Aside0.mk (Kd.R_below (R_empty w1 w.heap.size HK1.out.size) hb); clear hlb hbb; have HP2 := Aside0.mk (HP1.out.below hb2); have HK2 := Aside0.mk (HK1.out.trans (Kb.of_below hb2 pb)); clear hc hb2 hb HNEW))
       go_ret2
       exact ⟨ReqP.some' HR.out HD1.out HP2.out HLB.out ⟨_, _, HBB.out, HRR.out⟩, HK2.out⟩
   have ho3 : op = [] := by rcases hop with h | h | h; exact h; exact absurd h (by assumption); exact absurd h (by assumption)
   subst ho3
   clear hop
   have HKEY : Aside0 (Calls Tryz.prog 145 #[.pointer (some ⟨pb, 0, none⟩)] w fun e w' => (e = .returned (.tuple #[.string (mk key), .string ⟨#[]⟩, .nilIface]) ∧ ∃ p', ts1 = T.drop p' ∧ PX w' pb g T p') ∧ Kb w w' pb) := ⟨HKEY.out⟩
   have HOP := Aside0.mk (fun (q : Nat) (hq : ts1 = T.drop q) (W : World) (h : PX W pb g T q) => (show ∃ k1 s1 ts2, ts1 = (k1, s1) :: ts2 from by cases ts1 with | nil => exact absurd rfl hne | cons a l => exact ⟨a.1, a.2, l, rfl⟩).elim fun k1 h1 => h1.elim fun s1 h2 => h2.elim fun ts2 h3 => op_calls pb g q T ts2 k1 s1 (by omega) (hq.symm.trans h3) W h)
   cases hpo : pOp ts1 with
   | none =>
     have HR : Aside0 (pReq (T.drop p) = none) := ⟨by unfold pReq; rw [hkey]; simp only; rw [if_pos trivial, hpo]⟩
     clear hkey hE hz ht hne hkz
     have HPO := Aside0.mk hpo
     clear hpo
     go_enter Tryz.func117, Tryz.ntmps117
     go_wp2_with (first | ((with_reducible refine (HKEY.out).mono ?_); rintro e w1 ⟨⟨rfl, p1, hd1, hp1⟩, hk1⟩; have HP1 := Aside0.mk hp1; have HK1 := Aside0.mk hk1; have HD1 := Aside0.mk hd1; clear hp1 hk1 hd1 HKEY) | ((with_reducible refine (HOP.out _ HD1.out _ HP1.out).mono ?_); rintro e w2 ⟨ho, hk2⟩; rw [← HD1.out, HPO.out] at ho; obtain ⟨v, rfl, gv, rfl⟩ := ho; have HK2 := Aside0.mk (HK1.out.trans hk2); clear hk2 HOP))
     go_ret2
     exact ⟨ReqP.none' HR.out ⟨_, rfl⟩, HK2.out⟩
   | some r2 =>
     obtain ⟨op, ts2⟩ := r2
     obtain ⟨hops, k1, s1, ht1, hk1n⟩ := pOp_op hpo
     have HPO := Aside0.mk hpo
     have HNX := Aside0.mk (fun (q : Nat) (hq : ts1 = T.drop q) => hE.more (hq.symm.trans ht1) hk1n)
     rcases hops with rfl | rfl | rfl | rfl | rfl | rfl | rfl
     · have hred : pReq (T.drop p) = (match pVals ts2 with | none => none | some (ks, ts3) => if fairR key [105, 110] (setL ks) then some ((key, [105, 110], setL ks), ts3) else none) := by unfold pReq; rw [hkey]; simp only; rw [if_pos trivial, hpo]; rfl
       cases hv : pVals ts2 with
       | none =>
         rw [hv] at hred
         have HR : Aside0 (pReq (T.drop p) = none) := ⟨hred⟩
         have HV := Aside0.mk hv
         have HVC := Aside0.mk (fun (q : Nat) (hq : ts2 = T.drop q) (k2 : Nat) (s2 : L) (ts3 : List Tk) (hq2 : T.drop q = (k2, s2) :: ts3) (W : World) (h : PX W pb g T q) => vals_calls pb g q T ts3 k2 s2 hT hE hz hq2 W h)
         clear hred hv hkey hE hz ht hne hkz hpo ht1 hk1n
         go_enter Tryz.func117, Tryz.ntmps117
         go_wp2_with (first | ((with_reducible refine (HKEY.out).mono ?_); rintro e w1 ⟨⟨rfl, p1, hd1, hp1⟩, hk1⟩; have HP1 := Aside0.mk hp1; have HK1 := Aside0.mk hk1; have HD1 := Aside0.mk hd1; clear hp1 hk1 hd1 HKEY) | ((with_reducible refine (HOP.out _ HD1.out _ HP1.out).mono ?_); rintro e w2 ⟨ho, hk2⟩; rw [← HD1.out, HPO.out] at ho; obtain ⟨rfl, p2, hd2, hp2⟩ := (show e = .returned (.tuple #[.string ⟨#[105, 110]⟩, .nilIface]) ∧ ∃ p', ts2 = T.drop p' ∧ PX w2 pb g T p' from ho); have HP2 := Aside0.mk hp2; have HK2 := Aside0.mk (HK1.out.trans hk2); have HD2 := Aside0.mk hd2; obtain ⟨k2, s2, ts3, e3_, h3_⟩ := HNX.out _ HD1.out; have HN2 : Aside0 (T.drop p2 = (k2, s2) :: ts3) := ⟨hd2.symm.trans e3_⟩; clear e3_ h3_; clear hk2 hp2 hd2 HOP) | ((with_reducible refine (HVC.out p2 HD2.out _ _ _ (HN2.out) _ HP2.out).mono ?_); rintro e w3 ⟨hvp, hk3⟩; rw [← HD2.out, HV.out] at hvp; obtain ⟨mv, v, rfl, gv, rfl⟩ := hvp; have HK3 := Aside0.mk (HK2.out.trans hk3); clear hk3 HVC))
         go_ret2
         exact ⟨ReqP.none' HR.out ⟨_, rfl⟩, HK3.out⟩
       | some rv =>
         obtain ⟨ks, ts4⟩ := rv
         rw [hv] at hred
         simp only at hred
         have hmz : ∀ t ∈ ts2, t.2.length ≤ 1000000 := fun t ht2 => by
          obtain ⟨pp, _, q1⟩ := pKey_tail hkey
          refine hz t ?_
          have : t ∈ ts1 := by rw [ht1]; exact List.mem_cons_of_mem _ ht2
          rw [q1] at this
          exact List.mem_of_mem_drop (List.mem_of_mem_drop this)
         have hlz : ts2.length ≤ 900 := by
          obtain ⟨pp, _, q1⟩ := pKey_tail hkey
          have e1 := congrArg List.length q1
          rw [ht1] at e1
          simp only [List.length_cons, List.length_drop] at e1
          omega
         obtain ⟨hsm, hkl⟩ := pVals_sm hmz hlz hv
         have HNEW := Aside0.mk (fun (A : Option Addr) (c : Nat) (W : World) (hC : Kd.C Kd.string W A (setL ks).length ((setL ks).map mk)) (hk : Kb w W pb) => NewReq_calls (mk key) ⟨#[105, 110]⟩ (by rw [mk_size]; omega) A c (setL ks).length ((setL ks).map mk) (by rw [List.length_map]) (by have := setL_len ks; omega) (setL_sm hsm) W hC (HTV.out W hk))
         rw [show (mk key).data.toList = key from rfl, show (⟨#[105, 110]⟩ : ByteArray).data.toList = [105, 110] from rfl, vL_mk] at HNEW
         have HV := Aside0.mk hv
         have HVC := Aside0.mk (fun (q : Nat) (hq : ts2 = T.drop q) (k2 : Nat) (s2 : L) (ts3 : List Tk) (hq2 : T.drop q = (k2, s2) :: ts3) (W : World) (h : PX W pb g T q) => vals_calls pb g q T ts3 k2 s2 hT hE hz hq2 W h)
         have HKL : Aside0 (ks.length ≤ 1000) := ⟨by omega⟩
         obtain ⟨vs, hvs⟩ : ∃ vs, setL ks = vs := ⟨_, rfl⟩
         rw [hvs] at hred HNEW
         have HVS := Aside0.mk hvs
         cases hfr : fairR key [105, 110] vs
         · rw [hfr] at HNEW hred
           have HR : Aside0 (pReq (T.drop p) = none) := ⟨by rw [hred]; rfl⟩
           clear hfr hred hv hkey hE hz ht hne hkz hpo ht1 hk1n hmz hlz hsm hkl hvs
           go_enter Tryz.func117, Tryz.ntmps117
           go_wp2_with (first | ((with_reducible refine (HKEY.out).mono ?_); rintro e w1 ⟨⟨rfl, p1, hd1, hp1⟩, hk1⟩; have HP1 := Aside0.mk hp1; have HK1 := Aside0.mk hk1; have HD1 := Aside0.mk hd1; clear hp1 hk1 hd1 HKEY) | ((with_reducible refine (HOP.out _ HD1.out _ HP1.out).mono ?_); rintro e w2 ⟨ho, hk2⟩; rw [← HD1.out, HPO.out] at ho; obtain ⟨rfl, p2, hd2, hp2⟩ := (show e = .returned (.tuple #[.string ⟨#[105, 110]⟩, .nilIface]) ∧ ∃ p', ts2 = T.drop p' ∧ PX w2 pb g T p' from ho); have HP2 := Aside0.mk hp2; have HK2 := Aside0.mk (HK1.out.trans hk2); have HD2 := Aside0.mk hd2; obtain ⟨k2, s2, ts3, e3_, h3_⟩ := HNX.out _ HD1.out; have HN2 : Aside0 (T.drop p2 = (k2, s2) :: ts3) := ⟨hd2.symm.trans e3_⟩; clear e3_ h3_; clear hk2 hp2 hd2 HOP) | ((with_reducible refine (HVC.out p2 HD2.out _ _ _ (HN2.out) _ HP2.out).mono ?_); rintro e w3 ⟨hvp, hk3⟩; rw [← HD2.out, HV.out] at hvp; obtain ⟨b, N, p3, rfl, hd3, hx⟩ := hvp; have HX3 := Aside0.mk (hx.of HK2.out); have HD3 := Aside0.mk hd3; clear hk3 hx hd3 HVC) | ((with_reducible refine (List_calls b N ks HKL.out _ HX3.out.st).mono ?_); rintro e w4 ⟨v, l, rfl, hperm, hasc, hR, hb⟩; have hl_ := (asc_perm hperm HX3.out.st.nodup hasc (fun _ => rfl)).1.trans HVS.out; subst hl_; obtain ⟨A, c, hv_⟩ := Kd.R_slice hR; rw [List.length_map] at hv_; subst hv_; have HRV := Aside0.mk hR; have HRC := Aside0.mk (Kd.R_reads' hR).2.2; rw [List.length_map] at HRC; have HX4 := Aside0.mk (HX3.out.below hb); clear hperm hasc hR hb) | ((with_reducible refine (HNEW.out _ _ _ HRC.out HX4.out.kb).mono ?_); rintro e w5 ⟨hc, hb⟩; obtain ⟨gv, rfl⟩ := hc.2 rfl; have HP5 := Aside0.mk (HX4.out.px.below hb); have HK5 := Aside0.mk (HX4.out.kb.trans (Kb.of_below hb pb)); clear hc hb HNEW))
           go_ret2
           exact ⟨ReqP.none' HR.out ⟨_, rfl⟩, HK5.out⟩
         · rw [hfr] at HNEW hred
           have HR : Aside0 (pReq (T.drop p) = some ((key, [105, 110], vs), ts4)) := ⟨by rw [hred]; rfl⟩
           clear hfr hred hv hkey hE hz ht hne hkz hpo ht1 hk1n hmz hlz hsm hkl hvs
           go_enter Tryz.func117, Tryz.ntmps117
           go_wp2_with (first | ((with_reducible refine (HKEY.out).mono ?_); rintro e w1 ⟨⟨rfl, p1, hd1, hp1⟩, hk1⟩; have HP1 := Aside0.mk hp1; have HK1 := Aside0.mk hk1; have HD1 := Aside0.mk hd1; clear hp1 hk1 hd1 HKEY) | ((with_reducible refine (HOP.out _ HD1.out _ HP1.out).mono ?_); rintro e w2 ⟨ho, hk2⟩; rw [← HD1.out, HPO.out] at ho; obtain ⟨rfl, p2, hd2, hp2⟩ := (show e = .returned (.tuple #[.string ⟨#[105, 110]⟩, .nilIface]) ∧ ∃ p', ts2 = T.drop p' ∧ PX w2 pb g T p' from ho); have HP2 := Aside0.mk hp2; have HK2 := Aside0.mk (HK1.out.trans hk2); have HD2 := Aside0.mk hd2; obtain ⟨k2, s2, ts3, e3_, h3_⟩ := HNX.out _ HD1.out; have HN2 : Aside0 (T.drop p2 = (k2, s2) :: ts3) := ⟨hd2.symm.trans e3_⟩; clear e3_ h3_; clear hk2 hp2 hd2 HOP) | ((with_reducible refine (HVC.out p2 HD2.out _ _ _ (HN2.out) _ HP2.out).mono ?_); rintro e w3 ⟨hvp, hk3⟩; rw [← HD2.out, HV.out] at hvp; obtain ⟨b, N, p3, rfl, hd3, hx⟩ := hvp; have HX3 := Aside0.mk (hx.of HK2.out); have HD3 := Aside0.mk hd3; clear hk3 hx hd3 HVC) | ((with_reducible refine (List_calls b N ks HKL.out _ HX3.out.st).mono ?_); rintro e w4 ⟨v, l, rfl, hperm, hasc, hR, hb⟩; have hl_ := (asc_perm hperm HX3.out.st.nodup hasc (fun _ => rfl)).1.trans HVS.out; subst hl_; obtain ⟨A, c, hv_⟩ := Kd.R_slice hR; rw [List.length_map] at hv_; subst hv_; have HRV := Aside0.mk hR; have HRC := Aside0.mk (Kd.R_reads' hR).2.2; rw [List.length_map] at HRC; have HX4 := Aside0.mk (HX3.out.below hb); clear hperm hasc hR hb) | ((with_reducible refine (HNEW.out _ _ _ HRC.out HX4.out.kb).mono ?_); rintro e w5 ⟨hc, hb⟩; obtain ⟨b2, rfl, hlb, hbb⟩ := hc.1 rfl; have HBB := Aside0.mk hbb; have HLB : Aside0 (w.heap.size ≤ b2) := ⟨Nat.le_trans HX4.out.kb.size hlb⟩; have HRR := Aside0.mk (Kd.R_below (Kd.R_lower HRV.out HX3.out.kb.size) hb); clear hlb hbb; have HP5 := Aside0.mk (HX4.out.px.below hb); have HK5 := Aside0.mk (HX4.out.kb.trans (Kb.of_below hb pb)); clear hc hb HNEW))
           go_ret2
           exact ⟨ReqP.some' HR.out HD3.out HP5.out HLB.out ⟨_, _, HBB.out, HRR.out⟩, HK5.out⟩
     · have hred : pReq (T.drop p) = (match pOne ts2 with | none => none | some (ks, ts3) => if fairR key [61] (setL ks) then some ((key, [61], setL ks), ts3) else none) := by unfold pReq; rw [hkey]; simp only; rw [if_pos trivial, hpo]; rfl
       cases hv : pOne ts2 with
       | none =>
         rw [hv] at hred
         have HR : Aside0 (pReq (T.drop p) = none) := ⟨hred⟩
         have HV := Aside0.mk hv
         have HVC := Aside0.mk (fun (q : Nat) (hq : ts2 = T.drop q) (k2 : Nat) (s2 : L) (ts3 : List Tk) (hq2 : T.drop q = (k2, s2) :: ts3) (W : World) (h : PX W pb g T q) => one_calls pb g q T ts3 k2 s2 hT hz hq2 W h)
         clear hred hv hkey hE hz ht hne hkz hpo ht1 hk1n
         go_enter Tryz.func117, Tryz.ntmps117
         go_wp2_with (first | ((with_reducible refine (HKEY.out).mono ?_); rintro e w1 ⟨⟨rfl, p1, hd1, hp1⟩, hk1⟩; have HP1 := Aside0.mk hp1; have HK1 := Aside0.mk hk1; have HD1 := Aside0.mk hd1; clear hp1 hk1 hd1 HKEY) | ((with_reducible refine (HOP.out _ HD1.out _ HP1.out).mono ?_); rintro e w2 ⟨ho, hk2⟩; rw [← HD1.out, HPO.out] at ho; obtain ⟨rfl, p2, hd2, hp2⟩ := (show e = .returned (.tuple #[.string ⟨#[61]⟩, .nilIface]) ∧ ∃ p', ts2 = T.drop p' ∧ PX w2 pb g T p' from ho); have HP2 := Aside0.mk hp2; have HK2 := Aside0.mk (HK1.out.trans hk2); have HD2 := Aside0.mk hd2; obtain ⟨k2, s2, ts3, e3_, h3_⟩ := HNX.out _ HD1.out; have HN2 : Aside0 (T.drop p2 = (k2, s2) :: ts3) := ⟨hd2.symm.trans e3_⟩; clear e3_ h3_; clear hk2 hp2 hd2 HOP) | ((with_reducible refine (HVC.out p2 HD2.out _ _ _ (HN2.out) _ HP2.out).mono ?_); rintro e w3 ⟨hvp, hk3⟩; rw [← HD2.out, HV.out] at hvp; obtain ⟨mv, v, rfl, gv, rfl⟩ := hvp; have HK3 := Aside0.mk (HK2.out.trans hk3); clear hk3 HVC))
         go_ret2
         exact ⟨ReqP.none' HR.out ⟨_, rfl⟩, HK3.out⟩
       | some rv =>
         obtain ⟨ks, ts4⟩ := rv
         rw [hv] at hred
         simp only at hred
         have hmz : ∀ t ∈ ts2, t.2.length ≤ 1000000 := fun t ht2 => by
          obtain ⟨pp, _, q1⟩ := pKey_tail hkey
          refine hz t ?_
          have : t ∈ ts1 := by rw [ht1]; exact List.mem_cons_of_mem _ ht2
          rw [q1] at this
          exact List.mem_of_mem_drop (List.mem_of_mem_drop this)
         have hlz : ts2.length ≤ 900 := by
          obtain ⟨pp, _, q1⟩ := pKey_tail hkey
          have e1 := congrArg List.length q1
          rw [ht1] at e1
          simp only [List.length_cons, List.length_drop] at e1
          omega
         obtain ⟨hsm, hkl⟩ := pOne_sm hmz hv
         have HNEW := Aside0.mk (fun (A : Option Addr) (c : Nat) (W : World) (hC : Kd.C Kd.string W A (setL ks).length ((setL ks).map mk)) (hk : Kb w W pb) => NewReq_calls (mk key) ⟨#[61]⟩ (by rw [mk_size]; omega) A c (setL ks).length ((setL ks).map mk) (by rw [List.length_map]) (by have := setL_len ks; omega) (setL_sm hsm) W hC (HTV.out W hk))
         rw [show (mk key).data.toList = key from rfl, show (⟨#[61]⟩ : ByteArray).data.toList = [61] from rfl, vL_mk] at HNEW
         have HV := Aside0.mk hv
         have HVC := Aside0.mk (fun (q : Nat) (hq : ts2 = T.drop q) (k2 : Nat) (s2 : L) (ts3 : List Tk) (hq2 : T.drop q = (k2, s2) :: ts3) (W : World) (h : PX W pb g T q) => one_calls pb g q T ts3 k2 s2 hT hz hq2 W h)
         have HKL : Aside0 (ks.length ≤ 1000) := ⟨by omega⟩
         obtain ⟨vs, hvs⟩ : ∃ vs, setL ks = vs := ⟨_, rfl⟩
         rw [hvs] at hred HNEW
         have HVS := Aside0.mk hvs
         cases hfr : fairR key [61] vs
         · rw [hfr] at HNEW hred
           have HR : Aside0 (pReq (T.drop p) = none) := ⟨by rw [hred]; rfl⟩
           clear hfr hred hv hkey hE hz ht hne hkz hpo ht1 hk1n hmz hlz hsm hkl hvs
           go_enter Tryz.func117, Tryz.ntmps117
           go_wp2_with (first | ((with_reducible refine (HKEY.out).mono ?_); rintro e w1 ⟨⟨rfl, p1, hd1, hp1⟩, hk1⟩; have HP1 := Aside0.mk hp1; have HK1 := Aside0.mk hk1; have HD1 := Aside0.mk hd1; clear hp1 hk1 hd1 HKEY) | ((with_reducible refine (HOP.out _ HD1.out _ HP1.out).mono ?_); rintro e w2 ⟨ho, hk2⟩; rw [← HD1.out, HPO.out] at ho; obtain ⟨rfl, p2, hd2, hp2⟩ := (show e = .returned (.tuple #[.string ⟨#[61]⟩, .nilIface]) ∧ ∃ p', ts2 = T.drop p' ∧ PX w2 pb g T p' from ho); have HP2 := Aside0.mk hp2; have HK2 := Aside0.mk (HK1.out.trans hk2); have HD2 := Aside0.mk hd2; obtain ⟨k2, s2, ts3, e3_, h3_⟩ := HNX.out _ HD1.out; have HN2 : Aside0 (T.drop p2 = (k2, s2) :: ts3) := ⟨hd2.symm.trans e3_⟩; clear e3_ h3_; clear hk2 hp2 hd2 HOP) | ((with_reducible refine (HVC.out p2 HD2.out _ _ _ (HN2.out) _ HP2.out).mono ?_); rintro e w3 ⟨hvp, hk3⟩; rw [← HD2.out, HV.out] at hvp; obtain ⟨b, N, p3, rfl, hd3, hx⟩ := hvp; have HX3 := Aside0.mk (hx.of HK2.out); have HD3 := Aside0.mk hd3; clear hk3 hx hd3 HVC) | ((with_reducible refine (List_calls b N ks HKL.out _ HX3.out.st).mono ?_); rintro e w4 ⟨v, l, rfl, hperm, hasc, hR, hb⟩; have hl_ := (asc_perm hperm HX3.out.st.nodup hasc (fun _ => rfl)).1.trans HVS.out; subst hl_; obtain ⟨A, c, hv_⟩ := Kd.R_slice hR; rw [List.length_map] at hv_; subst hv_; have HRV := Aside0.mk hR; have HRC := Aside0.mk (Kd.R_reads' hR).2.2; rw [List.length_map] at HRC; have HX4 := Aside0.mk (HX3.out.below hb); clear hperm hasc hR hb) | ((with_reducible refine (HNEW.out _ _ _ HRC.out HX4.out.kb).mono ?_); rintro e w5 ⟨hc, hb⟩; obtain ⟨gv, rfl⟩ := hc.2 rfl; have HP5 := Aside0.mk (HX4.out.px.below hb); have HK5 := Aside0.mk (HX4.out.kb.trans (Kb.of_below hb pb)); clear hc hb HNEW))
           go_ret2
           exact ⟨ReqP.none' HR.out ⟨_, rfl⟩, HK5.out⟩
         · rw [hfr] at HNEW hred
           have HR : Aside0 (pReq (T.drop p) = some ((key, [61], vs), ts4)) := ⟨by rw [hred]; rfl⟩
           clear hfr hred hv hkey hE hz ht hne hkz hpo ht1 hk1n hmz hlz hsm hkl hvs
           go_enter Tryz.func117, Tryz.ntmps117
           go_wp2_with (first | ((with_reducible refine (HKEY.out).mono ?_); rintro e w1 ⟨⟨rfl, p1, hd1, hp1⟩, hk1⟩; have HP1 := Aside0.mk hp1; have HK1 := Aside0.mk hk1; have HD1 := Aside0.mk hd1; clear hp1 hk1 hd1 HKEY) | ((with_reducible refine (HOP.out _ HD1.out _ HP1.out).mono ?_); rintro e w2 ⟨ho, hk2⟩; rw [← HD1.out, HPO.out] at ho; obtain ⟨rfl, p2, hd2, hp2⟩ := (show e = .returned (.tuple #[.string ⟨#[61]⟩, .nilIface]) ∧ ∃ p', ts2 = T.drop p' ∧ PX w2 pb g T p' from ho); have HP2 := Aside0.mk hp2; have HK2 := Aside0.mk (HK1.out.trans hk2); have HD2 := Aside0.mk hd2; obtain ⟨k2, s2, ts3, e3_, h3_⟩ := HNX.out _ HD1.out; have HN2 : Aside0 (T.drop p2 = (k2, s2) :: ts3) := ⟨hd2.symm.trans e3_⟩; clear e3_ h3_; clear hk2 hp2 hd2 HOP) | ((with_reducible refine (HVC.out p2 HD2.out _ _ _ (HN2.out) _ HP2.out).mono ?_); rintro e w3 ⟨hvp, hk3⟩; rw [← HD2.out, HV.out] at hvp; obtain ⟨b, N, p3, rfl, hd3, hx⟩ := hvp; have HX3 := Aside0.mk (hx.of HK2.out); have HD3 := Aside0.mk hd3; clear hk3 hx hd3 HVC) | ((with_reducible refine (List_calls b N ks HKL.out _ HX3.out.st).mono ?_); rintro e w4 ⟨v, l, rfl, hperm, hasc, hR, hb⟩; have hl_ := (asc_perm hperm HX3.out.st.nodup hasc (fun _ => rfl)).1.trans HVS.out; subst hl_; obtain ⟨A, c, hv_⟩ := Kd.R_slice hR; rw [List.length_map] at hv_; subst hv_; have HRV := Aside0.mk hR; have HRC := Aside0.mk (Kd.R_reads' hR).2.2; rw [List.length_map] at HRC; have HX4 := Aside0.mk (HX3.out.below hb); clear hperm hasc hR hb) | ((with_reducible refine (HNEW.out _ _ _ HRC.out HX4.out.kb).mono ?_); rintro e w5 ⟨hc, hb⟩; obtain ⟨b2, rfl, hlb, hbb⟩ := hc.1 rfl; have HBB := Aside0.mk hbb; have HLB : Aside0 (w.heap.size ≤ b2) := ⟨Nat.le_trans HX4.out.kb.size hlb⟩; have HRR := Aside0.mk (Kd.R_below (Kd.R_lower HRV.out HX3.out.kb.size) hb); clear hlb hbb; have HP5 := Aside0.mk (HX4.out.px.below hb); have HK5 := Aside0.mk (HX4.out.kb.trans (Kb.of_below hb pb)); clear hc hb HNEW))
           go_ret2
           exact ⟨ReqP.some' HR.out HD3.out HP5.out HLB.out ⟨_, _, HBB.out, HRR.out⟩, HK5.out⟩
     · have hred : pReq (T.drop p) = (match pOne ts2 with | none => none | some (ks, ts3) => if fairR key [61, 61] (setL ks) then some ((key, [61, 61], setL ks), ts3) else none) := by unfold pReq; rw [hkey]; simp only; rw [if_pos trivial, hpo]; rfl
       cases hv : pOne ts2 with
       | none =>
         rw [hv] at hred
         have HR : Aside0 (pReq (T.drop p) = none) := ⟨hred⟩
         have HV := Aside0.mk hv
         have HVC := Aside0.mk (fun (q : Nat) (hq : ts2 = T.drop q) (k2 : Nat) (s2 : L) (ts3 : List Tk) (hq2 : T.drop q = (k2, s2) :: ts3) (W : World) (h : PX W pb g T q) => one_calls pb g q T ts3 k2 s2 hT hz hq2 W h)
         clear hred hv hkey hE hz ht hne hkz hpo ht1 hk1n
         go_enter Tryz.func117, Tryz.ntmps117
         go_wp2_with (first | ((with_reducible refine (HKEY.out).mono ?_); rintro e w1 ⟨⟨rfl, p1, hd1, hp1⟩, hk1⟩; have HP1 := Aside0.mk hp1; have HK1 := Aside0.mk hk1; have HD1 := Aside0.mk hd1; clear hp1 hk1 hd1 HKEY) | ((with_reducible refine (HOP.out _ HD1.out _ HP1.out).mono ?_); rintro e w2 ⟨ho, hk2⟩; rw [← HD1.out, HPO.out] at ho; obtain ⟨rfl, p2, hd2, hp2⟩ := (show e = .returned (.tuple #[.string ⟨#[61, 61]⟩, .nilIface]) ∧ ∃ p', ts2 = T.drop p' ∧ PX w2 pb g T p' from ho); have HP2 := Aside0.mk hp2; have HK2 := Aside0.mk (HK1.out.trans hk2); have HD2 := Aside0.mk hd2; obtain ⟨k2, s2, ts3, e3_, h3_⟩ := HNX.out _ HD1.out; have HN2 : Aside0 (T.drop p2 = (k2, s2) :: ts3) := ⟨hd2.symm.trans e3_⟩; clear e3_ h3_; clear hk2 hp2 hd2 HOP) | ((with_reducible refine (HVC.out p2 HD2.out _ _ _ (HN2.out) _ HP2.out).mono ?_); rintro e w3 ⟨hvp, hk3⟩; rw [← HD2.out, HV.out] at hvp; obtain ⟨mv, v, rfl, gv, rfl⟩ := hvp; have HK3 := Aside0.mk (HK2.out.trans hk3); clear hk3 HVC))
         go_ret2
         exact ⟨ReqP.none' HR.out ⟨_, rfl⟩, HK3.out⟩
       | some rv =>
         obtain ⟨ks, ts4⟩ := rv
         rw [hv] at hred
         simp only at hred
         have hmz : ∀ t ∈ ts2, t.2.length ≤ 1000000 := fun t ht2 => by
          obtain ⟨pp, _, q1⟩ := pKey_tail hkey
          refine hz t ?_
          have : t ∈ ts1 := by rw [ht1]; exact List.mem_cons_of_mem _ ht2
          rw [q1] at this
          exact List.mem_of_mem_drop (List.mem_of_mem_drop this)
         have hlz : ts2.length ≤ 900 := by
          obtain ⟨pp, _, q1⟩ := pKey_tail hkey
          have e1 := congrArg List.length q1
          rw [ht1] at e1
          simp only [List.length_cons, List.length_drop] at e1
          omega
         obtain ⟨hsm, hkl⟩ := pOne_sm hmz hv
         have HNEW := Aside0.mk (fun (A : Option Addr) (c : Nat) (W : World) (hC : Kd.C Kd.string W A (setL ks).length ((setL ks).map mk)) (hk : Kb w W pb) => NewReq_calls (mk key) ⟨#[61, 61]⟩ (by rw [mk_size]; omega) A c (setL ks).length ((setL ks).map mk) (by rw [List.length_map]) (by have := setL_len ks; omega) (setL_sm hsm) W hC (HTV.out W hk))
         rw [show (mk key).data.toList = key from rfl, show (⟨#[61, 61]⟩ : ByteArray).data.toList = [61, 61] from rfl, vL_mk] at HNEW
         have HV := Aside0.mk hv
         have HVC := Aside0.mk (fun (q : Nat) (hq : ts2 = T.drop q) (k2 : Nat) (s2 : L) (ts3 : List Tk) (hq2 : T.drop q = (k2, s2) :: ts3) (W : World) (h : PX W pb g T q) => one_calls pb g q T ts3 k2 s2 hT hz hq2 W h)
         have HKL : Aside0 (ks.length ≤ 1000) := ⟨by omega⟩
         obtain ⟨vs, hvs⟩ : ∃ vs, setL ks = vs := ⟨_, rfl⟩
         rw [hvs] at hred HNEW
         have HVS := Aside0.mk hvs
         cases hfr : fairR key [61, 61] vs
         · rw [hfr] at HNEW hred
           have HR : Aside0 (pReq (T.drop p) = none) := ⟨by rw [hred]; rfl⟩
           clear hfr hred hv hkey hE hz ht hne hkz hpo ht1 hk1n hmz hlz hsm hkl hvs
           go_enter Tryz.func117, Tryz.ntmps117
           go_wp2_with (first | ((with_reducible refine (HKEY.out).mono ?_); rintro e w1 ⟨⟨rfl, p1, hd1, hp1⟩, hk1⟩; have HP1 := Aside0.mk hp1; have HK1 := Aside0.mk hk1; have HD1 := Aside0.mk hd1; clear hp1 hk1 hd1 HKEY) | ((with_reducible refine (HOP.out _ HD1.out _ HP1.out).mono ?_); rintro e w2 ⟨ho, hk2⟩; rw [← HD1.out, HPO.out] at ho; obtain ⟨rfl, p2, hd2, hp2⟩ := (show e = .returned (.tuple #[.string ⟨#[61, 61]⟩, .nilIface]) ∧ ∃ p', ts2 = T.drop p' ∧ PX w2 pb g T p' from ho); have HP2 := Aside0.mk hp2; have HK2 := Aside0.mk (HK1.out.trans hk2); have HD2 := Aside0.mk hd2; obtain ⟨k2, s2, ts3, e3_, h3_⟩ := HNX.out _ HD1.out; have HN2 : Aside0 (T.drop p2 = (k2, s2) :: ts3) := ⟨hd2.symm.trans e3_⟩; clear e3_ h3_; clear hk2 hp2 hd2 HOP) | ((with_reducible refine (HVC.out p2 HD2.out _ _ _ (HN2.out) _ HP2.out).mono ?_); rintro e w3 ⟨hvp, hk3⟩; rw [← HD2.out, HV.out] at hvp; obtain ⟨b, N, p3, rfl, hd3, hx⟩ := hvp; have HX3 := Aside0.mk (hx.of HK2.out); have HD3 := Aside0.mk hd3; clear hk3 hx hd3 HVC) | ((with_reducible refine (List_calls b N ks HKL.out _ HX3.out.st).mono ?_); rintro e w4 ⟨v, l, rfl, hperm, hasc, hR, hb⟩; have hl_ := (asc_perm hperm HX3.out.st.nodup hasc (fun _ => rfl)).1.trans HVS.out; subst hl_; obtain ⟨A, c, hv_⟩ := Kd.R_slice hR; rw [List.length_map] at hv_; subst hv_; have HRV := Aside0.mk hR; have HRC := Aside0.mk (Kd.R_reads' hR).2.2; rw [List.length_map] at HRC; have HX4 := Aside0.mk (HX3.out.below hb); clear hperm hasc hR hb) | ((with_reducible refine (HNEW.out _ _ _ HRC.out HX4.out.kb).mono ?_); rintro e w5 ⟨hc, hb⟩; obtain ⟨gv, rfl⟩ := hc.2 rfl; have HP5 := Aside0.mk (HX4.out.px.below hb); have HK5 := Aside0.mk (HX4.out.kb.trans (Kb.of_below hb pb)); clear hc hb HNEW))
           go_ret2
           exact ⟨ReqP.none' HR.out ⟨_, rfl⟩, HK5.out⟩
         · rw [hfr] at HNEW hred
           have HR : Aside0 (pReq (T.drop p) = some ((key, [61, 61], vs), ts4)) := ⟨by rw [hred]; rfl⟩
           clear hfr hred hv hkey hE hz ht hne hkz hpo ht1 hk1n hmz hlz hsm hkl hvs
           go_enter Tryz.func117, Tryz.ntmps117
           go_wp2_with (first | ((with_reducible refine (HKEY.out).mono ?_); rintro e w1 ⟨⟨rfl, p1, hd1, hp1⟩, hk1⟩; have HP1 := Aside0.mk hp1; have HK1 := Aside0.mk hk1; have HD1 := Aside0.mk hd1; clear hp1 hk1 hd1 HKEY) | ((with_reducible refine (HOP.out _ HD1.out _ HP1.out).mono ?_); rintro e w2 ⟨ho, hk2⟩; rw [← HD1.out, HPO.out] at ho; obtain ⟨rfl, p2, hd2, hp2⟩ := (show e = .returned (.tuple #[.string ⟨#[61, 61]⟩, .nilIface]) ∧ ∃ p', ts2 = T.drop p' ∧ PX w2 pb g T p' from ho); have HP2 := Aside0.mk hp2; have HK2 := Aside0.mk (HK1.out.trans hk2); have HD2 := Aside0.mk hd2; obtain ⟨k2, s2, ts3, e3_, h3_⟩ := HNX.out _ HD1.out; have HN2 : Aside0 (T.drop p2 = (k2, s2) :: ts3) := ⟨hd2.symm.trans e3_⟩; clear e3_ h3_; clear hk2 hp2 hd2 HOP) | ((with_reducible refine (HVC.out p2 HD2.out _ _ _ (HN2.out) _ HP2.out).mono ?_); rintro e w3 ⟨hvp, hk3⟩; rw [← HD2.out, HV.out] at hvp; obtain ⟨b, N, p3, rfl, hd3, hx⟩ := hvp; have HX3 := Aside0.mk (hx.of HK2.out); have HD3 := Aside0.mk hd3; clear hk3 hx hd3 HVC) | ((with_reducible refine (List_calls b N ks HKL.out _ HX3.out.st).mono ?_); rintro e w4 ⟨v, l, rfl, hperm, hasc, hR, hb⟩; have hl_ := (asc_perm hperm HX3.out.st.nodup hasc (fun _ => rfl)).1.trans HVS.out; subst hl_; obtain ⟨A, c, hv_⟩ := Kd.R_slice hR; rw [List.length_map] at hv_; subst hv_; have HRV := Aside0.mk hR; have HRC := Aside0.mk (Kd.R_reads' hR).2.2; rw [List.length_map] at HRC; have HX4 := Aside0.mk (HX3.out.below hb); clear hperm hasc hR hb) | ((with_reducible refine (HNEW.out _ _ _ HRC.out HX4.out.kb).mono ?_); rintro e w5 ⟨hc, hb⟩; obtain ⟨b2, rfl, hlb, hbb⟩ := hc.1 rfl; have HBB := Aside0.mk hbb; have HLB : Aside0 (w.heap.size ≤ b2) := ⟨Nat.le_trans HX4.out.kb.size hlb⟩; have HRR := Aside0.mk (Kd.R_below (Kd.R_lower HRV.out HX3.out.kb.size) hb); clear hlb hbb; have HP5 := Aside0.mk (HX4.out.px.below hb); have HK5 := Aside0.mk (HX4.out.kb.trans (Kb.of_below hb pb)); clear hc hb HNEW))
           go_ret2
           exact ⟨ReqP.some' HR.out HD3.out HP5.out HLB.out ⟨_, _, HBB.out, HRR.out⟩, HK5.out⟩
     · have hred : pReq (T.drop p) = (match pOne ts2 with | none => none | some (ks, ts3) => if fairR key [103, 116] (setL ks) then some ((key, [103, 116], setL ks), ts3) else none) := by unfold pReq; rw [hkey]; simp only; rw [if_pos trivial, hpo]; rfl
       cases hv : pOne ts2 with
       | none =>
         rw [hv] at hred
         have HR : Aside0 (pReq (T.drop p) = none) := ⟨hred⟩
         have HV := Aside0.mk hv
         have HVC := Aside0.mk (fun (q : Nat) (hq : ts2 = T.drop q) (k2 : Nat) (s2 : L) (ts3 : List Tk) (hq2 : T.drop q = (k2, s2) :: ts3) (W : World) (h : PX W pb g T q) => one_calls pb g q T ts3 k2 s2 hT hz hq2 W h)
         clear hred hv hkey hE hz ht hne hkz hpo ht1 hk1n
         go_enter Tryz.func117, Tryz.ntmps117
         go_wp2_with (first | ((with_reducible refine (HKEY.out).mono ?_); rintro e w1 ⟨⟨rfl, p1, hd1, hp1⟩, hk1⟩; have HP1 := Aside0.mk hp1; have HK1 := Aside0.mk hk1; have HD1 := Aside0.mk hd1; clear hp1 hk1 hd1 HKEY) | ((with_reducible refine (HOP.out _ HD1.out _ HP1.out).mono ?_); rintro e w2 ⟨ho, hk2⟩; rw [← HD1.out, HPO.out] at ho; obtain ⟨rfl, p2, hd2, hp2⟩ := (show e = .returned (.tuple #[.string ⟨#[103, 116]⟩, .nilIface]) ∧ ∃ p', ts2 = T.drop p' ∧ PX w2 pb g T p' from ho); have HP2 := Aside0.mk hp2; have HK2 := Aside0.mk (HK1.out.trans hk2); have HD2 := Aside0.mk hd2; obtain ⟨k2, s2, ts3, e3_, h3_⟩ := HNX.out _ HD1.out; have HN2 : Aside0 (T.drop p2 = (k2, s2) :: ts3) := ⟨hd2.symm.trans e3_⟩; clear e3_ h3_; clear hk2 hp2 hd2 HOP) | ((with_reducible refine (HVC.out p2 HD2.out _ _ _ (HN2.out) _ HP2.out).mono ?_); rintro e w3 ⟨hvp, hk3⟩; rw [← HD2.out, HV.out] at hvp; obtain ⟨mv, v, rfl, gv, rfl⟩ := hvp; have HK3 := Aside0.mk (HK2.out.trans hk3); clear hk3 HVC))
         go_ret2
         exact ⟨ReqP.none' HR.out ⟨_, rfl⟩, HK3.out⟩
       | some rv =>
         obtain ⟨ks, ts4⟩ := rv
         rw [hv] at hred
         simp only at hred
         have hmz : ∀ t ∈ ts2, t.2.length ≤ 1000000 := fun t ht2 => by
          obtain ⟨pp, _, q1⟩ := pKey_tail hkey
          refine hz t ?_
          have : t ∈ ts1 := by rw [ht1]; exact List.mem_cons_of_mem _ ht2
          rw [q1] at this
          exact List.mem_of_mem_drop (List.mem_of_mem_drop this)
         have hlz : ts2.length ≤ 900 := by
          obtain ⟨pp, _, q1⟩ := pKey_tail hkey
          have e1 := congrArg List.length q1
          rw [ht1] at e1
          simp only [List.length_cons, List.length_drop] at e1
          omega
         obtain ⟨hsm, hkl⟩ := pOne_sm hmz hv
         have HNEW := Aside0.mk (fun (A : Option Addr) (c : Nat) (W : World) (hC : Kd.C Kd.string W A (setL ks).length ((setL ks).map mk)) (hk : Kb w W pb) => NewReq_calls (mk key) ⟨#[103, 116]⟩ (by rw [mk_size]; omega) A c (setL ks).length ((setL ks).map mk) (by rw [List.length_map]) (by have := setL_len ks; omega) (setL_sm hsm) W hC (HTV.out W hk))
         rw [show (mk key).data.toList = key from rfl, show (⟨#[103, 116]⟩ : ByteArray).data.toList = [103, 116] from rfl, vL_mk] at HNEW
         have HV := Aside0.mk hv
         have HVC := Aside0.mk (fun (q : Nat) (hq : ts2 = T.drop q) (k2 : Nat) (s2 : L) (ts3 : List Tk) (hq2 : T.drop q = (k2, s2) :: ts3) (W : World) (h : PX W pb g T q) => one_calls pb g q T ts3 k2 s2 hT hz hq2 W h)
         have HKL : Aside0 (ks.length ≤ 1000) := ⟨by omega⟩
         obtain ⟨vs, hvs⟩ : ∃ vs, setL ks = vs := ⟨_, rfl⟩
         rw [hvs] at hred HNEW
         have HVS := Aside0.mk hvs
         cases hfr : fairR key [103, 116] vs
         · rw [hfr] at HNEW hred
           have HR : Aside0 (pReq (T.drop p) = none) := ⟨by rw [hred]; rfl⟩
           clear hfr hred hv hkey hE hz ht hne hkz hpo ht1 hk1n hmz hlz hsm hkl hvs
           go_enter Tryz.func117, Tryz.ntmps117
           go_wp2_with (first | ((with_reducible refine (HKEY.out).mono ?_); rintro e w1 ⟨⟨rfl, p1, hd1, hp1⟩, hk1⟩; have HP1 := Aside0.mk hp1; have HK1 := Aside0.mk hk1; have HD1 := Aside0.mk hd1; clear hp1 hk1 hd1 HKEY) | ((with_reducible refine (HOP.out _ HD1.out _ HP1.out).mono ?_); rintro e w2 ⟨ho, hk2⟩; rw [← HD1.out, HPO.out] at ho; obtain ⟨rfl, p2, hd2, hp2⟩ := (show e = .returned (.tuple #[.string ⟨#[103, 116]⟩, .nilIface]) ∧ ∃ p', ts2 = T.drop p' ∧ PX w2 pb g T p' from ho); have HP2 := Aside0.mk hp2; have HK2 := Aside0.mk (HK1.out.trans hk2); have HD2 := Aside0.mk hd2; obtain ⟨k2, s2, ts3, e3_, h3_⟩ := HNX.out _ HD1.out; have HN2 : Aside0 (T.drop p2 = (k2, s2) :: ts3) := ⟨hd2.symm.trans e3_⟩; clear e3_ h3_; clear hk2 hp2 hd2 HOP) | ((with_reducible refine (HVC.out p2 HD2.out _ _ _ (HN2.out) _ HP2.out).mono ?_); rintro e w3 ⟨hvp, hk3⟩; rw [← HD2.out, HV.out] at hvp; obtain ⟨b, N, p3, rfl, hd3, hx⟩ := hvp; have HX3 := Aside0.mk (hx.of HK2.out); have HD3 := Aside0.mk hd3; clear hk3 hx hd3 HVC) | ((with_reducible refine (List_calls b N ks HKL.out _ HX3.out.st).mono ?_); rintro e w4 ⟨v, l, rfl, hperm, hasc, hR, hb⟩; have hl_ := (asc_perm hperm HX3.out.st.nodup hasc (fun _ => rfl)).1.trans HVS.out; subst hl_; obtain ⟨A, c, hv_⟩ := Kd.R_slice hR; rw [List.length_map] at hv_; subst hv_; have HRV := Aside0.mk hR; have HRC := Aside0.mk (Kd.R_reads' hR).2.2; rw [List.length_map] at HRC; have HX4 := Aside0.mk (HX3.out.below hb); clear hperm hasc hR hb) | ((with_reducible refine (HNEW.out _ _ _ HRC.out HX4.out.kb).mono ?_); rintro e w5 ⟨hc, hb⟩; obtain ⟨gv, rfl⟩ := hc.2 rfl; have HP5 := Aside0.mk (HX4.out.px.below hb); have HK5 := Aside0.mk (HX4.out.kb.trans (Kb.of_below hb pb)); clear hc hb HNEW))
           go_ret2
           exact ⟨ReqP.none' HR.out ⟨_, rfl⟩, HK5.out⟩
         · rw [hfr] at HNEW hred
           have HR : Aside0 (pReq (T.drop p) = some ((key, [103, 116], vs), ts4)) := ⟨by rw [hred]; rfl⟩
           clear hfr hred hv hkey hE hz ht hne hkz hpo ht1 hk1n hmz hlz hsm hkl hvs
           go_enter Tryz.func117, Tryz.ntmps117
           go_wp2_with (first | ((with_reducible refine (HKEY.out).mono ?_); rintro e w1 ⟨⟨rfl, p1, hd1, hp1⟩, hk1⟩; have HP1 := Aside0.mk hp1; have HK1 := Aside0.mk hk1; have HD1 := Aside0.mk hd1; clear hp1 hk1 hd1 HKEY) | ((with_reducible refine (HOP.out _ HD1.out _ HP1.out).mono ?_); rintro e w2 ⟨ho, hk2⟩; rw [← HD1.out, HPO.out] at ho; obtain ⟨rfl, p2, hd2, hp2⟩ := (show e = .returned (.tuple #[.string ⟨#[103, 116]⟩, .nilIface]) ∧ ∃ p', ts2 = T.drop p' ∧ PX w2 pb g T p' from ho); have HP2 := Aside0.mk hp2; have HK2 := Aside0.mk (HK1.out.trans hk2); have HD2 := Aside0.mk hd2; obtain ⟨k2, s2, ts3, e3_, h3_⟩ := HNX.out _ HD1.out; have HN2 : Aside0 (T.drop p2 = (k2, s2) :: ts3) := ⟨hd2.symm.trans e3_⟩; clear e3_ h3_; clear hk2 hp2 hd2 HOP) | ((with_reducible refine (HVC.out p2 HD2.out _ _ _ (HN2.out) _ HP2.out).mono ?_); rintro e w3 ⟨hvp, hk3⟩; rw [← HD2.out, HV.out] at hvp; obtain ⟨b, N, p3, rfl, hd3, hx⟩ := hvp; have HX3 := Aside0.mk (hx.of HK2.out); have HD3 := Aside0.mk hd3; clear hk3 hx hd3 HVC) | ((with_reducible refine (List_calls b N ks HKL.out _ HX3.out.st).mono ?_); rintro e w4 ⟨v, l, rfl, hperm, hasc, hR, hb⟩; have hl_ := (asc_perm hperm HX3.out.st.nodup hasc (fun _ => rfl)).1.trans HVS.out; subst hl_; obtain ⟨A, c, hv_⟩ := Kd.R_slice hR; rw [List.length_map] at hv_; subst hv_; have HRV := Aside0.mk hR; have HRC := Aside0.mk (Kd.R_reads' hR).2.2; rw [List.length_map] at HRC; have HX4 := Aside0.mk (HX3.out.below hb); clear hperm hasc hR hb) | ((with_reducible refine (HNEW.out _ _ _ HRC.out HX4.out.kb).mono ?_); rintro e w5 ⟨hc, hb⟩; obtain ⟨b2, rfl, hlb, hbb⟩ := hc.1 rfl; have HBB := Aside0.mk hbb; have HLB : Aside0 (w.heap.size ≤ b2) := ⟨Nat.le_trans HX4.out.kb.size hlb⟩; have HRR := Aside0.mk (Kd.R_below (Kd.R_lower HRV.out HX3.out.kb.size) hb); clear hlb hbb; have HP5 := Aside0.mk (HX4.out.px.below hb); have HK5 := Aside0.mk (HX4.out.kb.trans (Kb.of_below hb pb)); clear hc hb HNEW))
           go_ret2
           exact ⟨ReqP.some' HR.out HD3.out HP5.out HLB.out ⟨_, _, HBB.out, HRR.out⟩, HK5.out⟩
     · have hred : pReq (T.drop p) = (match pOne ts2 with | none => none | some (ks, ts3) => if fairR key [108, 116] (setL ks) then some ((key, [108, 116], setL ks), ts3) else none) := by unfold pReq; rw [hkey]; simp only; rw [if_pos trivial, hpo]; rfl
       cases hv : pOne ts2 with
       | none =>
         rw [hv] at hred
         have HR : Aside0 (pReq (T.drop p) = none) := ⟨hred⟩
         have HV := Aside0.mk hv
         have HVC := Aside0.mk (fun (q : Nat) (hq : ts2 = T.drop q) (k2 : Nat) (s2 : L) (ts3 : List Tk) (hq2 : T.drop q = (k2, s2) :: ts3) (W : World) (h : PX W pb g T q) => one_calls pb g q T ts3 k2 s2 hT hz hq2 W h)
         clear hred hv hkey hE hz ht hne hkz hpo ht1 hk1n
         go_enter Tryz.func117, Tryz.ntmps117
         go_wp2_with (first | ((with_reducible refine (HKEY.out).mono ?_); rintro e w1 ⟨⟨rfl, p1, hd1, hp1⟩, hk1⟩; have HP1 := Aside0.mk hp1; have HK1 := Aside0.mk hk1; have HD1 := Aside0.mk hd1; clear hp1 hk1 hd1 HKEY) | ((with_reducible refine (HOP.out _ HD1.out _ HP1.out).mono ?_); rintro e w2 ⟨ho, hk2⟩; rw [← HD1.out, HPO.out] at ho; obtain ⟨rfl, p2, hd2, hp2⟩ := (show e = .returned (.tuple #[.string ⟨#[108, 116]⟩, .nilIface]) ∧ ∃ p', ts2 = T.drop p' ∧ PX w2 pb g T p' from ho); have HP2 := Aside0.mk hp2; have HK2 := Aside0.mk (HK1.out.trans hk2); have HD2 := Aside0.mk hd2; obtain ⟨k2, s2, ts3, e3_, h3_⟩ := HNX.out _ HD1.out; have HN2 : Aside0 (T.drop p2 = (k2, s2) :: ts3) := ⟨hd2.symm.trans e3_⟩; clear e3_ h3_; clear hk2 hp2 hd2 HOP) | ((with_reducible refine (HVC.out p2 HD2.out _ _ _ (HN2.out) _ HP2.out).mono ?_); rintro e w3 ⟨hvp, hk3⟩; rw [← HD2.out, HV.out] at hvp; obtain ⟨mv, v, rfl, gv, rfl⟩ := hvp; have HK3 := Aside0.mk (HK2.out.trans hk3); clear hk3 HVC))
         go_ret2
         exact ⟨ReqP.none' HR.out ⟨_, rfl⟩, HK3.out⟩
       | some rv =>
         obtain ⟨ks, ts4⟩ := rv
         rw [hv] at hred
         simp only at hred
         have hmz : ∀ t ∈ ts2, t.2.length ≤ 1000000 := fun t ht2 => by
          obtain ⟨pp, _, q1⟩ := pKey_tail hkey
          refine hz t ?_
          have : t ∈ ts1 := by rw [ht1]; exact List.mem_cons_of_mem _ ht2
          rw [q1] at this
          exact List.mem_of_mem_drop (List.mem_of_mem_drop this)
         have hlz : ts2.length ≤ 900 := by
          obtain ⟨pp, _, q1⟩ := pKey_tail hkey
          have e1 := congrArg List.length q1
          rw [ht1] at e1
          simp only [List.length_cons, List.length_drop] at e1
          omega
         obtain ⟨hsm, hkl⟩ := pOne_sm hmz hv
         have HNEW := Aside0.mk (fun (A : Option Addr) (c : Nat) (W : World) (hC : Kd.C Kd.string W A (setL ks).length ((setL ks).map mk)) (hk : Kb w W pb) => NewReq_calls (mk key) ⟨#[108, 116]⟩ (by rw [mk_size]; omega) A c (setL ks).length ((setL ks).map mk) (by rw [List.length_map]) (by have := setL_len ks; omega) (setL_sm hsm) W hC (HTV.out W hk))
         rw [show (mk key).data.toList = key from rfl, show (⟨#[108, 116]⟩ : ByteArray).data.toList = [108, 116] from rfl, vL_mk] at HNEW
         have HV := Aside0.mk hv
         have HVC := Aside0.mk (fun (q : Nat) (hq : ts2 = T.drop q) (k2 : Nat) (s2 : L) (ts3 : List Tk) (hq2 : T.drop q = (k2, s2) :: ts3) (W : World) (h : PX W pb g T q) => one_calls pb g q T ts3 k2 s2 hT hz hq2 W h)
         have HKL : Aside0 (ks.length ≤ 1000) := ⟨by omega⟩
         obtain ⟨vs, hvs⟩ : ∃ vs, setL ks = vs := ⟨_, rfl⟩
         rw [hvs] at hred HNEW
         have HVS := Aside0.mk hvs
         cases hfr : fairR key [108, 116] vs
         · rw [hfr] at HNEW hred
           have HR : Aside0 (pReq (T.drop p) = none) := ⟨by rw [hred]; rfl⟩
           clear hfr hred hv hkey hE hz ht hne hkz hpo ht1 hk1n hmz hlz hsm hkl hvs
           go_enter Tryz.func117, Tryz.ntmps117
           go_wp2_with (first | ((with_reducible refine (HKEY.out).mono ?_); rintro e w1 ⟨⟨rfl, p1, hd1, hp1⟩, hk1⟩; have HP1 := Aside0.mk hp1; have HK1 := Aside0.mk hk1; have HD1 := Aside0.mk hd1; clear hp1 hk1 hd1 HKEY) | ((with_reducible refine (HOP.out _ HD1.out _ HP1.out).mono ?_); rintro e w2 ⟨ho, hk2⟩; rw [← HD1.out, HPO.out] at ho; obtain ⟨rfl, p2, hd2, hp2⟩ := (show e = .returned (.tuple #[.string ⟨#[108, 116]⟩, .nilIface]) ∧ ∃ p', ts2 = T.drop p' ∧ PX w2 pb g T p' from ho); have HP2 := Aside0.mk hp2; have HK2 := Aside0.mk (HK1.out.trans hk2); have HD2 := Aside0.mk hd2; obtain ⟨k2, s2, ts3, e3_, h3_⟩ := HNX.out _ HD1.out; have HN2 : Aside0 (T.drop p2 = (k2, s2) :: ts3) := ⟨hd2.symm.trans e3_⟩; clear e3_ h3_; clear hk2 hp2 hd2 HOP) | ((with_reducible refine (HVC.out p2 HD2.out _ _ _ (HN2.out) _ HP2.out).mono ?_); rintro e w3 ⟨hvp, hk3⟩; rw [← HD2.out, HV.out] at hvp; obtain ⟨b, N, p3, rfl, hd3, hx⟩ := hvp; have HX3 := Aside0.mk (hx.of HK2.out); have HD3 := Aside0.mk hd3; clear hk3 hx hd3 HVC) | ((with_reducible refine (List_calls b N ks HKL.out _ HX3.out.st).mono ?_); rintro e w4 ⟨v, l, rfl, hperm, hasc, hR, hb⟩; have hl_ := (asc_perm hperm HX3.out.st.nodup hasc (fun _ => rfl)).1.trans HVS.out; subst hl_; obtain ⟨A, c, hv_⟩ := Kd.R_slice hR; rw [List.length_map] at hv_; subst hv_; have HRV := Aside0.mk hR; have HRC := Aside0.mk (Kd.R_reads' hR).2.2; rw [List.length_map] at HRC; have HX4 := Aside0.mk (HX3.out.below hb); clear hperm hasc hR hb) | ((with_reducible refine (HNEW.out _ _ _ HRC.out HX4.out.kb).mono ?_); rintro e w5 ⟨hc, hb⟩; obtain ⟨gv, rfl⟩ := hc.2 rfl; have HP5 := Aside0.mk (HX4.out.px.below hb); have HK5 := Aside0.mk (HX4.out.kb.trans (Kb.of_below hb pb)); clear hc hb HNEW))
           go_ret2
           exact ⟨ReqP.none' HR.out ⟨_, rfl⟩, HK5.out⟩
         · rw [hfr] at HNEW hred
           have HR : Aside0 (pReq (T.drop p) = some ((key, [108, 116], vs), ts4)) := ⟨by rw [hred]; rfl⟩
           clear hfr hred hv hkey hE hz ht hne hkz hpo ht1 hk1n hmz hlz hsm hkl hvs
           go_enter Tryz.func117, Tryz.ntmps117
           go_wp2_with (first | ((with_reducible refine (HKEY.out).mono ?_); rintro e w1 ⟨⟨rfl, p1, hd1, hp1⟩, hk1⟩; have HP1 := Aside0.mk hp1; have HK1 := Aside0.mk hk1; have HD1 := Aside0.mk hd1; clear hp1 hk1 hd1 HKEY) | ((with_reducible refine (HOP.out _ HD1.out _ HP1.out).mono ?_); rintro e w2 ⟨ho, hk2⟩; rw [← HD1.out, HPO.out] at ho; obtain ⟨rfl, p2, hd2, hp2⟩ := (show e = .returned (.tuple #[.string ⟨#[108, 116]⟩, .nilIface]) ∧ ∃ p', ts2 = T.drop p' ∧ PX w2 pb g T p' from ho); have HP2 := Aside0.mk hp2; have HK2 := Aside0.mk (HK1.out.trans hk2); have HD2 := Aside0.mk hd2; obtain ⟨k2, s2, ts3, e3_, h3_⟩ := HNX.out _ HD1.out; have HN2 : Aside0 (T.drop p2 = (k2, s2) :: ts3) := ⟨hd2.symm.trans e3_⟩; clear e3_ h3_; clear hk2 hp2 hd2 HOP) | ((with_reducible refine (HVC.out p2 HD2.out _ _ _ (HN2.out) _ HP2.out).mono ?_); rintro e w3 ⟨hvp, hk3⟩; rw [← HD2.out, HV.out] at hvp; obtain ⟨b, N, p3, rfl, hd3, hx⟩ := hvp; have HX3 := Aside0.mk (hx.of HK2.out); have HD3 := Aside0.mk hd3; clear hk3 hx hd3 HVC) | ((with_reducible refine (List_calls b N ks HKL.out _ HX3.out.st).mono ?_); rintro e w4 ⟨v, l, rfl, hperm, hasc, hR, hb⟩; have hl_ := (asc_perm hperm HX3.out.st.nodup hasc (fun _ => rfl)).1.trans HVS.out; subst hl_; obtain ⟨A, c, hv_⟩ := Kd.R_slice hR; rw [List.length_map] at hv_; subst hv_; have HRV := Aside0.mk hR; have HRC := Aside0.mk (Kd.R_reads' hR).2.2; rw [List.length_map] at HRC; have HX4 := Aside0.mk (HX3.out.below hb); clear hperm hasc hR hb) | ((with_reducible refine (HNEW.out _ _ _ HRC.out HX4.out.kb).mono ?_); rintro e w5 ⟨hc, hb⟩; obtain ⟨b2, rfl, hlb, hbb⟩ := hc.1 rfl; have HBB := Aside0.mk hbb; have HLB : Aside0 (w.heap.size ≤ b2) := ⟨Nat.le_trans HX4.out.kb.size hlb⟩; have HRR := Aside0.mk (Kd.R_below (Kd.R_lower HRV.out HX3.out.kb.size) hb); clear hlb hbb; have HP5 := Aside0.mk (HX4.out.px.below hb); have HK5 := Aside0.mk (HX4.out.kb.trans (Kb.of_below hb pb)); clear hc hb HNEW))
           go_ret2
           exact ⟨ReqP.some' HR.out HD3.out HP5.out HLB.out ⟨_, _, HBB.out, HRR.out⟩, HK5.out⟩
     · have hred : pReq (T.drop p) = (match pVals ts2 with | none => none | some (ks, ts3) => if fairR key [110, 111, 116, 105, 110] (setL ks) then some ((key, [110, 111, 116, 105, 110], setL ks), ts3) else none) := by unfold pReq; rw [hkey]; simp only; rw [if_pos trivial, hpo]; rfl
       cases hv : pVals ts2 with
       | none =>
         rw [hv] at hred
         have HR : Aside0 (pReq (T.drop p) = none) := ⟨hred⟩
         have HV := Aside0.mk hv
         have HVC := Aside0.mk (fun (q : Nat) (hq : ts2 = T.drop q) (k2 : Nat) (s2 : L) (ts3 : List Tk) (hq2 : T.drop q = (k2, s2) :: ts3) (W : World) (h : PX W pb g T q) => vals_calls pb g q T ts3 k2 s2 hT hE hz hq2 W h)
         clear hred hv hkey hE hz ht hne hkz hpo ht1 hk1n
         go_enter Tryz.func117, Tryz.ntmps117
         go_wp2_with (first | ((with_reducible refine (HKEY.out).mono ?_); rintro e w1 ⟨⟨rfl, p1, hd1, hp1⟩, hk1⟩; have HP1 := Aside0.mk hp1; have HK1 := Aside0.mk hk1; have HD1 := Aside0.mk hd1; clear hp1 hk1 hd1 HKEY) | ((with_reducible refine (HOP.out _ HD1.out _ HP1.out).mono ?_); rintro e w2 ⟨ho, hk2⟩; rw [← HD1.out, HPO.out] at ho; obtain ⟨rfl, p2, hd2, hp2⟩ := (show e = .returned (.tuple #[.string ⟨#[110, 111, 116, 105, 110]⟩, .nilIface]) ∧ ∃ p', ts2 = T.drop p' ∧ PX w2 pb g T p' from ho); have HP2 := Aside0.mk hp2; have HK2 := Aside0.mk (HK1.out.trans hk2); have HD2 := Aside0.mk hd2; obtain ⟨k2, s2, ts3, e3_, h3_⟩ := HNX.out _ HD1.out; have HN2 : Aside0 (T.drop p2 = (k2, s2) :: ts3) := ⟨hd2.symm.trans e3_⟩; clear e3_ h3_; clear hk2 hp2 hd2 HOP) | ((with_reducible refine (HVC.out p2 HD2.out _ _ _ (HN2.out) _ HP2.out).mono ?_); rintro e w3 ⟨hvp, hk3⟩; rw [← HD2.out, HV.out] at hvp; obtain ⟨mv, v, rfl, gv, rfl⟩ := hvp; have HK3 := Aside0.mk (HK2.out.trans hk3); clear hk3 HVC))
         go_ret2
         exact ⟨ReqP.none' HR.out ⟨_, rfl⟩, HK3.out⟩
       | some rv =>
         obtain ⟨ks, ts4⟩ := rv
         rw [hv] at hred
         simp only at hred
         have hmz : ∀ t ∈ ts2, t.2.length ≤ 1000000 := fun t ht2 => by
          obtain ⟨pp, _, q1⟩ := pKey_tail hkey
          refine hz t ?_
          have : t ∈ ts1 := by rw [ht1]; exact List.mem_cons_of_mem _ ht2
          rw [q1] at this
          exact List.mem_of_mem_drop (List.mem_of_mem_drop this)
         have hlz : ts2.length ≤ 900 := by
          obtain ⟨pp, _, q1⟩ := pKey_tail hkey
          have e1 := congrArg List.length q1
          rw [ht1] at e1
          simp only [List.length_cons, List.length_drop] at e1
          omega
         obtain ⟨hsm, hkl⟩ := pVals_sm hmz hlz hv
         have HNEW := Aside0.mk (fun (A : Option Addr) (c : Nat) (W : World) (hC : Kd.C Kd.string W A (setL ks).length ((setL ks).map mk)) (hk : Kb w W pb) => NewReq_calls (mk key) ⟨#[110, 111, 116, 105, 110]⟩ (by rw [mk_size]; omega) A c (setL ks).length ((setL ks).map mk) (by rw [List.length_map]) (by have := setL_len ks; omega) (setL_sm hsm) W hC (HTV.out W hk))
         rw [show (mk key).data.toList = key from rfl, show (⟨#[110, 111, 116, 105, 110]⟩ : ByteArray).data.toList = [110, 111, 116, 105, 110] from rfl, vL_mk] at HNEW
         have HV := Aside0.mk hv
         have HVC := Aside0.mk (fun (q : Nat) (hq : ts2 = T.drop q) (k2 : Nat) (s2 : L) (ts3 : List Tk) (hq2 : T.drop q = (k2, s2) :: ts3) (W : World) (h : PX W pb g T q) => vals_calls pb g q T ts3 k2 s2 hT hE hz hq2 W h)
         have HKL : Aside0 (ks.length ≤ 1000) := ⟨by omega⟩
         obtain ⟨vs, hvs⟩ : ∃ vs, setL ks = vs := ⟨_, rfl⟩
         rw [hvs] at hred HNEW
         have HVS := Aside0.mk hvs
         cases hfr : fairR key [110, 111, 116, 105, 110] vs
         · rw [hfr] at HNEW hred
           have HR : Aside0 (pReq (T.drop p) = none) := ⟨by rw [hred]; rfl⟩
           clear hfr hred hv hkey hE hz ht hne hkz hpo ht1 hk1n hmz hlz hsm hkl hvs
           go_enter Tryz.func117, Tryz.ntmps117
           go_wp2_with (first | ((with_reducible refine (HKEY.out).mono ?_); rintro e w1 ⟨⟨rfl, p1, hd1, hp1⟩, hk1⟩; have HP1 := Aside0.mk hp1; have HK1 := Aside0.mk hk1; have HD1 := Aside0.mk hd1; clear hp1 hk1 hd1 HKEY) | ((with_reducible refine (HOP.out _ HD1.out _ HP1.out).mono ?_); rintro e w2 ⟨ho, hk2⟩; rw [← HD1.out, HPO.out] at ho; obtain ⟨rfl, p2, hd2, hp2⟩ := (show e = .returned (.tuple #[.string ⟨#[110, 111, 116, 105, 110]⟩, .nilIface]) ∧ ∃ p', ts2 = T.drop p' ∧ PX w2 pb g T p' from ho); have HP2 := Aside0.mk hp2; have HK2 := Aside0.mk (HK1.out.trans hk2); have HD2 := Aside0.mk hd2; obtain ⟨k2, s2, ts3, e3_, h3_⟩ := HNX.out _ HD1.out; have HN2 : Aside0 (T.drop p2 = (k2, s2) :: ts3) := ⟨hd2.symm.trans e3_⟩; clear e3_ h3_; clear hk2 hp2 hd2 HOP) | ((with_reducible refine (HVC.out p2 HD2.out _ _ _ (HN2.out) _ HP2.out).mono ?_); rintro e w3 ⟨hvp, hk3⟩; rw [← HD2.out, HV.out] at hvp; obtain ⟨b, N, p3, rfl, hd3, hx⟩ := hvp; have HX3 := Aside0.mk (hx.of HK2.out); have HD3 := Aside0.mk hd3; clear hk3 hx hd3 HVC) | ((with_reducible refine (List_calls b N ks HKL.out _ HX3.out.st).mono ?_); rintro e w4 ⟨v, l, rfl, hperm, hasc, hR, hb⟩; have hl_ := (asc_perm hperm HX3.out.st.nodup hasc (fun _ => rfl)).1.trans HVS.out; subst hl_; obtain ⟨A, c, hv_⟩ := Kd.R_slice hR; rw [List.length_map] at hv_; subst hv_; have HRV := Aside0.mk hR; have HRC := Aside0.mk (Kd.R_reads' hR).2.2; rw [List.length_map] at HRC; have HX4 := Aside0.mk (HX3.out.below hb); clear hperm hasc hR hb) | ((with_reducible refine (HNEW.out _ _ _ HRC.out HX4.out.kb).mono ?_); rintro e w5 ⟨hc, hb⟩; obtain ⟨gv, rfl⟩ := hc.2 rfl; have HP5 := Aside0.mk (HX4.out.px.below hb); have HK5 := Aside0.mk (HX4.out.kb.trans (Kb.of_below hb pb)); clear hc hb HNEW))
           go_ret2
           exact ⟨ReqP.none' HR.out ⟨_, rfl⟩, HK5.out⟩
         · rw [hfr] at HNEW hred
           have HR : Aside0 (pReq (T.drop p) = some ((key, [110, 111, 116, 105, 110], vs), ts4)) := ⟨by rw [hred]; rfl⟩
           clear hfr hred hv hkey hE hz ht hne hkz hpo ht1 hk1n hmz hlz hsm hkl hvs
           go_enter Tryz.func117, Tryz.ntmps117
           go_wp2_with (first | ((with_reducible refine (HKEY.out).mono ?_); rintro e w1 ⟨⟨rfl, p1, hd1, hp1⟩, hk1⟩; have HP1 := Aside0.mk hp1; have HK1 := Aside0.mk hk1; have HD1 := Aside0.mk hd1; clear hp1 hk1 hd1 HKEY) | ((with_reducible refine (HOP.out _ HD1.out _ HP1.out).mono ?_); rintro e w2 ⟨ho, hk2⟩; rw [← HD1.out, HPO.out] at ho; obtain ⟨rfl, p2, hd2, hp2⟩ := (show e = .returned (.tuple #[.string ⟨#[110, 111, 116, 105, 110]⟩, .nilIface]) ∧ ∃ p', ts2 = T.drop p' ∧ PX w2 pb g T p' from ho); have HP2 := Aside0.mk hp2; have HK2 := Aside0.mk (HK1.out.trans hk2); have HD2 := Aside0.mk hd2; obtain ⟨k2, s2, ts3, e3_, h3_⟩ := HNX.out _ HD1.out; have HN2 : Aside0 (T.drop p2 = (k2, s2) :: ts3) := ⟨hd2.symm.trans e3_⟩; clear e3_ h3_; clear hk2 hp2 hd2 HOP) | ((with_reducible refine (HVC.out p2 HD2.out _ _ _ (HN2.out) _ HP2.out).mono ?_); rintro e w3 ⟨hvp, hk3⟩; rw [← HD2.out, HV.out] at hvp; obtain ⟨b, N, p3, rfl, hd3, hx⟩ := hvp; have HX3 := Aside0.mk (hx.of HK2.out); have HD3 := Aside0.mk hd3; clear hk3 hx hd3 HVC) | ((with_reducible refine (List_calls b N ks HKL.out _ HX3.out.st).mono ?_); rintro e w4 ⟨v, l, rfl, hperm, hasc, hR, hb⟩; have hl_ := (asc_perm hperm HX3.out.st.nodup hasc (fun _ => rfl)).1.trans HVS.out; subst hl_; obtain ⟨A, c, hv_⟩ := Kd.R_slice hR; rw [List.length_map] at hv_; subst hv_; have HRV := Aside0.mk hR; have HRC := Aside0.mk (Kd.R_reads' hR).2.2; rw [List.length_map] at HRC; have HX4 := Aside0.mk (HX3.out.below hb); clear hperm hasc hR hb) | ((with_reducible refine (HNEW.out _ _ _ HRC.out HX4.out.kb).mono ?_); rintro e w5 ⟨hc, hb⟩; obtain ⟨b2, rfl, hlb, hbb⟩ := hc.1 rfl; have HBB := Aside0.mk hbb; have HLB : Aside0 (w.heap.size ≤ b2) := ⟨Nat.le_trans HX4.out.kb.size hlb⟩; have HRR := Aside0.mk (Kd.R_below (Kd.R_lower HRV.out HX3.out.kb.size) hb); clear hlb hbb; have HP5 := Aside0.mk (HX4.out.px.below hb); have HK5 := Aside0.mk (HX4.out.kb.trans (Kb.of_below hb pb)); clear hc hb HNEW))
           go_ret2
           exact ⟨ReqP.some' HR.out HD3.out HP5.out HLB.out ⟨_, _, HBB.out, HRR.out⟩, HK5.out⟩
     · have hred : pReq (T.drop p) = (match pOne ts2 with | none => none | some (ks, ts3) => if fairR key [33, 61] (setL ks) then some ((key, [33, 61], setL ks), ts3) else none) := by unfold pReq; rw [hkey]; simp only; rw [if_pos trivial, hpo]; rfl
       cases hv : pOne ts2 with
       | none =>
         rw [hv] at hred
         have HR : Aside0 (pReq (T.drop p) = none) := ⟨hred⟩
         have HV := Aside0.mk hv
         have HVC := Aside0.mk (fun (q : Nat) (hq : ts2 = T.drop q) (k2 : Nat) (s2 : L) (ts3 : List Tk) (hq2 : T.drop q = (k2, s2) :: ts3) (W : World) (h : PX W pb g T q) => one_calls pb g q T ts3 k2 s2 hT hz hq2 W h)
         clear hred hv hkey hE hz ht hne hkz hpo ht1 hk1n
         go_enter Tryz.func117, Tryz.ntmps117
         go_wp2_with (first | ((with_reducible refine (HKEY.out).mono ?_); rintro e w1 ⟨⟨rfl, p1, hd1, hp1⟩, hk1⟩; have HP1 := Aside0.mk hp1; have HK1 := Aside0.mk hk1; have HD1 := Aside0.mk hd1; clear hp1 hk1 hd1 HKEY) | ((with_reducible refine (HOP.out _ HD1.out _ HP1.out).mono ?_); rintro e w2 ⟨ho, hk2⟩; rw [← HD1.out, HPO.out] at ho; obtain ⟨rfl, p2, hd2, hp2⟩ := (show e = .returned (.tuple #[.string ⟨#[33, 61]⟩, .nilIface]) ∧ ∃ p', ts2 = T.drop p' ∧ PX w2 pb g T p' from ho); have HP2 := Aside0.mk hp2; have HK2 := Aside0.mk (HK1.out.trans hk2); have HD2 := Aside0.mk hd2; obtain ⟨k2, s2, ts3, e3_, h3_⟩ := HNX.out _ HD1.out; have HN2 : Aside0 (T.drop p2 = (k2, s2) :: ts3) := ⟨hd2.symm.trans e3_⟩; clear e3_ h3_; clear hk2 hp2 hd2 HOP) | ((with_reducible refine (HVC.out p2 HD2.out _ _ _ (HN2.out) _ HP2.out).mono ?_); rintro e w3 ⟨hvp, hk3⟩; rw [← HD2.out, HV.out] at hvp; obtain ⟨mv, v, rfl, gv, rfl⟩ := hvp; have HK3 := Aside0.mk (HK2.out.trans hk3); clear hk3 HVC))
         go_ret2
         exact ⟨ReqP.none' HR.out ⟨_, rfl⟩, HK3.out⟩
       | some rv =>
         obtain ⟨ks, ts4⟩ := rv
         rw [hv] at hred
         simp only at hred
         have hmz : ∀ t ∈ ts2, t.2.length ≤ 1000000 := fun t ht2 => by
          obtain ⟨pp, _, q1⟩ := pKey_tail hkey
          refine hz t ?_
          have : t ∈ ts1 := by rw [ht1]; exact List.mem_cons_of_mem _ ht2
          rw [q1] at this
          exact List.mem_of_mem_drop (List.mem_of_mem_drop this)
         have hlz : ts2.length ≤ 900 := by
          obtain ⟨pp, _, q1⟩ := pKey_tail hkey
          have e1 := congrArg List.length q1
          rw [ht1] at e1
          simp only [List.length_cons, List.length_drop] at e1
          omega
         obtain ⟨hsm, hkl⟩ := pOne_sm hmz hv
         have HNEW := Aside0.mk (fun (A : Option Addr) (c : Nat) (W : World) (hC : Kd.C Kd.string W A (setL ks).length ((setL ks).map mk)) (hk : Kb w W pb) => NewReq_calls (mk key) ⟨#[33, 61]⟩ (by rw [mk_size]; omega) A c (setL ks).length ((setL ks).map mk) (by rw [List.length_map]) (by have := setL_len ks; omega) (setL_sm hsm) W hC (HTV.out W hk))
         rw [show (mk key).data.toList = key from rfl, show (⟨#[33, 61]⟩ : ByteArray).data.toList = [33, 61] from rfl, vL_mk] at HNEW
         have HV := Aside0.mk hv
         have HVC := Aside0.mk (fun (q : Nat) (hq : ts2 = T.drop q) (k2 : Nat) (s2 : L) (ts3 : List Tk) (hq2 : T.drop q = (k2, s2) :: ts3) (W : World) (h : PX W pb g T q) => one_calls pb g q T ts3 k2 s2 hT hz hq2 W h)
         have HKL : Aside0 (ks.length ≤ 1000) := ⟨by omega⟩
         obtain ⟨vs, hvs⟩ : ∃ vs, setL ks = vs := ⟨_, rfl⟩
         rw [hvs] at hred HNEW
         have HVS := Aside0.mk hvs
         cases hfr : fairR key [33, 61] vs
         · rw [hfr] at HNEW hred
           have HR : Aside0 (pReq (T.drop p) = none) := ⟨by rw [hred]; rfl⟩
           clear hfr hred hv hkey hE hz ht hne hkz hpo ht1 hk1n hmz hlz hsm hkl hvs
           go_enter Tryz.func117, Tryz.ntmps117
           go_wp2_with (first | ((with_reducible refine (HKEY.out).mono ?_); rintro e w1 ⟨⟨rfl, p1, hd1, hp1⟩, hk1⟩; have HP1 := Aside0.mk hp1; have HK1 := Aside0.mk hk1; have HD1 := Aside0.mk hd1; clear hp1 hk1 hd1 HKEY) | ((with_reducible refine (HOP.out _ HD1.out _ HP1.out).mono ?_); rintro e w2 ⟨ho, hk2⟩; rw [← HD1.out, HPO.out] at ho; obtain ⟨rfl, p2, hd2, hp2⟩ := (show e = .returned (.tuple #[.string ⟨#[33, 61]⟩, .nilIface]) ∧ ∃ p', ts2 = T.drop p' ∧ PX w2 pb g T p' from ho); have HP2 := Aside0.mk hp2; have HK2 := Aside0.mk (HK1.out.trans hk2); have HD2 := Aside0.mk hd2; obtain ⟨k2, s2, ts3, e3_, h3_⟩ := HNX.out _ HD1.out; have HN2 : Aside0 (T.drop p2 = (k2, s2) :: ts3) := ⟨hd2.symm.trans e3_⟩; clear e3_ h3_; clear hk2 hp2 hd2 HOP) | ((with_reducible refine (HVC.out p2 HD2.out _ _ _ (HN2.out) _ HP2.out).mono ?_); rintro e w3 ⟨hvp, hk3⟩; rw [← HD2.out, HV.out] at hvp; obtain ⟨b, N, p3, rfl, hd3, hx⟩ := hvp; have HX3 := Aside0.mk (hx.of HK2.out); have HD3 := Aside0.mk hd3; clear hk3 hx hd3 HVC) | ((with_reducible refine (List_calls b N ks HKL.out _ HX3.out.st).mono ?_); rintro e w4 ⟨v, l, rfl, hperm, hasc, hR, hb⟩; have hl_ := (asc_perm hperm HX3.out.st.nodup hasc (fun _ => rfl)).1.trans HVS.out; subst hl_; obtain ⟨A, c, hv_⟩ := Kd.R_slice hR; rw [List.length_map] at hv_; subst hv_; have HRV := Aside0.mk hR; have HRC := Aside0.mk (Kd.R_reads' hR).2.2; rw [List.length_map] at HRC; have HX4 := Aside0.mk (HX3.out.below hb); clear hperm hasc hR hb) | ((with_reducible refine (HNEW.out _ _ _ HRC.out HX4.out.kb).mono ?_); rintro e w5 ⟨hc, hb⟩; obtain ⟨gv, rfl⟩ := hc.2 rfl; have HP5 := Aside0.mk (HX4.out.px.below hb); have HK5 := Aside0.mk (HX4.out.kb.trans (Kb.of_below hb pb)); clear hc hb HNEW))
           go_ret2
           exact ⟨ReqP.none' HR.out ⟨_, rfl⟩, HK5.out⟩
         · rw [hfr] at HNEW hred
           have HR : Aside0 (pReq (T.drop p) = some ((key, [33, 61], vs), ts4)) := ⟨by rw [hred]; rfl⟩
           clear hfr hred hv hkey hE hz ht hne hkz hpo ht1 hk1n hmz hlz hsm hkl hvs
           go_enter Tryz.func117, Tryz.ntmps117
           go_wp2_with (first | ((with_reducible refine (HKEY.out).mono ?_); rintro e w1 ⟨⟨rfl, p1, hd1, hp1⟩, hk1⟩; have HP1 := Aside0.mk hp1; have HK1 := Aside0.mk hk1; have HD1 := Aside0.mk hd1; clear hp1 hk1 hd1 HKEY) | ((with_reducible refine (HOP.out _ HD1.out _ HP1.out).mono ?_); rintro e w2 ⟨ho, hk2⟩; rw [← HD1.out, HPO.out] at ho; obtain ⟨rfl, p2, hd2, hp2⟩ := (show e = .returned (.tuple #[.string ⟨#[33, 61]⟩, .nilIface]) ∧ ∃ p', ts2 = T.drop p' ∧ PX w2 pb g T p' from ho); have HP2 := Aside0.mk hp2; have HK2 := Aside0.mk (HK1.out.trans hk2); have HD2 := Aside0.mk hd2; obtain ⟨k2, s2, ts3, e3_, h3_⟩ := HNX.out _ HD1.out; have HN2 : Aside0 (T.drop p2 = (k2, s2) :: ts3) := ⟨hd2.symm.trans e3_⟩; clear e3_ h3_; clear hk2 hp2 hd2 HOP) | ((with_reducible refine (HVC.out p2 HD2.out _ _ _ (HN2.out) _ HP2.out).mono ?_); rintro e w3 ⟨hvp, hk3⟩; rw [← HD2.out, HV.out] at hvp; obtain ⟨b, N, p3, rfl, hd3, hx⟩ := hvp; have HX3 := Aside0.mk (hx.of HK2.out); have HD3 := Aside0.mk hd3; clear hk3 hx hd3 HVC) | ((with_reducible refine (List_calls b N ks HKL.out _ HX3.out.st).mono ?_); rintro e w4 ⟨v, l, rfl, hperm, hasc, hR, hb⟩; have hl_ := (asc_perm hperm HX3.out.st.nodup hasc (fun _ => rfl)).1.trans HVS.out; subst hl_; obtain ⟨A, c, hv_⟩ := Kd.R_slice hR; rw [List.length_map] at hv_; subst hv_; have HRV := Aside0.mk hR; have HRC := Aside0.mk (Kd.R_reads' hR).2.2; rw [List.length_map] at HRC; have HX4 := Aside0.mk (HX3.out.below hb); clear hperm hasc hR hb) | ((with_reducible refine (HNEW.out _ _ _ HRC.out HX4.out.kb).mono ?_); rintro e w5 ⟨hc, hb⟩; obtain ⟨b2, rfl, hlb, hbb⟩ := hc.1 rfl; have HBB := Aside0.mk hbb; have HLB : Aside0 (w.heap.size ≤ b2) := ⟨Nat.le_trans HX4.out.kb.size hlb⟩; have HRR := Aside0.mk (Kd.R_below (Kd.R_lower HRV.out HX3.out.kb.size) hb); clear hlb hbb; have HP5 := Aside0.mk (HX4.out.px.below hb); have HK5 := Aside0.mk (HX4.out.kb.trans (Kb.of_below hb pb)); clear hc hb HNEW))
           go_ret2
           exact ⟨ReqP.some' HR.out HD3.out HP5.out HLB.out ⟨_, _, HBB.out, HRR.out⟩, HK5.out⟩
end Go.Proofs.YthfjolafikgpoaaGreatDoor.Hand
