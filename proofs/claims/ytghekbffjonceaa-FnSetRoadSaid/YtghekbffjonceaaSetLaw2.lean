/- impl.SetBoth; the law's own list of two texts; epLives. -/
import Derived.Test.YtghekbffjonceaaSetLaw1
namespace Go.Proofs.Ytghekbffjonceaa.Hand
open Go.RowKit Go.Proofs.YtghekbffjonceaaW.PrintWords Go.Proofs.YtghekbffjonceaaW.PrintLast Go.Proofs.YtghekbffjonceaaW.PrintMore Go.Proofs.Ytghekbffjonceaa.Base
set_option linter.unusedVariables false
set_option linter.unusedSimpArgs false
set_option maxRecDepth 100000
set_option maxHeartbeats 4000000 in
theorem SetBoth_calls (A : Option Addr) (c : Nat) (l : List L) (B : Option Addr) (d : Nat) (m : List L) (hx : ∀ p ∈ l.map mk, p.size ≤ 140737488351232) (hy : ∀ p ∈ m.map mk, p.size ≤ 140737488351232) (hl : l.length ≤ 300) (hm : m.length ≤ 300)
    (w : World) (hr : Kd.C Kd.string w A l.length (l.map mk)) (hc : l.length ≤ c) (hr2 : Kd.C Kd.string w B m.length (m.map mk)) (hd : m.length ≤ d) :
    Calls Try.prog 18 #[.slice A l.length c, .slice B m.length d] w fun e w' => ∃ A1 c1 A2 c2 A3 c3, e = .returned (.tuple #[.slice A1 (kept (setL l) (setL m) false).length c1, .slice A2 (setL (l ++ m)).length c2, .slice A3 (kept (setL l) (setL m) true).length c3]) ∧
      (Kd.C Kd.string w' A1 (kept (setL l) (setL m) false).length ((kept (setL l) (setL m) false).map mk) ∧ (kept (setL l) (setL m) false).length ≤ c1) ∧ (Kd.C Kd.string w' A2 (setL (l ++ m)).length ((setL (l ++ m)).map mk) ∧ (setL (l ++ m)).length ≤ c2) ∧ (Kd.C Kd.string w' A3 (kept (setL l) (setL m) true).length ((kept (setL l) (setL m) true).map mk) ∧ (kept (setL l) (setL m) true).length ≤ c3) ∧ Below w.heap.size w w' := by
  have HB := Aside0.mk (Below.refl w.heap.size w)
  have H1 := Aside0.mk (NewL_calls A c l hx (by omega) w hr hc)
  have H2 := Aside0.mk (fun w' (h : Kd.C Kd.string w' B m.length (m.map mk)) => NewL_calls B d m hy (by omega) w' h hd)
  have HR2 := Aside0.mk hr2
  obtain ⟨G1, hG1⟩ : ∃ G, kept (setL l) (setL m) false = G := ⟨_, rfl⟩
  obtain ⟨G2, hG2⟩ : ∃ G, setL (l ++ m) = G := ⟨_, rfl⟩
  obtain ⟨G3, hG3⟩ : ∃ G, kept (setL l) (setL m) true = G := ⟨_, rfl⟩
  rw [hG1, hG2, hG3]
  have U1 : Aside0 (Up G1 ∧ ∀ y, G1.contains y = (l.contains y && !m.contains y)) := ⟨by subst hG1; exact kept_up (setL_up l) _ _, fun y => by subst hG1; rw [kept_mem, setL_contains, setL_contains]; cases m.contains y <;> simp⟩
  have U2 : Aside0 (Up G2 ∧ ∀ y, G2.contains y = (l.contains y || m.contains y)) := ⟨by subst hG2; exact setL_up _, fun y => by subst hG2; rw [setL_contains, List.contains_append]⟩
  have U3 : Aside0 (Up G3 ∧ ∀ y, G3.contains y = (l.contains y && m.contains y)) := ⟨by subst hG3; exact kept_up (setL_up l) _ _, fun y => by subst hG3; rw [kept_mem, setL_contains, setL_contains]; cases m.contains y <;> simp⟩
  clear hx hy hr hr2 hG1 hG2 hG3
  have LEN : ∀ {rs G : List L}, rs.Nodup → (∀ y, rs.contains y = G.contains y) → (∀ y, G.contains y = true → (l ++ m).contains y = true) → rs.length ≤ 1000 := by
    intro rs G hn he hs
    have hsub : ∀ y ∈ rs, y ∈ setL (l ++ m) := fun y hy => by
      rw [setL_mem]
      have h1 := he y
      rw [List.contains_iff_mem.2 hy] at h1
      have := hs y h1.symm
      exact List.contains_iff_mem.1 this
    have hu := setL_up (l ++ m)
    have hnu : (setL (l ++ m)).Nodup := hu.imp (fun h e => by subst e; rw [lt_irr] at h; exact absurd h (by simp))
    have := sub_len hn hnu hsub
    have := setL_len (l ++ m)
    rw [List.length_append] at this
    omega
  have LEN := Aside0.mk @LEN
  go_enter Try.func18, Try.ntmps18
  go_wp2_with (first | ((with_reducible refine (H1.out).mono ?_); rintro e w1 ⟨b1, k1, rfl, -, g1, g2, g3, g4, hb⟩; clear H1; have HS1 := Aside0.mk (And.intro g1 (And.intro g2 (And.intro g3 g4))); clear g1 g2 g3 g4; have nb_ := Aside0.mk (below_step (by repeat (first | (with_reducible first | exact HB.out | apply below_alloc | apply pw_below_drewN | apply below_drew1) | exact HB.out)) hb); clear HB; have HB := nb_; clear nb_; (try clear hb)) |
    ((with_reducible refine (H2.out _ (Kd.C_below HR2.out (by repeat (first | (with_reducible first | exact HB.out | apply below_alloc | apply pw_below_drewN | apply below_drew1) | exact HB.out)))).mono ?_); rintro e wa ⟨b2, k2, rfl, -, g1, g2, g3, g4, hb⟩; clear H2 HR2; have HS2 := Aside0.mk (And.intro g1 (And.intro g2 (And.intro g3 g4))); have HS3 := Aside0.mk (HS1.out.1.below hb);
      have HD := Aside0.mk (Diff_calls b1 _ k1 b2 _ k2 HS1.out.2.2.2 (by have := HS1.out.2.2.1; omega) _ HS3.out g1);
      have HU := Aside0.mk (fun w' (hb : Below wa.heap.size wa w') => Union_calls b1 _ k1 b2 _ k2 HS1.out.2.2.2 g4 (by have := HS1.out.2.2.1; omega) w' (HS3.out.below hb) (HS2.out.1.below hb));
      have HI := Aside0.mk (fun w' (hb : Below wa.heap.size wa w') => Inter_calls b1 _ k1 b2 _ k2 HS1.out.2.2.2 g4 (by have := HS1.out.2.2.1; omega) (by omega) w' (HS3.out.below hb) (HS2.out.1.below hb));
      have HK := Aside0.mk (And.intro HS1.out.2.1 g2); clear g1 g2 g3 g4; have nb_ := Aside0.mk (below_step (by repeat (first | (with_reducible first | exact HB.out | apply below_alloc | apply pw_below_drewN | apply below_drew1) | exact HB.out)) hb); clear HB; have HB := nb_; clear nb_; (try clear hb); have HT := HB; clear HB; have HB := Aside0.mk (Below.refl wa.heap.size wa)) |
    ((with_reducible refine (HD.out).mono ?_); rintro e w3 ⟨b3, r3, rfl, g1, g2, hb⟩; clear HD; have HL1 := Aside0.mk (List_calls b3 _ r3 (LEN.out (G := G1) g1.nodup (fun y => by rw [g2, HK.out.1, HK.out.2, U1.out.2]) (fun y hy => by rw [U1.out.2] at hy; rw [List.contains_append]; revert hy; cases l.contains y <;> simp)) _ g1); have HE1 := Aside0.mk (And.intro g1.nodup (fun y => (by rw [g2, HK.out.1, HK.out.2, U1.out.2] : r3.contains y = G1.contains y))); clear g1 g2; have nb_ := Aside0.mk (below_step (by repeat (first | (with_reducible first | exact HB.out | apply below_alloc | apply pw_below_drewN | apply below_drew1) | exact HB.out)) hb); clear HB; have HB := nb_; clear nb_; (try clear hb)) |
    ((with_reducible refine (HL1.out).mono ?_); rintro e w4 ⟨v, lo, rfl, o1, o2, o3, hb⟩; clear HL1; have ee := asc_is o1 HE1.out.1 o2 U1.out.1 HE1.out.2; subst ee; (obtain ⟨A1, c1, e1⟩ := Kd.R_slice o3); rw [List.length_map] at e1; subst e1; have hh := (Kd.R_reads' o3).2; rw [List.length_map] at hh; have CV1 := Aside0.mk hh; clear o1 o2 o3 hh HE1; have nb_ := Aside0.mk (below_step (by repeat (first | (with_reducible first | exact HB.out | apply below_alloc | apply pw_below_drewN | apply below_drew1) | exact HB.out)) hb); clear HB; have HB := nb_; clear nb_; (try clear hb)) |
    ((with_reducible refine (HU.out _ HB.out).mono ?_); rintro e w5 ⟨b3, r3, rfl, g1, g2, hb⟩; clear HU; have nr_ := Aside0.mk (And.intro CV1.out.1 (Kd.C_below CV1.out.2 hb)); clear CV1; have CV1 := nr_; clear nr_; have HL2 := Aside0.mk (List_calls b3 _ r3 (LEN.out (G := G2) g1.nodup (fun y => by rw [g2, HK.out.1, HK.out.2, U2.out.2]) (fun y hy => by rw [U2.out.2] at hy; rw [List.contains_append]; exact hy)) _ g1); have HE1 := Aside0.mk (And.intro g1.nodup (fun y => (by rw [g2, HK.out.1, HK.out.2, U2.out.2] : r3.contains y = G2.contains y))); clear g1 g2; have nb_ := Aside0.mk (below_step (by repeat (first | (with_reducible first | exact HB.out | apply below_alloc | apply pw_below_drewN | apply below_drew1) | exact HB.out)) hb); clear HB; have HB := nb_; clear nb_; (try clear hb)) |
    ((with_reducible refine (HL2.out).mono ?_); rintro e w6 ⟨v, lo, rfl, o1, o2, o3, hb⟩; clear HL2; have nr_ := Aside0.mk (And.intro CV1.out.1 (Kd.C_below CV1.out.2 hb)); clear CV1; have CV1 := nr_; clear nr_; have ee := asc_is o1 HE1.out.1 o2 U2.out.1 HE1.out.2; subst ee; (obtain ⟨A2, c2, e2⟩ := Kd.R_slice o3); rw [List.length_map] at e2; subst e2; have hh := (Kd.R_reads' o3).2; rw [List.length_map] at hh; have CV2 := Aside0.mk hh; clear o1 o2 o3 hh HE1; have nb_ := Aside0.mk (below_step (by repeat (first | (with_reducible first | exact HB.out | apply below_alloc | apply pw_below_drewN | apply below_drew1) | exact HB.out)) hb); clear HB; have HB := nb_; clear nb_; (try clear hb)) |
    ((with_reducible refine (HI.out _ HB.out).mono ?_); rintro e w7 ⟨b3, r3, rfl, g1, g2, hb⟩; clear HI; have nr_ := Aside0.mk (And.intro CV1.out.1 (Kd.C_below CV1.out.2 hb)); clear CV1; have CV1 := nr_; clear nr_; have nr_ := Aside0.mk (And.intro CV2.out.1 (Kd.C_below CV2.out.2 hb)); clear CV2; have CV2 := nr_; clear nr_; have HL3 := Aside0.mk (List_calls b3 _ r3 (LEN.out (G := G3) g1.nodup (fun y => by rw [g2, HK.out.1, HK.out.2, U3.out.2]) (fun y hy => by rw [U3.out.2] at hy; rw [List.contains_append]; revert hy; cases l.contains y <;> simp)) _ g1); have HE1 := Aside0.mk (And.intro g1.nodup (fun y => (by rw [g2, HK.out.1, HK.out.2, U3.out.2] : r3.contains y = G3.contains y))); clear g1 g2; have nb_ := Aside0.mk (below_step (by repeat (first | (with_reducible first | exact HB.out | apply below_alloc | apply pw_below_drewN | apply below_drew1) | exact HB.out)) hb); clear HB; have HB := nb_; clear nb_; (try clear hb)) |
    ((with_reducible refine (HL3.out).mono ?_); rintro e w8 ⟨v, lo, rfl, o1, o2, o3, hb⟩; clear HL3; have nr_ := Aside0.mk (And.intro CV1.out.1 (Kd.C_below CV1.out.2 hb)); clear CV1; have CV1 := nr_; clear nr_; have nr_ := Aside0.mk (And.intro CV2.out.1 (Kd.C_below CV2.out.2 hb)); clear CV2; have CV2 := nr_; clear nr_; have ee := asc_is o1 HE1.out.1 o2 U3.out.1 HE1.out.2; subst ee; (obtain ⟨A3, c3, e3⟩ := Kd.R_slice o3); rw [List.length_map] at e3; subst e3; have hh := (Kd.R_reads' o3).2; rw [List.length_map] at hh; have CV3 := Aside0.mk hh; clear o1 o2 o3 hh HE1; have nb_ := Aside0.mk (below_step (by repeat (first | (with_reducible first | exact HB.out | apply below_alloc | apply pw_below_drewN | apply below_drew1) | exact HB.out)) hb); clear HB; have HB := nb_; clear nb_; (try clear hb)))
  go_ret3
  exact ⟨A1, c1, A2, c2, A3, c3, rfl, ⟨CV1.out.2, CV1.out.1⟩, ⟨CV2.out.2, CV2.out.1⟩, ⟨CV3.out.2, CV3.out.1⟩, below_step HT.out (by repeat (first | (with_reducible first | exact HB.out | apply below_alloc | apply pw_below_drewN | apply below_drew1) | exact HB.out))⟩

/-- The law's own call: two texts, the greater first. -/
theorem List2_calls (W : World) (H : Nat) (hH : W.heap.size = H) :
    Calls Try.prog 13 #[.slice (some ⟨H, 0, none⟩) 2 2, .slice none 0 0, .slice none 0 0] (W.alloc (.cells #[.string ⟨#[98]⟩, .string ⟨#[97]⟩] 9)) fun e w' => ∃ (A : Option Addr) (c : Nat), e = .returned (.tuple #[.slice A 2 c, .int .i64 2]) ∧ Kd.C Kd.string w' A 2 ([[97], [98]].map mk) ∧ 2 ≤ c ∧ Below (W.alloc (.cells #[.string ⟨#[98]⟩, .string ⟨#[97]⟩] 9)).heap.size (W.alloc (.cells #[.string ⟨#[98]⟩, .string ⟨#[97]⟩] 9)) w' := by
  have e0 : setL (kept ([[98], [97]] : List L) [] false ++ []) = [[97], [98]] := by decide +kernel
  have h := SetList_calls (some ⟨H, 0, none⟩) 2 [[98], [97]] none 0 [] none 0 [] (by decide) (by decide) (by decide) (by decide) (by decide) (by decide) _ (C_lit W H hH [⟨#[98]⟩, ⟨#[97]⟩] (by decide)) (by decide) (Kd.C_nil _ _) (by decide) (Kd.C_nil _ _) (by decide)
  refine h.mono fun e w' ⟨v, h1, h2, h3⟩ => ?_
  rw [e0] at h1 h2
  obtain ⟨A, c, e1⟩ := Kd.R_slice h2
  subst e1
  exact ⟨A, c, h1, (Kd.R_reads' h2).2.2, (Kd.R_reads' h2).2.1, h3⟩
theorem epLives_calls (w : World) : Calls Try.prog 17 #[] w fun e w' => e = .returned (.bool true) ∧ Below w.heap.size w w' := by
  have HB := Aside0.mk (Below.refl w.heap.size w)
  go_enter Try.func17, Try.ntmps17
  go_wp2_with (first | ((with_reducible refine (List2_calls _ _ ?hH).mono ?_); (case hH => rfl); rintro e w1 ⟨A1, c1, rfl, -, -, hb⟩; have nb_ := Aside0.mk (below_step (by repeat (first | (with_reducible first | exact HB.out | apply below_alloc | apply pw_below_drewN | apply below_drew1) | exact HB.out)) hb); clear HB; have HB := nb_; clear nb_; (try clear hb)))
  go_ret
  exact ⟨rfl, (by repeat (first | (with_reducible first | exact HB.out | apply below_alloc | apply pw_below_drewN | apply below_drew1) | exact HB.out))⟩
/-- epFew of three lists. -/
theorem Few3_calls (W : World) (H : Nat) (hH : W.heap.size = H) (A1 A2 A3 : Option Addr) (n1 c1 n2 c2 n3 c3 : Nat) (h1 : n1 ≤ 2147483647) (h2 : n2 ≤ 2147483647) (h3 : n3 ≤ 2147483647) :
    Calls Try.prog 9 #[.slice (some ⟨H, 0, none⟩) 3 3] (W.alloc (.cells #[.slice A1 n1 c1, .slice A2 n2 c2, .slice A3 n3 c3] 22)) fun e w' => e = .returned (.bool (decide (n1 ≤ 30) && (decide (n2 ≤ 30) && decide (n3 ≤ 30)))) ∧ W.alloc (.cells #[.slice A1 n1 c1, .slice A2 n2 c2, .slice A3 n3 c3] 22) = w' := by
  subst hH
  have hb := heap_alloc_new W (.cells #[.slice A1 n1 c1, .slice A2 n2 c2, .slice A3 n3 c3] 22)
  refine (Few_calls ⟨W.heap.size, 0, none⟩ 3 [(A1, n1, c1), (A2, n2, c2), (A3, n3, c3)] _ (by simp) (fun i hi => ?_) (fun v hv => ?_)).mono fun e w' ⟨h1, h2⟩ => ⟨?_, h2⟩
  · rw [add_at, blk_cell hb, Nat.zero_add]
    match i, hi with
    | 0, _ => rfl
    | 1, _ => rfl
    | 2, _ => rfl
  · simp at hv; rcases hv with rfl | rfl | rfl <;> assumption
  · rw [h1]; simp
end Go.Proofs.Ytghekbffjonceaa.Hand
