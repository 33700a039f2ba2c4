/- impl.SetList, SetWithin, SetBoth. -/
import Derived.Test.YtghekbffjonceaaSetLaw0
namespace Go.Proofs.Ytghekbffjonceaa.Hand
open Go.RowKit Go.Proofs.YtghekbffjonceaaW.PrintWords Go.Proofs.YtghekbffjonceaaW.PrintLast Go.Proofs.YtghekbffjonceaaW.PrintMore Go.Proofs.Ytghekbffjonceaa.Base
set_option linter.unusedVariables false
set_option linter.unusedSimpArgs false
set_option maxRecDepth 100000
theorem kept_mem (l o : List L) (h : Bool) (y : L) : (kept l o h).contains y = (l.contains y && (o.contains y == h)) := by
  unfold kept
  rw [Bool.eq_iff_iff]; simp
theorem kept_up {l : List L} (h : Up l) (o : List L) (b : Bool) : Up (kept l o b) := by unfold kept; exact h.filter _
theorem asc_is {l ks G : List L} (hp : l.Perm ks) (hn : ks.Nodup) (ha : Asc l) (hu : Up G) (h : ∀ y, ks.contains y = G.contains y) : l = G :=
  up_ext (asc_up (hp.nodup_iff.2 hn) ha) hu fun y => by
    rw [hp.mem_iff]; have := h y; rw [Bool.eq_iff_iff, List.contains_iff_mem, List.contains_iff_mem] at this; exact this
theorem setL_contains (l : List L) (y : L) : (setL l).contains y = l.contains y := by
  rw [Bool.eq_iff_iff, List.contains_iff_mem, List.contains_iff_mem]; exact setL_mem l y
theorem sub_len : ∀ {l m : List L}, l.Nodup → m.Nodup → (∀ y ∈ l, y ∈ m) → l.length ≤ m.length
  | [], _, _, _, _ => by simp
  | a :: l, m, h1, h2, h => by
    have n1 := List.nodup_cons.1 h1
    have hp := delK_perm h2 (h a List.mem_cons_self)
    have hl := hp.length_eq
    have := sub_len n1.2 (delK_nodup h2 a) (fun y hy => by
      have : y ∈ a :: delK m a := hp.subset (h y (List.mem_cons_of_mem _ hy))
      rcases List.mem_cons.1 this with rfl | h
      · exact absurd hy n1.1
      · exact h)
    simp at hl ⊢; omega
theorem eq_sets {k1 k2 l m : List L} (h1 : k1.Nodup) (h2 : k2.Nodup) (e1 : ∀ y, k1.contains y = l.contains y) (e2 : ∀ y, k2.contains y = m.contains y) :
    ((((k1.length : Nat) : Int) == ((k2.length : Nat) : Int)) && k2.all fun k => k1.contains k) = (setL l == setL m) := by
  have c1 : ∀ y, y ∈ k1 ↔ y ∈ l := fun y => by have := e1 y; rw [Bool.eq_iff_iff, List.contains_iff_mem, List.contains_iff_mem] at this; exact this
  have c2 : ∀ y, y ∈ k2 ↔ y ∈ m := fun y => by have := e2 y; rw [Bool.eq_iff_iff, List.contains_iff_mem, List.contains_iff_mem] at this; exact this
  rw [Bool.eq_iff_iff, Bool.and_eq_true, beq_iff_eq, beq_iff_eq, List.all_eq_true]
  constructor
  · rintro ⟨hl, ha⟩
    have hs : ∀ y ∈ k2, y ∈ k1 := fun y hy => by have := ha y hy; simpa using this
    refine up_ext (setL_up l) (setL_up m) fun y => ?_
    rw [setL_mem, setL_mem, ← c1, ← c2]
    refine ⟨fun hy => ?_, hs y⟩
    rcases Classical.em (y ∈ k2) with hm | hm
    · exact hm
    · have h3 := sub_len h2 (delK_nodup h1 y) (fun z hz => by
        have := (delK_perm h1 hy).subset (hs z hz)
        rcases List.mem_cons.1 this with rfl | h
        · exact absurd hz hm
        · exact h)
      have h4 := (delK_perm h1 hy).length_eq
      simp at h4; omega
  · intro h
    have hs : ∀ y, y ∈ l ↔ y ∈ m := fun y => by rw [← setL_mem l, ← setL_mem m, h]
    refine ⟨by rw [(same_len h1 e1).2, (same_len h2 e2).2, h], fun y hy => ?_⟩
    rw [List.contains_iff_mem, c1, hs, ← c2]; exact hy
theorem all_sets {k1 k2 l m : List L} (e1 : ∀ y, k1.contains y = l.contains y) (e2 : ∀ y, k2.contains y = m.contains y) : (k2.all fun k => k1.contains k) = ((setL m).all fun k => (setL l).contains k) := by
  have c2 : ∀ y, y ∈ k2 ↔ y ∈ m := fun y => by have := e2 y; rw [Bool.eq_iff_iff, List.contains_iff_mem, List.contains_iff_mem] at this; exact this
  rw [Bool.eq_iff_iff, List.all_eq_true, List.all_eq_true]
  constructor
  · intro h y hy; rw [setL_contains, ← e1]; exact h y ((c2 y).2 ((setL_mem m y).1 hy))
  · intro h y hy; rw [e1, ← setL_contains]; exact h y ((setL_mem m y).2 ((c2 y).1 hy))
theorem z_map {l : List L} (h : ∀ p ∈ l.map mk, p.size ≤ 140737488351232) : ∀ k ∈ l, k.length ≤ 140737488351232 := fun k hk => by
  have := h _ (List.mem_map.2 ⟨k, hk, rfl⟩); rwa [mk_size] at this
theorem z_new {l : List L} (h : ∀ p ∈ l.map mk, p.size ≤ 140737488351232) : ∀ k ∈ addAll [] (l.map mk), k.length ≤ 140737488351232 := fun k hk => by
  refine z_map h k ?_
  have := new_contains l k
  rw [Bool.eq_iff_iff, List.contains_iff_mem, List.contains_iff_mem] at this
  exact this.1 hk
/-- NewString of the texts l. -/
theorem NewL_calls (A : Option Addr) (c : Nat) (l : List L) (hz : ∀ p ∈ l.map mk, p.size ≤ 140737488351232) (hl : l.length ≤ 1000) (w : World) (hr : Kd.C Kd.string w A l.length (l.map mk)) (hc : l.length ≤ c) :
    Calls Try.prog 19 #[.slice A l.length c] w fun e w' => ∃ b ks, e = .returned (.map (some b)) ∧ w.heap.size ≤ b ∧ IsSet w' b l.length ks ∧ (∀ y, ks.contains y = l.contains y) ∧ ks.length ≤ l.length ∧ (∀ k ∈ ks, k.length ≤ 140737488351232) ∧ Below w.heap.size w w' := by
  have h := New_calls A c (l.map mk) hz (by rw [List.length_map]; omega) w (by rw [List.length_map]; exact hr) (by rw [List.length_map]; exact hc)
  rw [List.length_map] at h
  refine h.mono fun e w' ⟨b, h1, h2, h3, h4⟩ => ⟨b, _, h1, h2, h3, new_contains l, (same_len h3.nodup (new_contains l)).1, z_new hz, h4⟩

set_option maxHeartbeats 2000000 in
theorem SetWithin_calls (A : Option Addr) (c : Nat) (l : List L) (B : Option Addr) (d : Nat) (m : List L) (hx : ∀ p ∈ l.map mk, p.size ≤ 140737488351232) (hy : ∀ p ∈ m.map mk, p.size ≤ 140737488351232) (hl : l.length ≤ 1000) (hm : m.length ≤ 1000)
    (w : World) (hr : Kd.C Kd.string w A l.length (l.map mk)) (hc : l.length ≤ c) (hr2 : Kd.C Kd.string w B m.length (m.map mk)) (hd : m.length ≤ d) :
    Calls Try.prog 16 #[.slice A l.length c, .slice B m.length d] w fun e w' => e = .returned (.tuple #[.bool ((setL m).all fun k => (setL l).contains k), .bool (setL l == setL m)]) ∧ Below w.heap.size w w' := by
  have HB := Aside0.mk (Below.refl w.heap.size w)
  have H1 := Aside0.mk (NewL_calls A c l hx hl w hr hc)
  have H2 := Aside0.mk (fun w' (h : Kd.C Kd.string w' B m.length (m.map mk)) => NewL_calls B d m hy hm w' h hd)
  have HR2 := Aside0.mk hr2
  obtain ⟨q1, hq1⟩ : ∃ q, ((setL m).all fun k => (setL l).contains k) = q := ⟨_, rfl⟩
  obtain ⟨q2, hq2⟩ : ∃ q, (setL l == setL m) = q := ⟨_, rfl⟩
  rw [hq1, hq2]
  have HQ := Aside0.mk (And.intro hq1 hq2)
  clear hx hy hr hr2 hq1 hq2
  go_enter Try.func16, Try.ntmps16
  go_wp2_with (first | ((with_reducible refine (H1.out).mono ?_); rintro e w1 ⟨b1, k1, rfl, -, g1, g2, g3, g4, hb⟩; clear H1; have HS1 := Aside0.mk (And.intro g1 (And.intro g2 g4)); clear g1 g2 g3 g4; have nb_ := Aside0.mk (below_step (by repeat (first | (with_reducible first | exact HB.out | apply below_alloc | apply pw_below_drewN | apply below_drew1) | exact HB.out)) hb); clear HB; have HB := nb_; clear nb_; (try clear hb)) |
    ((with_reducible refine (H2.out _ (Kd.C_below HR2.out (by repeat (first | (with_reducible first | exact HB.out | apply below_alloc | apply pw_below_drewN | apply below_drew1) | exact HB.out)))).mono ?_); rintro e w2 ⟨b2, k2, rfl, -, g1, g2, g3, g4, hb⟩; clear H2; have HS2 := Aside0.mk (And.intro g1 (And.intro g2 g4)); have HS3 := Aside0.mk (HS1.out.1.below hb); have HP := Aside0.mk (Super_calls b1 _ k1 b2 _ k2 g4 _ HS3.out g1); have HE := Aside0.mk (fun w' (hb : Below w2.heap.size w2 w') => Equal_calls b1 _ k1 b2 _ k2 g4 w' (HS3.out.below hb) (HS2.out.1.below hb)); have HC := Aside0.mk (And.intro ((all_sets HS1.out.2.1 g2).trans HQ.out.1) ((eq_sets HS3.out.nodup g1.nodup HS1.out.2.1 g2).trans HQ.out.2)); clear g1 g2 g3 g4; have nb_ := Aside0.mk (below_step (by repeat (first | (with_reducible first | exact HB.out | apply below_alloc | apply pw_below_drewN | apply below_drew1) | exact HB.out)) hb); clear HB; have HB := nb_; clear nb_; (try clear hb)) |
    ((with_reducible refine (HP.out).mono ?_); rintro e w3 ⟨rfl, hb⟩; clear HP; rw [HC.out.1]; have HE2 := Aside0.mk (HE.out _ hb); clear HE; have nb_ := Aside0.mk (below_step (by repeat (first | (with_reducible first | exact HB.out | apply below_alloc | apply pw_below_drewN | apply below_drew1) | exact HB.out)) hb); clear HB; have HB := nb_; clear nb_; (try clear hb)) | ((with_reducible refine (HE2.out).mono ?_); rintro e w4 ⟨rfl, hb⟩; rw [HC.out.2]; have nb_ := Aside0.mk (below_step (by repeat (first | (with_reducible first | exact HB.out | apply below_alloc | apply pw_below_drewN | apply below_drew1) | exact HB.out)) hb); clear HB; have HB := nb_; clear nb_; (try clear hb)))
  go_ret2
  exact ⟨rfl, (by repeat (first | (with_reducible first | exact HB.out | apply below_alloc | apply pw_below_drewN | apply below_drew1) | exact HB.out))⟩

set_option maxHeartbeats 2000000 in
theorem SetList_calls (A : Option Addr) (c : Nat) (l : List L) (B : Option Addr) (d : Nat) (m : List L) (D : Option Addr) (f : Nat) (n : List L) (hx : ∀ p ∈ l.map mk, p.size ≤ 140737488351232) (hy : ∀ p ∈ m.map mk, p.size ≤ 140737488351232) (hz : ∀ p ∈ n.map mk, p.size ≤ 140737488351232) (hl : l.length ≤ 300) (hm : m.length ≤ 300) (hn : n.length ≤ 300)
    (w : World) (hr : Kd.C Kd.string w A l.length (l.map mk)) (hc : l.length ≤ c) (hr2 : Kd.C Kd.string w B m.length (m.map mk)) (hd : m.length ≤ d) (hr3 : Kd.C Kd.string w D n.length (n.map mk)) (hf : n.length ≤ f) :
    Calls Try.prog 13 #[.slice A l.length c, .slice B m.length d, .slice D n.length f] w fun e w' => ∃ v : Value, e = .returned (.tuple #[v, .int .i64 (setL (kept l m false ++ n)).length]) ∧ Kd.R Kd.string 9 w' w.heap.size (fun _ => True) v ((setL (kept l m false ++ n)).map mk) ∧ Below w.heap.size w w' := by
  have HB := Aside0.mk (Below.refl w.heap.size w)
  have H1 := Aside0.mk (NewL_calls A c l hx (by omega) w hr hc)
  have H2 := Aside0.mk (fun w' b N ks (hs : IsSet w' b N ks) (h : Kd.C Kd.string w' B (m.map mk).length (m.map mk)) => Delete_calls b N ks B d (m.map mk) hy (by rw [List.length_map]; omega) w' hs h (by rw [List.length_map]; exact hd))
  have H3 := Aside0.mk (fun w' b ks (hs : IsSet w' b l.length ks) (h : Kd.C Kd.string w' D (n.map mk).length (n.map mk)) => Insert_calls b l.length ks D f (n.map mk) hz (by rw [List.length_map]; omega) w' hs h (by rw [List.length_map]; exact hf))
  simp only [List.length_map] at H2 H3
  have HR2 := Aside0.mk hr2
  have HR3 := Aside0.mk hr3
  clear hx hy hz hr hr2 hr3
  go_enter Try.func13, Try.ntmps13
  go_wp2_with (first | ((with_reducible refine (H1.out).mono ?_); rintro e w1 ⟨b1, k1, rfl, hbw, g1, g2, g3, g4, hb⟩; clear H1; have HBW := Aside0.mk hbw; have HS := Aside0.mk g1; have HK1 := Aside0.mk g2; have nr_ := Aside0.mk (Kd.C_below HR2.out hb); clear HR2; have HR2 := nr_; clear nr_; have nr_ := Aside0.mk (Kd.C_below HR3.out hb); clear HR3; have HR3 := nr_; clear nr_; clear g1 g2 g3 g4 hbw; have nb_ := Aside0.mk (below_step (by repeat (first | (with_reducible first | exact HB.out | apply below_alloc | apply pw_below_drewN | apply below_drew1) | exact HB.out)) hb); clear HB; have HB := nb_; clear nb_; (try clear hb)) |
    ((with_reducible refine (H2.out _ b1 _ k1 HS.out HR2.out).mono ?_); rintro e w2 ⟨rfl, j1, j2⟩; clear H2 HR2; have nr_ := Aside0.mk (C_map HR3.out HS.out.map j2); clear HR3 HS; have HR3 := nr_; clear nr_; have HS := Aside0.mk j1; have nb_ := Aside0.mk (pw_below_grown HB.out _ (below_size HB.out) j2 (fun k hk => by cases hk; exact HBW.out)); clear HB; have HB := nb_; clear nb_ j1 j2) |
    ((with_reducible refine (H3.out _ b1 _ HS.out HR3.out).mono ?_); rintro e w3 ⟨rfl, j1, j2⟩; clear H3 HR3 HS; have HS := Aside0.mk j1; have nb_ := Aside0.mk (pw_below_grown HB.out _ (below_size HB.out) j2 (fun k hk => by cases hk; exact HBW.out)); clear HB; have HB := nb_; clear nb_ j1 j2;
      have HCK : Aside0 (∀ y, (addAll (delAll k1 (m.map mk)) (n.map mk)).contains y = (kept l m false ++ n).contains y) := ⟨fun y => by rw [addAll_contains, delAll_contains, any_contains, any_contains, HK1.out, List.contains_append, kept_mem]; cases m.contains y <;> simp⟩;
      have HLK := Aside0.mk (same_len HS.out.nodup HCK.out); have HLKN : Aside0 ((kept l m false ++ n).length ≤ 600) := ⟨by have : (kept l m false).length ≤ l.length := List.length_filter_le _ _; simp; omega⟩;
      have H4 := Aside0.mk (List_calls b1 _ _ (by have := HLK.out.1; have := HLKN.out; omega) _ HS.out); have H5 := Aside0.mk (fun w' (hb : Below w3.heap.size w3 w') => Len_calls b1 _ _ w' (HS.out.below hb))) |
    ((with_reducible refine (H4.out).mono ?_); rintro e w4 ⟨v, lo, rfl, o1, o2, o3, hb⟩; clear H4; have HLO := Aside0.mk (asc_perm o1 HS.out.nodup o2 HCK.out); have HV := Aside0.mk (Kd.R_lower o3 (below_size (by repeat (first | (with_reducible first | exact HB.out | apply below_alloc | apply pw_below_drewN | apply below_drew1) | exact HB.out)))); have H6 := Aside0.mk (H5.out _ hb); clear H5 o1 o2 o3; have nb_ := Aside0.mk (below_step (by repeat (first | (with_reducible first | exact HB.out | apply below_alloc | apply pw_below_drewN | apply below_drew1) | exact HB.out)) hb); clear HB; have HB := nb_; clear nb_; (try clear hb)) |
    ((with_reducible refine (H6.out).mono ?_); rintro e w5 ⟨rfl, rfl⟩; rw [HLO.out.2]))
  go_ret2
  refine ⟨v, rfl, ?_, (by repeat (first | (with_reducible first | exact HB.out | apply below_alloc | apply pw_below_drewN | apply below_drew1) | exact HB.out))⟩
  rw [← HLO.out.1]; exact HV.out
end Go.Proofs.Ytghekbffjonceaa.Hand
