/- List, IsSuperset, Equal, Difference, Union, Intersection. -/
import Derived.Test.YtghekbffjonceaaSetRange
namespace Go.Proofs.Ytghekbffjonceaa.Hand
open Go.RowKit Go.Maps Go.Proofs.YtghekbffjonceaaW.PrintWords Go.Proofs.YtghekbffjonceaaW.PrintLast Go.Proofs.YtghekbffjonceaaW.PrintMore Go.Proofs.Ytghekbffjonceaa.Base
set_option linter.unusedVariables false
set_option linter.unusedSimpArgs false
set_option maxRecDepth 100000
theorem delK_sub {ks : List L} {x y : L} (h : y ∈ delK ks x) : y ∈ ks := by unfold delK at h; exact (List.mem_filter.1 h).1
theorem delK_perm {left : List L} (hn : left.Nodup) {x : L} (hm : x ∈ left) : left.Perm (x :: delK left x) := by
  refine (List.perm_ext_iff_of_nodup hn ?_).2 (fun y => ?_)
  · rw [List.nodup_cons]
    refine ⟨?_, delK_nodup hn x⟩
    intro hc
    have := delK_contains left x x
    rw [show (delK left x).contains x = true by simpa using hc] at this
    simp at this
  · rw [List.mem_cons]
    have := delK_contains left x y
    by_cases e : y = x
    · subst e; simp [hm]
    · have h2 : (y ∈ delK left x ↔ y ∈ left) := by
        rw [← List.contains_iff_mem, ← List.contains_iff_mem, this]; simp [e]
      rw [h2]; simp [e]

set_option maxHeartbeats 2000000 in
theorem List_calls (b N : Nat) (ks : List L) (hk : ks.length ≤ 1000) (w : World) (h : IsSet w b N ks) :
    Calls Try.prog 25 #[.map (some b)] w fun e w' => ∃ (v : Value) (l : List L), e = .returned v ∧ l.Perm ks ∧ Asc l ∧ Kd.R Kd.string 9 w' w.heap.size (fun _ => True) v (l.map mk) ∧ Below w.heap.size w w' := by
  have HB := Aside0.mk (Below.refl w.heap.size w)
  have HS := Aside0.mk h
  obtain ⟨D, hown, hnd, hhas, hsz⟩ := h
  have HO := Aside0.mk hown
  have HSZ := Aside0.mk hsz
  have HND := Aside0.mk hnd
  clear hown hnd hhas hsz
  obtain ⟨i0, hi0, hz0, hz1, hz2⟩ := info_parts infoS
  have HI0 := Aside0.mk (And.intro hi0 (And.intro hz0 (And.intro hz1 hz2)))
  clear hi0 hz0 hz1 hz2
  go_enter Try.func25, Try.ntmps25
  go_wp2_with (first | (at_len; refine wpList_len_own _ rfl _ 42 rfl 9 51 Try.underlying42 _ b N _ rfl HO.out ?_; rw [HSZ.out]) | (at_make; refine wpList_make_own _ rfl _ _ 53 rfl w.heap.size 9 i0 _ 1 Try.underlying53 HI0.out.1 HI0.out.2.1 HI0.out.2.2.1 _ _ _ ks.length rfl rfl rfl (by rw [HI0.out.2.2.2]; omega) (by unfold maxLen; omega) (Nat.le_refl _) ?_; intro w1 hown hgrow; have HR := Aside0.mk (show Kd.R Kd.string 9 w1 w.heap.size (fun _ => True) (.slice (some ⟨w.heap.size, 0, none⟩) 0 ks.length) ([] : List ByteArray) from Kd.R_of_own hown (fun _ _ => trivial)); have HW1 := Aside0.mk hgrow.size; have HB1 := Aside0.mk (Below.grown HB.out hgrow (Nat.le_refl _) (fun j hj => by cases hj)); have HS1 := Aside0.mk (HS.out.kept hgrow (by simp)); clear hown hgrow HB HO; have HB := HB1; clear HB1) | (at_range; refine range_set _ rfl _ rfl b N ks rfl HS1.out ?_; intro w2 hrg hg hs2; have HRG := Aside0.mk hrg; have HR2 := Aside0.mk (Kd.R_grown1 HR.out rfl hg (by simp [Value.ownBlock])); have HB2 := Aside0.mk (pw_below_grown HB.out none (below_size HB.out) hg (fun j hj => by cases hj)); clear hrg hg HR HB; have HR := HR2; have HB := HB2; clear HR2 HB2))
  go_frame
  clear HSZ HI0 HS HS1
  go_loopg [3, 4] (ks.length) (fun g v3 v4 w' => ∃ (left : List L) (xs : List L), Aside0 (IsRange w' b w1.heap.size N g ks left ∧ left.Nodup) ∧ Aside0 (Kd.R Kd.string 9 w' w.heap.size (fun _ => True) v3 (xs.map mk)) ∧ Aside0 ((xs ++ left).Perm ks) ∧ Aside0 (Below w.heap.size w w' ∧ w.heap.size ≤ w1.heap.size))
  case atStart => exact ⟨ks, [], ⟨HRG.out, HND.out⟩, HR, ⟨List.Perm.refl _⟩, ⟨HB.out, HW1.out⟩⟩
  case round =>
    clear HRG HR HB
    obtain ⟨left, xs, HRG, HR, HP, HB0⟩ := hrel
    have HB := Aside0.mk HB0.out.1
    have hxl : xs.length ≤ 1000 := by have := HP.out.length_eq; simp at this; omega
    go_wp2_with (first | (at_next; refine next_set _ rfl _ rfl b w1.heap.size N gk ks left rfl HRG.out.1 ?_ ?_))
    · intro h0 hl0
      have hp := HP.out
      rw [hl0, List.append_nil] at hp
      have HS := Aside0.mk (Sort_calls xs wr w.heap.size u3 HR.out (by omega))
      have HPX := Aside0.mk hp
      clear hl0 hp h0
      go_wp2_with (first | ((with_reducible refine (HS.out).mono ?_); rintro e w3 ⟨rfl, l', h1, h2, h3, h4⟩; have HL := Aside0.mk (And.intro (h1.trans HPX.out) h2); have HR3 := Aside0.mk h3; have HB3 := Aside0.mk (pw_below_grown HB.out _ (below_size HB.out) h4 (fun k hk => Kd.R_base HR.out k hk)); clear h1 h2 h3 h4))
      go_ret
      exact ⟨_, l', rfl, HL.out.1, HL.out.2, HR3.out, HB3.out⟩
    · intro s w3 cnt hs hc hrg hlt hg hsz hen
      have HR3 := Aside0.mk (R_iter HR.out HRG.out.1.iter hg)
      have HB3 := Aside0.mk (pw_below_grown HB.out _ (below_size HB.out) hg (fun k hk => by cases hk; exact HB0.out.2))
      have HRG3 := Aside0.mk hrg
      have HP3 : Aside0 (((xs ++ [s.data.toList]) ++ delK left s.data.toList).Perm ks) := ⟨by
        have h1 := delK_perm HRG.out.2 hc
        have h2 : ((xs ++ [s.data.toList]) ++ delK left s.data.toList) = xs ++ (s.data.toList :: delK left s.data.toList) := by simp
        rw [h2]
        exact (h1.symm.append_left xs).trans HP.out⟩
      have HN3 := Aside0.mk (delK_nodup HRG.out.2 s.data.toList)
      have HNEW : Aside0 (xs.map mk ++ [s] = (xs ++ [s.data.toList]).map mk) := ⟨by rw [List.map_append]; rfl⟩
      have HLEN : Aside0 ((xs.map mk).length ≤ 1000) := ⟨by rw [List.length_map]; exact hxl⟩
      have HLT := Aside0.mk hlt
      clear HR HB HRG HP hs hc hrg hlt hg hsz
      go_wp2_with (first | ((with_reducible refine gate_builtin (b := .append) (xs := #[.tmp 14, .tmp 16]) rfl ?_); (try (refine gate_guard (by rfl) ?_; dsimp only)); at_builtin; refine Kd.R_append Kd.string (w0 := w) w.heap.size rfl (.tmp 14) (.tmp 16) 53 9 (.string ⟨#[]⟩) 16 rfl Try.underlying53 infoS rfl (by decide) (by omega) u3 (xs.map mk) (s) [.string (s)] (fun _ => True) (fun _ => False) rfl rfl ?aP (fun _ hk => hk.elim) ?aF ?aO ?aB ?aS ?aL ?_; (case aP => exact rfl); (case aB => exact (by repeat (first | (with_reducible first | exact HB3.out | apply below_alloc | apply pw_below_drewN | apply below_drew1) | exact HB3.out))); (case aF => exact (fun _ _ => trivial)); (case aO => exact (by (with_reducible repeat (first | apply Kd.R_alloc | apply Kd.R_drewN | apply Kd.R_drew)); exact HR3.out)); (case aS => exact (below_size (by repeat (first | (with_reducible first | exact HB3.out | apply below_alloc | apply pw_below_drewN | apply below_drew1) | exact HB3.out)))); (case aL => have := HLEN.out; (try simp only [List.length_map, List.length_nil] at *); omega); intro vN wN2 ho hb hg hat; have HRG4 := Aside0.mk (HRG3.out.kept hg (row_ne HR3.out HRG3.out).1 (row_ne HR3.out HRG3.out).2); rw [HNEW.out] at ho; clear HB3; clear HR3; have HB3 := Aside0.mk hb; have HR3 := Aside0.mk ho; clear ho hb hg hat))
      go_roundg cnt
      case measure => exact HLT.out
      case rel => exact ⟨_, _, ⟨HRG4.out, HN3.out⟩, HR3, HP3, ⟨HB3.out, HB0.out.2⟩⟩
theorem Insert1_calls (W : World) (H : Nat) (hH : W.heap.size = H) (b N : Nat) (ks : List L) (s : ByteArray) (hs : s.size ≤ 140737488351232) (hN : N ≤ 10000) (h : IsSet W b N ks) :
    Calls Try.prog 24 #[.map (some b), .slice (some ⟨H, 0, none⟩) 1 1] (W.alloc (.cells #[.string s] 9)) fun e w' => e = .returned (.map (some b)) ∧ IsSet w' b (N + 1) (addK ks s.data.toList) ∧ (W.alloc (.cells #[.string s] 9)).grownBy w' (some b) :=
  Insert_calls b N ks (some ⟨H, 0, none⟩) 1 [s] (fun p hp => by simp at hp; subst hp; exact hs) (by simp; omega) _ (h.alloc _) (C_lit W H hH [s] (by simp)) (by simp)
theorem all_step {left : List L} (hn : left.Nodup) {x : L} (hm : x ∈ left) (p : L → Bool) : left.all p = (p x && (delK left x).all p) := by
  rw [Bool.eq_iff_iff, Bool.and_eq_true, List.all_eq_true, List.all_eq_true]
  have h := delK_perm hn hm
  constructor
  · intro ha; exact ⟨ha x hm, fun y hy => ha y (h.symm.subset (List.mem_cons_of_mem _ hy))⟩
  · rintro ⟨h1, h2⟩ y hy
    rcases List.mem_cons.1 (h.subset hy) with rfl | h3
    · exact h1
    · exact h2 y h3

set_option maxHeartbeats 2000000 in
theorem Super_calls (b1 N1 : Nat) (ks1 : List L) (b2 N2 : Nat) (ks2 : List L) (hz : ∀ k ∈ ks2, k.length ≤ 140737488351232) (w : World) (h1 : IsSet w b1 N1 ks1) (h2 : IsSet w b2 N2 ks2) :
    Calls Try.prog 27 #[.map (some b1), .map (some b2)] w fun e w' => e = .returned (.bool (ks2.all fun k => ks1.contains k)) ∧ Below w.heap.size w w' := by
  have HB := Aside0.mk (Below.refl w.heap.size w)
  have HS1 := Aside0.mk h1
  have HS2 := Aside0.mk h2
  have HZ := Aside0.mk hz
  have HND := Aside0.mk h2.nodup
  clear h1 h2 hz
  go_enter Try.func27, Try.ntmps27
  go_wp2_with (first | (at_range; refine range_set _ rfl _ rfl b2 N2 ks2 rfl HS2.out ?_; intro w2 hrg hg hs2; have HRG := Aside0.mk hrg; have HB2 := Aside0.mk (pw_below_grown HB.out none (below_size HB.out) hg (fun j hj => by cases hj)); clear hrg hg HB; have HB := HB2; clear HB2))
  go_frame
  go_loopg [5] (ks2.length) (fun g v5 w' => ∃ (left : List L), Aside0 (IsRange w' b2 w.heap.size N2 g ks2 left ∧ left.Nodup ∧ ∀ x ∈ left, x ∈ ks2) ∧ Aside0 ((ks2.all fun k => ks1.contains k) = left.all fun k => ks1.contains k) ∧ Aside0 (Below w.heap.size w w'))
  case atStart => exact ⟨ks2, ⟨HRG.out, HND.out, fun x h => h⟩, ⟨rfl⟩, HB⟩
  case round =>
    clear HRG HB
    obtain ⟨left, HRG, HA, HB⟩ := hrel
    go_wp2_with (first | (at_next; refine next_set _ rfl _ rfl b2 w.heap.size N2 gk ks2 left rfl HRG.out.1 ?_ ?_))
    · intro h0 hl0
      have HN : Aside0 ((ks2.all fun k => ks1.contains k) = true) := ⟨by rw [HA.out, hl0]; rfl⟩
      clear hl0 h0 HA
      go_wp2
      go_ret
      exact ⟨by rw [HN.out]; rfl, HB.out⟩
    · intro s w3 cnt hs hc hrg hlt hg hsz hen
      have HB3 := Aside0.mk (pw_below_grown HB.out _ (below_size HB.out) hg (fun k hk => by cases hk; exact Nat.le_refl _))
      have HRG3 := Aside0.mk (And.intro hrg (And.intro (delK_nodup HRG.out.2.1 s.data.toList) (fun x (hx : x ∈ delK left s.data.toList) => HRG.out.2.2 x (delK_sub hx))))
      have H1 := Aside0.mk (fun w' (hb : Below w.heap.size w w') => Has_calls b1 N1 ks1 s (by have := HZ.out _ (HRG.out.2.2 _ hc); rw [Lib.size_eq]; exact this) w' (HS1.out.below hb))
      have HST := Aside0.mk (all_step HRG.out.2.1 hc fun k => ks1.contains k)
      have HLT := Aside0.mk hlt
      obtain ⟨q, hq⟩ : ∃ q, ks1.contains s.data.toList = q := ⟨_, rfl⟩
      rw [hq] at H1 HST
      clear HB HRG hs hc hrg hlt hg hsz hq
      cases q with
      | true =>
        have HN : Aside0 ((ks2.all fun k => ks1.contains k) = (delK left s.data.toList).all fun k => ks1.contains k) := ⟨by rw [HA.out, HST.out]; rfl⟩
        clear HST HA
        go_wp2_with (first | ((with_reducible refine (H1.out _ (by repeat (first | (with_reducible first | exact HB3.out | apply below_alloc | apply pw_below_drewN | apply below_drew1) | exact HB3.out))).mono ?_); rintro e w' ⟨rfl, hb⟩; have HRG4 := Aside0.mk (HRG3.out.1.below hb); have HB4 := Aside0.mk (below_step (by repeat (first | (with_reducible first | exact HB3.out | apply below_alloc | apply pw_below_drewN | apply below_drew1) | exact HB3.out)) hb); clear hb))
        go_roundg cnt
        case measure => exact HLT.out
        case rel => exact ⟨_, ⟨HRG4.out, HRG3.out.2⟩, HN, HB4⟩
      | false =>
        have HN : Aside0 ((ks2.all fun k => ks1.contains k) = false) := ⟨by rw [HA.out, HST.out]; rfl⟩
        clear HST HA
        go_wp2_with (first | ((with_reducible refine (H1.out _ (by repeat (first | (with_reducible first | exact HB3.out | apply below_alloc | apply pw_below_drewN | apply below_drew1) | exact HB3.out))).mono ?_); rintro e w' ⟨rfl, hb⟩; have HB4 := Aside0.mk (below_step (by repeat (first | (with_reducible first | exact HB3.out | apply below_alloc | apply pw_below_drewN | apply below_drew1) | exact HB3.out)) hb); clear hb))
        go_ret
        exact ⟨by rw [HN.out]; rfl, HB4.out⟩

theorem Equal_calls (b1 N1 : Nat) (ks1 : List L) (b2 N2 : Nat) (ks2 : List L) (hz : ∀ k ∈ ks2, k.length ≤ 140737488351232) (w : World) (h1 : IsSet w b1 N1 ks1) (h2 : IsSet w b2 N2 ks2) :
    Calls Try.prog 28 #[.map (some b1), .map (some b2)] w fun e w' => e = .returned (.bool ((((ks1.length : Nat) : Int) == ((ks2.length : Nat) : Int)) && ks2.all fun k => ks1.contains k)) ∧ Below w.heap.size w w' := by
  have HB := Aside0.mk (Below.refl w.heap.size w)
  have HC := Aside0.mk (Super_calls b1 N1 ks1 b2 N2 ks2 hz w h1 h2)
  obtain ⟨D1, hown1, hnd1, hhas1, hsz1⟩ := h1
  obtain ⟨D2, hown2, hnd2, hhas2, hsz2⟩ := h2
  have HO1 := Aside0.mk hown1; have HO2 := Aside0.mk hown2
  have HSZ1 := Aside0.mk hsz1; have HSZ2 := Aside0.mk hsz2
  clear hown1 hnd1 hhas1 hsz1 hown2 hnd2 hhas2 hsz2 hz
  obtain ⟨q, hq⟩ : ∃ q, (ks2.all fun k => ks1.contains k) = q := ⟨_, rfl⟩
  rw [hq] at HC ⊢
  clear hq
  obtain ⟨t, ht⟩ : ∃ t, (((ks1.length : Nat) : Int) == ((ks2.length : Nat) : Int)) = t := ⟨_, rfl⟩
  rw [ht]
  cases t
  all_goals
    go_enter Try.func28, Try.ntmps28
    go_wp2_with (first | (at_len; refine wpList_len_own _ rfl (.tmp 5) 42 rfl 9 51 Try.underlying42 _ b1 N1 _ rfl HO1.out ?_; rw [HSZ1.out]) | (at_len; refine wpList_len_own _ rfl (.tmp 7) 42 rfl 9 51 Try.underlying42 _ b2 N2 _ rfl HO2.out ?_; rw [HSZ2.out]) | ((with_reducible refine (HC.out).mono ?_); rintro e w' ⟨rfl, hb⟩; have nb_ := Aside0.mk (below_step (by repeat (first | (with_reducible first | exact HB.out | apply below_alloc | apply pw_below_drewN | apply below_drew1) | exact HB.out)) hb); clear HB; have HB := nb_; clear nb_; (try clear hb)))
    go_ret
    exact ⟨rfl, (by repeat (first | (with_reducible first | exact HB.out | apply below_alloc | apply pw_below_drewN | apply below_drew1) | exact HB.out))⟩
theorem contains_addK {rs : List L} {x : L} (y : L) : (addK rs x).contains y = (rs.contains y || y == x) := addK_contains rs x y
/-- NewString of nothing. -/
theorem New0_calls (w : World) : Calls Try.prog 19 #[.slice none 0 0] w fun e w' => ∃ b, e = .returned (.map (some b)) ∧ w.heap.size ≤ b ∧ IsSet w' b 0 [] ∧ Below w.heap.size w w' :=
  New_calls none 0 [] (by simp) (by simp) w (Kd.C_nil _ _) (by simp)

set_option maxHeartbeats 4000000 in
theorem Diff_calls (b1 N1 : Nat) (ks1 : List L) (b2 N2 : Nat) (ks2 : List L) (hz : ∀ k ∈ ks1, k.length ≤ 140737488351232) (hn : ks1.length ≤ 1000) (w : World) (h1 : IsSet w b1 N1 ks1) (h2 : IsSet w b2 N2 ks2) :
    Calls Try.prog 29 #[.map (some b1), .map (some b2)] w fun e w' => ∃ b rs, e = .returned (.map (some b)) ∧ IsSet w' b 1000 rs ∧ (∀ y, rs.contains y = (ks1.contains y && !ks2.contains y)) ∧ Below w.heap.size w w' := by
  have HB := Aside0.mk (Below.refl w.heap.size w)
  have HS1 := Aside0.mk h1
  have HS2 := Aside0.mk h2
  have HZ := Aside0.mk hz
  have HND := Aside0.mk h1.nodup
  have HN0 := Aside0.mk (New0_calls w)
  clear h1 h2 hz
  go_enter Try.func29, Try.ntmps29
  go_wp2_with (first | ((with_reducible refine (HN0.out).mono ?_); rintro e w1 ⟨br, rfl, g1, g2, hb⟩; have HRS := Aside0.mk g2; have HBR := Aside0.mk (And.intro g1 (And.intro g2.lt hb.size)); clear g1 g2; have HB1 := Aside0.mk (below_step (by repeat (first | (with_reducible first | exact HB.out | apply below_alloc | apply pw_below_drewN | apply below_drew1) | exact HB.out)) hb); clear HB hb; have HB := HB1; clear HB1) | (at_range; refine range_set _ rfl _ rfl b1 N1 ks1 rfl (HS1.out.below HB.out) ?_; intro w2 hrg hg hs2; have HRG := Aside0.mk hrg; have HRS2 := Aside0.mk (HRS.out.kept hg (by simp)); have HB2 := Aside0.mk (pw_below_grown HB.out none (below_size HB.out) hg (fun j hj => by cases hj)); clear hrg hg HB HRS; have HB := HB2; have HRS := HRS2; clear HB2 HRS2))
  go_frame
  go_loopg [6] (ks1.length) (fun g v6 w' => ∃ (left rs : List L) (M : Nat), Aside0 (IsRange w' b1 w1.heap.size N1 g ks1 left ∧ left.Nodup ∧ ∀ x ∈ left, x ∈ ks1) ∧ Aside0 (IsSet w' br M rs ∧ M + g ≤ ks1.length) ∧ Aside0 (∀ y, rs.contains y = ((ks1.contains y && !left.contains y) && !ks2.contains y)) ∧ Aside0 (Below w.heap.size w w'))
  case atStart => exact ⟨ks1, [], 0, ⟨HRG.out, HND.out, fun x h => h⟩, ⟨HRS.out, by omega⟩, ⟨fun y => by cases ks1.contains y <;> simp⟩, HB⟩
  case round =>
    clear HRG HB HRS
    obtain ⟨left, rs, M, HRG, HRS, HC, HB⟩ := hrel
    go_wp2_with (first | (at_next; refine next_set _ rfl _ rfl b1 w1.heap.size N1 gk ks1 left rfl HRG.out.1 ?_ ?_))
    · intro h0 hl0
      have HCE : Aside0 (∀ y, rs.contains y = (ks1.contains y && !ks2.contains y)) := ⟨fun y => by rw [HC.out, hl0]; simp⟩
      clear hl0 h0 HC
      go_wp2
      go_ret
      exact ⟨br, rs, rfl, HRS.out.1.mono (by have := HRS.out.2; omega), HCE.out, HB.out⟩
    · intro s w3 cnt hs hc hrg hlt hg hsz hen
      have HB3 := Aside0.mk (pw_below_grown HB.out _ (below_size HB.out) hg (fun k hk => by cases hk; exact HBR.out.2.2))
      have HRG3 := Aside0.mk (And.intro hrg (And.intro (delK_nodup HRG.out.2.1 s.data.toList) (fun x (hx : x ∈ delK left s.data.toList) => HRG.out.2.2 x (delK_sub hx))))
      have HRS3 := Aside0.mk (HRS.out.1.kept hg (by have := HBR.out.2.1; simp; omega))
      have hsz2 : s.size ≤ 140737488351232 := by have := HZ.out _ (HRG.out.2.2 _ hc); rw [Lib.size_eq]; exact this
      have hcb : ks1.contains s.data.toList = true := by simpa using HRG.out.2.2 _ hc
      have H1 := Aside0.mk (fun w' (hb : Below w.heap.size w w') => Has_calls b2 N2 ks2 s hsz2 w' (HS2.out.below hb))
      have HLT := Aside0.mk hlt
      have HM3 := Aside0.mk (show M + 1 + cnt ≤ ks1.length ∧ M ≤ 10000 by have := HRS.out.2; omega)
      obtain ⟨q, hq⟩ : ∃ q, ks2.contains s.data.toList = q := ⟨_, rfl⟩
      rw [hq] at H1
      cases q with
      | true =>
        have HCE : Aside0 (∀ y, rs.contains y = ((ks1.contains y && !(delK left s.data.toList).contains y) && !ks2.contains y)) := ⟨fun y => by
          rw [HC.out, delK_contains]
          by_cases e : y = s.data.toList
          · subst e; rw [hq]; simp
          · rw [beq_eq_false_iff_ne.2 e]; simp⟩
        clear HB HRG HRS hs hc hcb hrg hlt hg hsz hq HC hsz2
        go_wp2_with (first | ((with_reducible refine (H1.out _ (by repeat (first | (with_reducible first | exact HB3.out | apply below_alloc | apply pw_below_drewN | apply below_drew1) | exact HB3.out))).mono ?_); rintro e w' ⟨rfl, hb⟩; have HRG4 := Aside0.mk (HRG3.out.1.below hb); have HRS4 := Aside0.mk (HRS3.out.below hb); have HB4 := Aside0.mk (below_step (by repeat (first | (with_reducible first | exact HB3.out | apply below_alloc | apply pw_below_drewN | apply below_drew1) | exact HB3.out)) hb); clear hb))
        go_roundg cnt
        case measure => exact HLT.out
        case rel => exact ⟨_, rs, M, ⟨HRG4.out, HRG3.out.2⟩, ⟨HRS4.out, by have := HM3.out; omega⟩, HCE, HB4⟩
      | false =>
        have HCE : Aside0 (∀ y, (addK rs s.data.toList).contains y = ((ks1.contains y && !(delK left s.data.toList).contains y) && !ks2.contains y)) := ⟨fun y => by
          rw [addK_contains, HC.out, delK_contains]
          by_cases e : y = s.data.toList
          · subst e; rw [hq, hcb]; simp
          · rw [beq_eq_false_iff_ne.2 e]; simp⟩
        have HI := Aside0.mk (fun (W : World) (H : Nat) (hH : W.heap.size = H) (h : IsSet W br M rs) => Insert1_calls W H hH br M rs s hsz2 HM3.out.2 h)
        clear HB HRG HRS hs hc hcb hrg hlt hg hsz hq HC hsz2
        go_wp2_with (first | ((with_reducible refine (H1.out _ (by repeat (first | (with_reducible first | exact HB3.out | apply below_alloc | apply pw_below_drewN | apply below_drew1) | exact HB3.out))).mono ?_); rintro e w' ⟨rfl, hb⟩; have HRG4 := Aside0.mk (HRG3.out.1.below hb); have HRS4 := Aside0.mk (HRS3.out.below hb); have HB4 := Aside0.mk (below_step (by repeat (first | (with_reducible first | exact HB3.out | apply below_alloc | apply pw_below_drewN | apply below_drew1) | exact HB3.out)) hb); clear hb) | ((with_reducible refine (HI.out _ _ ?hH HRS4.out).mono ?_); (case hH => rfl); rintro e w5 ⟨rfl, j1, j2⟩; have HRS5 := Aside0.mk j1; have HRG5 := Aside0.mk ((HRG4.out.alloc _).kept j2 (by have := HBR.out; have := HS1.out.lt; simp; omega) (by have := HBR.out; simp; omega)); have HB5 := Aside0.mk (pw_below_grown (below_alloc HB4.out _) _ (below_size (below_alloc HB4.out _)) j2 (fun k hk => by cases hk; exact HBR.out.1)); clear j1 j2))
        go_roundg cnt
        case measure => exact HLT.out
        case rel => exact ⟨_, _, M + 1, ⟨HRG5.out, HRG3.out.2⟩, ⟨HRS5.out, HM3.out.1⟩, HCE, HB5⟩
end Go.Proofs.Ytghekbffjonceaa.Hand
