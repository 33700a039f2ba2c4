/- Union, Intersection. -/
import Derived.Test.YtghekbffjonceaaSetOps
namespace Go.Proofs.Ytghekbffjonceaa.Hand
open Go.RowKit Go.Maps Go.Proofs.YtghekbffjonceaaW.PrintWords Go.Proofs.YtghekbffjonceaaW.PrintLast Go.Proofs.YtghekbffjonceaaW.PrintMore Go.Proofs.Ytghekbffjonceaa.Base
set_option linter.unusedVariables false
set_option linter.unusedSimpArgs false
set_option maxRecDepth 100000

set_option maxHeartbeats 4000000 in
theorem Union_calls (b1 N1 : Nat) (ks1 : List L) (b2 N2 : Nat) (ks2 : List L) (hz1 : ∀ k ∈ ks1, k.length ≤ 140737488351232) (hz2 : ∀ k ∈ ks2, k.length ≤ 140737488351232) (hn : ks1.length + ks2.length ≤ 1000) (w : World) (h1 : IsSet w b1 N1 ks1) (h2 : IsSet w b2 N2 ks2) :
    Calls Try.prog 30 #[.map (some b1), .map (some b2)] w fun e w' => ∃ b rs, e = .returned (.map (some b)) ∧ IsSet w' b 1000 rs ∧ (∀ y, rs.contains y = (ks1.contains y || ks2.contains y)) ∧ Below w.heap.size w w' := by
  have HB := Aside0.mk (Below.refl w.heap.size w)
  have HS1 := Aside0.mk h1
  have HS2 := Aside0.mk h2
  have HZ1 := Aside0.mk hz1
  have HZ2 := Aside0.mk hz2
  have HND1 := Aside0.mk h1.nodup
  have HND2 := Aside0.mk h2.nodup
  have HN0 := Aside0.mk (New0_calls w)
  clear h1 h2 hz1 hz2
  go_enter Try.func30, Try.ntmps30
  go_wp2_with (first | ((with_reducible refine (HN0.out).mono ?_); rintro e w1 ⟨br, rfl, g1, g2, hb⟩; have HRS := Aside0.mk g2; have HBR := Aside0.mk (And.intro g1 (And.intro g2.lt hb.size)); clear g1 g2; have HB1 := Aside0.mk (below_step (by repeat (first | (with_reducible first | exact HB.out | apply below_alloc | apply pw_below_drewN | apply below_drew1) | exact HB.out)) hb); clear HB hb; have HB := HB1; clear HB1) | (at_range; refine range_set _ rfl _ rfl b1 N1 ks1 rfl (HS1.out.below HB.out) ?_; intro w2 hrg hg hs2; have HRG := Aside0.mk hrg; have HRS2 := Aside0.mk (HRS.out.kept hg (by simp)); have HB2 := Aside0.mk (pw_below_grown HB.out none (below_size HB.out) hg (fun j hj => by cases hj)); clear hrg hg HB HRS; have HB := HB2; have HRS := HRS2; clear HB2 HRS2))
  have HRW : Aside0 (w1.heap.size ≤ w1.heap.size) := ⟨Nat.le_refl _⟩
  go_frame
  go_loopg [6] (ks1.length) (fun g v6 w' => ∃ (left rs : List L) (M : Nat), Aside0 (IsRange w' b1 w1.heap.size N1 g ks1 left ∧ left.Nodup ∧ ∀ x ∈ left, x ∈ ks1) ∧ Aside0 (IsSet w' br M rs ∧ M + g ≤ ks1.length) ∧ Aside0 (∀ y, rs.contains y = (ks1.contains y && !left.contains y)) ∧ Aside0 (Below w.heap.size w w'))
  case atStart => exact ⟨ks1, [], 0, ⟨HRG.out, HND1.out, fun x h => h⟩, ⟨HRS.out, by omega⟩, ⟨fun y => by cases ks1.contains y <;> simp⟩, HB⟩
  case round =>
    clear HRG HB HRS
    obtain ⟨left, rs, M, HRG, HRS, HC, HB⟩ := hrel
    go_wp2_with (first | (at_next; refine next_set _ rfl _ rfl b1 w1.heap.size N1 gk ks1 left rfl HRG.out.1 ?_ ?_))
    rotate_left
    · intro s w3 cnt hs hc hrg hlt hg hsz hen
      have HB3 := Aside0.mk (pw_below_grown HB.out _ (below_size HB.out) hg (fun k hk => by cases hk; have := HBR.out; have := HRW.out; omega))
      have HRG3 := Aside0.mk (And.intro hrg (And.intro (delK_nodup HRG.out.2.1 s.data.toList) (fun x (hx : x ∈ delK left s.data.toList) => HRG.out.2.2 x (delK_sub hx))))
      have HRS3 := Aside0.mk (HRS.out.1.kept hg (by have := HBR.out.2.1; have := HRW.out; simp; omega))
      have hsz2 : s.size ≤ 140737488351232 := by have := HZ1.out _ (HRG.out.2.2 _ hc); rw [Lib.size_eq]; exact this
      have hcb : ks1.contains s.data.toList = true := by simpa using HRG.out.2.2 _ hc
      have HLT := Aside0.mk hlt
      have HM3 := Aside0.mk (show M + 1 + cnt ≤ ks1.length ∧ M ≤ 10000 by have := HRS.out.2; omega)
      have HCE : Aside0 (∀ y, (addK rs s.data.toList).contains y = (ks1.contains y && !(delK left s.data.toList).contains y)) := ⟨fun y => by
        rw [addK_contains, HC.out, delK_contains]
        by_cases e : y = s.data.toList
        · subst e; rw [hcb]; simp
        · rw [beq_eq_false_iff_ne.2 e]; simp⟩
      have HI := Aside0.mk (fun (W : World) (H : Nat) (hH : W.heap.size = H) (h : IsSet W br M rs) => Insert1_calls W H hH br M rs s hsz2 HM3.out.2 h)
      clear HB HRG HRS hs hc hcb hrg hlt hg hsz HC hsz2
      go_wp2_with (first | ((with_reducible refine (HI.out _ _ ?hH HRS3.out).mono ?_); (case hH => rfl); rintro e w5 ⟨rfl, j1, j2⟩; have HRS5 := Aside0.mk j1; have HRG5 := Aside0.mk ((HRG3.out.1.alloc _).kept j2 (by have := HBR.out; have := HS1.out.lt; simp; omega) (by have := HBR.out; have := HRW.out; simp; omega)); have HB5 := Aside0.mk (pw_below_grown (below_alloc HB3.out _) _ (below_size (below_alloc HB3.out _)) j2 (fun k hk => by cases hk; exact HBR.out.1)); clear j1 j2))
      go_roundg cnt
      case measure => exact HLT.out
      case rel => exact ⟨_, _, M + 1, ⟨HRG5.out, HRG3.out.2⟩, ⟨HRS5.out, HM3.out.1⟩, HCE, HB5⟩
    · intro h0 hl0
      have HC1 : Aside0 (∀ y, rs.contains y = ks1.contains y) := ⟨fun y => by rw [HC.out, hl0]; simp⟩
      have HM1 := Aside0.mk (show M ≤ ks1.length by have := HRS.out.2; omega)
      have HRS0 := Aside0.mk HRS.out.1
      have HBW := Aside0.mk (below_then HB.out (below_size HB.out) (Below.refl _ _))
      have HWS : Aside0 (br < wr.heap.size) := ⟨HRS.out.1.lt⟩
      clear hl0 h0 HC HRG HRS
      have HRS := HRS0
      clear HRS0
      generalize gk = go at *
      obtain ⟨wm, rfl⟩ : ∃ wm : World, wm = wr := ⟨_, rfl⟩
      go_wp2_with (first | (at_range; refine range_set _ rfl _ rfl b2 N2 ks2 rfl (HS2.out.below HB.out) ?_; intro w7 hrg hg hs2; have HRG := Aside0.mk hrg; have HRS2 := Aside0.mk (HRS.out.kept hg (by simp)); have HB2 := Aside0.mk (pw_below_grown HB.out none (below_size HB.out) hg (fun j hj => by cases hj)); clear hrg hg HB HRS; have HB := HB2; have HRS := HRS2; clear HB2 HRS2))
      clear HRW
      have HRW : Aside0 (br < wm.heap.size) := HWS
      go_frame
      go_loopg [7] (ks2.length) (fun g v6 w' => ∃ (left rs : List L) (M : Nat), Aside0 (IsRange w' b2 wm.heap.size N2 g ks2 left ∧ left.Nodup ∧ ∀ x ∈ left, x ∈ ks2) ∧ Aside0 (IsSet w' br M rs ∧ M + g ≤ ks1.length + ks2.length) ∧ Aside0 (∀ y, rs.contains y = (ks1.contains y || (ks2.contains y && !left.contains y))) ∧ Aside0 (Below w.heap.size w w'))
      case atStart => exact ⟨ks2, rs, M, ⟨HRG.out, HND2.out, fun x h => h⟩, ⟨HRS.out, by have := HM1.out; omega⟩, ⟨fun y => by rw [HC1.out]; cases ks1.contains y <;> cases ks2.contains y <;> simp⟩, HB⟩
      case round =>
        clear HRG HB HRS
        obtain ⟨left, rs, M, HRG, HRS, HC, HB⟩ := hrel
        go_wp2_with (first | (at_next; refine next_set _ rfl _ rfl b2 wm.heap.size N2 gk ks2 left rfl HRG.out.1 ?_ ?_))
        rotate_left
        · intro s w3 cnt hs hc hrg hlt hg hsz hen
          have HB3 := Aside0.mk (pw_below_grown HB.out _ (below_size HB.out) hg (fun k hk => by cases hk; have := HBR.out; have := HRW.out; omega))
          have HRG3 := Aside0.mk (And.intro hrg (And.intro (delK_nodup HRG.out.2.1 s.data.toList) (fun x (hx : x ∈ delK left s.data.toList) => HRG.out.2.2 x (delK_sub hx))))
          have HRS3 := Aside0.mk (HRS.out.1.kept hg (by have := HBR.out.2.1; have := HRW.out; simp; omega))
          have hsz2 : s.size ≤ 140737488351232 := by have := HZ2.out _ (HRG.out.2.2 _ hc); rw [Lib.size_eq]; exact this
          have hcb : ks2.contains s.data.toList = true := by simpa using HRG.out.2.2 _ hc
          have HLT := Aside0.mk hlt
          have HM3 := Aside0.mk (show M + 1 + cnt ≤ ks1.length + ks2.length ∧ M ≤ 10000 by have := HRS.out.2; omega)
          have HCE : Aside0 (∀ y, (addK rs s.data.toList).contains y = (ks1.contains y || (ks2.contains y && !(delK left s.data.toList).contains y))) := ⟨fun y => by
            rw [addK_contains, HC.out, delK_contains]
            by_cases e : y = s.data.toList
            · subst e; rw [hcb]; simp
            · rw [beq_eq_false_iff_ne.2 e]; simp⟩
          have HI := Aside0.mk (fun (W : World) (H : Nat) (hH : W.heap.size = H) (h : IsSet W br M rs) => Insert1_calls W H hH br M rs s hsz2 HM3.out.2 h)
          clear HB HRG HRS hs hc hcb hrg hlt hg hsz HC hsz2
          go_wp2_with (first | ((with_reducible refine (HI.out _ _ ?hH HRS3.out).mono ?_); (case hH => rfl); rintro e w5 ⟨rfl, j1, j2⟩; have HRS5 := Aside0.mk j1; have HRG5 := Aside0.mk ((HRG3.out.1.alloc _).kept j2 (by have := HBR.out; have := HS2.out.lt; simp; omega) (by have := HBR.out; have := HRW.out; simp; omega)); have HB5 := Aside0.mk (pw_below_grown (below_alloc HB3.out _) _ (below_size (below_alloc HB3.out _)) j2 (fun k hk => by cases hk; exact HBR.out.1)); clear j1 j2))
          go_roundg cnt
          case measure => exact HLT.out
          case rel => exact ⟨_, _, M + 1, ⟨HRG5.out, HRG3.out.2⟩, ⟨HRS5.out, HM3.out.1⟩, HCE, HB5⟩
        · intro h0 hl0
          have HCE : Aside0 (∀ y, rs.contains y = (ks1.contains y || ks2.contains y)) := ⟨fun y => by rw [HC.out, hl0]; simp⟩
          clear hl0 h0 HC
          go_wp2
          go_ret
          exact ⟨br, rs, rfl, HRS.out.1.mono (by have := HRS.out.2; omega), HCE.out, HB.out⟩

set_option maxHeartbeats 4000000 in
theorem Inter_calls (b1 N1 : Nat) (ks1 : List L) (b2 N2 : Nat) (ks2 : List L) (hz1 : ∀ k ∈ ks1, k.length ≤ 140737488351232) (hz2 : ∀ k ∈ ks2, k.length ≤ 140737488351232) (hn1 : ks1.length ≤ 1000) (hn2 : ks2.length ≤ 1000) (w : World) (h1 : IsSet w b1 N1 ks1) (h2 : IsSet w b2 N2 ks2) :
    Calls Try.prog 31 #[.map (some b1), .map (some b2)] w fun e w' => ∃ b rs, e = .returned (.map (some b)) ∧ IsSet w' b 1000 rs ∧ (∀ y, rs.contains y = (ks1.contains y && ks2.contains y)) ∧ Below w.heap.size w w' := by
  have HB := Aside0.mk (Below.refl w.heap.size w)
  have HS1 := Aside0.mk h1
  have HS2 := Aside0.mk h2
  have HZ1 := Aside0.mk hz1
  have HZ2 := Aside0.mk hz2
  have HND1 := Aside0.mk h1.nodup
  have HND2 := Aside0.mk h2.nodup
  have HN0 := Aside0.mk (New0_calls w)
  have HL1 := Aside0.mk (fun w (h : IsSet w b1 N1 ks1) => Len_calls b1 N1 ks1 w h)
  have HL2 := Aside0.mk (fun w (h : IsSet w b2 N2 ks2) => Len_calls b2 N2 ks2 w h)
  clear h1 h2 hz1 hz2
  by_cases hlen : ks1.length < ks2.length
  · go_enter Try.func31, Try.ntmps31
    go_wp2_with (first | ((with_reducible refine (HN0.out).mono ?_); rintro e w1 ⟨br, rfl, g1, g2, hb⟩; have HRS := Aside0.mk g2; have HBR := Aside0.mk (And.intro g1 (And.intro g2.lt hb.size)); clear g1 g2; have HB1 := Aside0.mk (below_step (by repeat (first | (with_reducible first | exact HB.out | apply below_alloc | apply pw_below_drewN | apply below_drew1) | exact HB.out)) hb); clear HB hb; have HB := HB1; clear HB1) | ((with_reducible refine (HL1.out _ (HS1.out.below (by repeat (first | (with_reducible first | exact HB.out | apply below_alloc | apply pw_below_drewN | apply below_drew1) | exact HB.out)))).mono ?_); rintro e w' ⟨rfl, rfl⟩; clear HL1) | ((with_reducible refine (HL2.out _ (HS2.out.below (by repeat (first | (with_reducible first | exact HB.out | apply below_alloc | apply pw_below_drewN | apply below_drew1) | exact HB.out)))).mono ?_); rintro e w' ⟨rfl, rfl⟩; clear HL2) | (at_range; refine range_set _ rfl _ rfl b1 N1 ks1 rfl (HS1.out.below HB.out) ?_; intro w2 hrg hg hs2; have HRG := Aside0.mk hrg; have HRS2 := Aside0.mk (HRS.out.kept hg (by simp)); have HB2 := Aside0.mk (pw_below_grown HB.out none (below_size HB.out) hg (fun j hj => by cases hj)); clear hrg hg HB HRS; have HB := HB2; have HRS := HRS2; clear HB2 HRS2))
    have HRW : Aside0 (w1.heap.size ≤ w1.heap.size) := ⟨Nat.le_refl _⟩
    go_frame
    go_loopg [8] (ks1.length) (fun g v8 w' => ∃ (left rs : List L) (M : Nat), Aside0 (IsRange w' b1 w1.heap.size N1 g ks1 left ∧ left.Nodup ∧ ∀ x ∈ left, x ∈ ks1) ∧ Aside0 (IsSet w' br M rs ∧ M + g ≤ ks1.length) ∧ Aside0 (∀ y, rs.contains y = ((ks1.contains y && !left.contains y) && ks2.contains y)) ∧ Aside0 (Below w.heap.size w w'))
    case atStart => exact ⟨ks1, [], 0, ⟨HRG.out, HND1.out, fun x h => h⟩, ⟨HRS.out, by omega⟩, ⟨fun y => by cases ks1.contains y <;> simp⟩, HB⟩
    case round =>
      clear HRG HB HRS
      obtain ⟨left, rs, M, HRG, HRS, HC, HB⟩ := hrel
      go_wp2_with (first | (at_next; refine next_set _ rfl _ rfl b1 w1.heap.size N1 gk ks1 left rfl HRG.out.1 ?_ ?_))
      · intro h0 hl0
        have HCE : Aside0 (∀ y, rs.contains y = (ks1.contains y && ks2.contains y)) := ⟨fun y => by rw [HC.out, hl0]; simp⟩
        clear hl0 h0 HC
        go_wp2
        go_ret
        exact ⟨br, rs, rfl, HRS.out.1.mono (by have := HRS.out.2; omega), HCE.out, HB.out⟩
      · intro s w3 cnt hs hc hrg hlt hg hsz hen
        have HB3 := Aside0.mk (pw_below_grown HB.out _ (below_size HB.out) hg (fun k hk => by cases hk; have := HBR.out; have := HRW.out; omega))
        have HRG3 := Aside0.mk (And.intro hrg (And.intro (delK_nodup HRG.out.2.1 s.data.toList) (fun x (hx : x ∈ delK left s.data.toList) => HRG.out.2.2 x (delK_sub hx))))
        have HRS3 := Aside0.mk (HRS.out.1.kept hg (by have := HBR.out.2.1; have := HRW.out; simp; omega))
        have hsz2 : s.size ≤ 140737488351232 := by have := HZ1.out _ (HRG.out.2.2 _ hc); rw [Lib.size_eq]; exact this
        have hcb : ks1.contains s.data.toList = true := by simpa using HRG.out.2.2 _ hc
        have HLT := Aside0.mk hlt
        have HM3 := Aside0.mk (show M + 1 + cnt ≤ ks1.length ∧ M ≤ 10000 by have := HRS.out.2; omega)

        have H1 := Aside0.mk (fun w' (hb : Below w.heap.size w w') => Has_calls b2 N2 ks2 s hsz2 w' (HS2.out.below hb))
        obtain ⟨q, hq⟩ : ∃ q, ks2.contains s.data.toList = q := ⟨_, rfl⟩
        rw [hq] at H1
        cases q with
        | false =>
          have HCE : Aside0 (∀ y, rs.contains y = ((ks1.contains y && !(delK left s.data.toList).contains y) && ks2.contains y)) := ⟨fun y => by
            rw [HC.out, delK_contains]
            by_cases e : y = s.data.toList
            · subst e; rw [hq]; simp
            · rw [beq_eq_false_iff_ne.2 e]; simp⟩
          clear HB HRG HRS hs hc hcb hrg hlt hg hsz hq HC hsz2
          go_wp2_with (first | ((with_reducible refine (H1.out _ (by repeat (first | (with_reducible first | exact HB3.out | apply below_alloc | apply pw_below_drewN | apply below_drew1) | exact HB3.out))).mono ?_); rintro e w' ⟨rfl, hb⟩; have HRG4 := Aside0.mk (HRG3.out.1.below hb); have HRS4 := Aside0.mk (HRS3.out.below hb); have HB4 := Aside0.mk (below_step (by repeat (first | (with_reducible first | exact HB3.out | apply below_alloc | apply pw_below_drewN | apply below_drew1) | exact HB3.out)) hb); clear hb))
          go_roundg cnt
          case measure => exact HLT.out
          case rel => exact ⟨_, rs, M, ⟨HRG4.out, HRG3.out.2⟩, ⟨HRS4.out, by have := HM3.out; omega⟩, HCE, HB4⟩
        | true =>
          have HCE : Aside0 (∀ y, (addK rs s.data.toList).contains y = ((ks1.contains y && !(delK left s.data.toList).contains y) && ks2.contains y)) := ⟨fun y => by
            rw [addK_contains, HC.out, delK_contains]
            by_cases e : y = s.data.toList
            · subst e; rw [hq, hcb]; simp
            · rw [beq_eq_false_iff_ne.2 e]; simp⟩
          have HI := Aside0.mk (fun (W : World) (H : Nat) (hH : W.heap.size = H) (h : IsSet W br M rs) => Insert1_calls W H hH br M rs s hsz2 HM3.out.2 h)
          clear HB HRG HRS hs hc hcb hrg hlt hg hsz hq HC hsz2
          go_wp2_with (first | ((with_reducible refine (H1.out _ (by repeat (first | (with_reducible first | exact HB3.out | apply below_alloc | apply pw_below_drewN | apply below_drew1) | exact HB3.out))).mono ?_); rintro e w' ⟨rfl, hb⟩; have HRG4 := Aside0.mk (HRG3.out.1.below hb); have HRS4 := Aside0.mk (HRS3.out.below hb); have HB4 := Aside0.mk (below_step (by repeat (first | (with_reducible first | exact HB3.out | apply below_alloc | apply pw_below_drewN | apply below_drew1) | exact HB3.out)) hb); clear hb) | ((with_reducible refine (HI.out _ _ ?hH HRS4.out).mono ?_); (case hH => rfl); rintro e w5 ⟨rfl, j1, j2⟩; have HRS5 := Aside0.mk j1; have HRG5 := Aside0.mk ((HRG4.out.alloc _).kept j2 (by have := HBR.out; have := HS1.out.lt; simp; omega) (by have := HBR.out; have := HRW.out; simp; omega)); have HB5 := Aside0.mk (pw_below_grown (below_alloc HB4.out _) _ (below_size (below_alloc HB4.out _)) j2 (fun k hk => by cases hk; exact HBR.out.1)); clear j1 j2))
          go_roundg cnt
          case measure => exact HLT.out
          case rel => exact ⟨_, _, M + 1, ⟨HRG5.out, HRG3.out.2⟩, ⟨HRS5.out, HM3.out.1⟩, HCE, HB5⟩
  · go_enter Try.func31, Try.ntmps31
    go_wp2_with (first | ((with_reducible refine (HN0.out).mono ?_); rintro e w1 ⟨br, rfl, g1, g2, hb⟩; have HRS := Aside0.mk g2; have HBR := Aside0.mk (And.intro g1 (And.intro g2.lt hb.size)); clear g1 g2; have HB1 := Aside0.mk (below_step (by repeat (first | (with_reducible first | exact HB.out | apply below_alloc | apply pw_below_drewN | apply below_drew1) | exact HB.out)) hb); clear HB hb; have HB := HB1; clear HB1) | ((with_reducible refine (HL1.out _ (HS1.out.below (by repeat (first | (with_reducible first | exact HB.out | apply below_alloc | apply pw_below_drewN | apply below_drew1) | exact HB.out)))).mono ?_); rintro e w' ⟨rfl, rfl⟩; clear HL1) | ((with_reducible refine (HL2.out _ (HS2.out.below (by repeat (first | (with_reducible first | exact HB.out | apply below_alloc | apply pw_below_drewN | apply below_drew1) | exact HB.out)))).mono ?_); rintro e w' ⟨rfl, rfl⟩; clear HL2) | (at_range; refine range_set _ rfl _ rfl b2 N2 ks2 rfl (HS2.out.below HB.out) ?_; intro w2 hrg hg hs2; have HRG := Aside0.mk hrg; have HRS2 := Aside0.mk (HRS.out.kept hg (by simp)); have HB2 := Aside0.mk (pw_below_grown HB.out none (below_size HB.out) hg (fun j hj => by cases hj)); clear hrg hg HB HRS; have HB := HB2; have HRS := HRS2; clear HB2 HRS2))
    have HRW : Aside0 (w1.heap.size ≤ w1.heap.size) := ⟨Nat.le_refl _⟩
    go_frame
    go_loopg [8] (ks2.length) (fun g v8 w' => ∃ (left rs : List L) (M : Nat), Aside0 (IsRange w' b2 w1.heap.size N2 g ks2 left ∧ left.Nodup ∧ ∀ x ∈ left, x ∈ ks2) ∧ Aside0 (IsSet w' br M rs ∧ M + g ≤ ks2.length) ∧ Aside0 (∀ y, rs.contains y = ((ks2.contains y && !left.contains y) && ks1.contains y)) ∧ Aside0 (Below w.heap.size w w'))
    case atStart => exact ⟨ks2, [], 0, ⟨HRG.out, HND2.out, fun x h => h⟩, ⟨HRS.out, by omega⟩, ⟨fun y => by cases ks2.contains y <;> simp⟩, HB⟩
    case round =>
      clear HRG HB HRS
      obtain ⟨left, rs, M, HRG, HRS, HC, HB⟩ := hrel
      go_wp2_with (first | (at_next; refine next_set _ rfl _ rfl b2 w1.heap.size N2 gk ks2 left rfl HRG.out.1 ?_ ?_))
      · intro h0 hl0
        have HCE : Aside0 (∀ y, rs.contains y = (ks1.contains y && ks2.contains y)) := ⟨fun y => by rw [HC.out, hl0]; simp; rw [Bool.and_comm]⟩
        clear hl0 h0 HC
        go_wp2
        go_ret
        exact ⟨br, rs, rfl, HRS.out.1.mono (by have := HRS.out.2; omega), HCE.out, HB.out⟩
      · intro s w3 cnt hs hc hrg hlt hg hsz hen
        have HB3 := Aside0.mk (pw_below_grown HB.out _ (below_size HB.out) hg (fun k hk => by cases hk; have := HBR.out; have := HRW.out; omega))
        have HRG3 := Aside0.mk (And.intro hrg (And.intro (delK_nodup HRG.out.2.1 s.data.toList) (fun x (hx : x ∈ delK left s.data.toList) => HRG.out.2.2 x (delK_sub hx))))
        have HRS3 := Aside0.mk (HRS.out.1.kept hg (by have := HBR.out.2.1; have := HRW.out; simp; omega))
        have hsz2 : s.size ≤ 140737488351232 := by have := HZ2.out _ (HRG.out.2.2 _ hc); rw [Lib.size_eq]; exact this
        have hcb : ks2.contains s.data.toList = true := by simpa using HRG.out.2.2 _ hc
        have HLT := Aside0.mk hlt
        have HM3 := Aside0.mk (show M + 1 + cnt ≤ ks2.length ∧ M ≤ 10000 by have := HRS.out.2; omega)

        have H1 := Aside0.mk (fun w' (hb : Below w.heap.size w w') => Has_calls b1 N1 ks1 s hsz2 w' (HS1.out.below hb))
        obtain ⟨q, hq⟩ : ∃ q, ks1.contains s.data.toList = q := ⟨_, rfl⟩
        rw [hq] at H1
        cases q with
        | false =>
          have HCE : Aside0 (∀ y, rs.contains y = ((ks2.contains y && !(delK left s.data.toList).contains y) && ks1.contains y)) := ⟨fun y => by
            rw [HC.out, delK_contains]
            by_cases e : y = s.data.toList
            · subst e; rw [hq]; simp
            · rw [beq_eq_false_iff_ne.2 e]; simp⟩
          clear HB HRG HRS hs hc hcb hrg hlt hg hsz hq HC hsz2
          go_wp2_with (first | ((with_reducible refine (H1.out _ (by repeat (first | (with_reducible first | exact HB3.out | apply below_alloc | apply pw_below_drewN | apply below_drew1) | exact HB3.out))).mono ?_); rintro e w' ⟨rfl, hb⟩; have HRG4 := Aside0.mk (HRG3.out.1.below hb); have HRS4 := Aside0.mk (HRS3.out.below hb); have HB4 := Aside0.mk (below_step (by repeat (first | (with_reducible first | exact HB3.out | apply below_alloc | apply pw_below_drewN | apply below_drew1) | exact HB3.out)) hb); clear hb))
          go_roundg cnt
          case measure => exact HLT.out
          case rel => exact ⟨_, rs, M, ⟨HRG4.out, HRG3.out.2⟩, ⟨HRS4.out, by have := HM3.out; omega⟩, HCE, HB4⟩
        | true =>
          have HCE : Aside0 (∀ y, (addK rs s.data.toList).contains y = ((ks2.contains y && !(delK left s.data.toList).contains y) && ks1.contains y)) := ⟨fun y => by
            rw [addK_contains, HC.out, delK_contains]
            by_cases e : y = s.data.toList
            · subst e; rw [hq, hcb]; simp
            · rw [beq_eq_false_iff_ne.2 e]; simp⟩
          have HI := Aside0.mk (fun (W : World) (H : Nat) (hH : W.heap.size = H) (h : IsSet W br M rs) => Insert1_calls W H hH br M rs s hsz2 HM3.out.2 h)
          clear HB HRG HRS hs hc hcb hrg hlt hg hsz hq HC hsz2
          go_wp2_with (first | ((with_reducible refine (H1.out _ (by repeat (first | (with_reducible first | exact HB3.out | apply below_alloc | apply pw_below_drewN | apply below_drew1) | exact HB3.out))).mono ?_); rintro e w' ⟨rfl, hb⟩; have HRG4 := Aside0.mk (HRG3.out.1.below hb); have HRS4 := Aside0.mk (HRS3.out.below hb); have HB4 := Aside0.mk (below_step (by repeat (first | (with_reducible first | exact HB3.out | apply below_alloc | apply pw_below_drewN | apply below_drew1) | exact HB3.out)) hb); clear hb) | ((with_reducible refine (HI.out _ _ ?hH HRS4.out).mono ?_); (case hH => rfl); rintro e w5 ⟨rfl, j1, j2⟩; have HRS5 := Aside0.mk j1; have HRG5 := Aside0.mk ((HRG4.out.alloc _).kept j2 (by have := HBR.out; have := HS2.out.lt; simp; omega) (by have := HBR.out; have := HRW.out; simp; omega)); have HB5 := Aside0.mk (pw_below_grown (below_alloc HB4.out _) _ (below_size (below_alloc HB4.out _)) j2 (fun k hk => by cases hk; exact HBR.out.1)); clear j1 j2))
          go_roundg cnt
          case measure => exact HLT.out
          case rel => exact ⟨_, _, M + 1, ⟨HRG5.out, HRG3.out.2⟩, ⟨HRS5.out, HM3.out.1⟩, HCE, HB5⟩
end Go.Proofs.Ytghekbffjonceaa.Hand
