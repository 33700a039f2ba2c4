/- impl.SetHas and the law FnSetHas. -/
import Derived.Test.YtghekbffjonceaaSetSpec
namespace Go.Proofs.Ytghekbffjonceaa.Hand
open Go.RowKit Go.Proofs.YtghekbffjonceaaW.PrintWords Go.Proofs.YtghekbffjonceaaW.PrintLast Go.Proofs.YtghekbffjonceaaW.PrintMore Go.Proofs.Ytghekbffjonceaa.Base
set_option linter.unusedVariables false
set_option linter.unusedSimpArgs false
set_option maxRecDepth 100000
def keysOf (xs : List ByteArray) : List L := xs.map (·.data.toList)
theorem keysOf_mk (l : List L) : keysOf (l.map mk) = l := by unfold keysOf; rw [List.map_map]; exact (List.map_congr_left (fun _ _ => rfl)).trans (List.map_id _)
theorem addAll_new (xs : List ByteArray) (y : L) : (addAll [] xs).contains y = (keysOf xs).contains y := by
  rw [addAll_contains]
  unfold keysOf
  rw [Bool.eq_iff_iff]
  simp only [List.contains_nil, Bool.false_or, List.any_eq_true, beq_iff_eq, List.contains_iff_mem, List.mem_map]
  exact ⟨fun ⟨p, h, e⟩ => ⟨p, h, e.symm⟩, fun ⟨p, h, e⟩ => ⟨p, h, e.symm⟩⟩

theorem SetHas_calls (A : Option Addr) (c : Nat) (xs : List ByteArray) (s : ByteArray) (B : Option Addr) (d : Nat) (ys : List ByteArray) (hx : ∀ p ∈ xs, p.size ≤ 140737488351232) (hy : ∀ p ∈ ys, p.size ≤ 140737488351232) (hs : s.size ≤ 140737488351232) (hn : xs.length ≤ 1000000) (hm : ys.length ≤ 1000000)
    (w : World) (hr : Kd.C Kd.string w A xs.length xs) (hc : xs.length ≤ c) (hr2 : Kd.C Kd.string w B ys.length ys) (hd : ys.length ≤ d) :
    Calls Try.prog 10 #[.slice A xs.length c, .string s, .slice B ys.length d] w fun e w' => e = .returned (.tuple #[.bool ((keysOf xs).contains s.data.toList), .bool (ys.all fun p => (keysOf xs).contains p.data.toList), .bool (ys.any fun p => (keysOf xs).contains p.data.toList)]) ∧ Below w.heap.size w w' := by
  have HB := Aside0.mk (Below.refl w.heap.size w)
  have H1 := Aside0.mk (New_calls A c xs hx hn w hr hc)
  have HR2 := Aside0.mk hr2
  have H2 := Aside0.mk (fun w' b (h : IsSet w' b xs.length (addAll [] xs)) => Has_calls b _ _ s hs w' h)
  have H3 := Aside0.mk (fun w' b (h : IsSet w' b xs.length (addAll [] xs)) (hr : Kd.C Kd.string w' B ys.length ys) => HasAll_calls b _ _ B d ys hy hm w' h hr hd)
  have H4 := Aside0.mk (fun w' b (h : IsSet w' b xs.length (addAll [] xs)) (hr : Kd.C Kd.string w' B ys.length ys) => HasAny_calls b _ _ B d ys hy hm w' h hr hd)
  have e1 : (fun p : ByteArray => (addAll [] xs).contains p.data.toList) = fun p => (keysOf xs).contains p.data.toList := funext fun p => addAll_new xs _
  simp only [addAll_new] at H2 H3 H4
  obtain ⟨q1, hq1⟩ : ∃ q, (keysOf xs).contains s.data.toList = q := ⟨_, rfl⟩
  obtain ⟨q2, hq2⟩ : ∃ q, (ys.all fun p => (keysOf xs).contains p.data.toList) = q := ⟨_, rfl⟩
  obtain ⟨q3, hq3⟩ : ∃ q, (ys.any fun p => (keysOf xs).contains p.data.toList) = q := ⟨_, rfl⟩
  rw [hq1] at H2; rw [hq2] at H3; rw [hq3] at H4
  rw [hq1, hq2, hq3]
  clear hx hy hr hr2 e1 hq1 hq2 hq3
  go_enter Try.func10, Try.ntmps10
  go_wp2_with (first | ((with_reducible refine (H1.out).mono ?_); rintro e w' ⟨b, rfl, h1, h2, hb⟩; have HS := Aside0.mk h2; clear h1 h2; have nb_ := Aside0.mk (below_step (by repeat (first | (with_reducible first | exact HB.out | apply below_alloc | apply pw_below_drewN | apply below_drew1) | exact HB.out)) hb); clear HB; have HB := nb_; clear nb_; (try clear hb)) | ((with_reducible refine (H2.out _ b HS.out).mono ?_); rintro e w' ⟨rfl, hb⟩; have HS2 := Aside0.mk (HS.out.below hb); clear HS; have HS := HS2; clear HS2; have nb_ := Aside0.mk (below_step (by repeat (first | (with_reducible first | exact HB.out | apply below_alloc | apply pw_below_drewN | apply below_drew1) | exact HB.out)) hb); clear HB; have HB := nb_; clear nb_; (try clear hb)) | ((with_reducible refine (H3.out _ b HS.out (Kd.C_below HR2.out (by repeat (first | (with_reducible first | exact HB.out | apply below_alloc | apply pw_below_drewN | apply below_drew1) | exact HB.out)))).mono ?_); rintro e w' ⟨rfl, hb⟩; have HS2 := Aside0.mk (HS.out.below hb); clear HS; have HS := HS2; clear HS2; have nb_ := Aside0.mk (below_step (by repeat (first | (with_reducible first | exact HB.out | apply below_alloc | apply pw_below_drewN | apply below_drew1) | exact HB.out)) hb); clear HB; have HB := nb_; clear nb_; (try clear hb)) | ((with_reducible refine (H4.out _ b HS.out (Kd.C_below HR2.out (by repeat (first | (with_reducible first | exact HB.out | apply below_alloc | apply pw_below_drewN | apply below_drew1) | exact HB.out)))).mono ?_); rintro e w' ⟨rfl, hb⟩; have HS2 := Aside0.mk (HS.out.below hb); clear HS; have HS := HS2; clear HS2; have nb_ := Aside0.mk (below_step (by repeat (first | (with_reducible first | exact HB.out | apply below_alloc | apply pw_below_drewN | apply below_drew1) | exact HB.out)) hb); clear HB; have HB := nb_; clear nb_; (try clear hb)))
  go_ret3
  exact ⟨rfl, (by repeat (first | (with_reducible first | exact HB.out | apply below_alloc | apply pw_below_drewN | apply below_drew1) | exact HB.out))⟩

theorem kept_all (m l : List L) : (m.all fun p => l.contains p) = ((((kept m l true).length : Nat) : Int) == ((m.length : Nat) : Int)) := by
  have h : ∀ m : List L, (kept m l true).length ≤ m.length := fun m => List.length_filter_le _ _
  rw [Bool.eq_iff_iff, beq_iff_eq]
  induction m with
  | nil => simp [kept]
  | cons a m ih =>
    have hk : kept (a :: m) l true = if l.contains a = true then a :: kept m l true else kept m l true := by unfold kept; rw [List.filter_cons]; cases l.contains a <;> simp
    rw [List.all_cons, hk]
    have h2 := h m
    by_cases e : l.contains a = true
    · rw [if_pos e, e, Bool.true_and, ih]; simp
    · rw [if_neg e, show l.contains a = false by simpa using e]; simp; omega
theorem kept_any (m l : List L) : (m.any fun p => l.contains p) = decide (0 < (kept m l true).length) := by
  rw [Bool.eq_iff_iff, decide_eq_true_eq, List.length_pos_iff, Ne, kept, List.filter_eq_nil_iff]
  simp

/-- epFew of two lists, as it stands in a law. -/
theorem Few2_calls (W : World) (H : Nat) (hH : W.heap.size = H) (A1 A2 : Option Addr) (n1 c1 n2 c2 : Nat) (h1 : n1 ≤ 2147483647) (h2 : n2 ≤ 2147483647) :
    Calls Try.prog 9 #[.slice (some ⟨H, 0, none⟩) 2 2] (W.alloc (.cells #[.slice A1 n1 c1, .slice A2 n2 c2] 22)) fun e w' => e = .returned (.bool (decide (n1 ≤ 30) && decide (n2 ≤ 30))) ∧ W.alloc (.cells #[.slice A1 n1 c1, .slice A2 n2 c2] 22) = w' := by
  subst hH
  have hb := heap_alloc_new W (.cells #[.slice A1 n1 c1, .slice A2 n2 c2] 22)
  refine (Few_calls ⟨W.heap.size, 0, none⟩ 2 [(A1, n1, c1), (A2, n2, c2)] _ (by simp) (fun i hi => ?_) (fun v hv => ?_)).mono fun e w' ⟨h1, h2⟩ => ⟨?_, h2⟩
  · rw [add_at, blk_cell hb, Nat.zero_add]
    match i, hi with
    | 0, _ => rfl
    | 1, _ => rfl
  · simp at hv; rcases hv with rfl | rfl <;> assumption
  · rw [h1]; simp
theorem fits_len {l : List L} (h : fits5 l = true) : l.length ≤ 2147483647 := by unfold fits5 at h; simp at h; exact h.1
theorem fits_all {l : List L} (h : fits5 l = true) : ∀ p ∈ l.map mk, p.size ≤ 2147483647 := by
  unfold fits5 at h
  simp only [Bool.and_eq_true, List.all_eq_true, decide_eq_true_eq] at h
  intro p hp
  obtain ⟨x, hx, rfl⟩ := List.mem_map.1 hp
  rw [mk_size]; exact h.2 x hx

set_option maxHeartbeats 4000000 in
theorem FnSetHas_calls (A : Option Addr) (c : Nat) (l : List L) (s : ByteArray) (hs : s.size ≤ 140737488351232) (B : Option Addr) (d : Nat) (m : List L) (w : World) (hr : Kd.C Kd.string w A l.length (l.map mk)) (hc : l.length ≤ c) (hr2 : Kd.C Kd.string w B m.length (m.map mk)) (hd : m.length ≤ d) :
    Calls Try.prog 3 #[.slice A l.length c, .string s, .slice B m.length d] w fun e w' => e = .returned (.bool true) ∧ Below w.heap.size w w' := by
  have HB := Aside0.mk (Below.refl w.heap.size w)
  have HF1 : Aside0 (∀ w, Kd.C Kd.string w A l.length (l.map mk) → Calls Try.prog 8 #[.slice A l.length c] w fun e w' => e = .returned (.bool (fits5 l)) ∧ Drawn0 w w') := ⟨fun w h => fits5_calls A c l w h hc⟩
  have HF2 : Aside0 (∀ w, Kd.C Kd.string w B m.length (m.map mk) → Calls Try.prog 8 #[.slice B m.length d] w fun e w' => e = .returned (.bool (fits5 m)) ∧ Drawn0 w w') := ⟨fun w h => fits5_calls B d m w h hd⟩
  have HR1 := Aside0.mk hr; have HR2 := Aside0.mk hr2
  clear hr hr2
  obtain ⟨f1, hf1⟩ : ∃ f, fits5 l = f := ⟨_, rfl⟩
  obtain ⟨f2, hf2⟩ : ∃ f, fits5 m = f := ⟨_, rfl⟩
  rw [hf1] at HF1; rw [hf2] at HF2
  have G1 := Aside0.mk hf1; have G2 := Aside0.mk hf2
  clear hf1 hf2
  cases f1 with
  | false =>
    go_enter Try.func3, Try.ntmps3
    go_wp2_with (first | ((with_reducible refine (HF1.out _ (Kd.C_below HR1.out (by repeat (first | (with_reducible first | exact HB.out | apply below_alloc | apply pw_below_drewN | apply below_drew1) | exact HB.out)))).mono ?_); rintro e w' ⟨rfl, ⟨nd, rfl⟩⟩))
    go_ret
    exact ⟨rfl, (by repeat (first | (with_reducible first | exact HB.out | apply below_alloc | apply pw_below_drewN | apply below_drew1) | exact HB.out))⟩
  | true =>
  by_cases hsz : 2147483647 < s.size
  · go_enter Try.func3, Try.ntmps3
    go_wp2_with (first | ((with_reducible refine (HF1.out _ (Kd.C_below HR1.out (by repeat (first | (with_reducible first | exact HB.out | apply below_alloc | apply pw_below_drewN | apply below_drew1) | exact HB.out)))).mono ?_); rintro e w' ⟨rfl, ⟨nd, rfl⟩⟩))
    go_ret
    exact ⟨rfl, (by repeat (first | (with_reducible first | exact HB.out | apply below_alloc | apply pw_below_drewN | apply below_drew1) | exact HB.out))⟩
  have hsz2 : s.size ≤ 2147483647 := by omega
  clear hsz
  cases f2 with
  | false =>
    go_enter Try.func3, Try.ntmps3
    go_wp2_with (first | ((with_reducible refine (HF1.out _ (Kd.C_below HR1.out (by repeat (first | (with_reducible first | exact HB.out | apply below_alloc | apply pw_below_drewN | apply below_drew1) | exact HB.out)))).mono ?_); rintro e w' ⟨rfl, ⟨nd, rfl⟩⟩) | ((with_reducible refine (HF2.out _ (Kd.C_below HR2.out (by repeat (first | (with_reducible first | exact HB.out | apply below_alloc | apply pw_below_drewN | apply below_drew1) | exact HB.out)))).mono ?_); rintro e w' ⟨rfl, ⟨nd, rfl⟩⟩))
    go_ret
    exact ⟨rfl, (by repeat (first | (with_reducible first | exact HB.out | apply below_alloc | apply pw_below_drewN | apply below_drew1) | exact HB.out))⟩
  | true =>
  have hln := fits_len G1.out
  have hmn := fits_len G2.out
  by_cases hfew : l.length ≤ 30 ∧ m.length ≤ 30
  · obtain ⟨hl30, hm30⟩ := hfew
    have hF : (decide (l.length ≤ 30) && decide (m.length ≤ 30)) = true := by simp [hl30, hm30]
    have HXL : Aside0 (∀ p ∈ l.map mk, p.size ≤ 140737488351232) := ⟨fun p hp => by have := fits_all G1.out p hp; omega⟩
    have HXM : Aside0 (∀ p ∈ m.map mk, p.size ≤ 140737488351232) := ⟨fun p hp => by have := fits_all G2.out p hp; omega⟩
    have HS : Aside0 (∀ w, Kd.C Kd.string w A l.length (l.map mk) → Kd.C Kd.string w B m.length (m.map mk) → Calls Try.prog 10 #[.slice A l.length c, .string s, .slice B m.length d] w fun e w' => e = .returned (.tuple #[.bool (l.contains s.data.toList), .bool (m.all fun p => l.contains p), .bool (m.any fun p => l.contains p)]) ∧ Below w.heap.size w w') := ⟨fun w h1 h2 => by
      have h := SetHas_calls A c (l.map mk) s B d (m.map mk) HXL.out HXM.out (by omega) (by rw [List.length_map]; omega) (by rw [List.length_map]; omega) w (by rw [List.length_map]; exact h1) (by rw [List.length_map]; exact hc) (by rw [List.length_map]; exact h2) (by rw [List.length_map]; exact hd)
      rw [List.length_map, List.length_map, keysOf_mk, List.all_map, List.any_map] at h
      exact h⟩
    have HK : Aside0 (∀ w, Kd.C Kd.string w A l.length (l.map mk) → Kd.C Kd.string w B m.length (m.map mk) → Calls Try.prog 11 #[.slice B m.length d, .slice A l.length c, .bool true] w fun e w' => ∃ v0 : Value, e = .returned v0 ∧ Kd.R Kd.string 9 w' w.heap.size (fun _ => True) v0 ((kept m l true).map mk) ∧ Below w.heap.size w w') := ⟨fun w h1 h2 => Kept_calls B d m A c l true w h2 hd h1 hc (by omega) (by omega)⟩
    have HH : Aside0 (∀ w, Kd.C Kd.string w A l.length (l.map mk) → Calls Try.prog 12 #[.slice A l.length c, .string s] w fun e w' => e = .returned (.bool (l.contains s.data.toList)) ∧ Drawn0 w w') := ⟨fun w h1 => Holds_calls A c l s w h1 hc (by omega)⟩
    have hka := kept_all m l
    have hkb := kept_any m l
    have hkl : (kept m l true).length ≤ m.length := List.length_filter_le _ _
    obtain ⟨k, hk⟩ : ∃ k, kept m l true = k := ⟨_, rfl⟩
    rw [hk] at HK hka hkb hkl
    obtain ⟨q1, hq1⟩ : ∃ q, l.contains s.data.toList = q := ⟨_, rfl⟩
    obtain ⟨q2, hq2⟩ : ∃ q, (m.all fun p => l.contains p) = q := ⟨_, rfl⟩
    obtain ⟨q3, hq3⟩ : ∃ q, (m.any fun p => l.contains p) = q := ⟨_, rfl⟩
    rw [hq1, hq2, hq3] at HS
    rw [hq1] at HH
    rw [hq2] at hka; rw [hq3] at hkb
    have HO : Aside0 (∀ (W : World) (H : Nat), W.heap.size = H → Calls Try.prog 10 #[.slice (some ⟨H, 0, none⟩) 1 1, .string ⟨#[97]⟩, .slice none 0 0] (W.alloc (.cells #[.string ⟨#[97]⟩] 9)) fun e w' => e = .returned (.tuple #[.bool true, .bool true, .bool false]) ∧ Below (W.alloc (.cells #[.string ⟨#[97]⟩] 9)).heap.size (W.alloc (.cells #[.string ⟨#[97]⟩] 9)) w') := ⟨fun W H hH => SetHas_calls (some ⟨H, 0, none⟩) 1 [⟨#[97]⟩] ⟨#[97]⟩ none 0 [] (by decide) (by simp) (by decide) (by decide) (by decide) _ (C_lit W H hH [⟨#[97]⟩] (by decide)) (by decide) (Kd.C_nil _ _) (by decide)⟩
    have HKL := Aside0.mk (And.intro hka.symm hkb.symm)
    clear hk hq1 hq2 hq3 hka hkb
    cases q2 <;> cases q3
    all_goals
      have hk1 := HKL.out.1
      have hk2 := HKL.out.2
      clear HKL
      go_enter Try.func3, Try.ntmps3
      go_wp2_with (first | ((with_reducible refine (HF1.out _ (Kd.C_below HR1.out (by repeat (first | (with_reducible first | exact HB.out | apply below_alloc | apply pw_below_drewN | apply below_drew1) | exact HB.out)))).mono ?_); rintro e w' ⟨rfl, ⟨nd, rfl⟩⟩) | ((with_reducible refine (HF2.out _ (Kd.C_below HR2.out (by repeat (first | (with_reducible first | exact HB.out | apply below_alloc | apply pw_below_drewN | apply below_drew1) | exact HB.out)))).mono ?_); rintro e w' ⟨rfl, ⟨nd, rfl⟩⟩) | ((with_reducible refine (Few2_calls _ _ ?hH A B l.length c m.length d hln hmn).mono ?_); (case hH => rfl); rintro e w' ⟨rfl, rfl⟩) | ((with_reducible refine (HS.out _ (Kd.C_below HR1.out (by repeat (first | (with_reducible first | exact HB.out | apply below_alloc | apply pw_below_drewN | apply below_drew1) | exact HB.out))) (Kd.C_below HR2.out (by repeat (first | (with_reducible first | exact HB.out | apply below_alloc | apply pw_below_drewN | apply below_drew1) | exact HB.out)))).mono ?_); rintro e w' ⟨rfl, hb⟩; have nb_ := Aside0.mk (below_step (by repeat (first | (with_reducible first | exact HB.out | apply below_alloc | apply pw_below_drewN | apply below_drew1) | exact HB.out)) hb); clear HB; have HB := nb_; clear nb_; (try clear hb)) | ((with_reducible refine (HK.out _ (Kd.C_below HR1.out (by repeat (first | (with_reducible first | exact HB.out | apply below_alloc | apply pw_below_drewN | apply below_drew1) | exact HB.out))) (Kd.C_below HR2.out (by repeat (first | (with_reducible first | exact HB.out | apply below_alloc | apply pw_below_drewN | apply below_drew1) | exact HB.out)))).mono ?_); rintro e w' ⟨v0, rfl, g1, hb⟩; (obtain ⟨A3, c3, e3⟩ := Kd.R_slice g1); rw [List.length_map] at e3; subst e3; clear g1; have nb_ := Aside0.mk (below_step (by repeat (first | (with_reducible first | exact HB.out | apply below_alloc | apply pw_below_drewN | apply below_drew1) | exact HB.out)) hb); clear HB; have HB := nb_; clear nb_; (try clear hb)) | ((with_reducible refine (HO.out _ _ ?hO).mono ?_); (case hO => rfl); rintro e w' ⟨rfl, hb⟩; have nb_ := Aside0.mk (below_step (by repeat (first | (with_reducible first | exact HB.out | apply below_alloc | apply pw_below_drewN | apply below_drew1) | exact HB.out)) hb); clear HB; have HB := nb_; clear nb_; (try clear hb)) | ((with_reducible refine (HH.out _ (Kd.C_below HR1.out (by repeat (first | (with_reducible first | exact HB.out | apply below_alloc | apply pw_below_drewN | apply below_drew1) | exact HB.out)))).mono ?_); rintro e w' ⟨rfl, ⟨nd2, rfl⟩⟩))
      go_ret
      exact ⟨by first | rfl | exact congrArg (fun b : Bool => Ending.returned (Value.bool b)) (by first | (simp; done) | (simp at hk1 hk2; simp; omega)), (by repeat (first | (with_reducible first | exact HB.out | apply below_alloc | apply pw_below_drewN | apply below_drew1) | exact HB.out))⟩
  · have hF : (decide (l.length ≤ 30) && decide (m.length ≤ 30)) = false := by rw [Bool.eq_false_iff]; simpa using hfew
    clear hfew
    go_enter Try.func3, Try.ntmps3
    go_wp2_with (first | ((with_reducible refine (HF1.out _ (Kd.C_below HR1.out (by repeat (first | (with_reducible first | exact HB.out | apply below_alloc | apply pw_below_drewN | apply below_drew1) | exact HB.out)))).mono ?_); rintro e w' ⟨rfl, ⟨nd, rfl⟩⟩) | ((with_reducible refine (HF2.out _ (Kd.C_below HR2.out (by repeat (first | (with_reducible first | exact HB.out | apply below_alloc | apply pw_below_drewN | apply below_drew1) | exact HB.out)))).mono ?_); rintro e w' ⟨rfl, ⟨nd, rfl⟩⟩) | ((with_reducible refine (Few2_calls _ _ ?hH A B l.length c m.length d hln hmn).mono ?_); (case hH => rfl); rintro e w' ⟨rfl, rfl⟩))
    go_ret
    exact ⟨rfl, (by repeat (first | (with_reducible first | exact HB.out | apply below_alloc | apply pw_below_drewN | apply below_drew1) | exact HB.out))⟩
end Go.Proofs.Ytghekbffjonceaa.Hand
