/- epClean and FnPathParts, by hand. -/
import Derived.Test.YtllmmnhgchidkaaPathPure
import Derived.Test.YtllmmnhgchidkaaPathPrefix
namespace Go.Proofs.Ytllmmnhgchidkaa.Hand
open Go.RowKit Go.Proofs.YtllmmnhgchidkaaW.PrintWords Go.Proofs.YtllmmnhgchidkaaW.PrintLast Go.Proofs.YtllmmnhgchidkaaW.PrintMore Go.Proofs.Ytllmmnhgchidkaa.Base Go.Proofs.Ytllmmnhgchidkaa.PFnPathParts
set_option linter.unusedVariables false
set_option linter.unusedSimpArgs false
set_option maxRecDepth 100000

theorem NamesC (s : ByteArray) (hs : s.size ≤ 100000) (w : World) :
    Calls Try.prog 34 #[.string s] w fun e w' => ∃ v0 : Value, e = .returned v0 ∧ Kd.R Kd.string 9 w' w.heap.size (fun _ => True) v0 ((names s.data.toList).map mk) ∧ Below w.heap.size w w' := by
  obtain ⟨k, hk⟩ := (names_ev s.data.toList (by rw [← Lib.size_eq]; omega)).rounds
  rw [← mk_of s] at hk
  exact spec_Names.calls k s _ w hk

set_option maxHeartbeats 4000000 in
theorem epClean_calls (s : ByteArray) (hs : s.size ≤ 2147483647) (w : World) :
    Calls Try.prog 33 #[.string s] w fun e w' => e = .returned (.bool (epc s.data.toList)) ∧ Below w.heap.size w w' := by
  have HB := Aside0.mk (Below.refl w.heap.size w)
  obtain ⟨x, hx, hxs⟩ : ∃ x : L, s = mk x ∧ s.size = x.length := exists_mk s
  obtain ⟨y, hy⟩ : ∃ y : List ByteArray, y = [s] := ⟨_, rfl⟩
  have hsd : s.data.toList = x := by rw [hx]; rfl
  have sl : s.toList = x := by rw [hx, mk_toList]
  have hym : y = [x].map mk := by rw [hy, hx]; rfl
  rw [hsd]
  have he : ∀ (A : Option Addr) (c : Nat) (w : World), Kd.C Kd.string w A y.length y → y.length ≤ c → Calls Try.prog 19 #[.slice A y.length c] w fun e w' => e = .returned (.bool (epOk [x])) ∧ Drawn0 w w' := by
    intro A c w hr hc
    subst hym
    refine epPath_calls A c [x] w hr hc ?_
    unfold fits5
    simp; omega
  have HY := Aside0.mk hy
  clear hy hym
  cases hok : epOk [x] with
  | false =>
    rw [hok] at he
    have HRES : Aside0 (epc x = false) := ⟨by unfold epc; rw [hok]; rfl⟩
    have HE := Aside0.mk he
    clear he hok hx hxs hsd sl
    go_enter Try.func33, Try.ntmps33
    go_wp2_with (first | ((with_reducible refine gate_dst (N := 6) rfl ?_); (try (refine gate_guard (by rfl) ?_; dsimp only)); refine Kd.R_lit Kd.string _ 9 ?hg (N := 6) ?hd (xs := ([s] : List ByteArray)) (inner := [.string s]) (ok := fun _ => True) (okp := fun _ => True) ?hr ?hp (fun _ hk => hk) trivial (Below.refl _ _) (Nat.le_refl _) (by simp) ?_; (case hd => rfl); (case hg => rfl); (case hr => first | (go_simp; done) | (go_simp; rfl)); (case hp => exact (Reps.one (show Kd.M Kd.string _ _ _ s [.string s] from rfl) (Reps.none _ _))); intro vN wN hoL hb hg_ hnew_; clear hg_ hnew_; (first | rw [← HY.out] at hoL | (simp only [Int.reduceToNat] at hoL; rw [← HY.out] at hoL)); have nl_ := Aside0.mk (Kd.R_lower hoL (below_size (by repeat (first | (with_reducible first | exact HB.out | apply below_alloc | apply pw_below_drewN | apply below_drew1) | exact HB.out)))); have nb_ := Aside0.mk (below_step (by repeat (first | (with_reducible first | exact HB.out | apply below_alloc | apply pw_below_drewN | apply below_drew1) | exact HB.out)) hb); clear HB; have HL1 := nl_; have HB := nb_; clear nl_ nb_; clear hb hoL; obtain ⟨AL1, cL1, eL1⟩ := Kd.R_slice HL1.out; subst eL1) | ((with_reducible refine gate_callee (f := 19) rfl ?_); (try (refine gate_guard (by rfl) ?_; dsimp only)); refine goesL_ (some 7) rfl rfl Try.func19 (by kernel_rfl) rfl #[.slice AL1 y.length cL1] rfl (by (try simp only [List.map_toArray, List.map_cons, List.map_nil]); first | done | rfl) ?_; (with_reducible refine (HE.out _ _ _ (Kd.R_reads' HL1.out).2.2 (Kd.R_reads' HL1.out).2.1).mono ?_); rintro e wN ⟨rfl, ⟨nd, rfl⟩⟩; refine ⟨_, rfl, ?_⟩; skip))
    go_ret
    exact ⟨by rw [HRES.out]; rfl, (by repeat (first | (with_reducible first | exact HB.out | apply below_alloc | apply pw_below_drewN | apply below_drew1) | exact HB.out))⟩
  | true =>
    rw [hok] at he
    have HE := Aside0.mk he
    have hs2 : s.size ≤ 200 := by rw [hxs]; exact ((epOk_bd hok).2 x (by simp)).1
    by_cases e1 : x = []
    · have t1 : (s.toList == ([] : List UInt8)) = true := by rw [sl, e1]; rfl
      have HRES : Aside0 (epc x = false) := ⟨by unfold epc; rw [e1]; simp⟩
      clear e1 he hok hx hxs hsd sl
      go_enter Try.func33, Try.ntmps33
      go_wp2_with (first | ((with_reducible refine gate_dst (N := 6) rfl ?_); (try (refine gate_guard (by rfl) ?_; dsimp only)); refine Kd.R_lit Kd.string _ 9 ?hg (N := 6) ?hd (xs := ([s] : List ByteArray)) (inner := [.string s]) (ok := fun _ => True) (okp := fun _ => True) ?hr ?hp (fun _ hk => hk) trivial (Below.refl _ _) (Nat.le_refl _) (by simp) ?_; (case hd => rfl); (case hg => rfl); (case hr => first | (go_simp; done) | (go_simp; rfl)); (case hp => exact (Reps.one (show Kd.M Kd.string _ _ _ s [.string s] from rfl) (Reps.none _ _))); intro vN wN hoL hb hg_ hnew_; clear hg_ hnew_; (first | rw [← HY.out] at hoL | (simp only [Int.reduceToNat] at hoL; rw [← HY.out] at hoL)); have nl_ := Aside0.mk (Kd.R_lower hoL (below_size (by repeat (first | (with_reducible first | exact HB.out | apply below_alloc | apply pw_below_drewN | apply below_drew1) | exact HB.out)))); have nb_ := Aside0.mk (below_step (by repeat (first | (with_reducible first | exact HB.out | apply below_alloc | apply pw_below_drewN | apply below_drew1) | exact HB.out)) hb); clear HB; have HL1 := nl_; have HB := nb_; clear nl_ nb_; clear hb hoL; obtain ⟨AL1, cL1, eL1⟩ := Kd.R_slice HL1.out; subst eL1) | ((with_reducible refine gate_callee (f := 19) rfl ?_); (try (refine gate_guard (by rfl) ?_; dsimp only)); refine goesL_ (some 7) rfl rfl Try.func19 (by kernel_rfl) rfl #[.slice AL1 y.length cL1] rfl (by (try simp only [List.map_toArray, List.map_cons, List.map_nil]); first | done | rfl) ?_; (with_reducible refine (HE.out _ _ _ (Kd.R_reads' HL1.out).2.2 (Kd.R_reads' HL1.out).2.1).mono ?_); rintro e wN ⟨rfl, ⟨nd, rfl⟩⟩; refine ⟨_, rfl, ?_⟩; skip))
      go_ret
      exact ⟨by rw [HRES.out]; rfl, (by repeat (first | (with_reducible first | exact HB.out | apply below_alloc | apply pw_below_drewN | apply below_drew1) | exact HB.out))⟩
    have t1 : (s.toList == ([] : List UInt8)) = false := by rw [sl]; simpa using e1
    by_cases e2 : x = [47]
    · have t2 : (s.toList == ([47] : List UInt8)) = true := by rw [sl, e2]; rfl
      have HRES : Aside0 (epc x = false) := ⟨by unfold epc; rw [e2]; simp⟩
      clear e1 e2 he hok hx hxs hsd sl
      go_enter Try.func33, Try.ntmps33
      go_wp2_with (first | ((with_reducible refine gate_dst (N := 6) rfl ?_); (try (refine gate_guard (by rfl) ?_; dsimp only)); refine Kd.R_lit Kd.string _ 9 ?hg (N := 6) ?hd (xs := ([s] : List ByteArray)) (inner := [.string s]) (ok := fun _ => True) (okp := fun _ => True) ?hr ?hp (fun _ hk => hk) trivial (Below.refl _ _) (Nat.le_refl _) (by simp) ?_; (case hd => rfl); (case hg => rfl); (case hr => first | (go_simp; done) | (go_simp; rfl)); (case hp => exact (Reps.one (show Kd.M Kd.string _ _ _ s [.string s] from rfl) (Reps.none _ _))); intro vN wN hoL hb hg_ hnew_; clear hg_ hnew_; (first | rw [← HY.out] at hoL | (simp only [Int.reduceToNat] at hoL; rw [← HY.out] at hoL)); have nl_ := Aside0.mk (Kd.R_lower hoL (below_size (by repeat (first | (with_reducible first | exact HB.out | apply below_alloc | apply pw_below_drewN | apply below_drew1) | exact HB.out)))); have nb_ := Aside0.mk (below_step (by repeat (first | (with_reducible first | exact HB.out | apply below_alloc | apply pw_below_drewN | apply below_drew1) | exact HB.out)) hb); clear HB; have HL1 := nl_; have HB := nb_; clear nl_ nb_; clear hb hoL; obtain ⟨AL1, cL1, eL1⟩ := Kd.R_slice HL1.out; subst eL1) | ((with_reducible refine gate_callee (f := 19) rfl ?_); (try (refine gate_guard (by rfl) ?_; dsimp only)); refine goesL_ (some 7) rfl rfl Try.func19 (by kernel_rfl) rfl #[.slice AL1 y.length cL1] rfl (by (try simp only [List.map_toArray, List.map_cons, List.map_nil]); first | done | rfl) ?_; (with_reducible refine (HE.out _ _ _ (Kd.R_reads' HL1.out).2.2 (Kd.R_reads' HL1.out).2.1).mono ?_); rintro e wN ⟨rfl, ⟨nd, rfl⟩⟩; refine ⟨_, rfl, ?_⟩; skip))
      go_ret
      exact ⟨by rw [HRES.out]; rfl, (by repeat (first | (with_reducible first | exact HB.out | apply below_alloc | apply pw_below_drewN | apply below_drew1) | exact HB.out))⟩
    have t2 : (s.toList == ([47] : List UInt8)) = false := by rw [sl]; simpa using e2
    obtain ⟨cd, hcd⟩ : ∃ cd, mk (clean x) = cd := ⟨_, rfl⟩
    have hc1 : ∀ w, Calls Try.prog 21 #[.string s] w fun e w' => e = .returned (.string cd) ∧ Below w.heap.size w w' := by
      intro w; have h := Clean_calls s (by omega) w; rw [hsd, hcd] at h; exact h
    have HC := Aside0.mk hc1; clear hc1
    by_cases e3 : clean x = x
    case neg =>
      have t3 : (cd.toList == s.toList) = false := by rw [← hcd, mk_toList, sl]; simpa using e3
      have HRES : Aside0 (epc x = false) := ⟨by unfold epc; rw [show (clean x == x) = false by simpa using e3]; simp⟩
      clear e1 e2 e3 he hok hx hxs hsd sl hcd
      go_enter Try.func33, Try.ntmps33
      go_wp2_with (first | ((with_reducible refine gate_dst (N := 6) rfl ?_); (try (refine gate_guard (by rfl) ?_; dsimp only)); refine Kd.R_lit Kd.string _ 9 ?hg (N := 6) ?hd (xs := ([s] : List ByteArray)) (inner := [.string s]) (ok := fun _ => True) (okp := fun _ => True) ?hr ?hp (fun _ hk => hk) trivial (Below.refl _ _) (Nat.le_refl _) (by simp) ?_; (case hd => rfl); (case hg => rfl); (case hr => first | (go_simp; done) | (go_simp; rfl)); (case hp => exact (Reps.one (show Kd.M Kd.string _ _ _ s [.string s] from rfl) (Reps.none _ _))); intro vN wN hoL hb hg_ hnew_; clear hg_ hnew_; (first | rw [← HY.out] at hoL | (simp only [Int.reduceToNat] at hoL; rw [← HY.out] at hoL)); have nl_ := Aside0.mk (Kd.R_lower hoL (below_size (by repeat (first | (with_reducible first | exact HB.out | apply below_alloc | apply pw_below_drewN | apply below_drew1) | exact HB.out)))); have nb_ := Aside0.mk (below_step (by repeat (first | (with_reducible first | exact HB.out | apply below_alloc | apply pw_below_drewN | apply below_drew1) | exact HB.out)) hb); clear HB; have HL1 := nl_; have HB := nb_; clear nl_ nb_; clear hb hoL; obtain ⟨AL1, cL1, eL1⟩ := Kd.R_slice HL1.out; subst eL1) | ((with_reducible refine gate_callee (f := 19) rfl ?_); (try (refine gate_guard (by rfl) ?_; dsimp only)); refine goesL_ (some 7) rfl rfl Try.func19 (by kernel_rfl) rfl #[.slice AL1 y.length cL1] rfl (by (try simp only [List.map_toArray, List.map_cons, List.map_nil]); first | done | rfl) ?_; (with_reducible refine (HE.out _ _ _ (Kd.R_reads' HL1.out).2.2 (Kd.R_reads' HL1.out).2.1).mono ?_); rintro e wN ⟨rfl, ⟨nd, rfl⟩⟩; refine ⟨_, rfl, ?_⟩; skip) | ((with_reducible refine gate_callee (f := 21) rfl ?_); (try (refine gate_guard (by rfl) ?_; dsimp only)); refine goesL_ (some 19) rfl rfl Try.func21 (by kernel_rfl) rfl #[.string s] rfl (by (try simp only [List.map_toArray, List.map_cons, List.map_nil]); first | done | rfl) ?_; (with_reducible refine (HC.out _).mono ?_); rintro e wN ⟨rfl, hb⟩; refine ⟨_, rfl, ?_⟩; have nb_ := Aside0.mk (below_step (by repeat (first | (with_reducible first | exact HB.out | apply below_alloc | apply pw_below_drewN | apply below_drew1) | exact HB.out)) hb); clear HB; have HB := nb_; clear nb_; (try clear hb)))
      go_ret
      exact ⟨by rw [HRES.out]; rfl, (by repeat (first | (with_reducible first | exact HB.out | apply below_alloc | apply pw_below_drewN | apply below_drew1) | exact HB.out))⟩
    have t3 : (cd.toList == s.toList) = true := by rw [← hcd, mk_toList, sl]; simpa using e3
    have hres : epc x = (names x).all (fun n => !(n == [46]) && !(n == [46, 46])) := by
      unfold epc
      rw [hok, show (x == []) = false by simpa using e1, show (x == [47]) = false by simpa using e2, show (clean x == x) = true by simpa using e3]
      simp
    have HRES := Aside0.mk hres
    have hnl := names_len x
    rw [← hxs] at hnl
    have HNC : Aside0 (∀ w, Calls Try.prog 34 #[.string s] w fun e w' => ∃ v0 : Value, e = .returned v0 ∧ Kd.R Kd.string 9 w' w.heap.size (fun _ => True) v0 ((names x).map mk) ∧ Below w.heap.size w w') :=
      ⟨fun w => by have h := NamesC s (by omega) w; rw [hsd] at h; exact h⟩
    have NL := Aside0.mk hnl
    clear e1 e2 e3 he hok hx hxs hsd sl hcd hres hnl
    go_enter Try.func33, Try.ntmps33
    go_wp2_with (first | ((with_reducible refine gate_dst (N := 6) rfl ?_); (try (refine gate_guard (by rfl) ?_; dsimp only)); refine Kd.R_lit Kd.string _ 9 ?hg (N := 6) ?hd (xs := ([s] : List ByteArray)) (inner := [.string s]) (ok := fun _ => True) (okp := fun _ => True) ?hr ?hp (fun _ hk => hk) trivial (Below.refl _ _) (Nat.le_refl _) (by simp) ?_; (case hd => rfl); (case hg => rfl); (case hr => first | (go_simp; done) | (go_simp; rfl)); (case hp => exact (Reps.one (show Kd.M Kd.string _ _ _ s [.string s] from rfl) (Reps.none _ _))); intro vN wN hoL hb hg_ hnew_; clear hg_ hnew_; (first | rw [← HY.out] at hoL | (simp only [Int.reduceToNat] at hoL; rw [← HY.out] at hoL)); have nl_ := Aside0.mk (Kd.R_lower hoL (below_size (by repeat (first | (with_reducible first | exact HB.out | apply below_alloc | apply pw_below_drewN | apply below_drew1) | exact HB.out)))); have nb_ := Aside0.mk (below_step (by repeat (first | (with_reducible first | exact HB.out | apply below_alloc | apply pw_below_drewN | apply below_drew1) | exact HB.out)) hb); clear HB; have HL1 := nl_; have HB := nb_; clear nl_ nb_; clear hb hoL; obtain ⟨AL1, cL1, eL1⟩ := Kd.R_slice HL1.out; subst eL1) | ((with_reducible refine gate_callee (f := 19) rfl ?_); (try (refine gate_guard (by rfl) ?_; dsimp only)); refine goesL_ (some 7) rfl rfl Try.func19 (by kernel_rfl) rfl #[.slice AL1 y.length cL1] rfl (by (try simp only [List.map_toArray, List.map_cons, List.map_nil]); first | done | rfl) ?_; (with_reducible refine (HE.out _ _ _ (Kd.R_reads' HL1.out).2.2 (Kd.R_reads' HL1.out).2.1).mono ?_); rintro e wN ⟨rfl, ⟨nd, rfl⟩⟩; refine ⟨_, rfl, ?_⟩; skip) | ((with_reducible refine gate_callee (f := 21) rfl ?_); (try (refine gate_guard (by rfl) ?_; dsimp only)); refine goesL_ (some 19) rfl rfl Try.func21 (by kernel_rfl) rfl #[.string s] rfl (by (try simp only [List.map_toArray, List.map_cons, List.map_nil]); first | done | rfl) ?_; (with_reducible refine (HC.out _).mono ?_); rintro e wN ⟨rfl, hb⟩; refine ⟨_, rfl, ?_⟩; have nb_ := Aside0.mk (below_step (by repeat (first | (with_reducible first | exact HB.out | apply below_alloc | apply pw_below_drewN | apply below_drew1) | exact HB.out)) hb); clear HB; have HB := nb_; clear nb_; (try clear hb)) | ((with_reducible refine gate_callee (f := 34) rfl ?_); (try (refine gate_guard (by rfl) ?_; dsimp only)); refine goesL_ (some 24) rfl rfl Try.func34 (by kernel_rfl) rfl #[.string s] rfl (by (try simp only [List.map_toArray, List.map_cons, List.map_nil]); first | done | rfl) ?_; (with_reducible refine (HNC.out _).mono ?_); rintro e wN ⟨v24, rfl, ho0, hb⟩; refine ⟨_, rfl, ?_⟩; have nq_ := Aside0.mk (Kd.R_lower ho0 (below_size (by repeat (first | (with_reducible first | exact HB.out | apply below_alloc | apply pw_below_drewN | apply below_drew1) | exact HB.out)))); have nb_ := Aside0.mk (below_step (by repeat (first | (with_reducible first | exact HB.out | apply below_alloc | apply pw_below_drewN | apply below_drew1) | exact HB.out)) hb); clear HB; have HB := nb_; clear nb_; (try clear hb); have HQ := nq_; clear nq_ ho0; (obtain ⟨AQ, cQ, eQ⟩ := Kd.R_slice HQ.out); (rw [List.length_map] at eQ); subst eQ))
    clear HE HC HY HL1
    go_loopg [26] ((names x).length) (fun g v26 w' => ∃ i : Nat, v26 = .int .i64 i ∧ Aside0 (g + i = (names x).length ∧ epc x = ((names x).drop i).all (fun n => !(n == [46]) && !(n == [46, 46]))) ∧ Aside0 (Kd.R Kd.string 9 w' w.heap.size (fun _ => True) (.slice AQ (names x).length cQ) ((names x).map mk)) ∧ Aside0 (Below w.heap.size w w'))
    case atStart => exact ⟨0, rfl, ⟨by omega, by rw [HRES.out, List.drop_zero]⟩, ⟨by (with_reducible repeat (first | apply Kd.R_alloc | apply Kd.R_drewN | apply Kd.R_drew)); exact HQ.out⟩, ⟨(by repeat (first | (with_reducible first | exact HB.out | apply below_alloc | apply pw_below_drewN | apply below_drew1) | exact HB.out))⟩⟩
    case round =>
      clear HB HQ HRES
      obtain ⟨i, rfl, HI, HQ, HB⟩ := hrel
      have hi : i ≤ (names x).length := by have := HI.out.1; omega
      have hn := NL.out
      by_cases hlt : i < (names x).length
      · obtain ⟨ad, eA, hcell⟩ := Kd.at_string (Kd.R_reads' HQ.out).2.2 (i : Int) (by omega) (by simp; omega)
        subst eA
        obtain ⟨p, hp⟩ : ∃ p, (names x).getD i [] = p := ⟨_, rfl⟩
        rw [rd_mk, Int.toNat_natCast, hp] at hcell
        obtain ⟨sp, hsp⟩ : ∃ sp, mk p = sp := ⟨_, rfl⟩
        rw [hsp] at hcell
        have hnext : epc x = ((!(p == [46]) && !(p == [46, 46])) && ((names x).drop (i + 1)).all (fun n => !(n == [46]) && !(n == [46, 46]))) := by
          rw [HI.out.2, List.drop_eq_getElem_cons hlt, List.all_cons, ← getD_of (names x) [] hlt, hp]
        have HNX := Aside0.mk hnext
        have tE : ∀ q : L, (sp.toList == q) = (p == q) := fun q => by rw [← hsp, mk_toList]
        clear hp hsp hnext
        by_cases h1 : p = [46]
        · have t1 : (sp.toList == ([46] : List UInt8)) = true := by rw [tE, h1]; rfl
          have HRES : Aside0 (epc x = false) := ⟨by rw [HNX.out, h1]; simp⟩
          clear h1 tE
          go_wp2
          go_ret
          exact ⟨by rw [HRES.out]; rfl, HB.out⟩
        · have t1 : (sp.toList == ([46] : List UInt8)) = false := by rw [tE]; simpa using h1
          by_cases h2 : p = [46, 46]
          · have t2 : (sp.toList == ([46, 46] : List UInt8)) = true := by rw [tE, h2]; rfl
            have HRES : Aside0 (epc x = false) := ⟨by rw [HNX.out, h2]; simp⟩
            clear h1 h2 tE
            go_wp2
            go_ret
            exact ⟨by rw [HRES.out]; rfl, HB.out⟩
          · have t2 : (sp.toList == ([46, 46] : List UInt8)) = false := by rw [tE]; simpa using h2
            have HRES : Aside0 (epc x = ((names x).drop (i + 1)).all (fun n => !(n == [46]) && !(n == [46, 46]))) := ⟨by rw [HNX.out, show (p == [46]) = false by simpa using h1, show (p == [46, 46]) = false by simpa using h2]; simp⟩
            clear h1 h2 tE
            go_wp2
            go_roundg (gk - 1)
            case measure => have := HI.out.1; omega
            case rel => exact ⟨i + 1, by go_num, ⟨by have := HI.out.1; omega, HRES.out⟩, HQ, HB⟩
      · have HRES : Aside0 (epc x = true) := ⟨by rw [HI.out.2, List.drop_eq_nil_of_le (by omega)]; rfl⟩
        go_wp2
        go_ret
        exact ⟨by rw [HRES.out]; rfl, HB.out⟩

/-- PathParts of a path that epClean lets in. -/
theorem PathPartsC (s : ByteArray) (h : epc s.data.toList = true) (w : World) :
    Calls Try.prog 38 #[.string s] w fun e w' => ∃ v0 : Value, e = .returned v0 ∧ Kd.R Kd.string 9 w' w.heap.size (fun _ => True) v0 (((if rooted s.data.toList = true then [[]] else []) ++ names s.data.toList).map mk) ∧ Below w.heap.size w w' := by
  obtain ⟨x, hx⟩ : ∃ x : L, s.data.toList = x := ⟨_, rfl⟩
  have hm : s = mk x := by rw [← hx]; exact mk_of s
  rw [hx] at h ⊢
  obtain ⟨h1, h2, h3, h4, h5⟩ := epc_form h
  have hl := names_len x
  have hpl : (names x).length = ((names x).length - 1) + 1 := by have := List.length_pos_iff.2 h3; omega
  have hk : ∃ k, filesys_PathSplit.f k (mk x) = some (((if rooted x = true then [[]] else []) ++ names x).map mk) := by
    cases hr : rooted x with
    | true =>
      rw [hr, if_pos rfl] at h5
      have h6 : x = [47] ++ joinL [47] (names x) := h5
      have h7 := pathSplit_ev [47] (.inr rfl) _ (names x) hpl h2 (by rw [← h6]; omega) (by omega)
      rw [← h6] at h7
      exact h7.rounds
    | false =>
      rw [hr, if_neg (by decide)] at h5
      have h6 : x = [] ++ joinL [47] (names x) := h5
      have h7 := pathSplit_ev [] (.inl rfl) _ (names x) hpl h2 (by rw [← h6]; omega) (by omega)
      rw [← h6] at h7
      exact h7.rounds
  obtain ⟨k, hk⟩ := hk
  refine impl_PathParts.calls k s _ w ?_
  unfold impl_PathParts.f
  rw [hm, hk]; rfl

set_option maxHeartbeats 1000000 in
theorem PathJoin_rooted (A : Option Addr) (c : Nat) (ns : List L) (w : World) (hr : Kd.C Kd.string w A (ns.length + 1) (([] :: ns).map mk)) (hc : ns.length + 1 ≤ c) (hl : ns.length ≤ 400) (hg : Good ns) (hne : ns ≠ []) (hm : ∀ p ∈ ns, p.length ≤ 200) :
    Calls Try.prog 63 #[.slice A (ns.length + 1) c] w fun e w' => e = .returned (.string (mk (47 :: joinL [47] ns))) ∧ Below w.heap.size w w' := by
  have HB := Aside0.mk (Below.refl w.heap.size w)
  obtain ⟨ad, eA, hcell⟩ := Kd.at_string hr 0 (by omega) (by omega)
  subst eA
  rw [rd_mk] at hcell
  have hcell0 : w.cell? ad = some (.string (mk [])) := by
    have e : ad.add 0 = ad := by cases ad; rfl
    rw [show (0 : Int).toNat = 0 from rfl, e] at hcell; exact hcell
  obtain ⟨q, hq⟩ : ∃ q, mk [] = q := ⟨_, rfl⟩
  have t1 : (q.toList == ([] : List UInt8)) = true := by rw [← hq, mk_toList]; rfl
  rw [hq] at hcell0
  have hll : (([] :: ns).map mk).length = ns.length + 1 := by simp
  obtain ⟨i0, hi0, _, hsz, _⟩ := info_parts infoS
  obtain ⟨A8, hcut, hA8, hC8⟩ := print_drop_of (P := Try.prog) Value.string (⟨#[]⟩ : ByteArray) 22 9 .i64 Try.underlying22 hi0 hsz (some ad) c (([] :: ns).map mk) 1 (by omega) (by rw [hll]; omega) (by rw [hll]; exact hc)
  have hd : (([] :: ns).map mk).drop (1 : Int).toNat = ns.map mk := rfl
  rw [hd, hll] at hcut
  rw [hd] at hC8
  rw [List.length_map] at hcut hC8
  have hr8 : Kd.C Kd.string w A8 ns.length (ns.map mk) := by
    have h := hA8 w (Kd.reads_of_C (by rw [hll]; exact hr))
    rw [hd, List.length_map] at h
    exact Kd.C_of_reads (h1 := fun _ => rfl) h
  have hjp : joinPath ns = joinL [47] ns := joinPath_good hg hne
  have hjl := joinPath_len ns hl hm
  obtain ⟨so, hso⟩ : ∃ so, mk (joinPath ns) = so := ⟨_, rfl⟩
  have hz : so.size ≤ 20000400000 := by rw [← hso, mk_size]; exact hjl
  have hj : ∀ w, Kd.C Kd.string w A8 ns.length (ns.map mk) → Calls Try.prog 52 #[.slice A8 ns.length (c - 1)] w fun e w' => e = .returned (.string so) ∧ Below w.heap.size w w' := by
    intro w hr
    have h := ZzJoin_calls A8 (c - 1) ns w hr hC8 hl hm
    rw [hso] at h; exact h
  have b1 : (1 + so.size ≤ 9223372036854775807) = True := eq_true (by omega)
  have b2 : (9223372036854775807 < 1 + so.size) = False := eq_false (by omega)
  have hres : (⟨#[47]⟩ : ByteArray) ++ so = mk (47 :: joinL [47] ns) := by rw [← hso, hjp]; exact mk_append [47] (joinL [47] ns)
  have HJ := Aside0.mk hj; have HR8 := Aside0.mk hr8; have HRES := Aside0.mk hres
  clear hj hr8 hres hso hjl hjp hm hg hne hC8 hA8 hd hll hi0 hsz hq hcell hr
  go_enter Try.func63, Try.ntmps63
  go_wp2_with (first | ((with_reducible refine gate_callee (f := 52) rfl ?_); (try (refine gate_guard (by rfl) ?_; dsimp only)); refine goesL_ (some 12) rfl rfl Try.func52 (by kernel_rfl) rfl #[.slice A8 ns.length (c - 1)] rfl (by (try simp only [List.map_toArray, List.map_cons, List.map_nil]); first | done | rfl) ?_; (with_reducible refine (HJ.out _ HR8.out).mono ?_); rintro e wN ⟨rfl, hb⟩; refine ⟨_, rfl, ?_⟩; have nb_ := Aside0.mk (below_step (by repeat (first | (with_reducible first | exact HB.out | apply below_alloc | apply pw_below_drewN | apply below_drew1) | exact HB.out)) hb); clear HB; have HB := nb_; clear nb_; (try clear hb)))
  go_ret
  exact ⟨by rw [← HRES.out]; rfl, (by repeat (first | (with_reducible first | exact HB.out | apply below_alloc | apply pw_below_drewN | apply below_drew1) | exact HB.out))⟩

set_option maxHeartbeats 1000000 in
theorem PathJoin_plain (A : Option Addr) (c : Nat) (ns : List L) (w : World) (hr : Kd.C Kd.string w A ns.length (ns.map mk)) (hc : ns.length ≤ c) (hl : ns.length ≤ 400) (hg : Good ns) (hne : ns ≠ []) (hm : ∀ p ∈ ns, p.length ≤ 200) :
    Calls Try.prog 63 #[.slice A ns.length c] w fun e w' => e = .returned (.string (mk (joinL [47] ns))) ∧ Below w.heap.size w w' := by
  have HB := Aside0.mk (Below.refl w.heap.size w)
  have hpos : 0 < ns.length := List.length_pos_iff.2 hne
  obtain ⟨ad, eA, hcell⟩ := Kd.at_string hr 0 (by omega) (by omega)
  subst eA
  rw [rd_mk] at hcell
  have hcell0 : w.cell? ad = some (.string (mk (ns.getD 0 []))) := by
    have e : ad.add 0 = ad := by cases ad; rfl
    rw [show (0 : Int).toNat = 0 from rfl, e] at hcell; exact hcell
  obtain ⟨q, hq⟩ : ∃ q, mk (ns.getD 0 []) = q := ⟨_, rfl⟩
  have t1 : (q.toList == ([] : List UInt8)) = false := by
    rw [← hq, mk_toList, getD_of ns [] hpos]
    simpa using (hg _ (List.getElem_mem hpos)).1
  rw [hq] at hcell0
  have hj : ∀ w, Kd.C Kd.string w (some ad) ns.length (ns.map mk) → Calls Try.prog 52 #[.slice (some ad) ns.length c] w fun e w' => e = .returned (.string (mk (joinL [47] ns))) ∧ Below w.heap.size w w' := by
    intro w hr
    have h := ZzJoin_calls (some ad) c ns w hr hc hl hm
    rw [joinPath_good hg hne] at h; exact h
  have HJ := Aside0.mk hj; have HR := Aside0.mk hr
  clear hj hr hm hg hne hq hcell
  go_enter Try.func63, Try.ntmps63
  go_wp2_with (first | ((with_reducible refine gate_callee (f := 52) rfl ?_); (try (refine gate_guard (by rfl) ?_; dsimp only)); refine goesL_ (some 15) rfl rfl Try.func52 (by kernel_rfl) rfl #[.slice (some ad) ns.length c] rfl (by (try simp only [List.map_toArray, List.map_cons, List.map_nil]); first | done | rfl) ?_; (with_reducible refine (HJ.out _ HR.out).mono ?_); rintro e wN ⟨rfl, hb⟩; refine ⟨_, rfl, ?_⟩; have nb_ := Aside0.mk (below_step (by repeat (first | (with_reducible first | exact HB.out | apply below_alloc | apply pw_below_drewN | apply below_drew1) | exact HB.out)) hb); clear HB; have HB := nb_; clear nb_; (try clear hb)))
  go_ret
  exact ⟨rfl, (by repeat (first | (with_reducible first | exact HB.out | apply below_alloc | apply pw_below_drewN | apply below_drew1) | exact HB.out))⟩

def lead (x : L) : List L := if rooted x = true then [[]] else []
/-- PathOf of the parts of a path that epClean lets in is the path. -/
theorem PathOfC (x : L) (h : epc x = true) (A : Option Addr) (c : Nat) (w : World) (hr : Kd.C Kd.string w A (lead x ++ names x).length ((lead x ++ names x).map mk)) (hc : (lead x ++ names x).length ≤ c) (hn : (names x).length ≤ 400) :
    Calls Try.prog 39 #[.slice A (lead x ++ names x).length c] w fun e w' => e = .returned (.string (mk x)) ∧ Below w.heap.size w w' := by
  have HB := Aside0.mk (Below.refl w.heap.size w)
  obtain ⟨h1, h2, h3, h4, h5⟩ := epc_form h
  have hm : ∀ p ∈ names x, p.length ≤ 200 := fun p hp => by have := (names_mem x p hp).2; omega
  have hj : ∀ w, Kd.C Kd.string w A (lead x ++ names x).length ((lead x ++ names x).map mk) → Calls Try.prog 63 #[.slice A (lead x ++ names x).length c] w fun e w' => e = .returned (.string (mk x)) ∧ Below w.heap.size w w' := by
    intro w hr
    unfold lead at hr hc ⊢
    cases hro : rooted x with
    | true =>
      rw [hro] at h5 hr hc
      rw [if_pos rfl] at h5 hr hc
      rw [if_pos rfl]
      have e : ([[]] ++ names x).length = (names x).length + 1 := by simp
      rw [e] at hr hc ⊢
      have h6 := PathJoin_rooted A c (names x) w hr hc hn h2 h3 hm
      rw [← h5] at h6; exact h6
    | false =>
      rw [hro] at h5 hr hc
      rw [if_neg (by decide)] at h5 hr hc
      rw [if_neg (by decide)]
      have h6 := PathJoin_plain A c (names x) w hr hc hn h2 h3 hm
      rw [← h5] at h6; exact h6
  obtain ⟨n, hn⟩ : ∃ n, (lead x ++ names x).length = n := ⟨_, rfl⟩
  rw [hn] at hj hr hc ⊢
  have HJ := Aside0.mk hj; have HR := Aside0.mk hr
  clear hj hr hm h1 h2 h3 h4 h5 h hn
  go_enter Try.func39, Try.ntmps39
  go_wp2_with (first | ((with_reducible refine gate_callee (f := 63) rfl ?_); (try (refine gate_guard (by rfl) ?_; dsimp only)); refine goesL_ (some 4) rfl rfl Try.func63 (by kernel_rfl) rfl #[.slice A n c] rfl (by (try simp only [List.map_toArray, List.map_cons, List.map_nil]); first | done | rfl) ?_; (with_reducible refine (HJ.out _ HR.out).mono ?_); rintro e wN ⟨rfl, hb⟩; refine ⟨_, rfl, ?_⟩; have nb_ := Aside0.mk (below_step (by repeat (first | (with_reducible first | exact HB.out | apply below_alloc | apply pw_below_drewN | apply below_drew1) | exact HB.out)) hb); clear HB; have HB := nb_; clear nb_; (try clear hb)))
  go_ret
  exact ⟨rfl, (by repeat (first | (with_reducible first | exact HB.out | apply below_alloc | apply pw_below_drewN | apply below_drew1) | exact HB.out))⟩

theorem SameC (A : Option Addr) (c : Nat) (B : Option Addr) (d : Nat) (a b : List L) (w : World) (ha : Kd.C Kd.string w A a.length (a.map mk)) (hb : Kd.C Kd.string w B b.length (b.map mk)) (hc : a.length ≤ c) (hd : b.length ≤ d) (hz : a.length ≤ 140737488351232) :
    Calls Try.prog 36 #[.slice A a.length c, .slice B b.length d] w fun e w' => e = .returned (.bool (a == b)) ∧ Drawn0 w w' := by
  obtain ⟨k, hk⟩ := (same_ev a b hz).rounds
  have h := laws_epSame.calls k A c (a.map mk) B d (b.map mk) (a == b) w (by rw [List.length_map]; exact ha) (by rw [List.length_map]; exact hc) (by rw [List.length_map]; exact hb) (by rw [List.length_map]; exact hd) hk
  rw [List.length_map, List.length_map] at h; exact h

theorem names_few (x : L) (h : x.length ≤ 200) (hg : Good (names x)) (hne : names x ≠ []) (hx : x = (if rooted x = true then 47 :: joinL [47] (names x) else joinL [47] (names x))) : (names x).length ≤ 101 := by
  have h1 : ∀ ns : List L, Good ns → 2 * ns.length ≤ (joinL [47] ns).length + 1 := by
    intro ns
    induction ns with
    | nil => intro _; simp [joinL]
    | cons a t ih =>
      intro hg
      have ha : 0 < a.length := List.length_pos_iff.2 (hg a (by simp)).1
      cases t with
      | nil => simp [joinL]; omega
      | cons b r =>
        have := ih (fun n hn => hg n (by simp [hn]))
        simp only [joinL, List.length_append, List.length_cons, List.length_singleton] at this ⊢
        omega
  have h2 := h1 (names x) hg
  cases hr : rooted x with
  | true => rw [hr, if_pos rfl] at hx; have := congrArg List.length hx; simp only [List.length_cons] at this; omega
  | false => rw [hr, if_neg (by decide)] at hx; have := congrArg List.length hx; omega
set_option maxHeartbeats 4000000 in
theorem FnPathParts_calls (s : ByteArray) (hs : s.size ≤ 140737488351232) (w : World) :
    Calls Try.prog 11 #[.string s] w fun e w' => e = .returned (.bool true) ∧ Below w.heap.size w w' := by
  have HB := Aside0.mk (Below.refl w.heap.size w)
  by_cases g1 : s.size > 2147483647
  · go_enter Try.func11, Try.ntmps11
    go_wp2
    go_ret
    exact ⟨rfl, (by repeat (first | (with_reducible first | exact HB.out | apply below_alloc | apply pw_below_drewN | apply below_drew1) | exact HB.out))⟩
  obtain ⟨x, hx, hxs⟩ : ∃ x : L, s = mk x ∧ s.size = x.length := exists_mk s
  have hsd : s.data.toList = x := by rw [hx]; rfl
  have hec : ∀ w, Calls Try.prog 33 #[.string s] w fun e w' => e = .returned (.bool (epc x)) ∧ Below w.heap.size w w' := by
    intro w; have h := epClean_calls s (by omega) w; rw [hsd] at h; exact h
  cases hep : epc x with
  | false =>
    rw [hep] at hec
    have HEC := Aside0.mk hec
    clear hx hxs hsd hec hep
    go_enter Try.func11, Try.ntmps11
    go_wp2_with (first | ((with_reducible refine gate_callee (f := 33) rfl ?_); (try (refine gate_guard (by rfl) ?_; dsimp only)); refine goesL_ (some 9) rfl rfl Try.func33 (by kernel_rfl) rfl #[.string s] rfl (by (try simp only [List.map_toArray, List.map_cons, List.map_nil]); first | done | rfl) ?_; (with_reducible refine (HEC.out _).mono ?_); rintro e wN ⟨rfl, hb⟩; refine ⟨_, rfl, ?_⟩; have nb_ := Aside0.mk (below_step (by repeat (first | (with_reducible first | exact HB.out | apply below_alloc | apply pw_below_drewN | apply below_drew1) | exact HB.out)) hb); clear HB; have HB := nb_; clear nb_; (try clear hb)))
    go_ret
    exact ⟨rfl, (by repeat (first | (with_reducible first | exact HB.out | apply below_alloc | apply pw_below_drewN | apply below_drew1) | exact HB.out))⟩
  | true =>
    rw [hep] at hec
    have HEC := Aside0.mk hec
    obtain ⟨h1, h2, h3, h4, h5⟩ := epc_form hep
    have hfew := names_few x h1 h2 h3 h5
    have hpos : 0 < s.size := by rw [hxs]; exact List.length_pos_iff.2 h4
    obtain ⟨nm, hnm⟩ : ∃ nm, (names x).map mk = nm := ⟨_, rfl⟩
    have hnml : nm.length ≤ 101 := by rw [← hnm, List.length_map]; exact hfew
    have HNC : Aside0 (∀ w, Calls Try.prog 34 #[.string s] w fun e w' => ∃ v0 : Value, e = .returned v0 ∧ Kd.R Kd.string 9 w' w.heap.size (fun _ => True) v0 nm ∧ Below w.heap.size w w') :=
      ⟨fun w => by have h := NamesC s (by omega) w; rw [hsd, hnm] at h; exact h⟩
    have hpln : (lead x ++ names x).length ≤ 102 := by
      rw [List.length_append]
      have : (lead x).length ≤ 1 := by unfold lead; split <;> simp
      omega
    obtain ⟨pm, hpm⟩ : ∃ pm, (lead x ++ names x).map mk = pm := ⟨_, rfl⟩
    have hpml : pm.length = (lead x ++ names x).length := by rw [← hpm, List.length_map]
    have HPP : Aside0 (∀ w, Calls Try.prog 38 #[.string s] w fun e w' => ∃ v0 : Value, e = .returned v0 ∧ Kd.R Kd.string 9 w' w.heap.size (fun _ => True) v0 pm ∧ Below w.heap.size w w') :=
      ⟨fun w => by have h := PathPartsC s (by rw [hsd]; exact hep) w; rw [hsd] at h; unfold lead at hpm; rw [hpm] at h; exact h⟩
    have HSM : Aside0 (∀ (A : Option Addr) (c : Nat) (B : Option Addr) (d : Nat) (w : World), Kd.C Kd.string w A pm.length pm → Kd.C Kd.string w B pm.length pm → pm.length ≤ c → pm.length ≤ d → Calls Try.prog 36 #[.slice A pm.length c, .slice B pm.length d] w fun e w' => e = .returned (.bool true) ∧ Drawn0 w w') :=
      ⟨fun A c B d w ha hb hc hd => by
        rw [hpml] at ha hb hc hd ⊢
        rw [← hpm] at ha hb
        have h := SameC A c B d _ _ w ha hb hc hd (by omega)
        rw [beq_self_eq_true] at h; exact h⟩
    have HPO : Aside0 (∀ (A : Option Addr) (c : Nat) (w : World), Kd.C Kd.string w A pm.length pm → pm.length ≤ c → Calls Try.prog 39 #[.slice A pm.length c] w fun e w' => e = .returned (.string s) ∧ Below w.heap.size w w') :=
      ⟨fun A c w ha hc => by
        rw [hpml] at ha hc ⊢
        rw [← hpm] at ha
        have h := PathOfC x hep A c w ha hc (by omega)
        rw [← hx] at h; exact h⟩
    have HX := Aside0.mk hx
    have tS : (s.toList == s.toList) = true := by simp
    cases hr : rooted x with
    | true =>
      have hb : ∀ h : 0 < s.size, (((s[0]'h).toNat : Int) == 47) = true := fun h => (byteAt HX.out 0 47 h).trans (by
        have h6 := rooted_head x h4
        rw [hr] at h6
        have h7 : ((x.getD 0 0).toNat : Int) = 47 := by simpa using h6
        rw [beq_iff_eq]; exact UInt8.toNat_inj.1 (by simpa using (by omega : (x.getD 0 0).toNat = 47)))
      obtain ⟨y, hy⟩ : ∃ y : List ByteArray, y = [(⟨#[]⟩ : ByteArray)] := ⟨_, rfl⟩
      have HNEW : Aside0 (y ++ nm = pm) := ⟨by rw [← hpm, ← hnm, hy]; unfold lead; rw [if_pos hr, List.map_append]; rfl⟩
      have HLEN : Aside0 (y.length = 1 ∧ nm.length ≤ 101) := ⟨by rw [hy]; exact ⟨rfl, hnml⟩⟩
      have HY := Aside0.mk hy
      clear hx hxs hsd hec hep h1 h2 h3 h4 h5 hfew hpm hpln hpml hr hy hnm
      go_enter Try.func11, Try.ntmps11
      go_wp2_with (first | ((with_reducible refine gate_callee (f := 33) rfl ?_); (try (refine gate_guard (by rfl) ?_; dsimp only)); refine goesL_ (some 9) rfl rfl Try.func33 (by kernel_rfl) rfl #[.string s] rfl (by (try simp only [List.map_toArray, List.map_cons, List.map_nil]); first | done | rfl) ?_; (with_reducible refine (HEC.out _).mono ?_); rintro e wN ⟨rfl, hb⟩; refine ⟨_, rfl, ?_⟩; have nb_ := Aside0.mk (below_step (by repeat (first | (with_reducible first | exact HB.out | apply below_alloc | apply pw_below_drewN | apply below_drew1) | exact HB.out)) hb); clear HB; have HB := nb_; clear nb_; (try clear hb)) | ((with_reducible refine gate_callee (f := 34) rfl ?_); (try (refine gate_guard (by rfl) ?_; dsimp only)); refine goesL_ (some 12) rfl rfl Try.func34 (by kernel_rfl) rfl #[.string s] rfl (by (try simp only [List.map_toArray, List.map_cons, List.map_nil]); first | done | rfl) ?_; (with_reducible refine (HNC.out _).mono ?_); rintro e wN ⟨v12, rfl, ho0, hb⟩; refine ⟨_, rfl, ?_⟩; have nq_ := Aside0.mk (Kd.R_lower ho0 (below_size (by repeat (first | (with_reducible first | exact HB.out | apply below_alloc | apply pw_below_drewN | apply below_drew1) | exact HB.out)))); have nb_ := Aside0.mk (below_step (by repeat (first | (with_reducible first | exact HB.out | apply below_alloc | apply pw_below_drewN | apply below_drew1) | exact HB.out)) hb); clear HB; have HB := nb_; clear nb_; (try clear hb); have HQ := nq_; clear nq_ ho0; (obtain ⟨AQ, cQ, eQ⟩ := Kd.R_slice HQ.out); subst eQ) | ((with_reducible refine gate_dst (N := 16) rfl ?_); (try (refine gate_guard (by rfl) ?_; dsimp only)); refine Kd.R_lit Kd.string _ 9 ?hg (N := 16) ?hd (xs := ([(⟨#[]⟩ : ByteArray)] : List ByteArray)) (inner := [.string (⟨#[]⟩ : ByteArray)]) (ok := fun _ => True) (okp := fun _ => True) ?hr ?hp (fun _ hk => hk) trivial (Below.refl _ _) (Nat.le_refl _) (by simp) ?_; (case hd => rfl); (case hg => rfl); (case hr => first | (go_simp; done) | (go_simp; rfl)); (case hp => exact (Reps.one (show Kd.M Kd.string _ _ _ (⟨#[]⟩ : ByteArray) [.string (⟨#[]⟩ : ByteArray)] from rfl) (Reps.none _ _))); intro vN wN hoL hb hg_ hnew_; clear hg_ hnew_; (first | rw [← HY.out] at hoL | (simp only [Int.reduceToNat] at hoL; rw [← HY.out] at hoL)); have nc_ := Aside0.mk (Kd.R_below (by (with_reducible repeat (first | apply Kd.R_alloc | apply Kd.R_drewN | apply Kd.R_drew)); exact HQ.out) hb); clear HQ; have HQ := nc_; clear nc_; have nl_ := Aside0.mk (Kd.R_lower hoL (below_size (by repeat (first | (with_reducible first | exact HB.out | apply below_alloc | apply pw_below_drewN | apply below_drew1) | exact HB.out)))); have nb_ := Aside0.mk (below_step (by repeat (first | (with_reducible first | exact HB.out | apply below_alloc | apply pw_below_drewN | apply below_drew1) | exact HB.out)) hb); clear HB; have HD := nl_; have HB := nb_; clear nl_ nb_; clear hb hoL; obtain ⟨AD, cD, eD⟩ := Kd.R_slice HD.out; subst eD) | (((with_reducible refine gate_builtin (b := .append) (xs := #[.tmp 16, .tmp 17]) rfl ?_); (try (refine gate_guard (by rfl) ?_; dsimp only)); at_builtin; refine Kd.R_append_rows Kd.string (w0 := w) w.heap.size rfl (.tmp 16) (.tmp 17) 22 9 (.string ⟨#[]⟩) 16 rfl Try.underlying22 infoS rfl (by decide) (by omega) (.slice AD y.length cD) (y) (nm) _ _ _ (fun _ => True) (fun _ => False) rfl rfl ?aO ?aR (fun _ _ h => h) (fun _ h => h.elim) ?aF ?aB ?aS ?aL ?_; (case aR => repeat (first | exact (Kd.R_reads' HQ.out).2.2 | (with_reducible refine Kd.C_alloc ?_ _) | (with_reducible refine Kd.C_drewN ?_ _) | (with_reducible refine Kd.C_drew ?_))); (case aB => exact (by repeat (first | (with_reducible first | exact HB.out | apply below_alloc | apply pw_below_drewN | apply below_drew1) | exact HB.out))); (case aF => exact (fun _ _ => trivial)); (case aO => exact (by (with_reducible repeat (first | apply Kd.R_alloc | apply Kd.R_drewN | apply Kd.R_drew)); exact HD.out)); (case aS => exact (below_size (by repeat (first | (with_reducible first | exact HB.out | apply below_alloc | apply pw_below_drewN | apply below_drew1) | exact HB.out)))); (case aL => have := HLEN.out; (try simp only [List.length_map]); omega); intro vN wN ho hb hg hat; rw [HNEW.out] at ho; clear HB; clear HD; have HB := Aside0.mk hb; have HD := Aside0.mk ho; clear ho hb hg hat); (obtain ⟨AE, cE, eE⟩ := Kd.R_slice HD.out); subst eE) | ((with_reducible refine gate_callee (f := 38) rfl ?_); (try (refine gate_guard (by rfl) ?_; dsimp only)); refine goesL_ (some 20) rfl rfl Try.func38 (by kernel_rfl) rfl #[.string s] rfl (by (try simp only [List.map_toArray, List.map_cons, List.map_nil]); first | done | rfl) ?_; (with_reducible refine (HPP.out _).mono ?_); rintro e wN ⟨v20, rfl, ho0, hb⟩; refine ⟨_, rfl, ?_⟩; have nq_ := Aside0.mk (Kd.R_lower ho0 (below_size (by repeat (first | (with_reducible first | exact HB.out | apply below_alloc | apply pw_below_drewN | apply below_drew1) | exact HB.out)))); have nd_ := Aside0.mk (Kd.R_below (by (with_reducible repeat (first | apply Kd.R_alloc | apply Kd.R_drewN | apply Kd.R_drew)); exact HD.out) hb); have nb_ := Aside0.mk (below_step (by repeat (first | (with_reducible first | exact HB.out | apply below_alloc | apply pw_below_drewN | apply below_drew1) | exact HB.out)) hb); clear HB; have HB := nb_; clear nb_; (try clear hb); have HP := nq_; clear HD; have HD := nd_; clear nq_ nd_ ho0; (obtain ⟨AP, cP, eP⟩ := Kd.R_slice HP.out); subst eP) | ((with_reducible refine gate_callee (f := 36) rfl ?_); (try (refine gate_guard (by rfl) ?_; dsimp only)); refine goesL_ (some 23) rfl rfl Try.func36 (by kernel_rfl) rfl #[.slice AP pm.length cP, .slice AE pm.length cE] rfl (by (try simp only [List.map_toArray, List.map_cons, List.map_nil]); first | done | rfl) ?_; (with_reducible refine (HSM.out _ _ _ _ _ (Kd.R_reads' (by (with_reducible repeat (first | apply Kd.R_alloc | apply Kd.R_drewN | apply Kd.R_drew)); exact HP.out)).2.2 (Kd.R_reads' (by (with_reducible repeat (first | apply Kd.R_alloc | apply Kd.R_drewN | apply Kd.R_drew)); exact HD.out)).2.2 (Kd.R_reads' HP.out).2.1 (Kd.R_reads' HD.out).2.1).mono ?_); rintro e wN ⟨rfl, ⟨nd, rfl⟩⟩; refine ⟨_, rfl, ?_⟩; skip) | ((with_reducible refine gate_callee (f := 39) rfl ?_); (try (refine gate_guard (by rfl) ?_; dsimp only)); refine goesL_ (some 26) rfl rfl Try.func39 (by kernel_rfl) rfl #[.slice AP pm.length cP] rfl (by (try simp only [List.map_toArray, List.map_cons, List.map_nil]); first | done | rfl) ?_; (with_reducible refine (HPO.out _ _ _ (Kd.R_reads' (by (with_reducible repeat (first | apply Kd.R_alloc | apply Kd.R_drewN | apply Kd.R_drew)); exact HP.out)).2.2 (Kd.R_reads' HP.out).2.1).mono ?_); rintro e wN ⟨rfl, hb⟩; refine ⟨_, rfl, ?_⟩; have nb_ := Aside0.mk (below_step (by repeat (first | (with_reducible first | exact HB.out | apply below_alloc | apply pw_below_drewN | apply below_drew1) | exact HB.out)) hb); clear HB; have HB := nb_; clear nb_; (try clear hb)))
      go_ret
      exact ⟨rfl, (by repeat (first | (with_reducible first | exact HB.out | apply below_alloc | apply pw_below_drewN | apply below_drew1) | exact HB.out))⟩
    | false =>
      have hb : ∀ h : 0 < s.size, (((s[0]'h).toNat : Int) == 47) = false := fun h => (byteAt HX.out 0 47 h).trans (by
        have h6 := rooted_head x h4
        rw [hr] at h6
        have h7 : ¬ ((x.getD 0 0).toNat : Int) = 47 := by simpa using h6
        rw [beq_eq_false_iff_ne]; intro h8; apply h7; rw [h8]; rfl)
      have hnp : nm = pm := by rw [← hpm, ← hnm]; unfold lead; rw [if_neg (by rw [hr]; decide), List.nil_append]
      rw [hnp] at HNC
      clear hx hxs hsd hec hep h1 h2 h3 h4 h5 hfew hpm hpln hpml hr hnm hnp hnml
      go_enter Try.func11, Try.ntmps11
      go_wp2_with (first | ((with_reducible refine gate_callee (f := 33) rfl ?_); (try (refine gate_guard (by rfl) ?_; dsimp only)); refine goesL_ (some 9) rfl rfl Try.func33 (by kernel_rfl) rfl #[.string s] rfl (by (try simp only [List.map_toArray, List.map_cons, List.map_nil]); first | done | rfl) ?_; (with_reducible refine (HEC.out _).mono ?_); rintro e wN ⟨rfl, hb⟩; refine ⟨_, rfl, ?_⟩; have nb_ := Aside0.mk (below_step (by repeat (first | (with_reducible first | exact HB.out | apply below_alloc | apply pw_below_drewN | apply below_drew1) | exact HB.out)) hb); clear HB; have HB := nb_; clear nb_; (try clear hb)) | ((with_reducible refine gate_callee (f := 34) rfl ?_); (try (refine gate_guard (by rfl) ?_; dsimp only)); refine goesL_ (some 12) rfl rfl Try.func34 (by kernel_rfl) rfl #[.string s] rfl (by (try simp only [List.map_toArray, List.map_cons, List.map_nil]); first | done | rfl) ?_; (with_reducible refine (HNC.out _).mono ?_); rintro e wN ⟨v12, rfl, ho0, hb⟩; refine ⟨_, rfl, ?_⟩; have nq_ := Aside0.mk (Kd.R_lower ho0 (below_size (by repeat (first | (with_reducible first | exact HB.out | apply below_alloc | apply pw_below_drewN | apply below_drew1) | exact HB.out)))); have nb_ := Aside0.mk (below_step (by repeat (first | (with_reducible first | exact HB.out | apply below_alloc | apply pw_below_drewN | apply below_drew1) | exact HB.out)) hb); clear HB; have HB := nb_; clear nb_; (try clear hb); have HQ := nq_; clear nq_ ho0; (obtain ⟨AQ, cQ, eQ⟩ := Kd.R_slice HQ.out); subst eQ) | ((with_reducible refine gate_callee (f := 38) rfl ?_); (try (refine gate_guard (by rfl) ?_; dsimp only)); refine goesL_ (some 20) rfl rfl Try.func38 (by kernel_rfl) rfl #[.string s] rfl (by (try simp only [List.map_toArray, List.map_cons, List.map_nil]); first | done | rfl) ?_; (with_reducible refine (HPP.out _).mono ?_); rintro e wN ⟨v20, rfl, ho0, hb⟩; refine ⟨_, rfl, ?_⟩; have nq_ := Aside0.mk (Kd.R_lower ho0 (below_size (by repeat (first | (with_reducible first | exact HB.out | apply below_alloc | apply pw_below_drewN | apply below_drew1) | exact HB.out)))); have nd_ := Aside0.mk (Kd.R_below (by (with_reducible repeat (first | apply Kd.R_alloc | apply Kd.R_drewN | apply Kd.R_drew)); exact HQ.out) hb); have nb_ := Aside0.mk (below_step (by repeat (first | (with_reducible first | exact HB.out | apply below_alloc | apply pw_below_drewN | apply below_drew1) | exact HB.out)) hb); clear HB; have HB := nb_; clear nb_; (try clear hb); have HP := nq_; clear HQ; have HQ := nd_; clear nq_ nd_ ho0; (obtain ⟨AP, cP, eP⟩ := Kd.R_slice HP.out); subst eP) | ((with_reducible refine gate_callee (f := 36) rfl ?_); (try (refine gate_guard (by rfl) ?_; dsimp only)); refine goesL_ (some 23) rfl rfl Try.func36 (by kernel_rfl) rfl #[.slice AP pm.length cP, .slice AQ pm.length cQ] rfl (by (try simp only [List.map_toArray, List.map_cons, List.map_nil]); first | done | rfl) ?_; (with_reducible refine (HSM.out _ _ _ _ _ (Kd.R_reads' (by (with_reducible repeat (first | apply Kd.R_alloc | apply Kd.R_drewN | apply Kd.R_drew)); exact HP.out)).2.2 (Kd.R_reads' (by (with_reducible repeat (first | apply Kd.R_alloc | apply Kd.R_drewN | apply Kd.R_drew)); exact HQ.out)).2.2 (Kd.R_reads' HP.out).2.1 (Kd.R_reads' HQ.out).2.1).mono ?_); rintro e wN ⟨rfl, ⟨nd, rfl⟩⟩; refine ⟨_, rfl, ?_⟩; skip) | ((with_reducible refine gate_callee (f := 39) rfl ?_); (try (refine gate_guard (by rfl) ?_; dsimp only)); refine goesL_ (some 26) rfl rfl Try.func39 (by kernel_rfl) rfl #[.slice AP pm.length cP] rfl (by (try simp only [List.map_toArray, List.map_cons, List.map_nil]); first | done | rfl) ?_; (with_reducible refine (HPO.out _ _ _ (Kd.R_reads' (by (with_reducible repeat (first | apply Kd.R_alloc | apply Kd.R_drewN | apply Kd.R_drew)); exact HP.out)).2.2 (Kd.R_reads' HP.out).2.1).mono ?_); rintro e wN ⟨rfl, hb⟩; refine ⟨_, rfl, ?_⟩; have nb_ := Aside0.mk (below_step (by repeat (first | (with_reducible first | exact HB.out | apply below_alloc | apply pw_below_drewN | apply below_drew1) | exact HB.out)) hb); clear HB; have HB := nb_; clear nb_; (try clear hb)))
      go_ret
      exact ⟨rfl, (by repeat (first | (with_reducible first | exact HB.out | apply below_alloc | apply pw_below_drewN | apply below_drew1) | exact HB.out))⟩
end Go.Proofs.Ytllmmnhgchidkaa.Hand
