/- FnPathPrefix and the functions beneath it, by hand. -/
import Derived.Test.YtllmmnhgchidkaaPathJoined
import Derived.Test.YtllmmnhgchidkaaPathSeps
namespace Go.Proofs.Ytllmmnhgchidkaa.Hand
open Go.RowKit Go.Proofs.YtllmmnhgchidkaaW.PrintWords Go.Proofs.YtllmmnhgchidkaaW.PrintLast Go.Proofs.YtllmmnhgchidkaaW.PrintMore Go.Proofs.Ytllmmnhgchidkaa.Base Go.Proofs.Ytllmmnhgchidkaa.PFnPathParts
set_option linter.unusedVariables false
set_option linter.unusedSimpArgs false
set_option maxRecDepth 100000

def lies (d o : L) : Bool := o == [47] || (d == o || (decide (o.length < d.length) && (d.take o.length == o && d.getD o.length 0 == 47)))
theorem take_sep (d o : L) (h : o.length < d.length) : (d.take (o.length + 1) == o ++ [47]) = (d.take o.length == o && d.getD o.length 0 == 47) := by
  rw [List.take_succ_eq_append_getElem h, getD_of d 0 h, Bool.eq_iff_iff, Bool.and_eq_true, beq_iff_eq, beq_iff_eq, beq_iff_eq]
  constructor
  · intro e
    have := List.append_inj e (by simp; omega)
    exact ⟨this.1, by simpa using this.2⟩
  · rintro ⟨e1, e2⟩; rw [e1, e2]

theorem String_calls (s : ByteArray) (w : World) : Calls Try.prog 70 #[.string s] w fun e w' => e = .returned (.string s) ∧ w = w' := by
  go_enter Try.func70, Try.ntmps70
  go_wp2
  go_ret
  exact ⟨rfl, rfl⟩

set_option maxHeartbeats 1000000 in
theorem Lies_calls (s t : ByteArray) (hs : s.size ≤ 2147483647) (ht : t.size ≤ 2147483647) (w : World) :
    Calls Try.prog 28 #[.string s, .string t] w fun e w' => e = .returned (.bool (lies s.data.toList t.data.toList)) ∧ w = w' := by
  obtain ⟨d, hd, hds⟩ : ∃ x : L, s = mk x ∧ s.size = x.length := exists_mk s
  obtain ⟨o, ho, hos⟩ : ∃ x : L, t = mk x ∧ t.size = x.length := exists_mk t
  rw [show s.data.toList = d by rw [hd]; rfl, show t.data.toList = o by rw [ho]; rfl]
  have tl : t.toList = o := by rw [ho, mk_toList]
  have sl : s.toList = d := by rw [hd, mk_toList]
  by_cases h1 : o = [47]
  · have t1 : (t.toList == ([47] : List UInt8)) = true := by rw [tl, h1]; rfl
    have R : Aside0 (lies d o = true) := ⟨by unfold lies; rw [h1]; rfl⟩
    clear hd hds ho hos tl sl h1
    go_enter Try.func28, Try.ntmps28
    go_wp2
    go_ret
    exact ⟨by rw [R.out]; rfl, rfl⟩
  · have t1 : (t.toList == ([47] : List UInt8)) = false := by rw [tl]; simpa using h1
    by_cases h2 : d = o
    · have t2 : (s.toList == t.toList) = true := by rw [sl, tl, h2]; simp
      have R : Aside0 (lies d o = true) := ⟨by unfold lies; rw [h2]; simp⟩
      clear hd hds ho hos tl sl h1 h2
      go_enter Try.func28, Try.ntmps28
      go_wp2
      go_ret
      exact ⟨by rw [R.out]; rfl, rfl⟩
    · have t2 : (s.toList == t.toList) = false := by rw [sl, tl]; simpa using h2
      by_cases h3 : t.size < s.size
      · have h3' : o.length < d.length := by omega
        have he : (s.extract 0 t.size).toList = d.take o.length := by rw [hd, extract_mk, mk_toList, hos]; rfl
        by_cases h4 : d.take o.length = o
        · have t3 : ((s.extract 0 t.size).toList == t.toList) = true := by rw [he, tl, h4]; simp
          have hb := byteAt hd t.size 47
          obtain ⟨b, hb'⟩ : ∃ b, (d.getD o.length 0 == 47) = b := ⟨_, rfl⟩
          have hb2 : ∀ h : t.size < s.size, (((s[t.size]'h).toNat : Int) == 47) = b := fun h => (hb h).trans (by rw [hos]; exact hb')
          have R : Aside0 (lies d o = b) := ⟨by unfold lies; rw [show (o == [47]) = false by simpa using h1, show (d == o) = false by simpa using h2, decide_eq_true h3', h4, hb']; simp⟩
          clear hd hds ho hos tl sl h1 h2 h3' he h4 hb hb'
          go_enter Try.func28, Try.ntmps28
          go_wp2
          go_ret
          exact ⟨by rw [R.out]; rfl, rfl⟩
        · have t3 : ((s.extract 0 t.size).toList == t.toList) = false := by rw [he, tl]; simpa using h4
          have R : Aside0 (lies d o = false) := ⟨by unfold lies; rw [show (o == [47]) = false by simpa using h1, show (d == o) = false by simpa using h2, show (d.take o.length == o) = false by simpa using h4]; simp⟩
          clear hd hds ho hos tl sl h1 h2 h3' he h4
          go_enter Try.func28, Try.ntmps28
          go_wp2
          go_ret
          exact ⟨by rw [R.out]; rfl, rfl⟩
      · have R : Aside0 (lies d o = false) := ⟨by unfold lies; rw [show (o == [47]) = false by simpa using h1, show (d == o) = false by simpa using h2, decide_eq_false (by omega)]; simp⟩
        clear hd hds ho hos tl sl h1 h2
        go_enter Try.func28, Try.ntmps28
        go_wp2
        go_ret
        exact ⟨by rw [R.out]; rfl, rfl⟩

set_option maxHeartbeats 1000000 in
theorem HasPrefix_calls (s t : ByteArray) (hs : s.size ≤ 2147483647) (ht : t.size ≤ 2147483647) (w : World) :
    Calls Try.prog 54 #[.string s, .string t] w fun e w' => e = .returned (.bool (lies s.data.toList t.data.toList)) ∧ w = w' := by
  obtain ⟨d, hd, hds⟩ : ∃ x : L, s = mk x ∧ s.size = x.length := exists_mk s
  obtain ⟨o, ho, hos⟩ : ∃ x : L, t = mk x ∧ t.size = x.length := exists_mk t
  rw [show s.data.toList = d by rw [hd]; rfl, show t.data.toList = o by rw [ho]; rfl]
  have tl : t.toList = o := by rw [ho, mk_toList]
  have sl : s.toList = d := by rw [hd, mk_toList]
  have b1 : (t.size + 1 ≤ 9223372036854775807) = True := eq_true (by omega)
  have b2 : (9223372036854775807 < t.size + 1) = False := eq_false (by omega)
  by_cases h1 : o = [47]
  · have t1 : (t.toList == ([47] : List UInt8)) = true := by rw [tl, h1]; rfl
    have R : Aside0 (lies d o = true) := ⟨by unfold lies; rw [h1]; rfl⟩
    clear hd hds ho hos tl sl h1
    go_enter Try.func54, Try.ntmps54
    go_wp2_with (first | ((with_reducible refine gate_callee (f := 70) rfl ?_); (try (refine gate_guard (by rfl) ?_; dsimp only)); refine goesL_ (some 7) rfl rfl Try.func70 (by kernel_rfl) rfl #[.string t] rfl (by (try simp only [List.map_toArray, List.map_cons, List.map_nil]); first | done | rfl) ?_; (with_reducible refine (String_calls t _).mono ?_); rintro e wN ⟨rfl, rfl⟩; refine ⟨_, rfl, ?_⟩; skip))
    go_ret
    exact ⟨by rw [R.out]; rfl, rfl⟩
  · have t1 : (t.toList == ([47] : List UInt8)) = false := by rw [tl]; simpa using h1
    by_cases h2 : d = o
    · have t2 : (t.toList == s.toList) = true := by rw [sl, tl, h2]; simp
      have R : Aside0 (lies d o = true) := ⟨by unfold lies; rw [h2]; simp⟩
      clear hd hds ho hos tl sl h1 h2
      go_enter Try.func54, Try.ntmps54
      go_wp2_with (first | ((with_reducible refine gate_callee (f := 70) rfl ?_); (try (refine gate_guard (by rfl) ?_; dsimp only)); refine goesL_ (some 7) rfl rfl Try.func70 (by kernel_rfl) rfl #[.string t] rfl (by (try simp only [List.map_toArray, List.map_cons, List.map_nil]); first | done | rfl) ?_; (with_reducible refine (String_calls t _).mono ?_); rintro e wN ⟨rfl, rfl⟩; refine ⟨_, rfl, ?_⟩; skip))
      go_ret
      exact ⟨by rw [R.out]; rfl, rfl⟩
    · have t2 : (t.toList == s.toList) = false := by rw [sl, tl]; simpa using fun h => h2 h.symm
      obtain ⟨q, hq⟩ : ∃ q, t ++ (⟨#[47]⟩ : ByteArray) = q := ⟨_, rfl⟩
      have hqm : q = mk (o ++ [47]) := by rw [← hq, ho]; exact mk_append o [47]
      have hqz : q.size = t.size + 1 := by rw [hqm, mk_size, hos]; simp
      have R0 : lies d o = (decide (o.length < d.length) && (d.take o.length == o && d.getD o.length 0 == 47)) := by
        unfold lies; rw [show (o == [47]) = false by simpa using h1, show (d == o) = false by simpa using h2]; simp
      by_cases h3 : t.size < s.size
      · have h3' : o.length < d.length := by omega
        have he : (s.extract 0 (t.size + 1)).toList = d.take (o.length + 1) := by rw [hd, extract_mk, mk_toList, hos]; rfl
        have t3 : ((s.extract 0 (t.size + 1)).toList == (t ++ (⟨#[47]⟩ : ByteArray)).toList) = lies d o := by
          rw [he, hq, hqm, mk_toList, take_sep d o h3', R0, decide_eq_true h3']; simp
        obtain ⟨b, hb⟩ : ∃ b, lies d o = b := ⟨_, rfl⟩
        rw [hb] at t3 ⊢
        clear hd hds ho hos tl sl h1 h2 h3' he R0 hqm hqz hq hb
        go_enter Try.func54, Try.ntmps54
        go_wp2_with (first | ((with_reducible refine gate_callee (f := 70) rfl ?_); (try (refine gate_guard (by rfl) ?_; dsimp only)); refine goesL_ (some 7) rfl rfl Try.func70 (by kernel_rfl) rfl #[.string t] rfl (by (try simp only [List.map_toArray, List.map_cons, List.map_nil]); first | done | rfl) ?_; (with_reducible refine (String_calls t _).mono ?_); rintro e wN ⟨rfl, rfl⟩; refine ⟨_, rfl, ?_⟩; skip))
        go_ret
        exact ⟨rfl, rfl⟩
      · have R : Aside0 (lies d o = false) := ⟨by rw [R0, decide_eq_false (by omega)]; simp⟩
        clear hd hds ho hos tl sl h1 h2 R0 hqm hqz hq
        go_enter Try.func54, Try.ntmps54
        go_wp2_with (first | ((with_reducible refine gate_callee (f := 70) rfl ?_); (try (refine gate_guard (by rfl) ?_; dsimp only)); refine goesL_ (some 7) rfl rfl Try.func70 (by kernel_rfl) rfl #[.string t] rfl (by (try simp only [List.map_toArray, List.map_cons, List.map_nil]); first | done | rfl) ?_; (with_reducible refine (String_calls t _).mono ?_); rintro e wN ⟨rfl, rfl⟩; refine ⟨_, rfl, ?_⟩; skip))
        go_ret
        exact ⟨by rw [R.out]; rfl, rfl⟩

set_option maxHeartbeats 1000000 in
theorem DirJoin_calls (s t : ByteArray) (hs : s.size ≤ 200) (ht : t.size ≤ 200) (w : World) :
    Calls Try.prog 55 #[.string s, .string t] w fun e w' => e = .returned (.string (mk (joinPath [s.data.toList, t.data.toList]))) ∧ Below w.heap.size w w' := by
  have HB := Aside0.mk (Below.refl w.heap.size w)
  obtain ⟨y, hy⟩ : ∃ y : List ByteArray, y = [s, t] := ⟨_, rfl⟩
  have hj : ∀ (A : Option Addr) (c : Nat) (w : World), Kd.C Kd.string w A y.length y → y.length ≤ c → Calls Try.prog 52 #[.slice A y.length c] w fun e w' => e = .returned (.string (mk (joinPath [s.data.toList, t.data.toList]))) ∧ Below w.heap.size w w' := by
    intro A c w hr hc
    subst hy
    exact ZzJoin_calls A c [s.data.toList, t.data.toList] w hr hc (by simp) (by intro p hp; simp only [List.mem_cons, List.not_mem_nil, or_false] at hp; rcases hp with rfl | rfl <;> (rw [← Lib.size_eq]; omega))
  have HJ := Aside0.mk hj; have HY := Aside0.mk hy; clear hj hy
  go_enter Try.func55, Try.ntmps55
  go_wp2_with (first | ((with_reducible refine gate_dst (N := 7) rfl ?_); (try (refine gate_guard (by rfl) ?_; dsimp only)); refine Kd.R_lit Kd.string _ 9 ?hg (N := 7) ?hd (xs := ([s, t] : List ByteArray)) (inner := [.string s, .string t]) (ok := fun _ => True) (okp := fun _ => True) ?hr ?hp (fun _ hk => hk) trivial (Below.refl _ _) (Nat.le_refl _) (by simp) ?_; (case hd => rfl); (case hg => rfl); (case hr => first | (go_simp; done) | (go_simp; rfl)); (case hp => exact (Reps.one (show Kd.M Kd.string _ _ _ s [.string s] from rfl) (Reps.one (show Kd.M Kd.string _ _ _ t [.string t] from rfl) (Reps.none _ _)))); intro vN wN hoL hb hg_ hnew_; clear hg_ hnew_; (first | rw [← HY.out] at hoL | (simp only [Int.reduceToNat] at hoL; rw [← HY.out] at hoL)); have nl_ := Aside0.mk (Kd.R_lower hoL (below_size (by repeat (first | (with_reducible first | exact HB.out | apply below_alloc | apply pw_below_drewN | apply below_drew1) | exact HB.out)))); have nb_ := Aside0.mk (below_step (by repeat (first | (with_reducible first | exact HB.out | apply below_alloc | apply pw_below_drewN | apply below_drew1) | exact HB.out)) hb); clear HB; have HL1 := nl_; have HB := nb_; clear nl_ nb_; clear hb hoL; obtain ⟨AL1, cL1, eL1⟩ := Kd.R_slice HL1.out; subst eL1) | ((with_reducible refine gate_callee (f := 52) rfl ?_); (try (refine gate_guard (by rfl) ?_; dsimp only)); refine goesL_ (some 8) rfl rfl Try.func52 (by kernel_rfl) rfl #[.slice AL1 y.length cL1] rfl (by (try simp only [List.map_toArray, List.map_cons, List.map_nil]); first | done | rfl) ?_; (with_reducible refine (HJ.out _ _ _ (Kd.R_reads' HL1.out).2.2 (Kd.R_reads' HL1.out).2.1).mono ?_); rintro e wN ⟨rfl, hb⟩; refine ⟨_, rfl, ?_⟩; have nb_ := Aside0.mk (below_step (by repeat (first | (with_reducible first | exact HB.out | apply below_alloc | apply pw_below_drewN | apply below_drew1) | exact HB.out)) hb); clear HB; have HB := nb_; clear nb_; (try clear hb)))
  go_ret
  exact ⟨rfl, (by repeat (first | (with_reducible first | exact HB.out | apply below_alloc | apply pw_below_drewN | apply below_drew1) | exact HB.out))⟩

theorem DirPrefix_calls (s t r : ByteArray) (hs : s.size ≤ 200) (ht : t.size ≤ 200) (hr : r.size ≤ 200) (w : World) :
    Calls Try.prog 27 #[.string s, .string t, .string r] w fun e w' => e = .returned (.tuple #[.bool (lies s.data.toList t.data.toList), .string (mk (joinPath [s.data.toList, r.data.toList]))]) ∧ Below w.heap.size w w' := by
  have HB := Aside0.mk (Below.refl w.heap.size w)
  go_enter Try.func27, Try.ntmps27
  go_wp2_with (first | ((with_reducible refine gate_callee (f := 54) rfl ?_); (try (refine gate_guard (by rfl) ?_; dsimp only)); refine goesL_ (some 10) rfl rfl Try.func54 (by kernel_rfl) rfl #[.string s, .string t] rfl (by (try simp only [List.map_toArray, List.map_cons, List.map_nil]); first | done | rfl) ?_; (with_reducible refine (HasPrefix_calls s t (by omega) (by omega) _).mono ?_); rintro e wN ⟨rfl, rfl⟩; refine ⟨_, rfl, ?_⟩; skip) | ((with_reducible refine gate_callee (f := 55) rfl ?_); (try (refine gate_guard (by rfl) ?_; dsimp only)); refine goesL_ (some 13) rfl rfl Try.func55 (by kernel_rfl) rfl #[.string s, .string r] rfl (by (try simp only [List.map_toArray, List.map_cons, List.map_nil]); first | done | rfl) ?_; (with_reducible refine (DirJoin_calls s r hs hr _).mono ?_); rintro e wN ⟨rfl, hb⟩; refine ⟨_, rfl, ?_⟩; have nb_ := Aside0.mk (below_step (by repeat (first | (with_reducible first | exact HB.out | apply below_alloc | apply pw_below_drewN | apply below_drew1) | exact HB.out)) hb); clear HB; have HB := nb_; clear nb_; (try clear hb)))
  go_ret2
  exact ⟨rfl, (by repeat (first | (with_reducible first | exact HB.out | apply below_alloc | apply pw_below_drewN | apply below_drew1) | exact HB.out))⟩

set_option maxHeartbeats 4000000 in
theorem FnPathPrefix_calls (s t r : ByteArray) (hs : s.size ≤ 140737488351232) (ht : t.size ≤ 140737488351232) (hr : r.size ≤ 140737488351232) (w : World) :
    Calls Try.prog 7 #[.string s, .string t, .string r] w fun e w' => e = .returned (.bool true) ∧ Below w.heap.size w w' := by
  have HB := Aside0.mk (Below.refl w.heap.size w)
  by_cases g1 : s.size > 2147483647
  · go_enter Try.func7, Try.ntmps7
    go_wp2
    go_ret
    exact ⟨rfl, (by repeat (first | (with_reducible first | exact HB.out | apply below_alloc | apply pw_below_drewN | apply below_drew1) | exact HB.out))⟩
  by_cases g2 : t.size > 2147483647
  · go_enter Try.func7, Try.ntmps7
    go_wp2
    go_ret
    exact ⟨rfl, (by repeat (first | (with_reducible first | exact HB.out | apply below_alloc | apply pw_below_drewN | apply below_drew1) | exact HB.out))⟩
  by_cases g3 : r.size > 2147483647
  · go_enter Try.func7, Try.ntmps7
    go_wp2
    go_ret
    exact ⟨rfl, (by repeat (first | (with_reducible first | exact HB.out | apply below_alloc | apply pw_below_drewN | apply below_drew1) | exact HB.out))⟩
  obtain ⟨d, hd, hds⟩ : ∃ x : L, s = mk x ∧ s.size = x.length := exists_mk s
  obtain ⟨o, ho, hos⟩ : ∃ x : L, t = mk x ∧ t.size = x.length := exists_mk t
  obtain ⟨p, hp, hps⟩ : ∃ x : L, r = mk x ∧ r.size = x.length := exists_mk r
  obtain ⟨y, hy⟩ : ∃ y : List ByteArray, y = [s, t, r] := ⟨_, rfl⟩
  have hym : y = [d, o, p].map mk := by rw [hy, hd, ho, hp]; rfl
  have hyl : y.length = 3 := by rw [hy]; rfl
  have he : ∀ (A : Option Addr) (c : Nat) (w : World), Kd.C Kd.string w A y.length y → y.length ≤ c → Calls Try.prog 19 #[.slice A y.length c] w fun e w' => e = .returned (.bool (epOk [d, o, p])) ∧ Drawn0 w w' := by
    intro A c w hr hc
    subst hym
    refine epPath_calls A c [d, o, p] w hr hc ?_
    unfold fits5
    simp; omega
  have HY := Aside0.mk hy
  clear hy hym hyl
  cases hok : epOk [d, o, p] with
  | false =>
    rw [hok] at he
    have HE := Aside0.mk he
    clear he hok hd hds ho hos hp hps
    go_enter Try.func7, Try.ntmps7
    go_wp2_with (first | ((with_reducible refine gate_dst (N := 25) rfl ?_); (try (refine gate_guard (by rfl) ?_; dsimp only)); refine Kd.R_lit Kd.string _ 9 ?hg (N := 25) ?hd (xs := ([s, t, r] : List ByteArray)) (inner := [.string s, .string t, .string r]) (ok := fun _ => True) (okp := fun _ => True) ?hr ?hp (fun _ hk => hk) trivial (Below.refl _ _) (Nat.le_refl _) (by simp) ?_; (case hd => rfl); (case hg => rfl); (case hr => first | (go_simp; done) | (go_simp; rfl)); (case hp => exact (Reps.one (show Kd.M Kd.string _ _ _ s [.string s] from rfl) (Reps.one (show Kd.M Kd.string _ _ _ t [.string t] from rfl) (Reps.one (show Kd.M Kd.string _ _ _ r [.string r] from rfl) (Reps.none _ _))))); intro vN wN hoL hb hg_ hnew_; clear hg_ hnew_; (first | rw [← HY.out] at hoL | (simp only [Int.reduceToNat] at hoL; rw [← HY.out] at hoL)); have nl_ := Aside0.mk (Kd.R_lower hoL (below_size (by repeat (first | (with_reducible first | exact HB.out | apply below_alloc | apply pw_below_drewN | apply below_drew1) | exact HB.out)))); have nb_ := Aside0.mk (below_step (by repeat (first | (with_reducible first | exact HB.out | apply below_alloc | apply pw_below_drewN | apply below_drew1) | exact HB.out)) hb); clear HB; have HL1 := nl_; have HB := nb_; clear nl_ nb_; clear hb hoL; obtain ⟨AL1, cL1, eL1⟩ := Kd.R_slice HL1.out; subst eL1) | ((with_reducible refine gate_callee (f := 19) rfl ?_); (try (refine gate_guard (by rfl) ?_; dsimp only)); refine goesL_ (some 26) rfl rfl Try.func19 (by kernel_rfl) rfl #[.slice AL1 y.length cL1] rfl (by (try simp only [List.map_toArray, List.map_cons, List.map_nil]); first | done | rfl) ?_; (with_reducible refine (HE.out _ _ _ (Kd.R_reads' HL1.out).2.2 (Kd.R_reads' HL1.out).2.1).mono ?_); rintro e wN ⟨rfl, ⟨nd, rfl⟩⟩; refine ⟨_, rfl, ?_⟩; skip))
    go_ret
    exact ⟨rfl, (by repeat (first | (with_reducible first | exact HB.out | apply below_alloc | apply pw_below_drewN | apply below_drew1) | exact HB.out))⟩
  | true =>
    rw [hok] at he
    have HE := Aside0.mk he
    obtain ⟨_, hbd⟩ := epOk_bd hok
    have hs2 : s.size ≤ 200 := by rw [hds]; exact (hbd d (by simp)).1
    have ht2 : t.size ≤ 200 := by rw [hos]; exact (hbd o (by simp)).1
    have hr2 : r.size ≤ 200 := by rw [hps]; exact (hbd p (by simp)).1
    have sl : s.toList = d := by rw [hd, mk_toList]
    have tl : t.toList = o := by rw [ho, mk_toList]
    have sdl : s.data.toList = d := by rw [hd]; rfl
    have tdl : t.data.toList = o := by rw [ho]; rfl
    have rdl : r.data.toList = p := by rw [hp]; rfl
    have HX := Aside0.mk (And.intro hd (And.intro ho (And.intro hp (And.intro hds (And.intro hos hps)))))
    have HD := Aside0.mk (And.intro sdl (And.intro tdl rdl))
    have HL := Aside0.mk (And.intro sl tl)
    clear he hok hd hds ho hos hp hps hbd sl tl sdl tdl rdl
    by_cases e1 : d = []
    · have t1 : (s.toList == ([] : List UInt8)) = true := by rw [HL.out.1, e1]; rfl
      clear e1
      go_enter Try.func7, Try.ntmps7
      go_wp2_with (first | ((with_reducible refine gate_dst (N := 25) rfl ?_); (try (refine gate_guard (by rfl) ?_; dsimp only)); refine Kd.R_lit Kd.string _ 9 ?hg (N := 25) ?hd (xs := ([s, t, r] : List ByteArray)) (inner := [.string s, .string t, .string r]) (ok := fun _ => True) (okp := fun _ => True) ?hr ?hp (fun _ hk => hk) trivial (Below.refl _ _) (Nat.le_refl _) (by simp) ?_; (case hd => rfl); (case hg => rfl); (case hr => first | (go_simp; done) | (go_simp; rfl)); (case hp => exact (Reps.one (show Kd.M Kd.string _ _ _ s [.string s] from rfl) (Reps.one (show Kd.M Kd.string _ _ _ t [.string t] from rfl) (Reps.one (show Kd.M Kd.string _ _ _ r [.string r] from rfl) (Reps.none _ _))))); intro vN wN hoL hb hg_ hnew_; clear hg_ hnew_; (first | rw [← HY.out] at hoL | (simp only [Int.reduceToNat] at hoL; rw [← HY.out] at hoL)); have nl_ := Aside0.mk (Kd.R_lower hoL (below_size (by repeat (first | (with_reducible first | exact HB.out | apply below_alloc | apply pw_below_drewN | apply below_drew1) | exact HB.out)))); have nb_ := Aside0.mk (below_step (by repeat (first | (with_reducible first | exact HB.out | apply below_alloc | apply pw_below_drewN | apply below_drew1) | exact HB.out)) hb); clear HB; have HL1 := nl_; have HB := nb_; clear nl_ nb_; clear hb hoL; obtain ⟨AL1, cL1, eL1⟩ := Kd.R_slice HL1.out; subst eL1) | ((with_reducible refine gate_callee (f := 19) rfl ?_); (try (refine gate_guard (by rfl) ?_; dsimp only)); refine goesL_ (some 26) rfl rfl Try.func19 (by kernel_rfl) rfl #[.slice AL1 y.length cL1] rfl (by (try simp only [List.map_toArray, List.map_cons, List.map_nil]); first | done | rfl) ?_; (with_reducible refine (HE.out _ _ _ (Kd.R_reads' HL1.out).2.2 (Kd.R_reads' HL1.out).2.1).mono ?_); rintro e wN ⟨rfl, ⟨nd, rfl⟩⟩; refine ⟨_, rfl, ?_⟩; skip))
      go_ret
      exact ⟨rfl, (by repeat (first | (with_reducible first | exact HB.out | apply below_alloc | apply pw_below_drewN | apply below_drew1) | exact HB.out))⟩
    have t1 : (s.toList == ([] : List UInt8)) = false := by rw [HL.out.1]; simpa using e1
    have p1 : 0 < s.size := by rw [HX.out.2.2.2.1]; exact List.length_pos_iff.2 e1
    clear e1
    by_cases e2 : o = []
    · have t2 : (t.toList == ([] : List UInt8)) = true := by rw [HL.out.2, e2]; rfl
      clear e2
      go_enter Try.func7, Try.ntmps7
      go_wp2_with (first | ((with_reducible refine gate_dst (N := 25) rfl ?_); (try (refine gate_guard (by rfl) ?_; dsimp only)); refine Kd.R_lit Kd.string _ 9 ?hg (N := 25) ?hd (xs := ([s, t, r] : List ByteArray)) (inner := [.string s, .string t, .string r]) (ok := fun _ => True) (okp := fun _ => True) ?hr ?hp (fun _ hk => hk) trivial (Below.refl _ _) (Nat.le_refl _) (by simp) ?_; (case hd => rfl); (case hg => rfl); (case hr => first | (go_simp; done) | (go_simp; rfl)); (case hp => exact (Reps.one (show Kd.M Kd.string _ _ _ s [.string s] from rfl) (Reps.one (show Kd.M Kd.string _ _ _ t [.string t] from rfl) (Reps.one (show Kd.M Kd.string _ _ _ r [.string r] from rfl) (Reps.none _ _))))); intro vN wN hoL hb hg_ hnew_; clear hg_ hnew_; (first | rw [← HY.out] at hoL | (simp only [Int.reduceToNat] at hoL; rw [← HY.out] at hoL)); have nl_ := Aside0.mk (Kd.R_lower hoL (below_size (by repeat (first | (with_reducible first | exact HB.out | apply below_alloc | apply pw_below_drewN | apply below_drew1) | exact HB.out)))); have nb_ := Aside0.mk (below_step (by repeat (first | (with_reducible first | exact HB.out | apply below_alloc | apply pw_below_drewN | apply below_drew1) | exact HB.out)) hb); clear HB; have HL1 := nl_; have HB := nb_; clear nl_ nb_; clear hb hoL; obtain ⟨AL1, cL1, eL1⟩ := Kd.R_slice HL1.out; subst eL1) | ((with_reducible refine gate_callee (f := 19) rfl ?_); (try (refine gate_guard (by rfl) ?_; dsimp only)); refine goesL_ (some 26) rfl rfl Try.func19 (by kernel_rfl) rfl #[.slice AL1 y.length cL1] rfl (by (try simp only [List.map_toArray, List.map_cons, List.map_nil]); first | done | rfl) ?_; (with_reducible refine (HE.out _ _ _ (Kd.R_reads' HL1.out).2.2 (Kd.R_reads' HL1.out).2.1).mono ?_); rintro e wN ⟨rfl, ⟨nd, rfl⟩⟩; refine ⟨_, rfl, ?_⟩; skip))
      go_ret
      exact ⟨rfl, (by repeat (first | (with_reducible first | exact HB.out | apply below_alloc | apply pw_below_drewN | apply below_drew1) | exact HB.out))⟩
    have t2 : (t.toList == ([] : List UInt8)) = false := by rw [HL.out.2]; simpa using e2
    have p2 : 0 < t.size := by rw [HX.out.2.2.2.2.1]; exact List.length_pos_iff.2 e2
    clear e2
    by_cases e3 : d.getD 0 0 = 47
    case neg =>
      have q3 : ∀ h : 0 < s.size, (((s[0]'h).toNat : Int) == 47) = false := fun h => (byteAt HX.out.1 0 47 h).trans (by simpa using e3)
      have q3b : ∀ h : 0 < s.size, (((s[0]'h).toNat : Int) != 47) = true := fun h => by rw [bne, q3 h]; rfl
      clear e3
      go_enter Try.func7, Try.ntmps7
      go_wp2_with (first | ((with_reducible refine gate_dst (N := 25) rfl ?_); (try (refine gate_guard (by rfl) ?_; dsimp only)); refine Kd.R_lit Kd.string _ 9 ?hg (N := 25) ?hd (xs := ([s, t, r] : List ByteArray)) (inner := [.string s, .string t, .string r]) (ok := fun _ => True) (okp := fun _ => True) ?hr ?hp (fun _ hk => hk) trivial (Below.refl _ _) (Nat.le_refl _) (by simp) ?_; (case hd => rfl); (case hg => rfl); (case hr => first | (go_simp; done) | (go_simp; rfl)); (case hp => exact (Reps.one (show Kd.M Kd.string _ _ _ s [.string s] from rfl) (Reps.one (show Kd.M Kd.string _ _ _ t [.string t] from rfl) (Reps.one (show Kd.M Kd.string _ _ _ r [.string r] from rfl) (Reps.none _ _))))); intro vN wN hoL hb hg_ hnew_; clear hg_ hnew_; (first | rw [← HY.out] at hoL | (simp only [Int.reduceToNat] at hoL; rw [← HY.out] at hoL)); have nl_ := Aside0.mk (Kd.R_lower hoL (below_size (by repeat (first | (with_reducible first | exact HB.out | apply below_alloc | apply pw_below_drewN | apply below_drew1) | exact HB.out)))); have nb_ := Aside0.mk (below_step (by repeat (first | (with_reducible first | exact HB.out | apply below_alloc | apply pw_below_drewN | apply below_drew1) | exact HB.out)) hb); clear HB; have HL1 := nl_; have HB := nb_; clear nl_ nb_; clear hb hoL; obtain ⟨AL1, cL1, eL1⟩ := Kd.R_slice HL1.out; subst eL1) | ((with_reducible refine gate_callee (f := 19) rfl ?_); (try (refine gate_guard (by rfl) ?_; dsimp only)); refine goesL_ (some 26) rfl rfl Try.func19 (by kernel_rfl) rfl #[.slice AL1 y.length cL1] rfl (by (try simp only [List.map_toArray, List.map_cons, List.map_nil]); first | done | rfl) ?_; (with_reducible refine (HE.out _ _ _ (Kd.R_reads' HL1.out).2.2 (Kd.R_reads' HL1.out).2.1).mono ?_); rintro e wN ⟨rfl, ⟨nd, rfl⟩⟩; refine ⟨_, rfl, ?_⟩; skip))
      go_ret
      exact ⟨rfl, (by repeat (first | (with_reducible first | exact HB.out | apply below_alloc | apply pw_below_drewN | apply below_drew1) | exact HB.out))⟩
    have q3 : ∀ h : 0 < s.size, (((s[0]'h).toNat : Int) == 47) = true := fun h => (byteAt HX.out.1 0 47 h).trans (by simpa using e3)
    have q3b : ∀ h : 0 < s.size, (((s[0]'h).toNat : Int) != 47) = false := fun h => by rw [bne, q3 h]; rfl
    clear e3
    by_cases e4 : o.getD 0 0 = 47
    case neg =>
      have q4 : ∀ h : 0 < t.size, (((t[0]'h).toNat : Int) == 47) = false := fun h => (byteAt HX.out.2.1 0 47 h).trans (by simpa using e4)
      have q4b : ∀ h : 0 < t.size, (((t[0]'h).toNat : Int) != 47) = true := fun h => by rw [bne, q4 h]; rfl
      clear e4
      go_enter Try.func7, Try.ntmps7
      go_wp2_with (first | ((with_reducible refine gate_dst (N := 25) rfl ?_); (try (refine gate_guard (by rfl) ?_; dsimp only)); refine Kd.R_lit Kd.string _ 9 ?hg (N := 25) ?hd (xs := ([s, t, r] : List ByteArray)) (inner := [.string s, .string t, .string r]) (ok := fun _ => True) (okp := fun _ => True) ?hr ?hp (fun _ hk => hk) trivial (Below.refl _ _) (Nat.le_refl _) (by simp) ?_; (case hd => rfl); (case hg => rfl); (case hr => first | (go_simp; done) | (go_simp; rfl)); (case hp => exact (Reps.one (show Kd.M Kd.string _ _ _ s [.string s] from rfl) (Reps.one (show Kd.M Kd.string _ _ _ t [.string t] from rfl) (Reps.one (show Kd.M Kd.string _ _ _ r [.string r] from rfl) (Reps.none _ _))))); intro vN wN hoL hb hg_ hnew_; clear hg_ hnew_; (first | rw [← HY.out] at hoL | (simp only [Int.reduceToNat] at hoL; rw [← HY.out] at hoL)); have nl_ := Aside0.mk (Kd.R_lower hoL (below_size (by repeat (first | (with_reducible first | exact HB.out | apply below_alloc | apply pw_below_drewN | apply below_drew1) | exact HB.out)))); have nb_ := Aside0.mk (below_step (by repeat (first | (with_reducible first | exact HB.out | apply below_alloc | apply pw_below_drewN | apply below_drew1) | exact HB.out)) hb); clear HB; have HL1 := nl_; have HB := nb_; clear nl_ nb_; clear hb hoL; obtain ⟨AL1, cL1, eL1⟩ := Kd.R_slice HL1.out; subst eL1) | ((with_reducible refine gate_callee (f := 19) rfl ?_); (try (refine gate_guard (by rfl) ?_; dsimp only)); refine goesL_ (some 26) rfl rfl Try.func19 (by kernel_rfl) rfl #[.slice AL1 y.length cL1] rfl (by (try simp only [List.map_toArray, List.map_cons, List.map_nil]); first | done | rfl) ?_; (with_reducible refine (HE.out _ _ _ (Kd.R_reads' HL1.out).2.2 (Kd.R_reads' HL1.out).2.1).mono ?_); rintro e wN ⟨rfl, ⟨nd, rfl⟩⟩; refine ⟨_, rfl, ?_⟩; skip))
      go_ret
      exact ⟨rfl, (by repeat (first | (with_reducible first | exact HB.out | apply below_alloc | apply pw_below_drewN | apply below_drew1) | exact HB.out))⟩
    have q4 : ∀ h : 0 < t.size, (((t[0]'h).toNat : Int) == 47) = true := fun h => (byteAt HX.out.2.1 0 47 h).trans (by simpa using e4)
    have q4b : ∀ h : 0 < t.size, (((t[0]'h).toNat : Int) != 47) = false := fun h => by rw [bne, q4 h]; rfl
    clear e4
    obtain ⟨cd, hcd⟩ : ∃ cd, mk (clean d) = cd := ⟨_, rfl⟩
    obtain ⟨co, hco⟩ : ∃ co, mk (clean o) = co := ⟨_, rfl⟩
    have hc1 : ∀ w, Calls Try.prog 21 #[.string s] w fun e w' => e = .returned (.string cd) ∧ Below w.heap.size w w' := by
      intro w; have h := Clean_calls s (by omega) w; rw [HD.out.1, hcd] at h; exact h
    have hc2 : ∀ w, Calls Try.prog 21 #[.string t] w fun e w' => e = .returned (.string co) ∧ Below w.heap.size w w' := by
      intro w; have h := Clean_calls t (by omega) w; rw [HD.out.2.1, hco] at h; exact h
    have HC1 := Aside0.mk hc1; have HC2 := Aside0.mk hc2; clear hc1 hc2
    by_cases e5 : clean d = d
    case neg =>
      have t5 : (cd.toList == s.toList) = false := by rw [← hcd, mk_toList, HL.out.1]; simpa using e5
      clear e5 hcd hco
      go_enter Try.func7, Try.ntmps7
      go_wp2_with (first | ((with_reducible refine gate_dst (N := 25) rfl ?_); (try (refine gate_guard (by rfl) ?_; dsimp only)); refine Kd.R_lit Kd.string _ 9 ?hg (N := 25) ?hd (xs := ([s, t, r] : List ByteArray)) (inner := [.string s, .string t, .string r]) (ok := fun _ => True) (okp := fun _ => True) ?hr ?hp (fun _ hk => hk) trivial (Below.refl _ _) (Nat.le_refl _) (by simp) ?_; (case hd => rfl); (case hg => rfl); (case hr => first | (go_simp; done) | (go_simp; rfl)); (case hp => exact (Reps.one (show Kd.M Kd.string _ _ _ s [.string s] from rfl) (Reps.one (show Kd.M Kd.string _ _ _ t [.string t] from rfl) (Reps.one (show Kd.M Kd.string _ _ _ r [.string r] from rfl) (Reps.none _ _))))); intro vN wN hoL hb hg_ hnew_; clear hg_ hnew_; (first | rw [← HY.out] at hoL | (simp only [Int.reduceToNat] at hoL; rw [← HY.out] at hoL)); have nl_ := Aside0.mk (Kd.R_lower hoL (below_size (by repeat (first | (with_reducible first | exact HB.out | apply below_alloc | apply pw_below_drewN | apply below_drew1) | exact HB.out)))); have nb_ := Aside0.mk (below_step (by repeat (first | (with_reducible first | exact HB.out | apply below_alloc | apply pw_below_drewN | apply below_drew1) | exact HB.out)) hb); clear HB; have HL1 := nl_; have HB := nb_; clear nl_ nb_; clear hb hoL; obtain ⟨AL1, cL1, eL1⟩ := Kd.R_slice HL1.out; subst eL1) | ((with_reducible refine gate_callee (f := 19) rfl ?_); (try (refine gate_guard (by rfl) ?_; dsimp only)); refine goesL_ (some 26) rfl rfl Try.func19 (by kernel_rfl) rfl #[.slice AL1 y.length cL1] rfl (by (try simp only [List.map_toArray, List.map_cons, List.map_nil]); first | done | rfl) ?_; (with_reducible refine (HE.out _ _ _ (Kd.R_reads' HL1.out).2.2 (Kd.R_reads' HL1.out).2.1).mono ?_); rintro e wN ⟨rfl, ⟨nd, rfl⟩⟩; refine ⟨_, rfl, ?_⟩; skip) | ((with_reducible refine gate_callee (f := 21) rfl ?_); (try (refine gate_guard (by rfl) ?_; dsimp only)); refine goesL_ (some 48) rfl rfl Try.func21 (by kernel_rfl) rfl #[.string s] rfl (by (try simp only [List.map_toArray, List.map_cons, List.map_nil]); first | done | rfl) ?_; (with_reducible refine (HC1.out _).mono ?_); rintro e wN ⟨rfl, hb⟩; refine ⟨_, rfl, ?_⟩; have nb_ := Aside0.mk (below_step (by repeat (first | (with_reducible first | exact HB.out | apply below_alloc | apply pw_below_drewN | apply below_drew1) | exact HB.out)) hb); clear HB; have HB := nb_; clear nb_; (try clear hb)))
      go_ret
      exact ⟨rfl, (by repeat (first | (with_reducible first | exact HB.out | apply below_alloc | apply pw_below_drewN | apply below_drew1) | exact HB.out))⟩
    have t5 : (cd.toList == s.toList) = true := by rw [← hcd, mk_toList, HL.out.1]; simpa using e5
    clear e5 hcd
    by_cases e6 : clean o = o
    case neg =>
      have t6 : (co.toList == t.toList) = false := by rw [← hco, mk_toList, HL.out.2]; simpa using e6
      clear e6 hco
      go_enter Try.func7, Try.ntmps7
      go_wp2_with (first | ((with_reducible refine gate_dst (N := 25) rfl ?_); (try (refine gate_guard (by rfl) ?_; dsimp only)); refine Kd.R_lit Kd.string _ 9 ?hg (N := 25) ?hd (xs := ([s, t, r] : List ByteArray)) (inner := [.string s, .string t, .string r]) (ok := fun _ => True) (okp := fun _ => True) ?hr ?hp (fun _ hk => hk) trivial (Below.refl _ _) (Nat.le_refl _) (by simp) ?_; (case hd => rfl); (case hg => rfl); (case hr => first | (go_simp; done) | (go_simp; rfl)); (case hp => exact (Reps.one (show Kd.M Kd.string _ _ _ s [.string s] from rfl) (Reps.one (show Kd.M Kd.string _ _ _ t [.string t] from rfl) (Reps.one (show Kd.M Kd.string _ _ _ r [.string r] from rfl) (Reps.none _ _))))); intro vN wN hoL hb hg_ hnew_; clear hg_ hnew_; (first | rw [← HY.out] at hoL | (simp only [Int.reduceToNat] at hoL; rw [← HY.out] at hoL)); have nl_ := Aside0.mk (Kd.R_lower hoL (below_size (by repeat (first | (with_reducible first | exact HB.out | apply below_alloc | apply pw_below_drewN | apply below_drew1) | exact HB.out)))); have nb_ := Aside0.mk (below_step (by repeat (first | (with_reducible first | exact HB.out | apply below_alloc | apply pw_below_drewN | apply below_drew1) | exact HB.out)) hb); clear HB; have HL1 := nl_; have HB := nb_; clear nl_ nb_; clear hb hoL; obtain ⟨AL1, cL1, eL1⟩ := Kd.R_slice HL1.out; subst eL1) | ((with_reducible refine gate_callee (f := 19) rfl ?_); (try (refine gate_guard (by rfl) ?_; dsimp only)); refine goesL_ (some 26) rfl rfl Try.func19 (by kernel_rfl) rfl #[.slice AL1 y.length cL1] rfl (by (try simp only [List.map_toArray, List.map_cons, List.map_nil]); first | done | rfl) ?_; (with_reducible refine (HE.out _ _ _ (Kd.R_reads' HL1.out).2.2 (Kd.R_reads' HL1.out).2.1).mono ?_); rintro e wN ⟨rfl, ⟨nd, rfl⟩⟩; refine ⟨_, rfl, ?_⟩; skip) | ((with_reducible refine gate_callee (f := 21) rfl ?_); (try (refine gate_guard (by rfl) ?_; dsimp only)); refine goesL_ (some 48) rfl rfl Try.func21 (by kernel_rfl) rfl #[.string s] rfl (by (try simp only [List.map_toArray, List.map_cons, List.map_nil]); first | done | rfl) ?_; (with_reducible refine (HC1.out _).mono ?_); rintro e wN ⟨rfl, hb⟩; refine ⟨_, rfl, ?_⟩; have nb_ := Aside0.mk (below_step (by repeat (first | (with_reducible first | exact HB.out | apply below_alloc | apply pw_below_drewN | apply below_drew1) | exact HB.out)) hb); clear HB; have HB := nb_; clear nb_; (try clear hb)) | ((with_reducible refine gate_callee (f := 21) rfl ?_); (try (refine gate_guard (by rfl) ?_; dsimp only)); refine goesL_ (some 54) rfl rfl Try.func21 (by kernel_rfl) rfl #[.string t] rfl (by (try simp only [List.map_toArray, List.map_cons, List.map_nil]); first | done | rfl) ?_; (with_reducible refine (HC2.out _).mono ?_); rintro e wN ⟨rfl, hb⟩; refine ⟨_, rfl, ?_⟩; have nb_ := Aside0.mk (below_step (by repeat (first | (with_reducible first | exact HB.out | apply below_alloc | apply pw_below_drewN | apply below_drew1) | exact HB.out)) hb); clear HB; have HB := nb_; clear nb_; (try clear hb)))
      go_ret
      exact ⟨rfl, (by repeat (first | (with_reducible first | exact HB.out | apply below_alloc | apply pw_below_drewN | apply below_drew1) | exact HB.out))⟩
    have t6 : (co.toList == t.toList) = true := by rw [← hco, mk_toList, HL.out.2]; simpa using e6
    clear e6 hco
    obtain ⟨b, hb0⟩ : ∃ b, lies d o = b := ⟨_, rfl⟩
    obtain ⟨jp, hjp⟩ : ∃ jp, mk (joinPath [d, p]) = jp := ⟨_, rfl⟩
    have hdp : ∀ w, Calls Try.prog 27 #[.string s, .string t, .string r] w fun e w' => e = .returned (.tuple #[.bool b, .string jp]) ∧ Below w.heap.size w w' := by
      intro w; have h := DirPrefix_calls s t r (by omega) (by omega) (by omega) w; rw [HD.out.1, HD.out.2.1, HD.out.2.2, hb0, hjp] at h; exact h
    have hli : ∀ w, Calls Try.prog 28 #[.string s, .string t] w fun e w' => e = .returned (.bool b) ∧ w = w' := by
      intro w; have h := Lies_calls s t (by omega) (by omega) w; rw [HD.out.1, HD.out.2.1, hb0] at h; exact h
    obtain ⟨z, hz⟩ : ∃ z : List ByteArray, z = [s, r] := ⟨_, rfl⟩
    have hzm : z = [d, p].map mk := by rw [hz, HX.out.1, HX.out.2.2.1]; rfl
    have hja : ∀ (A : Option Addr) (c : Nat) (w : World), Kd.C Kd.string w A z.length z → z.length ≤ c → Calls Try.prog 25 #[.slice A z.length c] w fun e w' => e = .returned (.string jp) ∧ Below w.heap.size w w' := by
      intro A c w hr hc
      subst hzm
      have h := JoinAll_calls A c [d, p] w hr hc (by simp) (by have h1 := HX.out.2.2.2; intro q hq; simp only [List.mem_cons, List.not_mem_nil, or_false] at hq; rcases hq with rfl | rfl <;> omega)
      rw [hjp] at h; exact h
    have HDP := Aside0.mk hdp; have HLI := Aside0.mk hli; have HJA := Aside0.mk hja; have HZ := Aside0.mk hz
    clear hdp hli hja hb0 hjp hz hzm
    go_enter Try.func7, Try.ntmps7
    go_wp2_with (first | ((with_reducible refine gate_dst (N := 25) rfl ?_); (try (refine gate_guard (by rfl) ?_; dsimp only)); refine Kd.R_lit Kd.string _ 9 ?hg (N := 25) ?hd (xs := ([s, t, r] : List ByteArray)) (inner := [.string s, .string t, .string r]) (ok := fun _ => True) (okp := fun _ => True) ?hr ?hp (fun _ hk => hk) trivial (Below.refl _ _) (Nat.le_refl _) (by simp) ?_; (case hd => rfl); (case hg => rfl); (case hr => first | (go_simp; done) | (go_simp; rfl)); (case hp => exact (Reps.one (show Kd.M Kd.string _ _ _ s [.string s] from rfl) (Reps.one (show Kd.M Kd.string _ _ _ t [.string t] from rfl) (Reps.one (show Kd.M Kd.string _ _ _ r [.string r] from rfl) (Reps.none _ _))))); intro vN wN hoL hb hg_ hnew_; clear hg_ hnew_; (first | rw [← HY.out] at hoL | (simp only [Int.reduceToNat] at hoL; rw [← HY.out] at hoL)); have nl_ := Aside0.mk (Kd.R_lower hoL (below_size (by repeat (first | (with_reducible first | exact HB.out | apply below_alloc | apply pw_below_drewN | apply below_drew1) | exact HB.out)))); have nb_ := Aside0.mk (below_step (by repeat (first | (with_reducible first | exact HB.out | apply below_alloc | apply pw_below_drewN | apply below_drew1) | exact HB.out)) hb); clear HB; have HL1 := nl_; have HB := nb_; clear nl_ nb_; clear hb hoL; obtain ⟨AL1, cL1, eL1⟩ := Kd.R_slice HL1.out; subst eL1) | ((with_reducible refine gate_callee (f := 19) rfl ?_); (try (refine gate_guard (by rfl) ?_; dsimp only)); refine goesL_ (some 26) rfl rfl Try.func19 (by kernel_rfl) rfl #[.slice AL1 y.length cL1] rfl (by (try simp only [List.map_toArray, List.map_cons, List.map_nil]); first | done | rfl) ?_; (with_reducible refine (HE.out _ _ _ (Kd.R_reads' HL1.out).2.2 (Kd.R_reads' HL1.out).2.1).mono ?_); rintro e wN ⟨rfl, ⟨nd, rfl⟩⟩; refine ⟨_, rfl, ?_⟩; skip) | ((with_reducible refine gate_callee (f := 21) rfl ?_); (try (refine gate_guard (by rfl) ?_; dsimp only)); refine goesL_ (some 48) rfl rfl Try.func21 (by kernel_rfl) rfl #[.string s] rfl (by (try simp only [List.map_toArray, List.map_cons, List.map_nil]); first | done | rfl) ?_; (with_reducible refine (HC1.out _).mono ?_); rintro e wN ⟨rfl, hb⟩; refine ⟨_, rfl, ?_⟩; have nb_ := Aside0.mk (below_step (by repeat (first | (with_reducible first | exact HB.out | apply below_alloc | apply pw_below_drewN | apply below_drew1) | exact HB.out)) hb); clear HB; have HB := nb_; clear nb_; (try clear hb)) | ((with_reducible refine gate_callee (f := 21) rfl ?_); (try (refine gate_guard (by rfl) ?_; dsimp only)); refine goesL_ (some 54) rfl rfl Try.func21 (by kernel_rfl) rfl #[.string t] rfl (by (try simp only [List.map_toArray, List.map_cons, List.map_nil]); first | done | rfl) ?_; (with_reducible refine (HC2.out _).mono ?_); rintro e wN ⟨rfl, hb⟩; refine ⟨_, rfl, ?_⟩; have nb_ := Aside0.mk (below_step (by repeat (first | (with_reducible first | exact HB.out | apply below_alloc | apply pw_below_drewN | apply below_drew1) | exact HB.out)) hb); clear HB; have HB := nb_; clear nb_; (try clear hb)) | ((with_reducible refine gate_callee (f := 27) rfl ?_); (try (refine gate_guard (by rfl) ?_; dsimp only)); refine goesL_ (some 62) rfl rfl Try.func27 (by kernel_rfl) rfl #[.string s, .string t, .string r] rfl (by (try simp only [List.map_toArray, List.map_cons, List.map_nil]); first | done | rfl) ?_; (with_reducible refine (HDP.out _).mono ?_); rintro e wN ⟨rfl, hb⟩; refine ⟨_, rfl, ?_⟩; have nb_ := Aside0.mk (below_step (by repeat (first | (with_reducible first | exact HB.out | apply below_alloc | apply pw_below_drewN | apply below_drew1) | exact HB.out)) hb); clear HB; have HB := nb_; clear nb_; (try clear hb)) | ((with_reducible refine gate_callee (f := 28) rfl ?_); (try (refine gate_guard (by rfl) ?_; dsimp only)); refine goesL_ (some 68) rfl rfl Try.func28 (by kernel_rfl) rfl #[.string s, .string t] rfl (by (try simp only [List.map_toArray, List.map_cons, List.map_nil]); first | done | rfl) ?_; (with_reducible refine (HLI.out _).mono ?_); rintro e wN ⟨rfl, rfl⟩; refine ⟨_, rfl, ?_⟩; skip) | ((with_reducible refine gate_dst (N := 74) rfl ?_); (try (refine gate_guard (by rfl) ?_; dsimp only)); refine Kd.R_lit Kd.string _ 9 ?hg (N := 74) ?hd (xs := ([s, r] : List ByteArray)) (inner := [.string s, .string r]) (ok := fun _ => True) (okp := fun _ => True) ?hr ?hp (fun _ hk => hk) trivial (Below.refl _ _) (Nat.le_refl _) (by simp) ?_; (case hd => rfl); (case hg => rfl); (case hr => first | (go_simp; done) | (go_simp; rfl)); (case hp => exact (Reps.one (show Kd.M Kd.string _ _ _ s [.string s] from rfl) (Reps.one (show Kd.M Kd.string _ _ _ r [.string r] from rfl) (Reps.none _ _)))); intro vN wN hoL hb hg_ hnew_; clear hg_ hnew_; (first | rw [← HZ.out] at hoL | (simp only [Int.reduceToNat] at hoL; rw [← HZ.out] at hoL)); have nl_ := Aside0.mk (Kd.R_lower hoL (below_size (by repeat (first | (with_reducible first | exact HB.out | apply below_alloc | apply pw_below_drewN | apply below_drew1) | exact HB.out)))); have nb_ := Aside0.mk (below_step (by repeat (first | (with_reducible first | exact HB.out | apply below_alloc | apply pw_below_drewN | apply below_drew1) | exact HB.out)) hb); clear HB; have HL2 := nl_; have HB := nb_; clear nl_ nb_; clear hb hoL; obtain ⟨AL2, cL2, eL2⟩ := Kd.R_slice HL2.out; subst eL2) | ((with_reducible refine gate_callee (f := 25) rfl ?_); (try (refine gate_guard (by rfl) ?_; dsimp only)); refine goesL_ (some 75) rfl rfl Try.func25 (by kernel_rfl) rfl #[.slice AL2 z.length cL2] rfl (by (try simp only [List.map_toArray, List.map_cons, List.map_nil]); first | done | rfl) ?_; (with_reducible refine (HJA.out _ _ _ (Kd.R_reads' HL2.out).2.2 (Kd.R_reads' HL2.out).2.1).mono ?_); rintro e wN ⟨rfl, hb⟩; refine ⟨_, rfl, ?_⟩; have nb_ := Aside0.mk (below_step (by repeat (first | (with_reducible first | exact HB.out | apply below_alloc | apply pw_below_drewN | apply below_drew1) | exact HB.out)) hb); clear HB; have HB := nb_; clear nb_; (try clear hb)))
    go_ret
    exact ⟨rfl, (by repeat (first | (with_reducible first | exact HB.out | apply below_alloc | apply pw_below_drewN | apply below_drew1) | exact HB.out))⟩
end Go.Proofs.Ytllmmnhgchidkaa.Hand
