/- FnPathJoined and what stands over the joins, by hand. -/
import Derived.Test.YtllmmnhgchidkaaPathJoin
import Derived.Test.YtllmmnhgchidkaaPFnPathHiddenx1
namespace Go.Proofs.Ytllmmnhgchidkaa.Hand
open Go.RowKit Go.Proofs.YtllmmnhgchidkaaW.PrintWords Go.Proofs.YtllmmnhgchidkaaW.PrintLast Go.Proofs.YtllmmnhgchidkaaW.PrintMore Go.Proofs.Ytllmmnhgchidkaa.Base Go.Proofs.Ytllmmnhgchidkaa.PFnPathParts
set_option linter.unusedVariables false
set_option linter.unusedSimpArgs false
set_option maxRecDepth 100000

def fits5 (l : List L) : Bool := decide (l.length ≤ 2147483647) && l.all (fun s => decide (s.length ≤ 2147483647))
theorem fits5_l0 (l : List L) (hl : l.length ≤ 2147483647) : ∀ (d i : Nat), i + d = l.length →
    Ev (fun k => PFnPathHidden.laws_zzFits5.l0 k (l.map mk) ((l.map mk).length : Int) i) ((l.drop i).all (fun s => decide (s.length ≤ 2147483647))) := by
  intro d
  induction d with
  | zero =>
    intro i hi
    rw [List.drop_eq_nil_of_le (by omega)]
    exact Ev.step (fun k => by simp only [PFnPathHidden.laws_zzFits5.l0]; rw [if_neg (by rw [List.length_map]; omega)]) (Ev.now true)
  | succ d ih =>
    intro i hi
    have hlt : i < l.length := by omega
    rw [List.drop_eq_getElem_cons hlt, List.all_cons]
    by_cases h : l[i].length ≤ 2147483647
    · rw [decide_eq_true h, Bool.true_and]
      exact Ev.step (fun k => by
        simp only [PFnPathHidden.laws_zzFits5.l0]
        rw [if_pos (by rw [List.length_map]; omega), if_pos (by omega), if_pos (by rw [List.length_map]; omega), rd_mk, Int.toNat_natCast, getD_of l [] hlt, mk_size, if_neg (by omega), wrap_id (by omega) (by omega)]
        rfl) (ih (i + 1) (by omega))
    · rw [decide_eq_false h, Bool.false_and]
      exact Ev.step (fun k => by
        simp only [PFnPathHidden.laws_zzFits5.l0]
        rw [if_pos (by rw [List.length_map]; omega), if_pos (by omega), if_pos (by rw [List.length_map]; omega), rd_mk, Int.toNat_natCast, getD_of l [] hlt, mk_size, if_pos (by omega)]) (Ev.now false)
theorem fits5_ev (l : List L) : Ev (fun k => PFnPathHidden.laws_zzFits5.f k (l.map mk)) (fits5 l) := by
  unfold PFnPathHidden.laws_zzFits5.f fits5
  by_cases h : l.length ≤ 2147483647
  · rw [decide_eq_true h, Bool.true_and]
    exact Ev.neg (by rw [List.length_map]; omega) (fits5_l0 l h l.length 0 (by omega))
  · rw [decide_eq_false h, Bool.false_and]
    exact Ev.pos (by rw [List.length_map]; omega) (Ev.now false)
theorem fits5_calls (A : Option Addr) (c : Nat) (l : List L) (w : World) (hr : Kd.C Kd.string w A l.length (l.map mk)) (hc : l.length ≤ c) :
    Calls Try.prog 14 #[.slice A l.length c] w fun e w' => e = .returned (.bool (fits5 l)) ∧ Drawn0 w w' := by
  obtain ⟨k, hk⟩ := (fits5_ev l).rounds
  have h := PFnPathHidden.laws_zzFits5.calls k A c (l.map mk) (fits5 l) w (by rw [List.length_map]; exact hr) (by rw [List.length_map]; exact hc) hk
  rw [List.length_map] at h; exact h
theorem epPath_calls (A : Option Addr) (c : Nat) (l : List L) (w : World) (hr : Kd.C Kd.string w A l.length (l.map mk)) (hc : l.length ≤ c) (hf : fits5 l = true) :
    Calls Try.prog 19 #[.slice A l.length c] w fun e w' => e = .returned (.bool (epOk l)) ∧ Drawn0 w w' := by
  unfold fits5 at hf
  simp only [Bool.and_eq_true, decide_eq_true_eq, List.all_eq_true] at hf
  obtain ⟨k, hk⟩ := (epPath_ev l (by omega) (fun s hs => by have := hf.2 s hs; omega)).rounds
  have h := laws_epPath.calls k A c (l.map mk) (epOk l) w (by rw [List.length_map]; exact hr) (by rw [List.length_map]; exact hc) hk
  rw [List.length_map] at h; exact h
theorem epOk_bd {l : List L} (h : epOk l = true) : l.length ≤ 20 ∧ ∀ p ∈ l, p.length ≤ 200 ∧ p.all byteOk = true := by
  unfold epOk strOk at h
  simp only [Bool.and_eq_true, decide_eq_true_eq, List.all_eq_true] at h
  exact ⟨h.2, fun p hp => ⟨(h.1 p hp).2, by simpa using (h.1 p hp).1⟩⟩

theorem JoinedPath_calls (A : Option Addr) (c : Nat) (l : List L) (w : World) (hr : Kd.C Kd.string w A l.length (l.map mk)) (hc : l.length ≤ c) (hl : l.length ≤ 400) (hm : ∀ p ∈ l, p.length ≤ 200) :
    Calls Try.prog 24 #[.slice A l.length c] w fun e w' => e = .returned (.string (mk (joinPath l))) ∧ Below w.heap.size w w' := by
  have HB := Aside0.mk (Below.refl w.heap.size w)
  have HR := Aside0.mk hr; have HM := Aside0.mk hm; clear hr hm
  go_enter Try.func24, Try.ntmps24
  go_wp2_with (first | ((with_reducible refine gate_callee (f := 52) rfl ?_); (try (refine gate_guard (by rfl) ?_; dsimp only)); refine goesL_ (some 4) rfl rfl Try.func52 (by kernel_rfl) rfl #[.slice A l.length c] rfl (by (try simp only [List.map_toArray, List.map_cons, List.map_nil]); first | done | rfl) ?_; (with_reducible refine (ZzJoin_calls A c l _ HR.out hc hl HM.out).mono ?_); rintro e wN ⟨rfl, hb⟩; refine ⟨_, rfl, ?_⟩; have nb_ := Aside0.mk (below_step (by repeat (first | (with_reducible first | exact HB.out | apply below_alloc | apply pw_below_drewN | apply below_drew1) | exact HB.out)) hb); clear HB; have HB := nb_; clear nb_; (try clear hb)))
  go_ret
  exact ⟨rfl, (by repeat (first | (with_reducible first | exact HB.out | apply below_alloc | apply pw_below_drewN | apply below_drew1) | exact HB.out))⟩

theorem clean_len (x : L) (h : x.length ≤ 100000) : (clean x).length ≤ 20000400000 := by
  have hbd := parts_bd x
  have hz := joinL_le [47] 100000 (parts x) (fun p hp => by have := hbd.1 p hp; omega)
  have hz2 : (parts x).length * (100000 + ([47] : L).length) ≤ 100001 * 100001 := Nat.mul_le_mul (by omega) (by simp)
  unfold clean finish
  split
  · simp
  · split
    · simp; omega
    · split
      · simp
      · omega
theorem joinPath_len (l : List L) (hl : l.length ≤ 400) (hm : ∀ p ∈ l, p.length ≤ 200) : (joinPath l).length ≤ 20000400000 := by
  have h1 := full_le l 200 hm l.length
  rw [List.take_length] at h1
  have hz3 : l.length * (200 + 1) ≤ 400 * 201 := Nat.mul_le_mul hl (Nat.le_refl _)
  unfold joinPath
  split
  · simp
  · exact clean_len _ (by omega)

theorem Rooted_calls (A : Option Addr) (c : Nat) (l : List L) (w : World) (hr : Kd.C Kd.string w A l.length (l.map mk)) (hc : l.length ≤ c) (hl : l.length ≤ 400) (hm : ∀ p ∈ l, p.length ≤ 200) :
    Calls Try.prog 53 #[.slice A l.length c] w fun e w' => e = .returned (.string (mk (47 :: joinPath l))) ∧ Below w.heap.size w w' := by
  have HB := Aside0.mk (Below.refl w.heap.size w)
  have hjl := joinPath_len l hl hm
  have HR := Aside0.mk hr; have HM := Aside0.mk hm; clear hr hm
  obtain ⟨so, hso⟩ : ∃ so, mk (joinPath l) = so := ⟨_, rfl⟩
  have hz : so.size ≤ 20000400000 := by rw [← hso, mk_size]; exact hjl
  have hj : ∀ w, Kd.C Kd.string w A l.length (l.map mk) → Calls Try.prog 52 #[.slice A l.length c] w fun e w' => e = .returned (.string so) ∧ Below w.heap.size w w' := by
    intro w hr
    have h := ZzJoin_calls A c l w hr hc hl HM.out
    rw [hso] at h; exact h
  have b1 : (1 + so.size ≤ 9223372036854775807) = True := eq_true (by omega)
  have b2 : (9223372036854775807 < 1 + so.size) = False := eq_false (by omega)
  have HJ := Aside0.mk hj; have HSO := Aside0.mk hso; clear hj hso hjl
  go_enter Try.func53, Try.ntmps53
  go_wp2_with (first | ((with_reducible refine gate_callee (f := 52) rfl ?_); (try (refine gate_guard (by rfl) ?_; dsimp only)); refine goesL_ (some 4) rfl rfl Try.func52 (by kernel_rfl) rfl #[.slice A l.length c] rfl (by (try simp only [List.map_toArray, List.map_cons, List.map_nil]); first | done | rfl) ?_; (with_reducible refine (HJ.out _ HR.out).mono ?_); rintro e wN ⟨rfl, hb⟩; refine ⟨_, rfl, ?_⟩; have nb_ := Aside0.mk (below_step (by repeat (first | (with_reducible first | exact HB.out | apply below_alloc | apply pw_below_drewN | apply below_drew1) | exact HB.out)) hb); clear HB; have HB := nb_; clear nb_; (try clear hb)))
  go_ret
  exact ⟨by rw [show (47 : UInt8) :: joinPath l = [47] ++ joinPath l from rfl, ← mk_append, HSO.out]; rfl, (by repeat (first | (with_reducible first | exact HB.out | apply below_alloc | apply pw_below_drewN | apply below_drew1) | exact HB.out))⟩
theorem RootedPath_calls (A : Option Addr) (c : Nat) (l : List L) (w : World) (hr : Kd.C Kd.string w A l.length (l.map mk)) (hc : l.length ≤ c) (hl : l.length ≤ 400) (hm : ∀ p ∈ l, p.length ≤ 200) :
    Calls Try.prog 26 #[.slice A l.length c] w fun e w' => e = .returned (.string (mk (47 :: joinPath l))) ∧ Below w.heap.size w w' := by
  have HB := Aside0.mk (Below.refl w.heap.size w)
  have HR := Aside0.mk hr; have HM := Aside0.mk hm; clear hr hm
  go_enter Try.func26, Try.ntmps26
  go_wp2_with (first | ((with_reducible refine gate_callee (f := 53) rfl ?_); (try (refine gate_guard (by rfl) ?_; dsimp only)); refine goesL_ (some 4) rfl rfl Try.func53 (by kernel_rfl) rfl #[.slice A l.length c] rfl (by (try simp only [List.map_toArray, List.map_cons, List.map_nil]); first | done | rfl) ?_; (with_reducible refine (Rooted_calls A c l _ HR.out hc hl HM.out).mono ?_); rintro e wN ⟨rfl, hb⟩; refine ⟨_, rfl, ?_⟩; have nb_ := Aside0.mk (below_step (by repeat (first | (with_reducible first | exact HB.out | apply below_alloc | apply pw_below_drewN | apply below_drew1) | exact HB.out)) hb); clear HB; have HB := nb_; clear nb_; (try clear hb)))
  go_ret
  exact ⟨rfl, (by repeat (first | (with_reducible first | exact HB.out | apply below_alloc | apply pw_below_drewN | apply below_drew1) | exact HB.out))⟩

set_option maxHeartbeats 2000000 in
theorem FnPathJoined_calls (A : Option Addr) (c : Nat) (l : List L) (w : World) (hr : Kd.C Kd.string w A l.length (l.map mk)) (hc : l.length ≤ c) :
    Calls Try.prog 6 #[.slice A l.length c] w fun e w' => e = .returned (.bool true) ∧ Below w.heap.size w w' := by
  have HB := Aside0.mk (Below.refl w.heap.size w)
  have HR := Aside0.mk hr; clear hr
  have h1 : ∀ w, Kd.C Kd.string w A l.length (l.map mk) → Calls Try.prog 14 #[.slice A l.length c] w fun e w' => e = .returned (.bool (fits5 l)) ∧ Drawn0 w w' := fun w hr => fits5_calls A c l w hr hc
  cases hf : fits5 l with
  | false =>
    rw [hf] at h1
    have H1 := Aside0.mk h1; clear h1 hf
    go_enter Try.func6, Try.ntmps6
    go_wp2_with (first | ((with_reducible refine gate_callee (f := 14) rfl ?_); (try (refine gate_guard (by rfl) ?_; dsimp only)); refine goesL_ (some 4) rfl rfl Try.func14 (by kernel_rfl) rfl #[.slice A l.length c] rfl (by (try simp only [List.map_toArray, List.map_cons, List.map_nil]); first | done | rfl) ?_; (with_reducible refine (H1.out _ HR.out).mono ?_); rintro e wN ⟨rfl, ⟨nd, rfl⟩⟩; refine ⟨_, rfl, ?_⟩; skip))
    go_ret
    exact ⟨rfl, (by repeat (first | (with_reducible first | exact HB.out | apply below_alloc | apply pw_below_drewN | apply below_drew1) | exact HB.out))⟩
  | true =>
    rw [hf] at h1
    have h2 : ∀ w, Kd.C Kd.string w A l.length (l.map mk) → Calls Try.prog 19 #[.slice A l.length c] w fun e w' => e = .returned (.bool (epOk l)) ∧ Drawn0 w w' := fun w hr => epPath_calls A c l w hr hc hf
    have H1 := Aside0.mk h1; clear h1 hf
    cases he : epOk l with
    | false =>
      rw [he] at h2
      have H2 := Aside0.mk h2; clear h2 he
      go_enter Try.func6, Try.ntmps6
      go_wp2_with (first | ((with_reducible refine gate_callee (f := 14) rfl ?_); (try (refine gate_guard (by rfl) ?_; dsimp only)); refine goesL_ (some 4) rfl rfl Try.func14 (by kernel_rfl) rfl #[.slice A l.length c] rfl (by (try simp only [List.map_toArray, List.map_cons, List.map_nil]); first | done | rfl) ?_; (with_reducible refine (H1.out _ HR.out).mono ?_); rintro e wN ⟨rfl, ⟨nd, rfl⟩⟩; refine ⟨_, rfl, ?_⟩; skip) | ((with_reducible refine gate_callee (f := 19) rfl ?_); (try (refine gate_guard (by rfl) ?_; dsimp only)); refine goesL_ (some 7) rfl rfl Try.func19 (by kernel_rfl) rfl #[.slice A l.length c] rfl (by (try simp only [List.map_toArray, List.map_cons, List.map_nil]); first | done | rfl) ?_; (with_reducible refine (H2.out _ (Kd.C_below HR.out (by repeat (first | (with_reducible first | exact HB.out | apply below_alloc | apply pw_below_drewN | apply below_drew1) | exact HB.out)))).mono ?_); rintro e wN ⟨rfl, ⟨nd2, rfl⟩⟩; refine ⟨_, rfl, ?_⟩; skip))
      go_ret
      exact ⟨rfl, (by repeat (first | (with_reducible first | exact HB.out | apply below_alloc | apply pw_below_drewN | apply below_drew1) | exact HB.out))⟩
    | true =>
      rw [he] at h2
      obtain ⟨hl, hm0⟩ := epOk_bd he
      have hl2 : l.length ≤ 400 := by omega
      have hm : ∀ p ∈ l, p.length ≤ 200 := fun p hp => by have := (hm0 p hp).1; omega
      have hjl := joinPath_len l hl2 hm
      obtain ⟨so, hso⟩ : ∃ so, mk (joinPath l) = so := ⟨_, rfl⟩
      obtain ⟨sr, hsr⟩ : ∃ sr, mk (47 :: joinPath l) = sr := ⟨_, rfl⟩
      have hz : so.size ≤ 20000400000 := by rw [← hso, mk_size]; exact hjl
      have b1 : (1 + so.size ≤ 9223372036854775807) = True := eq_true (by omega)
      have b2 : (9223372036854775807 < 1 + so.size) = False := eq_false (by omega)
      have hrs : (⟨#[47]⟩ : ByteArray) ++ so = sr := by rw [← hso, ← hsr]; exact mk_append [47] (joinPath l)
      have t1 : (sr.toList == (((⟨#[47]⟩ : ByteArray) ++ so).toList)) = true := by rw [hrs]; simp
      have c1 : ∀ w, Kd.C Kd.string w A l.length (l.map mk) → Calls Try.prog 24 #[.slice A l.length c] w fun e w' => e = .returned (.string so) ∧ Below w.heap.size w w' := by
        intro w hr; have h := JoinedPath_calls A c l w hr hc hl2 hm; rw [hso] at h; exact h
      have c2 : ∀ w, Kd.C Kd.string w A l.length (l.map mk) → Calls Try.prog 25 #[.slice A l.length c] w fun e w' => e = .returned (.string so) ∧ Below w.heap.size w w' := by
        intro w hr; have h := JoinAll_calls A c l w hr hc hl2 hm; rw [hso] at h; exact h
      have c3 : ∀ w, Kd.C Kd.string w A l.length (l.map mk) → Calls Try.prog 26 #[.slice A l.length c] w fun e w' => e = .returned (.string sr) ∧ Below w.heap.size w w' := by
        intro w hr; have h := RootedPath_calls A c l w hr hc hl2 hm; rw [hsr] at h; exact h
      have H2 := Aside0.mk h2; have C1 := Aside0.mk c1; have C2 := Aside0.mk c2; have C3 := Aside0.mk c3
      clear h2 he hl hm0 hl2 hm hjl hso hsr hrs c1 c2 c3
      go_enter Try.func6, Try.ntmps6
      go_wp2_with (first | ((with_reducible refine gate_callee (f := 14) rfl ?_); (try (refine gate_guard (by rfl) ?_; dsimp only)); refine goesL_ (some 4) rfl rfl Try.func14 (by kernel_rfl) rfl #[.slice A l.length c] rfl (by (try simp only [List.map_toArray, List.map_cons, List.map_nil]); first | done | rfl) ?_; (with_reducible refine (H1.out _ HR.out).mono ?_); rintro e wN ⟨rfl, ⟨nd, rfl⟩⟩; refine ⟨_, rfl, ?_⟩; skip) | ((with_reducible refine gate_callee (f := 19) rfl ?_); (try (refine gate_guard (by rfl) ?_; dsimp only)); refine goesL_ (some 7) rfl rfl Try.func19 (by kernel_rfl) rfl #[.slice A l.length c] rfl (by (try simp only [List.map_toArray, List.map_cons, List.map_nil]); first | done | rfl) ?_; (with_reducible refine (H2.out _ (Kd.C_below HR.out (by repeat (first | (with_reducible first | exact HB.out | apply below_alloc | apply pw_below_drewN | apply below_drew1) | exact HB.out)))).mono ?_); rintro e wN ⟨rfl, ⟨nd2, rfl⟩⟩; refine ⟨_, rfl, ?_⟩; skip) | ((with_reducible refine gate_callee (f := 24) rfl ?_); (try (refine gate_guard (by rfl) ?_; dsimp only)); refine goesL_ (some 10) rfl rfl Try.func24 (by kernel_rfl) rfl #[.slice A l.length c] rfl (by (try simp only [List.map_toArray, List.map_cons, List.map_nil]); first | done | rfl) ?_; (with_reducible refine (C1.out _ (Kd.C_below HR.out (by repeat (first | (with_reducible first | exact HB.out | apply below_alloc | apply pw_below_drewN | apply below_drew1) | exact HB.out)))).mono ?_); rintro e wN ⟨rfl, hb⟩; refine ⟨_, rfl, ?_⟩; have nb_ := Aside0.mk (below_step (by repeat (first | (with_reducible first | exact HB.out | apply below_alloc | apply pw_below_drewN | apply below_drew1) | exact HB.out)) hb); clear HB; have HB := nb_; clear nb_; (try clear hb)) | ((with_reducible refine gate_callee (f := 25) rfl ?_); (try (refine gate_guard (by rfl) ?_; dsimp only)); refine goesL_ (some 12) rfl rfl Try.func25 (by kernel_rfl) rfl #[.slice A l.length c] rfl (by (try simp only [List.map_toArray, List.map_cons, List.map_nil]); first | done | rfl) ?_; (with_reducible refine (C2.out _ (Kd.C_below HR.out (by repeat (first | (with_reducible first | exact HB.out | apply below_alloc | apply pw_below_drewN | apply below_drew1) | exact HB.out)))).mono ?_); rintro e wN ⟨rfl, hb⟩; refine ⟨_, rfl, ?_⟩; have nb_ := Aside0.mk (below_step (by repeat (first | (with_reducible first | exact HB.out | apply below_alloc | apply pw_below_drewN | apply below_drew1) | exact HB.out)) hb); clear HB; have HB := nb_; clear nb_; (try clear hb)) | ((with_reducible refine gate_callee (f := 26) rfl ?_); (try (refine gate_guard (by rfl) ?_; dsimp only)); refine goesL_ (some 16) rfl rfl Try.func26 (by kernel_rfl) rfl #[.slice A l.length c] rfl (by (try simp only [List.map_toArray, List.map_cons, List.map_nil]); first | done | rfl) ?_; (with_reducible refine (C3.out _ (Kd.C_below HR.out (by repeat (first | (with_reducible first | exact HB.out | apply below_alloc | apply pw_below_drewN | apply below_drew1) | exact HB.out)))).mono ?_); rintro e wN ⟨rfl, hb⟩; refine ⟨_, rfl, ?_⟩; have nb_ := Aside0.mk (below_step (by repeat (first | (with_reducible first | exact HB.out | apply below_alloc | apply pw_below_drewN | apply below_drew1) | exact HB.out)) hb); clear HB; have HB := nb_; clear nb_; (try clear hb)) | ((with_reducible refine gate_callee (f := 25) rfl ?_); (try (refine gate_guard (by rfl) ?_; dsimp only)); refine goesL_ (some 18) rfl rfl Try.func25 (by kernel_rfl) rfl #[.slice A l.length c] rfl (by (try simp only [List.map_toArray, List.map_cons, List.map_nil]); first | done | rfl) ?_; (with_reducible refine (C2.out _ (Kd.C_below HR.out (by repeat (first | (with_reducible first | exact HB.out | apply below_alloc | apply pw_below_drewN | apply below_drew1) | exact HB.out)))).mono ?_); rintro e wN ⟨rfl, hb⟩; refine ⟨_, rfl, ?_⟩; have nb_ := Aside0.mk (below_step (by repeat (first | (with_reducible first | exact HB.out | apply below_alloc | apply pw_below_drewN | apply below_drew1) | exact HB.out)) hb); clear HB; have HB := nb_; clear nb_; (try clear hb)) | ((with_reducible refine gate_callee (f := 22) rfl ?_); (try (refine gate_guard (by rfl) ?_; dsimp only)); refine goesL_ (some 23) rfl rfl Try.func22 (by kernel_rfl) rfl #[] rfl (by (try simp only [List.map_toArray, List.map_cons, List.map_nil]); first | done | rfl) ?_; (with_reducible refine (epCleans_calls _).mono ?_); rintro e wN ⟨rfl, hb⟩; refine ⟨_, rfl, ?_⟩; have nb_ := Aside0.mk (below_step (by repeat (first | (with_reducible first | exact HB.out | apply below_alloc | apply pw_below_drewN | apply below_drew1) | exact HB.out)) hb); clear HB; have HB := nb_; clear nb_; (try clear hb)))
      go_ret
      exact ⟨rfl, (by repeat (first | (with_reducible first | exact HB.out | apply below_alloc | apply pw_below_drewN | apply below_drew1) | exact HB.out))⟩
end Go.Proofs.Ytllmmnhgchidkaa.Hand
