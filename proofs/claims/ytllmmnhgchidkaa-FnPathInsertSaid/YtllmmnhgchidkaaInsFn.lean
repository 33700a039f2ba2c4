/- The law FnPathInsert, walked. -/
import Derived.Test.YtllmmnhgchidkaaInsLaw
namespace Go.Proofs.Ytllmmnhgchidkaa.Hand
open Go.RowKit Go.Proofs.YtllmmnhgchidkaaW.PrintWords Go.Proofs.YtllmmnhgchidkaaW.PrintLast Go.Proofs.YtllmmnhgchidkaaW.PrintMore Go.Proofs.Ytllmmnhgchidkaa.Base Go.Proofs.Ytllmmnhgchidkaa.PFnPathParts
set_option linter.unusedVariables false
set_option linter.unusedSimpArgs false
set_option maxRecDepth 100000
theorem head_byte (s : ByteArray) (x : L) (hx : s = mk x) (hne : x ≠ []) (b : Bool) (hr : rooted x = b) : ∀ h : 0 < s.size, (((s[0]'h).toNat : Int) == 47) = b := by
  intro h
  have h6 := rooted_head x hne
  cases b with
  | true =>
    refine (byteAt hx 0 47 h).trans ?_
    rw [hr] at h6
    have h7 : ((x.getD 0 0).toNat : Int) = 47 := by simpa using h6
    rw [beq_iff_eq]; exact UInt8.toNat_inj.1 (by simpa using (by omega : (x.getD 0 0).toNat = 47))
  | false =>
    refine (byteAt hx 0 47 h).trans ?_
    rw [hr] at h6
    have h7 : ¬ ((x.getD 0 0).toNat : Int) = 47 := by simpa using h6
    rw [beq_eq_false_iff_ne]; intro h8; apply h7; rw [h8]; rfl
set_option maxHeartbeats 8000000 in
theorem FnPathInsert_calls (s : ByteArray) (hs : s.size ≤ 140737488351232) (place : Int) (q : ByteArray) (hq : q.size ≤ 140737488351232) (w : World) :
    Calls Try.prog 12 #[.string s, .int .i64 place, .string q] w fun e w' => e = .returned (.bool true) ∧ Below w.heap.size w w' := by
  have HB := Aside0.mk (Below.refl w.heap.size w)
  by_cases g1 : 2147483647 < s.size
  · go_enter Try.func12, Try.ntmps12
    go_wp2
    go_ret
    exact ⟨rfl, (by repeat (first | (with_reducible first | exact HB.out | apply below_alloc | apply pw_below_drewN | apply below_drew1) | exact HB.out))⟩
  by_cases g2 : 2147483647 < q.size
  · go_enter Try.func12, Try.ntmps12
    go_wp2
    go_ret
    exact ⟨rfl, (by repeat (first | (with_reducible first | exact HB.out | apply below_alloc | apply pw_below_drewN | apply below_drew1) | exact HB.out))⟩
  have g1' : s.size ≤ 2147483647 := by omega
  have g2' : q.size ≤ 2147483647 := by omega
  obtain ⟨x, hx, hxs⟩ : ∃ x : L, s = mk x ∧ s.size = x.length := exists_mk s
  have hsd : s.data.toList = x := by rw [hx]; rfl
  obtain ⟨y, hy, hys⟩ : ∃ y : L, q = mk y ∧ q.size = y.length := exists_mk q
  have hqd : q.data.toList = y := by rw [hy]; rfl
  have hec : ∀ w, Calls Try.prog 33 #[.string s] w fun e w' => e = .returned (.bool (epc x)) ∧ Below w.heap.size w w' := by
    intro w; have h := epClean_calls s g1' w; rw [hsd] at h; exact h
  have heq : ∀ w, Calls Try.prog 33 #[.string q] w fun e w' => e = .returned (.bool (epc y)) ∧ Below w.heap.size w w' := by
    intro w; have h := epClean_calls q g2' w; rw [hqd] at h; exact h
  cases hep : epc x with
  | false =>
    rw [hep] at hec
    have HEC := Aside0.mk hec
    clear hx hxs hsd hec hep heq hy hys hqd
    go_enter Try.func12, Try.ntmps12
    go_wp2_with (first | ((with_reducible refine (HEC.out _).mono ?_); rintro e w' ⟨rfl, hb⟩; have nb_ := Aside0.mk (below_step (by repeat (first | (with_reducible first | exact HB.out | apply below_alloc | apply pw_below_drewN | apply below_drew1) | exact HB.out)) hb); clear HB; have HB := nb_; clear nb_; (try clear hb)))
    go_ret
    exact ⟨rfl, (by repeat (first | (with_reducible first | exact HB.out | apply below_alloc | apply pw_below_drewN | apply below_drew1) | exact HB.out))⟩
  | true =>
    rw [hep] at hec
    have HEC := Aside0.mk hec
    obtain ⟨h1, h2, h3, h4, h5⟩ := epc_form hep
    have hfew := names_few x h1 h2 h3 h5
    by_cases hy0 : y = []
    · have tq : (q.toList == ([] : List UInt8)) = true := by rw [hy, mk_toList, hy0]; rfl
      have hqe : q = ⟨#[]⟩ := by rw [hy, hy0]; rfl
      have HE := Aside0.mk (fun w => InsE_calls s place w)
      have tS : (s.toList == s.toList) = true := by simp
      subst hqe
      clear hx hxs hsd hec hep heq hy hys hqd hy0 h1 h2 h3 h4 h5 hfew
      go_enter Try.func12, Try.ntmps12
      go_wp2_with (first | ((with_reducible refine (HEC.out _).mono ?_); rintro e w' ⟨rfl, hb⟩; have nb_ := Aside0.mk (below_step (by repeat (first | (with_reducible first | exact HB.out | apply below_alloc | apply pw_below_drewN | apply below_drew1) | exact HB.out)) hb); clear HB; have HB := nb_; clear nb_; (try clear hb)) | ((with_reducible refine (HE.out _).mono ?_); rintro e w' ⟨rfl, hb⟩; have nb_ := Aside0.mk (below_step (by repeat (first | (with_reducible first | exact HB.out | apply below_alloc | apply pw_below_drewN | apply below_drew1) | exact HB.out)) hb); clear HB; have HB := nb_; clear nb_; (try clear hb)) | ((with_reducible refine (epCleans_calls _).mono ?_); rintro e w' ⟨rfl, hb⟩; have nb_ := Aside0.mk (below_step (by repeat (first | (with_reducible first | exact HB.out | apply below_alloc | apply pw_below_drewN | apply below_drew1) | exact HB.out)) hb); clear HB; have HB := nb_; clear nb_; (try clear hb)))
      go_ret
      exact ⟨rfl, (by repeat (first | (with_reducible first | exact HB.out | apply below_alloc | apply pw_below_drewN | apply below_drew1) | exact HB.out))⟩
    have tq : (q.toList == ([] : List UInt8)) = false := by rw [hy, mk_toList]; simpa using hy0
    cases heq2 : epc y with
    | false =>
      rw [heq2] at heq
      have HEQ := Aside0.mk heq
      clear hx hxs hsd hec hep heq hy hys hqd hy0 h1 h2 h3 h4 h5 hfew heq2
      go_enter Try.func12, Try.ntmps12
      go_wp2_with (first | ((with_reducible refine (HEC.out _).mono ?_); rintro e w' ⟨rfl, hb⟩; have nb_ := Aside0.mk (below_step (by repeat (first | (with_reducible first | exact HB.out | apply below_alloc | apply pw_below_drewN | apply below_drew1) | exact HB.out)) hb); clear HB; have HB := nb_; clear nb_; (try clear hb)) | ((with_reducible refine (HEQ.out _).mono ?_); rintro e w' ⟨rfl, hb⟩; have nb_ := Aside0.mk (below_step (by repeat (first | (with_reducible first | exact HB.out | apply below_alloc | apply pw_below_drewN | apply below_drew1) | exact HB.out)) hb); clear HB; have HB := nb_; clear nb_; (try clear hb)))
      go_ret
      exact ⟨rfl, (by repeat (first | (with_reducible first | exact HB.out | apply below_alloc | apply pw_below_drewN | apply below_drew1) | exact HB.out))⟩
    | true =>
    rw [heq2] at heq
    have HEQ := Aside0.mk heq
    obtain ⟨k1, k2, k3, k4, k5⟩ := epc_form heq2
    have HNQ : Aside0 (∀ w, Calls Try.prog 34 #[.string q] w fun e w' => ∃ v0 : Value, e = .returned v0 ∧ Kd.R Kd.string 9 w' w.heap.size (fun _ => True) v0 ((names y).map mk) ∧ Below w.heap.size w w') := ⟨fun w => by have h := NamesC q (by omega) w; rw [hqd] at h; exact h⟩
    by_cases hn1 : ¬ (names y).length = 1
    · have hn2 : ((((names y).length : Nat) : Int) != 1) = true := by rw [bne_iff_ne]; omega
      obtain ⟨n, hn⟩ : ∃ n, names y = n := ⟨_, rfl⟩
      rw [hn] at HNQ hn2 hn1
      have hn3 : (n.length = 1) = False := eq_false hn1
      clear hx hxs hsd hec hep heq hy hys hqd hy0 h1 h2 h3 h4 h5 hfew heq2 k1 k2 k3 k4 k5 hn
      go_enter Try.func12, Try.ntmps12
      go_wp2_with (first | ((with_reducible refine (HEC.out _).mono ?_); rintro e w' ⟨rfl, hb⟩; have nb_ := Aside0.mk (below_step (by repeat (first | (with_reducible first | exact HB.out | apply below_alloc | apply pw_below_drewN | apply below_drew1) | exact HB.out)) hb); clear HB; have HB := nb_; clear nb_; (try clear hb)) | ((with_reducible refine (HEQ.out _).mono ?_); rintro e w' ⟨rfl, hb⟩; have nb_ := Aside0.mk (below_step (by repeat (first | (with_reducible first | exact HB.out | apply below_alloc | apply pw_below_drewN | apply below_drew1) | exact HB.out)) hb); clear HB; have HB := nb_; clear nb_; (try clear hb)) | ((with_reducible refine (HNQ.out _).mono ?_); rintro e w' ⟨v, rfl, hg, hb⟩; clear HNQ; (obtain ⟨An, cn, en⟩ := Kd.R_slice hg); rw [List.length_map] at en; subst en; clear hg; have nb_ := Aside0.mk (below_step (by repeat (first | (with_reducible first | exact HB.out | apply below_alloc | apply pw_below_drewN | apply below_drew1) | exact HB.out)) hb); clear HB; have HB := nb_; clear nb_; (try clear hb)))
      go_ret
      exact ⟨rfl, (by repeat (first | (with_reducible first | exact HB.out | apply below_alloc | apply pw_below_drewN | apply below_drew1) | exact HB.out))⟩
    have hn1 : (names y).length = 1 := Decidable.not_not.1 hn1
    have hpq : 0 < q.size := by rw [hys]; exact List.length_pos_iff.2 hy0
    cases hry : rooted y with
    | true =>
      have hbq := head_byte q y hy hy0 true hry
      obtain ⟨n, hn⟩ : ∃ n, names y = n := ⟨_, rfl⟩
      rw [hn] at HNQ hn1
      clear hx hxs hsd hec hep heq hy hys hqd hy0 h1 h2 h3 h4 h5 hfew heq2 k1 k2 k3 k4 k5 hn hry
      go_enter Try.func12, Try.ntmps12
      go_wp2_with (first | ((with_reducible refine (HEC.out _).mono ?_); rintro e w' ⟨rfl, hb⟩; have nb_ := Aside0.mk (below_step (by repeat (first | (with_reducible first | exact HB.out | apply below_alloc | apply pw_below_drewN | apply below_drew1) | exact HB.out)) hb); clear HB; have HB := nb_; clear nb_; (try clear hb)) | ((with_reducible refine (HEQ.out _).mono ?_); rintro e w' ⟨rfl, hb⟩; have nb_ := Aside0.mk (below_step (by repeat (first | (with_reducible first | exact HB.out | apply below_alloc | apply pw_below_drewN | apply below_drew1) | exact HB.out)) hb); clear HB; have HB := nb_; clear nb_; (try clear hb)) | ((with_reducible refine (HNQ.out _).mono ?_); rintro e w' ⟨v, rfl, hg, hb⟩; clear HNQ; (obtain ⟨An, cn, en⟩ := Kd.R_slice hg); rw [List.length_map] at en; subst en; clear hg; have nb_ := Aside0.mk (below_step (by repeat (first | (with_reducible first | exact HB.out | apply below_alloc | apply pw_below_drewN | apply below_drew1) | exact HB.out)) hb); clear HB; have HB := nb_; clear nb_; (try clear hb)))
      go_ret
      exact ⟨rfl, (by repeat (first | (with_reducible first | exact HB.out | apply below_alloc | apply pw_below_drewN | apply below_drew1) | exact HB.out))⟩
    | false =>
    have hbq := head_byte q y hy hy0 false hry
    rw [hry, if_neg (by decide)] at k5
    have hgq : Good [y] := by
      obtain ⟨a, ha⟩ := List.length_eq_one_iff.1 hn1
      rw [ha] at k5 k2
      have : y = a := by rw [k5]; rfl
      rw [this]; exact k2
    have hyz : y.length ≤ 200 := k1
    have hxm : ∀ p ∈ names x, p.length ≤ 200 := fun p hp => by have := (names_mem x p hp).2; omega
    obtain ⟨i, hi⟩ : ∃ i, clampI place (names x).length = i := ⟨_, rfl⟩
    have hil : i ≤ (names x).length := by rw [← hi]; exact clampI_le _ _
    obtain ⟨J, hJ⟩ : ∃ J, joinL [47] (insI (names x) i y) = J := ⟨_, rfl⟩
    have hins : (insI (names x) i y).length = (names x).length + 1 := by simp [insI]; omega
    have hinm : ∀ p ∈ insI (names x) i y, p.length ≤ 200 := by
      intro p hp
      simp only [insI, List.mem_append, List.mem_cons] at hp
      rcases hp with hp | rfl | hp
      · exact hxm p (List.mem_of_mem_take hp)
      · exact hyz
      · exact hxm p (List.mem_of_mem_drop hp)
    have hJz : J.length ≤ 20502 := by
      have := joinL_le [47] 200 (insI (names x) i y) hinm
      rw [hJ, hins] at this
      have h9 : ((names x).length + 1) * (200 + 1) ≤ 102 * 201 := Nat.mul_le_mul (by omega) (Nat.le_refl _)
      simp at this; omega
    obtain ⟨jo, hjo⟩ : ∃ jo, mk J = jo := ⟨_, rfl⟩
    have hjz : jo.size ≤ 20502 := by rw [← hjo, mk_size]; exact hJz
    obtain ⟨rq, hrq⟩ : ∃ rq, (⟨#[47]⟩ : ByteArray) ++ q = rq := ⟨_, rfl⟩
    have HI : Aside0 (∀ w A c, Kd.C Kd.string w A (names x).length ((names x).map mk) → (names x).length ≤ c → Calls Try.prog 40 #[.slice A (names x).length c, .int .i64 place, .string q] w fun e w' => ∃ v0 : Value, e = .returned v0 ∧ Kd.R Kd.string 9 w' w.heap.size (fun _ => True) v0 ((insI (names x) i y).map mk) ∧ Below w.heap.size w w') := ⟨fun w A c h hc => by have h := Inserted_calls A c (names x) place q w h hc (by omega); rw [hi, hqd] at h; exact h⟩
    have HJ : Aside0 (∀ w A c, Kd.C Kd.string w A (insI (names x) i y).length ((insI (names x) i y).map mk) → (insI (names x) i y).length ≤ c → Calls Try.prog 25 #[.slice A (insI (names x) i y).length c] w fun e w' => e = .returned (.string jo) ∧ Below w.heap.size w w') := ⟨fun w A c h hc => by have h := JoinAll_calls A c _ w h hc (by omega) hinm; rw [ins_join h2 i hgq, hJ, hjo] at h; exact h⟩
    have HN : Aside0 (∀ w, Calls Try.prog 34 #[.string s] w fun e w' => ∃ v0 : Value, e = .returned v0 ∧ Kd.R Kd.string 9 w' w.heap.size (fun _ => True) v0 ((names x).map mk) ∧ Below w.heap.size w w') := ⟨fun w => by have h := NamesC s (by omega) w; rw [hsd] at h; exact h⟩
    have HP2 : Aside0 (∀ w, Calls Try.prog 41 #[.string ⟨#[]⟩, .int .i64 place, .string q] w fun e w' => e = .returned (.string q) ∧ Below w.heap.size w w') := ⟨fun w => by
      have h := InsG_calls ⟨#[]⟩ q place false [] (fun _ h => by simp at h) (by simp) (by simp) (by rw [hqd]; exact hgq) (by rw [hqd]; exact hyz) empty_hk w
      rw [if_neg (by decide), hqd, show joinL [47] (insI ([] : List L) (clampI place ([] : List L).length) y) = y from by simp [insI, joinL], ← hy] at h; exact h⟩
    have HP3 : Aside0 (∀ w, Calls Try.prog 41 #[.string ⟨#[47]⟩, .int .i64 place, .string q] w fun e w' => e = .returned (.string rq) ∧ Below w.heap.size w w') := ⟨fun w => by
      have h := InsG_calls ⟨#[47]⟩ q place true [] (fun _ h => by simp at h) (by simp) (by simp) (by rw [hqd]; exact hgq) (by rw [hqd]; exact hyz) root_hk w
      rw [if_pos rfl, hqd, show joinL [47] (insI ([] : List L) (clampI place ([] : List L).length) y) = y from by simp [insI, joinL], show mk (47 :: y) = rq from by rw [← hrq, hy]; exact (mk_append [47] y).symm] at h; exact h⟩
    have hpx : 0 < s.size := by rw [hxs]; exact List.length_pos_iff.2 h4
    have hhk := path_hk hep
    rw [← hx] at hhk
    have hig := fun w => InsG_calls s q place (rooted x) (names x) h2 hfew hxm (by rw [hqd]; exact hgq) (by rw [hqd]; exact hyz) hhk w
    rw [hqd, hi, hJ] at hig
    have b1 : (1 + q.size ≤ 9223372036854775807) = True := eq_true (by omega)
    have b2 : (9223372036854775807 < 1 + q.size) = False := eq_false (by omega)
    have b3 : (1 + jo.size ≤ 9223372036854775807) = True := eq_true (by omega)
    have b4 : (9223372036854775807 < 1 + jo.size) = False := eq_false (by omega)
    have tq2 : (q.toList == q.toList) = true := by simp
    obtain ⟨n, hn⟩ : ∃ n, names y = n := ⟨_, rfl⟩
    rw [hn] at HNQ hn1
    obtain ⟨nx, hnx⟩ : ∃ nx, names x = nx := ⟨_, rfl⟩
    rw [hnx] at HI HJ HN
    obtain ⟨ni, hni⟩ : ∃ ni, insI nx i y = ni := ⟨_, rfl⟩
    rw [hni] at HI HJ
    cases hr : rooted x with
    | true =>
      have hbx := head_byte s x hx h4 true hr
      rw [hr, if_pos rfl] at hig
      obtain ⟨so, hso⟩ : ∃ so, mk (47 :: J) = so := ⟨_, rfl⟩
      rw [hso] at hig
      have hres : (⟨#[47]⟩ : ByteArray) ++ jo = so := by rw [← hso, ← hjo]; exact mk_append [47] J
      have HG := Aside0.mk hig
      clear hx hxs hsd hec hep heq hy hys hqd hy0 h1 h2 h3 h4 h5 hfew heq2 k1 k2 k3 k4 k5 hn hry hgq hyz hxm hi hil hJ hins hinm hJz hjo hjz hhk hig hr hnx hni 
      go_enter Try.func12, Try.ntmps12
      go_wp2_with (first | ((with_reducible refine (HEC.out _).mono ?_); rintro e w' ⟨rfl, hb⟩; have nb_ := Aside0.mk (below_step (by repeat (first | (with_reducible first | exact HB.out | apply below_alloc | apply pw_below_drewN | apply below_drew1) | exact HB.out)) hb); clear HB; have HB := nb_; clear nb_; (try clear hb)) | ((with_reducible refine (HEQ.out _).mono ?_); rintro e w' ⟨rfl, hb⟩; have nb_ := Aside0.mk (below_step (by repeat (first | (with_reducible first | exact HB.out | apply below_alloc | apply pw_below_drewN | apply below_drew1) | exact HB.out)) hb); clear HB; have HB := nb_; clear nb_; (try clear hb)) | ((with_reducible refine (HNQ.out _).mono ?_); rintro e w' ⟨v, rfl, hg, hb⟩; clear HNQ; (obtain ⟨An, cn, en⟩ := Kd.R_slice hg); rw [List.length_map] at en; subst en; clear hg; have nb_ := Aside0.mk (below_step (by repeat (first | (with_reducible first | exact HB.out | apply below_alloc | apply pw_below_drewN | apply below_drew1) | exact HB.out)) hb); clear HB; have HB := nb_; clear nb_; (try clear hb)) | ((with_reducible refine (HN.out _).mono ?_); rintro e wa ⟨v, rfl, hg, hb⟩; clear HN; (obtain ⟨A1, c1, e1⟩ := Kd.R_slice hg); rw [List.length_map] at e1; subst e1; have hh := (Kd.R_reads' hg).2; rw [List.length_map] at hh; have CV1 := Aside0.mk hh.2; have LV1 := Aside0.mk hh.1; clear hh hg; have nb_ := Aside0.mk (below_step (by repeat (first | (with_reducible first | exact HB.out | apply below_alloc | apply pw_below_drewN | apply below_drew1) | exact HB.out)) hb); clear HB; have HB := nb_; clear nb_; (try clear hb)) | ((with_reducible refine (HI.out _ A1 c1 CV1.out LV1.out).mono ?_); rintro e wa ⟨v, rfl, hg, hb⟩; clear HI CV1; (obtain ⟨A2, c2, e2⟩ := Kd.R_slice hg); rw [List.length_map] at e2; subst e2; have hh := (Kd.R_reads' hg).2; rw [List.length_map] at hh; have CV2 := Aside0.mk hh.2; have LV2 := Aside0.mk hh.1; clear hh hg; have nb_ := Aside0.mk (below_step (by repeat (first | (with_reducible first | exact HB.out | apply below_alloc | apply pw_below_drewN | apply below_drew1) | exact HB.out)) hb); clear HB; have HB := nb_; clear nb_; (try clear hb)) | ((with_reducible refine (HJ.out _ A2 c2 CV2.out LV2.out).mono ?_); rintro e w' ⟨rfl, hb⟩; clear HJ CV2; have nb_ := Aside0.mk (below_step (by repeat (first | (with_reducible first | exact HB.out | apply below_alloc | apply pw_below_drewN | apply below_drew1) | exact HB.out)) hb); clear HB; have HB := nb_; clear nb_; (try clear hb)) | ((with_reducible refine (HG.out _).mono ?_); rintro e w' ⟨rfl, hb⟩; clear HG; have nb_ := Aside0.mk (below_step (by repeat (first | (with_reducible first | exact HB.out | apply below_alloc | apply pw_below_drewN | apply below_drew1) | exact HB.out)) hb); clear HB; have HB := nb_; clear nb_; (try clear hb)) | ((with_reducible refine (HP2.out _).mono ?_); rintro e w' ⟨rfl, hb⟩; clear HP2; have nb_ := Aside0.mk (below_step (by repeat (first | (with_reducible first | exact HB.out | apply below_alloc | apply pw_below_drewN | apply below_drew1) | exact HB.out)) hb); clear HB; have HB := nb_; clear nb_; (try clear hb)) | ((with_reducible refine (HP3.out _).mono ?_); rintro e w' ⟨rfl, hb⟩; clear HP3; have nb_ := Aside0.mk (below_step (by repeat (first | (with_reducible first | exact HB.out | apply below_alloc | apply pw_below_drewN | apply below_drew1) | exact HB.out)) hb); clear HB; have HB := nb_; clear nb_; (try clear hb)))
      go_ret
      exact ⟨by first | rfl | simp, (by repeat (first | (with_reducible first | exact HB.out | apply below_alloc | apply pw_below_drewN | apply below_drew1) | exact HB.out))⟩
    | false =>
      have hbx := head_byte s x hx h4 false hr
      rw [hr, if_neg (by decide), hjo] at hig
      have HG := Aside0.mk hig
      clear hx hxs hsd hec hep heq hy hys hqd hy0 h1 h2 h3 h4 h5 hfew heq2 k1 k2 k3 k4 k5 hn hry hgq hyz hxm hi hil hJ hins hinm hJz hjo hjz hhk hig hr hnx hni 
      go_enter Try.func12, Try.ntmps12
      go_wp2_with (first | ((with_reducible refine (HEC.out _).mono ?_); rintro e w' ⟨rfl, hb⟩; have nb_ := Aside0.mk (below_step (by repeat (first | (with_reducible first | exact HB.out | apply below_alloc | apply pw_below_drewN | apply below_drew1) | exact HB.out)) hb); clear HB; have HB := nb_; clear nb_; (try clear hb)) | ((with_reducible refine (HEQ.out _).mono ?_); rintro e w' ⟨rfl, hb⟩; have nb_ := Aside0.mk (below_step (by repeat (first | (with_reducible first | exact HB.out | apply below_alloc | apply pw_below_drewN | apply below_drew1) | exact HB.out)) hb); clear HB; have HB := nb_; clear nb_; (try clear hb)) | ((with_reducible refine (HNQ.out _).mono ?_); rintro e w' ⟨v, rfl, hg, hb⟩; clear HNQ; (obtain ⟨An, cn, en⟩ := Kd.R_slice hg); rw [List.length_map] at en; subst en; clear hg; have nb_ := Aside0.mk (below_step (by repeat (first | (with_reducible first | exact HB.out | apply below_alloc | apply pw_below_drewN | apply below_drew1) | exact HB.out)) hb); clear HB; have HB := nb_; clear nb_; (try clear hb)) | ((with_reducible refine (HN.out _).mono ?_); rintro e wa ⟨v, rfl, hg, hb⟩; clear HN; (obtain ⟨A1, c1, e1⟩ := Kd.R_slice hg); rw [List.length_map] at e1; subst e1; have hh := (Kd.R_reads' hg).2; rw [List.length_map] at hh; have CV1 := Aside0.mk hh.2; have LV1 := Aside0.mk hh.1; clear hh hg; have nb_ := Aside0.mk (below_step (by repeat (first | (with_reducible first | exact HB.out | apply below_alloc | apply pw_below_drewN | apply below_drew1) | exact HB.out)) hb); clear HB; have HB := nb_; clear nb_; (try clear hb)) | ((with_reducible refine (HI.out _ A1 c1 CV1.out LV1.out).mono ?_); rintro e wa ⟨v, rfl, hg, hb⟩; clear HI CV1; (obtain ⟨A2, c2, e2⟩ := Kd.R_slice hg); rw [List.length_map] at e2; subst e2; have hh := (Kd.R_reads' hg).2; rw [List.length_map] at hh; have CV2 := Aside0.mk hh.2; have LV2 := Aside0.mk hh.1; clear hh hg; have nb_ := Aside0.mk (below_step (by repeat (first | (with_reducible first | exact HB.out | apply below_alloc | apply pw_below_drewN | apply below_drew1) | exact HB.out)) hb); clear HB; have HB := nb_; clear nb_; (try clear hb)) | ((with_reducible refine (HJ.out _ A2 c2 CV2.out LV2.out).mono ?_); rintro e w' ⟨rfl, hb⟩; clear HJ CV2; have nb_ := Aside0.mk (below_step (by repeat (first | (with_reducible first | exact HB.out | apply below_alloc | apply pw_below_drewN | apply below_drew1) | exact HB.out)) hb); clear HB; have HB := nb_; clear nb_; (try clear hb)) | ((with_reducible refine (HG.out _).mono ?_); rintro e w' ⟨rfl, hb⟩; clear HG; have nb_ := Aside0.mk (below_step (by repeat (first | (with_reducible first | exact HB.out | apply below_alloc | apply pw_below_drewN | apply below_drew1) | exact HB.out)) hb); clear HB; have HB := nb_; clear nb_; (try clear hb)) | ((with_reducible refine (HP2.out _).mono ?_); rintro e w' ⟨rfl, hb⟩; clear HP2; have nb_ := Aside0.mk (below_step (by repeat (first | (with_reducible first | exact HB.out | apply below_alloc | apply pw_below_drewN | apply below_drew1) | exact HB.out)) hb); clear HB; have HB := nb_; clear nb_; (try clear hb)) | ((with_reducible refine (HP3.out _).mono ?_); rintro e w' ⟨rfl, hb⟩; clear HP3; have nb_ := Aside0.mk (below_step (by repeat (first | (with_reducible first | exact HB.out | apply below_alloc | apply pw_below_drewN | apply below_drew1) | exact HB.out)) hb); clear HB; have HB := nb_; clear nb_; (try clear hb)))
      go_ret
      exact ⟨by first | rfl | simp, (by repeat (first | (with_reducible first | exact HB.out | apply below_alloc | apply pw_below_drewN | apply below_drew1) | exact HB.out))⟩
end Go.Proofs.Ytllmmnhgchidkaa.Hand
