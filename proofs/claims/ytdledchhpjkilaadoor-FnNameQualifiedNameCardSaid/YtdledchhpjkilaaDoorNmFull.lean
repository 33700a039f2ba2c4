/- zzJoin ends; IsFullyQualifiedName and Full. -/
import Derived.Test.YtdledchhpjkilaaDoorNmSubs
import Derived.Test.YtdledchhpjkilaaDoorNmChk68
namespace Go.Proofs.YtdledchhpjkilaaDoor.Hand
open Go.RowKit Go.Proofs.YtdledchhpjkilaaDoor.PFnNameDomainName Go.Proofs.YtdledchhpjkilaaDoorW.PrintWords Go.Proofs.YtdledchhpjkilaaDoorW.PrintLast Go.Proofs.YtdledchhpjkilaaDoorW.PrintMore Go.Proofs.YtdledchhpjkilaaDoor.Base
set_option linter.unusedVariables false
set_option linter.unusedSimpArgs false
set_option maxRecDepth 100000

theorem zzJoin_l0 (sep : ByteArray) (xs : List ByteArray) (hn : xs.length ≤ 10) (hx : ∀ p ∈ xs, p.size ≤ 5000) (hs : sep.size ≤ 10) :
    ∀ (d i : Nat) (acc : ByteArray), i + d = xs.length → acc.size ≤ i * 5010 → ∃ r : ByteArray, r.size ≤ 100000 ∧ Ev (fun k => validation_zzJoin.l0 k sep acc xs (xs.length : Int) i) r := by
  intro d
  induction d with
  | zero =>
    intro i acc hi ha
    refine ⟨acc, by have : i * 5010 ≤ 10 * 5010 := Nat.mul_le_mul_right _ (by omega); omega, ?_⟩
    exact Ev.step (fun k => by simp only [validation_zzJoin.l0]; rw [if_neg (by omega)]) (Ev.now _)
  | succ d ih =>
    intro i acc hi ha
    have hlt : i < xs.length := by omega
    have hb : i * 5010 ≤ 10 * 5010 := Nat.mul_le_mul_right _ (by omega)
    obtain ⟨p, hp⟩ : ∃ p, rdOf ByteArray.empty xs (i : Int) = p := ⟨_, rfl⟩
    have hps : p.size ≤ 5000 := by
      rw [← hp]; unfold rdOf; rw [Int.toNat_natCast, getD_of xs _ hlt]; exact hx _ (List.getElem_mem hlt)
    by_cases h0 : 0 < i
    · obtain ⟨r, hr1, hr2⟩ := ih (i + 1) ((acc ++ sep) ++ p) (by omega) (by rw [app_size, app_size]; omega)
      refine ⟨r, hr1, Ev.step (fun k => ?_) hr2⟩
      simp only [validation_zzJoin.l0]
      rw [if_pos (by omega), if_pos (by omega), if_pos (by omega), if_pos (by omega), hp, if_pos (by omega), if_pos (by rw [app_size]; omega), wrap_id (by omega) (by omega)]
      rfl
    · obtain ⟨r, hr1, hr2⟩ := ih (i + 1) (acc ++ p) (by omega) (by rw [app_size]; omega)
      refine ⟨r, hr1, Ev.step (fun k => ?_) hr2⟩
      simp only [validation_zzJoin.l0]
      rw [if_pos (by omega), if_pos (by omega), if_pos (by omega), if_neg (by omega), hp, if_pos (by omega), wrap_id (by omega) (by omega)]
      rfl
theorem zzJoin_calls (xs : List ByteArray) (hn : xs.length ≤ 10) (hx : ∀ p ∈ xs, p.size ≤ 5000) : ∃ r : ByteArray, r.size ≤ 100000 ∧ ∀ (A : Option Addr) (c : Nat) (w : World), Kd.C Kd.string w A xs.length xs → xs.length ≤ c →
    Calls Tryd.prog 94 #[.slice A xs.length c, .string ⟨#[44]⟩] w fun e w' => e = .returned (.string r) ∧ Drawn0 w w' := by
  obtain ⟨r, hr1, hr2⟩ := zzJoin_l0 ⟨#[44]⟩ xs hn hx (by decide) xs.length 0 ⟨#[]⟩ (by omega) (by decide)
  obtain ⟨k, hk⟩ := hr2.rounds
  exact ⟨r, hr1, fun A c w hr hc => validation_zzJoin.calls k A c xs ⟨#[44]⟩ r w hr hc hk⟩

def pFull (x : L) : Bool := (most 253 x && sub x) && decide (3 ≤ (pieces 46 x).length)
theorem sub_ne {x : L} (h : sub x = true) : x ≠ [] := by
  intro e; subst e; revert h; decide
set_option maxHeartbeats 4000000 in
theorem errs72 (s : ByteArray) (hs : s.size ≤ 100000000) (w : World) (hT : Tab w) :
    Calls Tryd.prog 72 #[.string s] w fun e w' => Errs2 (pFull s.data.toList) w e w' := by
  obtain ⟨x, hx, hxs⟩ : ∃ x : L, s = mk x ∧ s.size = x.length := exists_mk s
  have HB := Aside0.mk (Below.refl w.heap.size w)
  have HR : Aside0 (Kd.R Kd.string 9 w w.heap.size (fun _ => True) (.slice none 0 0) ([] : List ByteArray)) := ⟨Kd.R_nil _ _ _ _ _⟩
  have HLEN : Aside0 (([] : List ByteArray).length ≤ 20) := ⟨by decide⟩
  have h1 : ∀ w', Below w.heap.size w w' → Calls Tryd.prog 68 #[.string s] w' fun e w2 => Errs (most 253 s.data.toList && sub s.data.toList) w' e w2 := fun w' hb => errs68 s hs w' (hT.below hb)
  have h2 : ∀ w, Calls Tryd.prog 95 #[.string s, .string ⟨#[46]⟩] w fun e w' => ∃ v0_ : Value, e = .returned (v0_) ∧ Kd.R Kd.string 9 w' w.heap.size (fun _ => True) v0_ ((pieces 46 s.data.toList).map mk) ∧ Below w.heap.size w w' := fun w => Split_calls 46 s (by omega) w
  rw [show s.data.toList = x by rw [hx]; rfl] at h1 h2 ⊢
  by_cases h0 : s.size = 0
  · have hP : pFull x = false := by
      have : x = [] := List.eq_nil_of_length_eq_zero (by omega)
      rw [this]; decide
    have e0 : (((s.size : Nat) : Int) == 0) = true := by rw [beq_iff_eq]; omega
    rw [hP]
    clear h1 h2 hP hx hxs
    have HNEW : Aside0 (([] : List ByteArray) ++ [⟨#[114, 101, 113, 117, 105, 114, 101, 100]⟩] = [⟨#[114, 101, 113, 117, 105, 114, 101, 100]⟩]) := ⟨rfl⟩
    go_enter Tryd.func72, Tryd.ntmps72
    go_upto_region 1 with (fail)
    go_cut [3] (fun v3 wc => Aside0 (Kd.R Kd.string 9 wc w.heap.size (fun _ => True) v3 ([] : List ByteArray)) ∧ w = wc)
    case first =>
      go_wp2
      go_meet
      case rel => exact ⟨HR, rfl⟩
    case rest =>
      clear HR
      obtain ⟨HR, rfl⟩ := hcut
      go_wp2_with (first | ((with_reducible refine gate_builtin (b := .append) (xs := #[.tmp 8, .tmp 9]) rfl ?_); (try (refine gate_guard (by rfl) ?_; dsimp only)); at_builtin; refine Kd.R_append Kd.string (w0 := w) w.heap.size rfl (.tmp 8) (.tmp 9) 22 9 (.string ⟨#[]⟩) 16 rfl Tryd.underlying22 infoS rfl (by decide) (by omega) u3 (([] : List ByteArray)) ((⟨#[114, 101, 113, 117, 105, 114, 101, 100]⟩ : ByteArray)) [.string ((⟨#[114, 101, 113, 117, 105, 114, 101, 100]⟩ : ByteArray))] (fun _ => True) (fun _ => False) rfl rfl ?aP (fun _ hk => hk.elim) ?aF ?aO ?aB ?aS ?aL ?_; (case aP => exact rfl); (case aB => exact (by repeat (first | (with_reducible first | exact HB.out | apply below_alloc | apply pw_below_drewN | apply below_drew1) | exact HB.out))); (case aF => exact (fun _ _ => trivial)); (case aO => exact (by (with_reducible repeat (first | apply Kd.R_alloc | apply Kd.R_drewN | apply Kd.R_drew)); exact HR.out)); (case aS => exact (below_size (by repeat (first | (with_reducible first | exact HB.out | apply below_alloc | apply pw_below_drewN | apply below_drew1) | exact HB.out)))); (case aL => have := HLEN.out; (try simp only [List.length_map, List.length_nil] at *); omega); intro vN wN ho hb hg hat; rw [HNEW.out] at ho; clear HB; clear HR; have HB := Aside0.mk hb; have HR := Aside0.mk ho; clear ho hb hg hat))
      go_ret
      exact ⟨_, _, rfl, (by (with_reducible repeat (first | apply Kd.R_alloc | apply Kd.R_drewN | apply Kd.R_drew)); exact HR.out), rfl, by decide, by decide, (by repeat (first | (with_reducible first | exact HB.out | apply below_alloc | apply pw_below_drewN | apply below_drew1) | exact HB.out))⟩
  have e0 : (((s.size : Nat) : Int) == 0) = false := by rw [beq_eq_false_iff_ne]; omega
  have hP : pFull x = ((most 253 x && sub x) && decide (3 ≤ (pieces 46 x).length)) := rfl
  obtain ⟨l, hl⟩ : ∃ l, (pieces 46 x).map mk = l := ⟨_, rfl⟩
  have hll : l.length = (pieces 46 x).length := by rw [← hl, List.length_map]
  have hlm : l.length ≤ 100000001 := by have := pieces_len 46 x; omega
  rw [hl] at h2
  rw [hP, ← hll]
  obtain ⟨z, hz⟩ : ∃ z, (most 253 x && sub x) = z := ⟨_, rfl⟩
  rw [hz] at h1 ⊢
  clear hP hx hxs hl hll hz
  have H1 := Aside0.mk h1; have H2 := Aside0.mk h2
  clear h1 h2
  cases z with
  | false =>
    go_enter Tryd.func72, Tryd.ntmps72
    go_upto_region 1 with (fail)
    go_cut [3] (fun v3 wc => Aside0 (Kd.R Kd.string 9 wc w.heap.size (fun _ => True) v3 ([] : List ByteArray)) ∧ w = wc)
    case first =>
      go_wp2
      go_meet
      case rel => exact ⟨HR, rfl⟩
    case rest =>
      clear HR
      obtain ⟨HR, rfl⟩ := hcut
      go_wp2_with (first | ((with_reducible refine (H1.out _ (by repeat (first | (with_reducible first | exact HB.out | apply below_alloc | apply pw_below_drewN | apply below_drew1) | exact HB.out))).mono ?_); rintro e w' ⟨v0, xs, rfl, g1, g2, g3, g4, hb⟩; have nr_ := Aside0.mk (Kd.R_below (by (with_reducible repeat (first | apply Kd.R_alloc | apply Kd.R_drewN | apply Kd.R_drew)); exact HR.out) hb); clear HR; have HR := nr_; clear nr_; (obtain ⟨A1, c1, e1⟩ := Kd.R_slice g1); subst e1; have HQ := Aside0.mk (Kd.R_reads' g1); have hz : 0 < xs.length := (by cases xs with | nil => simp at g2 | cons a b => simp); (obtain ⟨r2, hr2, hj⟩ := zzJoin_calls xs g3 g4); have HJ := Aside0.mk hj; clear hj g1 g2 g3 g4; have nb_ := Aside0.mk (below_step (by repeat (first | (with_reducible first | exact HB.out | apply below_alloc | apply pw_below_drewN | apply below_drew1) | exact HB.out)) hb); clear HB; have HB := nb_; clear nb_; (try clear hb); (obtain ⟨ys, hys⟩ : ∃ ys, ([] : List ByteArray) ++ [r2] = ys := ⟨_, rfl⟩); have HNEW := Aside0.mk hys; clear hys) | ((with_reducible refine (HJ.out A1 c1 _ ?hC HQ.out.2.1).mono ?_); (case hC => (with_reducible repeat (first | exact HQ.out.2.2 | refine Kd.C_alloc ?_ _ | refine Kd.C_drewN ?_ _ | refine Kd.C_drew ?_))); rintro e w' ⟨rfl, ⟨nd, rfl⟩⟩) | ((with_reducible refine gate_builtin (b := .append) (xs := #[.tmp 16, .tmp 19]) rfl ?_); (try (refine gate_guard (by rfl) ?_; dsimp only)); at_builtin; refine Kd.R_append Kd.string (w0 := w) w.heap.size rfl (.tmp 16) (.tmp 19) 22 9 (.string ⟨#[]⟩) 16 rfl Tryd.underlying22 infoS rfl (by decide) (by omega) u3 (([] : List ByteArray)) (r2) [.string (r2)] (fun _ => True) (fun _ => False) rfl rfl ?aP (fun _ hk => hk.elim) ?aF ?aO ?aB ?aS ?aL ?_; (case aP => exact rfl); (case aB => exact (by repeat (first | (with_reducible first | exact HB.out | apply below_alloc | apply pw_below_drewN | apply below_drew1) | exact HB.out))); (case aF => exact (fun _ _ => trivial)); (case aO => exact (by (with_reducible repeat (first | apply Kd.R_alloc | apply Kd.R_drewN | apply Kd.R_drew)); exact HR.out)); (case aS => exact (below_size (by repeat (first | (with_reducible first | exact HB.out | apply below_alloc | apply pw_below_drewN | apply below_drew1) | exact HB.out)))); (case aL => have := HLEN.out; (try simp only [List.length_map, List.length_nil] at *); omega); intro vN wN ho hb hg hat; rw [HNEW.out] at ho; clear HB; clear HR; have HB := Aside0.mk hb; have HR := Aside0.mk ho; clear ho hb hg hat))
      go_ret
      exact ⟨_, ys, rfl, (by (with_reducible repeat (first | apply Kd.R_alloc | apply Kd.R_drewN | apply Kd.R_drew)); exact HR.out), Errs.snoc HNEW.out, by rw [← HNEW.out]; simp, fun p hp => by rw [← HNEW.out] at hp; simp at hp; subst hp; omega, (by repeat (first | (with_reducible first | exact HB.out | apply below_alloc | apply pw_below_drewN | apply below_drew1) | exact HB.out))⟩
  | true =>
    by_cases h3 : 3 ≤ l.length
    · rw [decide_eq_true h3]
      go_enter Tryd.func72, Tryd.ntmps72
      go_upto_region 1 with (fail)
      go_cut [3] (fun v3 wc => Aside0 (Kd.R Kd.string 9 wc w.heap.size (fun _ => True) v3 ([] : List ByteArray)) ∧ w = wc)
      case first =>
        go_wp2
        go_meet
        case rel => exact ⟨HR, rfl⟩
      case rest =>
        clear HR
        obtain ⟨HR, rfl⟩ := hcut
        go_wp2_with (first | ((with_reducible refine (H1.out _ (by repeat (first | (with_reducible first | exact HB.out | apply below_alloc | apply pw_below_drewN | apply below_drew1) | exact HB.out))).mono ?_); rintro e w' ⟨v0, xs, rfl, g1, g2, g3, g4, hb⟩; have nr_ := Aside0.mk (Kd.R_below (by (with_reducible repeat (first | apply Kd.R_alloc | apply Kd.R_drewN | apply Kd.R_drew)); exact HR.out) hb); clear HR; have HR := nr_; clear nr_; (obtain ⟨A1, c1, e1⟩ := Kd.R_slice g1); subst e1; (obtain rfl : xs = [] := (by cases xs with | nil => rfl | cons a b => simp at g2)); clear g1 g2 g3 g4; have nb_ := Aside0.mk (below_step (by repeat (first | (with_reducible first | exact HB.out | apply below_alloc | apply pw_below_drewN | apply below_drew1) | exact HB.out)) hb); clear HB; have HB := nb_; clear nb_; (try clear hb)) | ((with_reducible refine (H2.out _).mono ?_); rintro e w' ⟨v0, rfl, g1, hb⟩; have nr_ := Aside0.mk (Kd.R_below (by (with_reducible repeat (first | apply Kd.R_alloc | apply Kd.R_drewN | apply Kd.R_drew)); exact HR.out) hb); clear HR; have HR := nr_; clear nr_; (obtain ⟨A2, c2, e2⟩ := Kd.R_slice g1); subst e2; clear g1; have nb_ := Aside0.mk (below_step (by repeat (first | (with_reducible first | exact HB.out | apply below_alloc | apply pw_below_drewN | apply below_drew1) | exact HB.out)) hb); clear HB; have HB := nb_; clear nb_; (try clear hb)))
        go_ret
        exact ⟨_, [], rfl, (by (with_reducible repeat (first | apply Kd.R_alloc | apply Kd.R_drewN | apply Kd.R_drew)); exact HR.out), rfl, by decide, fun p hp => by simp at hp, (by repeat (first | (with_reducible first | exact HB.out | apply below_alloc | apply pw_below_drewN | apply below_drew1) | exact HB.out))⟩
    · rw [decide_eq_false h3]
      have HNEW : Aside0 (([] : List ByteArray) ++ [⟨#[115, 104, 111, 117, 108, 100, 32, 98, 101, 32, 97, 32, 100, 111, 109, 97, 105, 110, 32, 119, 105, 116, 104, 32, 97, 116, 32, 108, 101, 97, 115, 116, 32, 116, 104, 114, 101, 101, 32, 115, 101, 103, 109, 101, 110, 116, 115, 32, 115, 101, 112, 97, 114, 97, 116, 101, 100, 32, 98, 121, 32, 100, 111, 116, 115]⟩] = [⟨#[115, 104, 111, 117, 108, 100, 32, 98, 101, 32, 97, 32, 100, 111, 109, 97, 105, 110, 32, 119, 105, 116, 104, 32, 97, 116, 32, 108, 101, 97, 115, 116, 32, 116, 104, 114, 101, 101, 32, 115, 101, 103, 109, 101, 110, 116, 115, 32, 115, 101, 112, 97, 114, 97, 116, 101, 100, 32, 98, 121, 32, 100, 111, 116, 115]⟩]) := ⟨rfl⟩
      go_enter Tryd.func72, Tryd.ntmps72
      go_upto_region 1 with (fail)
      go_cut [3] (fun v3 wc => Aside0 (Kd.R Kd.string 9 wc w.heap.size (fun _ => True) v3 ([] : List ByteArray)) ∧ w = wc)
      case first =>
        go_wp2
        go_meet
        case rel => exact ⟨HR, rfl⟩
      case rest =>
        clear HR
        obtain ⟨HR, rfl⟩ := hcut
        go_wp2_with (first | ((with_reducible refine (H1.out _ (by repeat (first | (with_reducible first | exact HB.out | apply below_alloc | apply pw_below_drewN | apply below_drew1) | exact HB.out))).mono ?_); rintro e w' ⟨v0, xs, rfl, g1, g2, g3, g4, hb⟩; have nr_ := Aside0.mk (Kd.R_below (by (with_reducible repeat (first | apply Kd.R_alloc | apply Kd.R_drewN | apply Kd.R_drew)); exact HR.out) hb); clear HR; have HR := nr_; clear nr_; (obtain ⟨A1, c1, e1⟩ := Kd.R_slice g1); subst e1; (obtain rfl : xs = [] := (by cases xs with | nil => rfl | cons a b => simp at g2)); clear g1 g2 g3 g4; have nb_ := Aside0.mk (below_step (by repeat (first | (with_reducible first | exact HB.out | apply below_alloc | apply pw_below_drewN | apply below_drew1) | exact HB.out)) hb); clear HB; have HB := nb_; clear nb_; (try clear hb)) | ((with_reducible refine (H2.out _).mono ?_); rintro e w' ⟨v0, rfl, g1, hb⟩; have nr_ := Aside0.mk (Kd.R_below (by (with_reducible repeat (first | apply Kd.R_alloc | apply Kd.R_drewN | apply Kd.R_drew)); exact HR.out) hb); clear HR; have HR := nr_; clear nr_; (obtain ⟨A2, c2, e2⟩ := Kd.R_slice g1); subst e2; clear g1; have nb_ := Aside0.mk (below_step (by repeat (first | (with_reducible first | exact HB.out | apply below_alloc | apply pw_below_drewN | apply below_drew1) | exact HB.out)) hb); clear HB; have HB := nb_; clear nb_; (try clear hb)) | ((with_reducible refine gate_builtin (b := .append) (xs := #[.tmp 25, .tmp 26]) rfl ?_); (try (refine gate_guard (by rfl) ?_; dsimp only)); at_builtin; refine Kd.R_append Kd.string (w0 := w) w.heap.size rfl (.tmp 25) (.tmp 26) 22 9 (.string ⟨#[]⟩) 16 rfl Tryd.underlying22 infoS rfl (by decide) (by omega) u3 (([] : List ByteArray)) ((⟨#[115, 104, 111, 117, 108, 100, 32, 98, 101, 32, 97, 32, 100, 111, 109, 97, 105, 110, 32, 119, 105, 116, 104, 32, 97, 116, 32, 108, 101, 97, 115, 116, 32, 116, 104, 114, 101, 101, 32, 115, 101, 103, 109, 101, 110, 116, 115, 32, 115, 101, 112, 97, 114, 97, 116, 101, 100, 32, 98, 121, 32, 100, 111, 116, 115]⟩ : ByteArray)) [.string ((⟨#[115, 104, 111, 117, 108, 100, 32, 98, 101, 32, 97, 32, 100, 111, 109, 97, 105, 110, 32, 119, 105, 116, 104, 32, 97, 116, 32, 108, 101, 97, 115, 116, 32, 116, 104, 114, 101, 101, 32, 115, 101, 103, 109, 101, 110, 116, 115, 32, 115, 101, 112, 97, 114, 97, 116, 101, 100, 32, 98, 121, 32, 100, 111, 116, 115]⟩ : ByteArray))] (fun _ => True) (fun _ => False) rfl rfl ?aP (fun _ hk => hk.elim) ?aF ?aO ?aB ?aS ?aL ?_; (case aP => exact rfl); (case aB => exact (by repeat (first | (with_reducible first | exact HB.out | apply below_alloc | apply pw_below_drewN | apply below_drew1) | exact HB.out))); (case aF => exact (fun _ _ => trivial)); (case aO => exact (by (with_reducible repeat (first | apply Kd.R_alloc | apply Kd.R_drewN | apply Kd.R_drew)); exact HR.out)); (case aS => exact (below_size (by repeat (first | (with_reducible first | exact HB.out | apply below_alloc | apply pw_below_drewN | apply below_drew1) | exact HB.out)))); (case aL => have := HLEN.out; (try simp only [List.length_map, List.length_nil] at *); omega); intro vN wN ho hb hg hat; rw [HNEW.out] at ho; clear HB; clear HR; have HB := Aside0.mk hb; have HR := Aside0.mk ho; clear ho hb hg hat))
        go_ret
        exact ⟨_, _, rfl, (by (with_reducible repeat (first | apply Kd.R_alloc | apply Kd.R_drewN | apply Kd.R_drew)); exact HR.out), rfl, by decide, by decide, (by repeat (first | (with_reducible first | exact HB.out | apply below_alloc | apply pw_below_drewN | apply below_drew1) | exact HB.out))⟩
set_option maxHeartbeats 1000000 in
theorem Full_calls (s : ByteArray) (hs : s.size ≤ 100000000) (w : World) : Calls Tryd.prog 43 #[.string s] w fun e w' => e = .returned (.bool (pFull s.data.toList)) ∧ Below w.heap.size w w' := by
  obtain ⟨x, hx, hxs⟩ : ∃ x : L, s = mk x ∧ s.size = x.length := exists_mk s
  have HB := Aside0.mk (Below.refl w.heap.size w)
  have h1 : ∀ w, Calls Tryd.prog 37 #[.string s] w fun e w' => e = .returned (.bool (most 253 s.data.toList && sub s.data.toList)) ∧ Below w.heap.size w w' := fun w => pSub_calls s (by omega) w
  have h2 : ∀ w, Calls Tryd.prog 69 #[.string s, .int .u8 46] w fun e w' => ∃ v0_ : Value, e = .returned (v0_) ∧ Kd.R Kd.string 9 w' w.heap.size (fun _ => True) v0_ ((pieces 46 s.data.toList).map mk) ∧ Below w.heap.size w w' := fun w => Pieces_calls 46 s (by omega) w
  rw [show s.data.toList = x by rw [hx]; rfl] at h1 h2 ⊢
  obtain ⟨l, hl⟩ : ∃ l, (pieces 46 x).map mk = l := ⟨_, rfl⟩
  have hll : l.length = (pieces 46 x).length := by rw [← hl, List.length_map]
  rw [hl] at h2
  have hP : pFull x = ((most 253 x && sub x) && decide (3 ≤ l.length)) := by rw [hll]; rfl
  rw [hP]
  obtain ⟨z, hz⟩ : ∃ z, (most 253 x && sub x) = z := ⟨_, rfl⟩
  rw [hz] at h1 ⊢
  clear hP hx hxs hl hll hz
  have H1 := Aside0.mk h1; have H2 := Aside0.mk h2
  clear h1 h2
  cases z with
  | false =>
    go_enter Tryd.func43, Tryd.ntmps43
    go_wp2_with (first | ((with_reducible refine (H1.out _).mono ?_); rintro e w' ⟨rfl, hb⟩; have nb_ := Aside0.mk (below_step (by repeat (first | (with_reducible first | exact HB.out | apply below_alloc | apply pw_below_drewN | apply below_drew1) | exact HB.out)) hb); clear HB; have HB := nb_; clear nb_; (try clear hb)))
    go_ret
    exact ⟨rfl, (by repeat (first | (with_reducible first | exact HB.out | apply below_alloc | apply pw_below_drewN | apply below_drew1) | exact HB.out))⟩
  | true =>
    go_enter Tryd.func43, Tryd.ntmps43
    go_wp2_with (first | ((with_reducible refine (H1.out _).mono ?_); rintro e w' ⟨rfl, hb⟩; have nb_ := Aside0.mk (below_step (by repeat (first | (with_reducible first | exact HB.out | apply below_alloc | apply pw_below_drewN | apply below_drew1) | exact HB.out)) hb); clear HB; have HB := nb_; clear nb_; (try clear hb)) | ((with_reducible refine (H2.out _).mono ?_); rintro e w' ⟨v0, rfl, g1, hb⟩; (obtain ⟨A2, c2, e2⟩ := Kd.R_slice g1); subst e2; clear g1; have nb_ := Aside0.mk (below_step (by repeat (first | (with_reducible first | exact HB.out | apply below_alloc | apply pw_below_drewN | apply below_drew1) | exact HB.out)) hb); clear HB; have HB := nb_; clear nb_; (try clear hb)))
    go_ret
    exact ⟨by first | rfl | exact congrArg (fun b : Bool => Ending.returned (Value.bool b)) (by first | (simp; done) | (simp; omega)) | exact congrArg (fun b : Bool => Ending.returned (Value.bool b)) (by rw [decide_eq_decide]; omega), (by repeat (first | (with_reducible first | exact HB.out | apply below_alloc | apply pw_below_drewN | apply below_drew1) | exact HB.out))⟩
end Go.Proofs.YtdledchhpjkilaaDoor.Hand
