/- InsertPathPart, walked. -/
import Derived.Test.YtllmmnhgchidkaaInsPure
import Derived.Test.YtllmmnhgchidkaaInsSpec
namespace Go.Proofs.Ytllmmnhgchidkaa.Hand
open Go.RowKit Go.Proofs.YtllmmnhgchidkaaW.PrintWords Go.Proofs.YtllmmnhgchidkaaW.PrintLast Go.Proofs.YtllmmnhgchidkaaW.PrintMore Go.Proofs.Ytllmmnhgchidkaa.Base Go.Proofs.Ytllmmnhgchidkaa.PFnPathParts
set_option linter.unusedVariables false
set_option linter.unusedSimpArgs false
set_option maxRecDepth 100000
theorem C_mid (A : Option Addr) (c : Nat) (P : List L) (i : Nat) (hi : i ≤ P.length) (hc : P.length ≤ c) : ∃ A' : Option Addr, (∀ W : World, (Instr.slice 22 (.slice A P.length c) (some (.int .i64 0)) (some (.int .i64 (i : Int))) none).run Try.prog W = .ok (.slice A' i c) W) ∧ ∀ w, Kd.C Kd.string w A P.length (P.map mk) → Kd.C Kd.string w A' i ((P.take i).map mk) := by
  obtain ⟨i0, hi0, _, hsz, _⟩ := info_parts infoS
  obtain ⟨A', h1, h2, h3⟩ := print_mid_of (P := Try.prog) Value.string (⟨#[]⟩ : ByteArray) 22 9 .i64 .i64 Try.underlying22 hi0 hsz A c (P.map mk) 0 (i : Int) (by omega) (by omega) (by rw [List.length_map]; omega) (by rw [List.length_map]; exact hc)
  have e : (((P.map mk).take (i : Int).toNat).drop (0 : Int).toNat) = (P.take i).map mk := by simp [List.map_take]
  have el : ((P.take i).map mk).length = i := by simp; omega
  rw [e, el] at h1 h2
  rw [List.length_map] at h1 h2
  refine ⟨A', fun W => by have := h1 W; simpa using this, fun w h => ?_⟩
  exact Kd.C_of_reads (h1 := fun _ => rfl) (by have := h2 w (by exact Kd.reads_of_C (d := (⟨#[]⟩ : ByteArray)) h); exact this)
theorem C_end (A : Option Addr) (c : Nat) (P : List L) (i : Nat) (hi : i ≤ P.length) (hc : P.length ≤ c) : ∃ A' : Option Addr, (∀ W : World, (Instr.slice 22 (.slice A P.length c) (some (.int .i64 (i : Int))) none none).run Try.prog W = .ok (.slice A' (P.length - i) (c - i)) W) ∧ ∀ w, Kd.C Kd.string w A P.length (P.map mk) → Kd.C Kd.string w A' (P.length - i) ((P.drop i).map mk) := by
  obtain ⟨i0, hi0, _, hsz, _⟩ := info_parts infoS
  obtain ⟨A', h1, h2, h3⟩ := print_drop_of (P := Try.prog) Value.string (⟨#[]⟩ : ByteArray) 22 9 .i64 Try.underlying22 hi0 hsz A c (P.map mk) (i : Int) (by omega) (by rw [List.length_map]; omega) (by rw [List.length_map]; exact hc)
  have e : ((P.map mk).drop (i : Int).toNat) = (P.drop i).map mk := by simp [List.map_drop]
  have el : ((P.drop i).map mk).length = P.length - i := by simp
  rw [e, el] at h1 h2
  rw [List.length_map] at h1 h2
  refine ⟨A', fun W => by have := h1 W; simpa using this, fun w h => ?_⟩
  exact Kd.C_of_reads (h1 := fun _ => rfl) (by have := h2 w (by exact Kd.reads_of_C (d := (⟨#[]⟩ : ByteArray)) h); exact this)
theorem spotI_le (P : List L) (p : Int) : spotI P p ≤ P.length := by
  have := clampI_le p P.length
  unfold spotI
  simp only
  split
  · rename_i h; omega
  · omega
theorem fill_eq (P : List L) (i : Nat) (hi : i ≤ P.length) (q : L) :
    ((((P.take i).map mk).take (min i (List.replicate (P.length + 1) (⟨#[]⟩ : ByteArray)).length) ++ (List.replicate (P.length + 1) (⟨#[]⟩ : ByteArray)).drop (min i (List.replicate (P.length + 1) (⟨#[]⟩ : ByteArray)).length)).set i (mk q)) = (P.take i ++ q :: List.replicate (P.length - i) []).map mk := by
  have h1 : min i (List.replicate (P.length + 1) (⟨#[]⟩ : ByteArray)).length = i := by simp; omega
  rw [h1]
  have h2 : ((P.take i).map mk).take i = (P.take i).map mk := List.take_of_length_le (by simp; omega)
  have h3 : (List.replicate (P.length + 1) (⟨#[]⟩ : ByteArray)).drop i = ⟨#[]⟩ :: List.replicate (P.length - i) ⟨#[]⟩ := by
    rw [List.drop_replicate, show P.length + 1 - i = (P.length - i) + 1 by omega, List.replicate_succ]
  rw [h2, h3, List.set_append_right _ _ (by simp; omega)]
  have h4 : i - ((P.take i).map mk).length = 0 := by simp; omega
  rw [h4]
  simp [mk]

set_option maxHeartbeats 8000000 in
theorem InsPP_calls (s q : ByteArray) (place : Int) (P : List L) (hp : P.length ≤ 200) (hq : q.data.toList ≠ []) (out : ByteArray)
    (hs : ∀ w, Calls Try.prog 62 #[.string s] w fun e w' => ∃ v0 : Value, e = .returned v0 ∧ Kd.R Kd.string 9 w' w.heap.size (fun _ => True) v0 (P.map mk) ∧ Below w.heap.size w w')
    (hj : ∀ w A c, Kd.C Kd.string w A (resI P (spotI P place) q.data.toList).length ((resI P (spotI P place) q.data.toList).map mk) → (resI P (spotI P place) q.data.toList).length ≤ c → Calls Try.prog 63 #[.slice A (resI P (spotI P place) q.data.toList).length c] w fun e w' => e = .returned (.string out) ∧ Below w.heap.size w w')
    (w : World) : Calls Try.prog 64 #[.string s, .int .i64 place, .string q] w fun e w' => e = .returned (.string out) ∧ Below w.heap.size w w' := by
  have HB := Aside0.mk (Below.refl w.heap.size w)
  have HS := Aside0.mk hs
  have t1 : (q.toList == ([] : List UInt8)) = false := by rw [toList_eq]; simpa using hq
  obtain ⟨i, hi⟩ : ∃ i, spotI P place = i := ⟨_, rfl⟩
  have HJ := Aside0.mk hj
  rw [hi] at HJ
  have HI := Aside0.mk hi
  clear hs hj hq hi
  go_enter Try.func64, Try.ntmps64
  go_upto_if 15 with (first | ((with_reducible refine (HS.out _).mono ?_); rintro e wa ⟨v7, rfl, hg, hb⟩; (obtain ⟨A7, c7, e7⟩ := Kd.R_slice hg); rw [List.length_map] at e7; subst e7; have hh := (Kd.R_reads' hg).2; rw [List.length_map] at hh; have CV7 := Aside0.mk hh.2; have LV7 := Aside0.mk hh.1; clear hh hg HS; have HT := Aside0.mk (below_step (by repeat (first | (with_reducible first | exact HB.out | apply below_alloc | apply pw_below_drewN | apply below_drew1) | exact HB.out)) hb); clear HB hb; have HB := Aside0.mk (Below.refl wa.heap.size wa)))
  obtain ⟨i0, hi0⟩ : ∃ i0, clampI place P.length = i0 := ⟨_, rfl⟩
  have hil : i0 ≤ P.length := by rw [← hi0]; exact clampI_le _ _
  go_cut [1] (fun v1 wc => v1 = .int .i64 (i0 : Int) ∧ wa = wc)
  case first =>
    by_cases h1 : place < 0
    · have hc : (0 : Int) = (i0 : Int) := by rw [← hi0, clampI, if_pos h1]; rfl
      clear hi0
      go_wp2
      go_meet
      case rel => exact ⟨by rw [← hc], rfl⟩
    · by_cases h2 : (P.length : Int) < place
      · have hc : ((P.length : Nat) : Int) = (i0 : Int) := by rw [← hi0, clampI, if_neg h1, if_pos h2]
        clear hi0
        go_wp2
        go_meet
        case rel => exact ⟨by rw [← hc], rfl⟩
      · have hc : place = (i0 : Int) := by rw [← hi0, clampI, if_neg h1, if_neg h2]; omega
        clear hi0
        go_wp2
        go_meet
        case rel => exact ⟨by rw [← hc], rfl⟩
  case rest =>
  obtain ⟨rfl, rfl⟩ := hcut
  have hile : i ≤ P.length := by rw [← HI.out]; exact spotI_le P place
  obtain ⟨A46, hc46, hr46⟩ := C_mid A7 c7 P i hile LV7.out
  obtain ⟨A55, hc55, hr55⟩ := C_end A7 c7 P i hile LV7.out
  have CV46 := Aside0.mk (hr46 _ CV7.out)
  have CV55 := Aside0.mk (hr55 _ CV7.out)
  have hsp := HI.out
  unfold spotI at hsp
  simp only [hi0] at hsp
  clear hr46 hr55 HI hi0
  rcases (show (¬ 0 < P.length ∧ i0 = i) ∨ (∃ h : 0 < P.length, P.getD 0 [] = [] ∧ i0 < P.length ∧ i = i0 + 1) ∨ (∃ h : 0 < P.length, P.getD 0 [] = [] ∧ ¬ i0 < P.length ∧ i0 = i) ∨ (∃ h : 0 < P.length, P.getD 0 [] ≠ [] ∧ i0 = i) from by
    cases P with
    | nil => left; simp at hsp; exact ⟨by simp, hsp⟩
    | cons a t =>
      right
      by_cases ha : a = []
      · by_cases hl : i0 < (a :: t).length
        · left; refine ⟨by simp, by simpa using ha, hl, ?_⟩; rw [if_pos ⟨by simp [ha], hl⟩] at hsp; exact hsp.symm
        · right; left; refine ⟨by simp, by simpa using ha, hl, ?_⟩; rw [if_neg (fun h => hl h.2)] at hsp; exact hsp
      · right; right; refine ⟨by simp, by simpa using ha, ?_⟩; rw [if_neg (fun h => ha (by simpa using h.1))] at hsp; exact hsp) with ⟨hn, hie⟩ | ⟨hp0, hh, hlt, hie⟩ | ⟨hp0, hh, hlt, hie⟩ | ⟨hp0, hh, hie⟩
  · have hie2 := hie.symm; clear hie; subst hie2
    clear hsp
    go_upto_region 10 with (fail)
    have hl1 : IntKind.i64.wrap ((P.length : Int) + 1) = (P.length : Int) + 1 := by rw [IntKind.wrap_i64]; omega
    obtain ⟨l3, hl3⟩ : ∃ l3, (P.take i ++ q.data.toList :: List.replicate (P.length - i) []).map mk = l3 := ⟨_, rfl⟩
    have HNEW : Aside0 (l3 ++ (P.drop i).map mk = (resI P i q.data.toList).map mk) := ⟨by rw [← hl3, ← List.map_append]; rfl⟩
    have HFE : Aside0 (((((P.take i).map mk).take (min i (List.replicate (P.length + 1) (⟨#[]⟩ : ByteArray)).length) ++ (List.replicate (P.length + 1) (⟨#[]⟩ : ByteArray)).drop (min i (List.replicate (P.length + 1) (⟨#[]⟩ : ByteArray)).length)).set i q) = l3) := ⟨by have h := fill_eq P i hile q.data.toList; rw [← mk_of q] at h; rw [← hl3]; exact h⟩
    have HLEN : Aside0 (l3.length ≤ 600 ∧ P.length ≤ 200) := ⟨by rw [← hl3]; simp; omega, hp⟩
    clear hl3
    go_wp2_with (first | ((with_reducible refine gate_dst (N := 42) rfl ?_); (try (refine gate_guard (by rfl) ?_; dsimp only)); refine Kd.R_make Kd.string (w0 := wa) wa.heap.size 9 rfl (N := 42) rfl 22 (.tmp 41) (.tmp 41) rfl ((P.length : Int) + 1) ?mx ?my Try.underlying22 (.string ⟨#[]⟩) 16 infoS rfl (by decide) (by decide) (⟨#[]⟩ : ByteArray) (okp := fun _ => True) (ok := fun _ => True) rfl (fun _ h => h) trivial (by omega) (by omega) (by repeat (first | (with_reducible first | exact HB.out | apply below_alloc | apply pw_below_drewN | apply below_drew1) | exact HB.out)) (below_size (by repeat (first | (with_reducible first | exact HB.out | apply below_alloc | apply pw_below_drewN | apply below_drew1) | exact HB.out))) ?_; (case mx => rfl); (case my => rfl); intro v8 w2 hR hb hg hat; clear hg hat; rw [show ((P.length : Int) + 1).toNat = P.length + 1 from by omega] at hR; (obtain ⟨g, cap, hv, hbg, hgl, hgc⟩ := Kd.R_form hR (by simp)); rw [List.length_replicate] at hv; subst hv; have HD := Aside0.mk hR; have HG := Aside0.mk hbg; clear HB; have HB := Aside0.mk hb; clear hb hR hbg hgl hgc) |
      ((with_reducible refine gate_dst (N := 47) rfl ?_); (try (refine gate_guard (by rfl) ?_; dsimp only)); refine Kd.R_copy (⟨#[]⟩ : ByteArray) (w0 := wa) wa.heap.size rfl (.tmp 43) (.tmp 46) 22 22 9 rfl Try.underlying22 (by kernel_rfl) (.slice (some ⟨g, 0, none⟩) (P.length + 1) cap) (List.replicate (P.length + 1) (⟨#[]⟩ : ByteArray)) ((P.take i).map mk) A46 i c7 (fun _ => True) rfl rfl (by (with_reducible repeat (first | apply Kd.R_alloc | apply Kd.R_drewN | apply Kd.R_drew)); exact HD.out) (Kd.C_below CV46.out (by repeat (first | (with_reducible first | exact HB.out | apply below_alloc | apply pw_below_drewN | apply below_drew1) | exact HB.out))) (by repeat (first | (with_reducible first | exact HB.out | apply below_alloc | apply pw_below_drewN | apply below_drew1) | exact HB.out)) (below_size (by repeat (first | (with_reducible first | exact HB.out | apply below_alloc | apply pw_below_drewN | apply below_drew1) | exact HB.out))) ?_; intro w3 hR hb hg; clear hg; (obtain ⟨hc4, hf4⟩ := Kd.R_celln (⟨#[]⟩ : ByteArray) hR (i : Int) (by omega) (by omega)); rw [Int.toNat_natCast] at hc4 hf4; generalize rdOf (⟨#[]⟩ : ByteArray) _ _ = rv at hc4; have hR5 := Kd.R_putn hR (i : Int) q; rw [Int.toNat_natCast, HFE.out] at hR5; have HD5 := Aside0.mk hR5; have HB5 := Aside0.mk (hb.setCell (p := ⟨g, i, none⟩) HG.out (.string q)); clear HD HB HFE CV46; have HD := HD5; have HB := HB5; clear HD5 HB5 hR hR5 hb) |
      (((with_reducible refine gate_builtin (b := .append) (xs := #[.tmp 52, .tmp 55]) rfl ?_); (try (refine gate_guard (by rfl) ?_; dsimp only)); at_builtin; refine Kd.R_append_rows Kd.string (w0 := wa) wa.heap.size rfl (.tmp 52) (.tmp 55) 22 9 (.string ⟨#[]⟩) 16 rfl Try.underlying22 infoS rfl (by decide) (by omega) (.slice (some ⟨g, 0, none⟩) (P.length + 1) cap) (l3) ((P.drop i).map mk) _ _ _ (fun _ => True) (fun _ => False) rfl rfl ?aO ?aR (fun _ _ h => h) (fun _ h => h.elim) ?aF ?aB ?aS ?aL ?_; (case aR => first | exact CV55.out | exact (Kd.C_below CV55.out (by repeat (first | (with_reducible first | exact HB.out | apply below_alloc | apply pw_below_drewN | apply below_drew1) | exact HB.out))) | (have hcs_ := Kd.C_below CV55.out (by repeat (first | (with_reducible first | exact HB.out | apply below_alloc | apply pw_below_drewN | apply below_drew1) | exact HB.out)); rw [List.length_map] at hcs_; exact hcs_) | (have hcs_ := Kd.C_below CV55.out (by repeat (first | (with_reducible first | exact HB.out | apply below_alloc | apply pw_below_drewN | apply below_drew1) | exact HB.out)); rw [List.length_map]; exact hcs_)); (case aB => exact (by repeat (first | (with_reducible first | exact HB.out | apply below_alloc | apply pw_below_drewN | apply below_drew1) | exact HB.out))); (case aF => exact (fun _ _ => trivial)); (case aO => exact (by (with_reducible repeat (first | apply Kd.R_alloc | apply Kd.R_drewN | apply Kd.R_drew)); exact HD.out)); (case aS => exact (below_size (by repeat (first | (with_reducible first | exact HB.out | apply below_alloc | apply pw_below_drewN | apply below_drew1) | exact HB.out)))); (case aL => have := HLEN.out; (try simp only [List.length_map, List.length_append, List.length_nil]); omega); intro vN wN ho hb hg hat; rw [HNEW.out] at ho; clear HB; clear HD; have HB := Aside0.mk hb; have HD := Aside0.mk ho; clear ho hb hg hat); clear HNEW CV55; (obtain ⟨AF, cF, eF⟩ := Kd.R_slice HD.out); rw [List.length_map] at eF; subst eF; have hh := (Kd.R_reads' HD.out).2; rw [List.length_map] at hh; have CVF := Aside0.mk hh.2; have LVF := Aside0.mk hh.1; clear hh HD) |
      ((with_reducible refine (HJ.out _ AF cF CVF.out LVF.out).mono ?_); rintro e w' ⟨rfl, hb⟩; clear HJ CVF; have nb_ := Aside0.mk (below_step (by repeat (first | (with_reducible first | exact HB.out | apply below_alloc | apply pw_below_drewN | apply below_drew1) | exact HB.out)) hb); clear HB; have HB := nb_; clear nb_; (try clear hb)))
    go_ret
    exact ⟨rfl, below_step HT.out (by repeat (first | (with_reducible first | exact HB.out | apply below_alloc | apply pw_below_drewN | apply below_drew1) | exact HB.out))⟩
  · obtain ⟨ad, eA, hcell⟩ := Kd.at_string CV7.out 0 (by omega) (by omega)
    subst eA
    rw [rd_mk] at hcell
    obtain ⟨q0, hq0⟩ : ∃ q0, mk (P.getD 0 []) = q0 := ⟨_, rfl⟩
    have hcell0 : wa.cell? ad = some (.string q0) := by
      have e : ad.add 0 = ad := by cases ad; rfl
      rw [show (0 : Int).toNat = 0 from rfl, e, hq0] at hcell; exact hcell
    have t2 : (q0.toList == ([] : List UInt8)) = true := by rw [← hq0, mk_toList, hh]; rfl
    have hwr : IntKind.i64.wrap ((i0 : Int) + 1) = (i : Int) := by rw [IntKind.wrap_i64]; omega
    clear hsp hh hq0 hcell hie
    go_upto_region 10 with (fail)
    clear hwr
    have hl1 : IntKind.i64.wrap ((P.length : Int) + 1) = (P.length : Int) + 1 := by rw [IntKind.wrap_i64]; omega
    obtain ⟨l3, hl3⟩ : ∃ l3, (P.take i ++ q.data.toList :: List.replicate (P.length - i) []).map mk = l3 := ⟨_, rfl⟩
    have HNEW : Aside0 (l3 ++ (P.drop i).map mk = (resI P i q.data.toList).map mk) := ⟨by rw [← hl3, ← List.map_append]; rfl⟩
    have HFE : Aside0 (((((P.take i).map mk).take (min i (List.replicate (P.length + 1) (⟨#[]⟩ : ByteArray)).length) ++ (List.replicate (P.length + 1) (⟨#[]⟩ : ByteArray)).drop (min i (List.replicate (P.length + 1) (⟨#[]⟩ : ByteArray)).length)).set i q) = l3) := ⟨by have h := fill_eq P i hile q.data.toList; rw [← mk_of q] at h; rw [← hl3]; exact h⟩
    have HLEN : Aside0 (l3.length ≤ 600 ∧ P.length ≤ 200) := ⟨by rw [← hl3]; simp; omega, hp⟩
    clear hl3
    go_wp2_with (first | ((with_reducible refine gate_dst (N := 42) rfl ?_); (try (refine gate_guard (by rfl) ?_; dsimp only)); refine Kd.R_make Kd.string (w0 := wa) wa.heap.size 9 rfl (N := 42) rfl 22 (.tmp 41) (.tmp 41) rfl ((P.length : Int) + 1) ?mx ?my Try.underlying22 (.string ⟨#[]⟩) 16 infoS rfl (by decide) (by decide) (⟨#[]⟩ : ByteArray) (okp := fun _ => True) (ok := fun _ => True) rfl (fun _ h => h) trivial (by omega) (by omega) (by repeat (first | (with_reducible first | exact HB.out | apply below_alloc | apply pw_below_drewN | apply below_drew1) | exact HB.out)) (below_size (by repeat (first | (with_reducible first | exact HB.out | apply below_alloc | apply pw_below_drewN | apply below_drew1) | exact HB.out))) ?_; (case mx => rfl); (case my => rfl); intro v8 w2 hR hb hg hat; clear hg hat; rw [show ((P.length : Int) + 1).toNat = P.length + 1 from by omega] at hR; (obtain ⟨g, cap, hv, hbg, hgl, hgc⟩ := Kd.R_form hR (by simp)); rw [List.length_replicate] at hv; subst hv; have HD := Aside0.mk hR; have HG := Aside0.mk hbg; clear HB; have HB := Aside0.mk hb; clear hb hR hbg hgl hgc) |
      ((with_reducible refine gate_dst (N := 47) rfl ?_); (try (refine gate_guard (by rfl) ?_; dsimp only)); refine Kd.R_copy (⟨#[]⟩ : ByteArray) (w0 := wa) wa.heap.size rfl (.tmp 43) (.tmp 46) 22 22 9 rfl Try.underlying22 (by kernel_rfl) (.slice (some ⟨g, 0, none⟩) (P.length + 1) cap) (List.replicate (P.length + 1) (⟨#[]⟩ : ByteArray)) ((P.take i).map mk) A46 i c7 (fun _ => True) rfl rfl (by (with_reducible repeat (first | apply Kd.R_alloc | apply Kd.R_drewN | apply Kd.R_drew)); exact HD.out) (Kd.C_below CV46.out (by repeat (first | (with_reducible first | exact HB.out | apply below_alloc | apply pw_below_drewN | apply below_drew1) | exact HB.out))) (by repeat (first | (with_reducible first | exact HB.out | apply below_alloc | apply pw_below_drewN | apply below_drew1) | exact HB.out)) (below_size (by repeat (first | (with_reducible first | exact HB.out | apply below_alloc | apply pw_below_drewN | apply below_drew1) | exact HB.out))) ?_; intro w3 hR hb hg; clear hg; (obtain ⟨hc4, hf4⟩ := Kd.R_celln (⟨#[]⟩ : ByteArray) hR (i : Int) (by omega) (by omega)); rw [Int.toNat_natCast] at hc4 hf4; generalize rdOf (⟨#[]⟩ : ByteArray) _ _ = rv at hc4; have hR5 := Kd.R_putn hR (i : Int) q; rw [Int.toNat_natCast, HFE.out] at hR5; have HD5 := Aside0.mk hR5; have HB5 := Aside0.mk (hb.setCell (p := ⟨g, i, none⟩) HG.out (.string q)); clear HD HB HFE CV46; have HD := HD5; have HB := HB5; clear HD5 HB5 hR hR5 hb) |
      (((with_reducible refine gate_builtin (b := .append) (xs := #[.tmp 52, .tmp 55]) rfl ?_); (try (refine gate_guard (by rfl) ?_; dsimp only)); at_builtin; refine Kd.R_append_rows Kd.string (w0 := wa) wa.heap.size rfl (.tmp 52) (.tmp 55) 22 9 (.string ⟨#[]⟩) 16 rfl Try.underlying22 infoS rfl (by decide) (by omega) (.slice (some ⟨g, 0, none⟩) (P.length + 1) cap) (l3) ((P.drop i).map mk) _ _ _ (fun _ => True) (fun _ => False) rfl rfl ?aO ?aR (fun _ _ h => h) (fun _ h => h.elim) ?aF ?aB ?aS ?aL ?_; (case aR => first | exact CV55.out | exact (Kd.C_below CV55.out (by repeat (first | (with_reducible first | exact HB.out | apply below_alloc | apply pw_below_drewN | apply below_drew1) | exact HB.out))) | (have hcs_ := Kd.C_below CV55.out (by repeat (first | (with_reducible first | exact HB.out | apply below_alloc | apply pw_below_drewN | apply below_drew1) | exact HB.out)); rw [List.length_map] at hcs_; exact hcs_) | (have hcs_ := Kd.C_below CV55.out (by repeat (first | (with_reducible first | exact HB.out | apply below_alloc | apply pw_below_drewN | apply below_drew1) | exact HB.out)); rw [List.length_map]; exact hcs_)); (case aB => exact (by repeat (first | (with_reducible first | exact HB.out | apply below_alloc | apply pw_below_drewN | apply below_drew1) | exact HB.out))); (case aF => exact (fun _ _ => trivial)); (case aO => exact (by (with_reducible repeat (first | apply Kd.R_alloc | apply Kd.R_drewN | apply Kd.R_drew)); exact HD.out)); (case aS => exact (below_size (by repeat (first | (with_reducible first | exact HB.out | apply below_alloc | apply pw_below_drewN | apply below_drew1) | exact HB.out)))); (case aL => have := HLEN.out; (try simp only [List.length_map, List.length_append, List.length_nil]); omega); intro vN wN ho hb hg hat; rw [HNEW.out] at ho; clear HB; clear HD; have HB := Aside0.mk hb; have HD := Aside0.mk ho; clear ho hb hg hat); clear HNEW CV55; (obtain ⟨AF, cF, eF⟩ := Kd.R_slice HD.out); rw [List.length_map] at eF; subst eF; have hh := (Kd.R_reads' HD.out).2; rw [List.length_map] at hh; have CVF := Aside0.mk hh.2; have LVF := Aside0.mk hh.1; clear hh HD) |
      ((with_reducible refine (HJ.out _ AF cF CVF.out LVF.out).mono ?_); rintro e w' ⟨rfl, hb⟩; clear HJ CVF; have nb_ := Aside0.mk (below_step (by repeat (first | (with_reducible first | exact HB.out | apply below_alloc | apply pw_below_drewN | apply below_drew1) | exact HB.out)) hb); clear HB; have HB := nb_; clear nb_; (try clear hb)))
    go_ret
    exact ⟨rfl, below_step HT.out (by repeat (first | (with_reducible first | exact HB.out | apply below_alloc | apply pw_below_drewN | apply below_drew1) | exact HB.out))⟩
  · have hie2 := hie.symm; clear hie; subst hie2
    obtain ⟨ad, eA, hcell⟩ := Kd.at_string CV7.out 0 (by omega) (by omega)
    subst eA
    rw [rd_mk] at hcell
    obtain ⟨q0, hq0⟩ : ∃ q0, mk (P.getD 0 []) = q0 := ⟨_, rfl⟩
    have hcell0 : wa.cell? ad = some (.string q0) := by
      have e : ad.add 0 = ad := by cases ad; rfl
      rw [show (0 : Int).toNat = 0 from rfl, e, hq0] at hcell; exact hcell
    have t2 : (q0.toList == ([] : List UInt8)) = true := by rw [← hq0, mk_toList, hh]; rfl
    clear hsp hh hq0 hcell
    go_upto_region 10 with (fail)
    have hl1 : IntKind.i64.wrap ((P.length : Int) + 1) = (P.length : Int) + 1 := by rw [IntKind.wrap_i64]; omega
    obtain ⟨l3, hl3⟩ : ∃ l3, (P.take i ++ q.data.toList :: List.replicate (P.length - i) []).map mk = l3 := ⟨_, rfl⟩
    have HNEW : Aside0 (l3 ++ (P.drop i).map mk = (resI P i q.data.toList).map mk) := ⟨by rw [← hl3, ← List.map_append]; rfl⟩
    have HFE : Aside0 (((((P.take i).map mk).take (min i (List.replicate (P.length + 1) (⟨#[]⟩ : ByteArray)).length) ++ (List.replicate (P.length + 1) (⟨#[]⟩ : ByteArray)).drop (min i (List.replicate (P.length + 1) (⟨#[]⟩ : ByteArray)).length)).set i q) = l3) := ⟨by have h := fill_eq P i hile q.data.toList; rw [← mk_of q] at h; rw [← hl3]; exact h⟩
    have HLEN : Aside0 (l3.length ≤ 600 ∧ P.length ≤ 200) := ⟨by rw [← hl3]; simp; omega, hp⟩
    clear hl3
    go_wp2_with (first | ((with_reducible refine gate_dst (N := 42) rfl ?_); (try (refine gate_guard (by rfl) ?_; dsimp only)); refine Kd.R_make Kd.string (w0 := wa) wa.heap.size 9 rfl (N := 42) rfl 22 (.tmp 41) (.tmp 41) rfl ((P.length : Int) + 1) ?mx ?my Try.underlying22 (.string ⟨#[]⟩) 16 infoS rfl (by decide) (by decide) (⟨#[]⟩ : ByteArray) (okp := fun _ => True) (ok := fun _ => True) rfl (fun _ h => h) trivial (by omega) (by omega) (by repeat (first | (with_reducible first | exact HB.out | apply below_alloc | apply pw_below_drewN | apply below_drew1) | exact HB.out)) (below_size (by repeat (first | (with_reducible first | exact HB.out | apply below_alloc | apply pw_below_drewN | apply below_drew1) | exact HB.out))) ?_; (case mx => rfl); (case my => rfl); intro v8 w2 hR hb hg hat; clear hg hat; rw [show ((P.length : Int) + 1).toNat = P.length + 1 from by omega] at hR; (obtain ⟨g, cap, hv, hbg, hgl, hgc⟩ := Kd.R_form hR (by simp)); rw [List.length_replicate] at hv; subst hv; have HD := Aside0.mk hR; have HG := Aside0.mk hbg; clear HB; have HB := Aside0.mk hb; clear hb hR hbg hgl hgc) |
      ((with_reducible refine gate_dst (N := 47) rfl ?_); (try (refine gate_guard (by rfl) ?_; dsimp only)); refine Kd.R_copy (⟨#[]⟩ : ByteArray) (w0 := wa) wa.heap.size rfl (.tmp 43) (.tmp 46) 22 22 9 rfl Try.underlying22 (by kernel_rfl) (.slice (some ⟨g, 0, none⟩) (P.length + 1) cap) (List.replicate (P.length + 1) (⟨#[]⟩ : ByteArray)) ((P.take i).map mk) A46 i c7 (fun _ => True) rfl rfl (by (with_reducible repeat (first | apply Kd.R_alloc | apply Kd.R_drewN | apply Kd.R_drew)); exact HD.out) (Kd.C_below CV46.out (by repeat (first | (with_reducible first | exact HB.out | apply below_alloc | apply pw_below_drewN | apply below_drew1) | exact HB.out))) (by repeat (first | (with_reducible first | exact HB.out | apply below_alloc | apply pw_below_drewN | apply below_drew1) | exact HB.out)) (below_size (by repeat (first | (with_reducible first | exact HB.out | apply below_alloc | apply pw_below_drewN | apply below_drew1) | exact HB.out))) ?_; intro w3 hR hb hg; clear hg; (obtain ⟨hc4, hf4⟩ := Kd.R_celln (⟨#[]⟩ : ByteArray) hR (i : Int) (by omega) (by omega)); rw [Int.toNat_natCast] at hc4 hf4; generalize rdOf (⟨#[]⟩ : ByteArray) _ _ = rv at hc4; have hR5 := Kd.R_putn hR (i : Int) q; rw [Int.toNat_natCast, HFE.out] at hR5; have HD5 := Aside0.mk hR5; have HB5 := Aside0.mk (hb.setCell (p := ⟨g, i, none⟩) HG.out (.string q)); clear HD HB HFE CV46; have HD := HD5; have HB := HB5; clear HD5 HB5 hR hR5 hb) |
      (((with_reducible refine gate_builtin (b := .append) (xs := #[.tmp 52, .tmp 55]) rfl ?_); (try (refine gate_guard (by rfl) ?_; dsimp only)); at_builtin; refine Kd.R_append_rows Kd.string (w0 := wa) wa.heap.size rfl (.tmp 52) (.tmp 55) 22 9 (.string ⟨#[]⟩) 16 rfl Try.underlying22 infoS rfl (by decide) (by omega) (.slice (some ⟨g, 0, none⟩) (P.length + 1) cap) (l3) ((P.drop i).map mk) _ _ _ (fun _ => True) (fun _ => False) rfl rfl ?aO ?aR (fun _ _ h => h) (fun _ h => h.elim) ?aF ?aB ?aS ?aL ?_; (case aR => first | exact CV55.out | exact (Kd.C_below CV55.out (by repeat (first | (with_reducible first | exact HB.out | apply below_alloc | apply pw_below_drewN | apply below_drew1) | exact HB.out))) | (have hcs_ := Kd.C_below CV55.out (by repeat (first | (with_reducible first | exact HB.out | apply below_alloc | apply pw_below_drewN | apply below_drew1) | exact HB.out)); rw [List.length_map] at hcs_; exact hcs_) | (have hcs_ := Kd.C_below CV55.out (by repeat (first | (with_reducible first | exact HB.out | apply below_alloc | apply pw_below_drewN | apply below_drew1) | exact HB.out)); rw [List.length_map]; exact hcs_)); (case aB => exact (by repeat (first | (with_reducible first | exact HB.out | apply below_alloc | apply pw_below_drewN | apply below_drew1) | exact HB.out))); (case aF => exact (fun _ _ => trivial)); (case aO => exact (by (with_reducible repeat (first | apply Kd.R_alloc | apply Kd.R_drewN | apply Kd.R_drew)); exact HD.out)); (case aS => exact (below_size (by repeat (first | (with_reducible first | exact HB.out | apply below_alloc | apply pw_below_drewN | apply below_drew1) | exact HB.out)))); (case aL => have := HLEN.out; (try simp only [List.length_map, List.length_append, List.length_nil]); omega); intro vN wN ho hb hg hat; rw [HNEW.out] at ho; clear HB; clear HD; have HB := Aside0.mk hb; have HD := Aside0.mk ho; clear ho hb hg hat); clear HNEW CV55; (obtain ⟨AF, cF, eF⟩ := Kd.R_slice HD.out); rw [List.length_map] at eF; subst eF; have hh := (Kd.R_reads' HD.out).2; rw [List.length_map] at hh; have CVF := Aside0.mk hh.2; have LVF := Aside0.mk hh.1; clear hh HD) |
      ((with_reducible refine (HJ.out _ AF cF CVF.out LVF.out).mono ?_); rintro e w' ⟨rfl, hb⟩; clear HJ CVF; have nb_ := Aside0.mk (below_step (by repeat (first | (with_reducible first | exact HB.out | apply below_alloc | apply pw_below_drewN | apply below_drew1) | exact HB.out)) hb); clear HB; have HB := nb_; clear nb_; (try clear hb)))
    go_ret
    exact ⟨rfl, below_step HT.out (by repeat (first | (with_reducible first | exact HB.out | apply below_alloc | apply pw_below_drewN | apply below_drew1) | exact HB.out))⟩
  · have hie2 := hie.symm; clear hie; subst hie2
    obtain ⟨ad, eA, hcell⟩ := Kd.at_string CV7.out 0 (by omega) (by omega)
    subst eA
    rw [rd_mk] at hcell
    obtain ⟨q0, hq0⟩ : ∃ q0, mk (P.getD 0 []) = q0 := ⟨_, rfl⟩
    have hcell0 : wa.cell? ad = some (.string q0) := by
      have e : ad.add 0 = ad := by cases ad; rfl
      rw [show (0 : Int).toNat = 0 from rfl, e, hq0] at hcell; exact hcell
    have t2 : (q0.toList == ([] : List UInt8)) = false := by rw [← hq0, mk_toList]; simpa using hh
    clear hsp hh hq0 hcell
    go_upto_region 10 with (fail)
    have hl1 : IntKind.i64.wrap ((P.length : Int) + 1) = (P.length : Int) + 1 := by rw [IntKind.wrap_i64]; omega
    obtain ⟨l3, hl3⟩ : ∃ l3, (P.take i ++ q.data.toList :: List.replicate (P.length - i) []).map mk = l3 := ⟨_, rfl⟩
    have HNEW : Aside0 (l3 ++ (P.drop i).map mk = (resI P i q.data.toList).map mk) := ⟨by rw [← hl3, ← List.map_append]; rfl⟩
    have HFE : Aside0 (((((P.take i).map mk).take (min i (List.replicate (P.length + 1) (⟨#[]⟩ : ByteArray)).length) ++ (List.replicate (P.length + 1) (⟨#[]⟩ : ByteArray)).drop (min i (List.replicate (P.length + 1) (⟨#[]⟩ : ByteArray)).length)).set i q) = l3) := ⟨by have h := fill_eq P i hile q.data.toList; rw [← mk_of q] at h; rw [← hl3]; exact h⟩
    have HLEN : Aside0 (l3.length ≤ 600 ∧ P.length ≤ 200) := ⟨by rw [← hl3]; simp; omega, hp⟩
    clear hl3
    go_wp2_with (first | ((with_reducible refine gate_dst (N := 42) rfl ?_); (try (refine gate_guard (by rfl) ?_; dsimp only)); refine Kd.R_make Kd.string (w0 := wa) wa.heap.size 9 rfl (N := 42) rfl 22 (.tmp 41) (.tmp 41) rfl ((P.length : Int) + 1) ?mx ?my Try.underlying22 (.string ⟨#[]⟩) 16 infoS rfl (by decide) (by decide) (⟨#[]⟩ : ByteArray) (okp := fun _ => True) (ok := fun _ => True) rfl (fun _ h => h) trivial (by omega) (by omega) (by repeat (first | (with_reducible first | exact HB.out | apply below_alloc | apply pw_below_drewN | apply below_drew1) | exact HB.out)) (below_size (by repeat (first | (with_reducible first | exact HB.out | apply below_alloc | apply pw_below_drewN | apply below_drew1) | exact HB.out))) ?_; (case mx => rfl); (case my => rfl); intro v8 w2 hR hb hg hat; clear hg hat; rw [show ((P.length : Int) + 1).toNat = P.length + 1 from by omega] at hR; (obtain ⟨g, cap, hv, hbg, hgl, hgc⟩ := Kd.R_form hR (by simp)); rw [List.length_replicate] at hv; subst hv; have HD := Aside0.mk hR; have HG := Aside0.mk hbg; clear HB; have HB := Aside0.mk hb; clear hb hR hbg hgl hgc) |
      ((with_reducible refine gate_dst (N := 47) rfl ?_); (try (refine gate_guard (by rfl) ?_; dsimp only)); refine Kd.R_copy (⟨#[]⟩ : ByteArray) (w0 := wa) wa.heap.size rfl (.tmp 43) (.tmp 46) 22 22 9 rfl Try.underlying22 (by kernel_rfl) (.slice (some ⟨g, 0, none⟩) (P.length + 1) cap) (List.replicate (P.length + 1) (⟨#[]⟩ : ByteArray)) ((P.take i).map mk) A46 i c7 (fun _ => True) rfl rfl (by (with_reducible repeat (first | apply Kd.R_alloc | apply Kd.R_drewN | apply Kd.R_drew)); exact HD.out) (Kd.C_below CV46.out (by repeat (first | (with_reducible first | exact HB.out | apply below_alloc | apply pw_below_drewN | apply below_drew1) | exact HB.out))) (by repeat (first | (with_reducible first | exact HB.out | apply below_alloc | apply pw_below_drewN | apply below_drew1) | exact HB.out)) (below_size (by repeat (first | (with_reducible first | exact HB.out | apply below_alloc | apply pw_below_drewN | apply below_drew1) | exact HB.out))) ?_; intro w3 hR hb hg; clear hg; (obtain ⟨hc4, hf4⟩ := Kd.R_celln (⟨#[]⟩ : ByteArray) hR (i : Int) (by omega) (by omega)); rw [Int.toNat_natCast] at hc4 hf4; generalize rdOf (⟨#[]⟩ : ByteArray) _ _ = rv at hc4; have hR5 := Kd.R_putn hR (i : Int) q; rw [Int.toNat_natCast, HFE.out] at hR5; have HD5 := Aside0.mk hR5; have HB5 := Aside0.mk (hb.setCell (p := ⟨g, i, none⟩) HG.out (.string q)); clear HD HB HFE CV46; have HD := HD5; have HB := HB5; clear HD5 HB5 hR hR5 hb) |
      (((with_reducible refine gate_builtin (b := .append) (xs := #[.tmp 52, .tmp 55]) rfl ?_); (try (refine gate_guard (by rfl) ?_; dsimp only)); at_builtin; refine Kd.R_append_rows Kd.string (w0 := wa) wa.heap.size rfl (.tmp 52) (.tmp 55) 22 9 (.string ⟨#[]⟩) 16 rfl Try.underlying22 infoS rfl (by decide) (by omega) (.slice (some ⟨g, 0, none⟩) (P.length + 1) cap) (l3) ((P.drop i).map mk) _ _ _ (fun _ => True) (fun _ => False) rfl rfl ?aO ?aR (fun _ _ h => h) (fun _ h => h.elim) ?aF ?aB ?aS ?aL ?_; (case aR => first | exact CV55.out | exact (Kd.C_below CV55.out (by repeat (first | (with_reducible first | exact HB.out | apply below_alloc | apply pw_below_drewN | apply below_drew1) | exact HB.out))) | (have hcs_ := Kd.C_below CV55.out (by repeat (first | (with_reducible first | exact HB.out | apply below_alloc | apply pw_below_drewN | apply below_drew1) | exact HB.out)); rw [List.length_map] at hcs_; exact hcs_) | (have hcs_ := Kd.C_below CV55.out (by repeat (first | (with_reducible first | exact HB.out | apply below_alloc | apply pw_below_drewN | apply below_drew1) | exact HB.out)); rw [List.length_map]; exact hcs_)); (case aB => exact (by repeat (first | (with_reducible first | exact HB.out | apply below_alloc | apply pw_below_drewN | apply below_drew1) | exact HB.out))); (case aF => exact (fun _ _ => trivial)); (case aO => exact (by (with_reducible repeat (first | apply Kd.R_alloc | apply Kd.R_drewN | apply Kd.R_drew)); exact HD.out)); (case aS => exact (below_size (by repeat (first | (with_reducible first | exact HB.out | apply below_alloc | apply pw_below_drewN | apply below_drew1) | exact HB.out)))); (case aL => have := HLEN.out; (try simp only [List.length_map, List.length_append, List.length_nil]); omega); intro vN wN ho hb hg hat; rw [HNEW.out] at ho; clear HB; clear HD; have HB := Aside0.mk hb; have HD := Aside0.mk ho; clear ho hb hg hat); clear HNEW CV55; (obtain ⟨AF, cF, eF⟩ := Kd.R_slice HD.out); rw [List.length_map] at eF; subst eF; have hh := (Kd.R_reads' HD.out).2; rw [List.length_map] at hh; have CVF := Aside0.mk hh.2; have LVF := Aside0.mk hh.1; clear hh HD) |
      ((with_reducible refine (HJ.out _ AF cF CVF.out LVF.out).mono ?_); rintro e w' ⟨rfl, hb⟩; clear HJ CVF; have nb_ := Aside0.mk (below_step (by repeat (first | (with_reducible first | exact HB.out | apply below_alloc | apply pw_below_drewN | apply below_drew1) | exact HB.out)) hb); clear HB; have HB := nb_; clear nb_; (try clear hb)))
    go_ret
    exact ⟨rfl, below_step HT.out (by repeat (first | (with_reducible first | exact HB.out | apply below_alloc | apply pw_below_drewN | apply below_drew1) | exact HB.out))⟩
end Go.Proofs.Ytllmmnhgchidkaa.Hand
