/- ZzJoin, JoinAll and the functions over them, by hand. -/
import Derived.Test.YtllmmnhgchidkaaPathCleaned
namespace Go.Proofs.Ytllmmnhgchidkaa.Hand
open Go.RowKit Go.Proofs.YtllmmnhgchidkaaW.PrintWords Go.Proofs.YtllmmnhgchidkaaW.PrintLast Go.Proofs.YtllmmnhgchidkaaW.PrintMore Go.Proofs.Ytllmmnhgchidkaa.Base Go.Proofs.Ytllmmnhgchidkaa.PFnPathParts
set_option linter.unusedVariables false
set_option linter.unusedSimpArgs false
set_option maxRecDepth 100000

def full (l : List L) : List L := l.filter (fun p => !(p == []))
def joinPath (l : List L) : L := if full l = [] then [] else clean (joinL [47] (full l))

theorem full_snoc (l : List L) (i : Nat) (h : i < l.length) : full (l.take (i + 1)) = if l.getD i [] = [] then full (l.take i) else full (l.take i) ++ [l.getD i []] := by
  unfold full
  rw [List.take_succ_eq_append_getElem h, List.filter_append, getD_of l [] h]
  by_cases e : l[i] = []
  · rw [if_pos e]; simp [e]
  · rw [if_neg e]; simp [List.filter_cons, e]
theorem full_le (l : List L) (m : Nat) (hm : ∀ p ∈ l, p.length ≤ m) (i : Nat) : (full (l.take i)).length ≤ l.length ∧ (joinL [47] (full (l.take i))).length ≤ l.length * (m + 1) := by
  have h1 : (full (l.take i)).length ≤ l.length := Nat.le_trans (List.length_filter_le _ _) (by rw [List.length_take]; omega)
  refine ⟨h1, Nat.le_trans (joinL_le [47] m _ (fun p hp => hm p (List.mem_of_mem_take (List.mem_filter.1 hp).1))) (Nat.mul_le_mul h1 (by simp))⟩

set_option maxHeartbeats 2000000 in
theorem ZzJoin_calls (A : Option Addr) (c : Nat) (l : List L) (w : World) (hr : Kd.C Kd.string w A l.length (l.map mk)) (hc : l.length ≤ c) (hl : l.length ≤ 400) (hm : ∀ p ∈ l, p.length ≤ 200) :
    Calls Try.prog 52 #[.slice A l.length c] w fun e w' => e = .returned (.string (mk (joinPath l))) ∧ Below w.heap.size w w' := by
  have HR := Aside0.mk hr
  have HB := Aside0.mk (Below.refl w.heap.size w)
  have HM := Aside0.mk hm
  clear hr hm
  go_enter Try.func52, Try.ntmps52
  go_wp2
  go_loopg [3, 4, 9] (l.length) (fun g v3 v4 v9 w' => ∃ (i : Nat) (t : ByteArray) (b : Bool), v3 = .string t ∧ v4 = .bool b ∧ v9 = .int .i64 i ∧ w = w' ∧ Aside0 (g + i = l.length ∧ t = mk (joinL [47] (full (l.take i))) ∧ b = !(full (l.take i)).isEmpty))
  case atStart => exact ⟨0, _, _, rfl, rfl, rfl, rfl, ⟨by omega, rfl, rfl⟩⟩
  case round =>
    obtain ⟨i, t, b, rfl, rfl, rfl, rfl, HI⟩ := hrel
    have hi : i ≤ l.length := by have := HI.out.1; omega
    have hz : t.size ≤ 80400 := by
      rw [HI.out.2.1, mk_size]
      have h1 := (full_le l 200 HM.out i).2
      have h2 : l.length * (200 + 1) ≤ 400 * 201 := Nat.mul_le_mul hl (Nat.le_refl _)
      omega
    by_cases hlt : i < l.length
    · obtain ⟨ad, eA, hcell⟩ := Kd.at_string HR.out (i : Int) (by omega) (by omega)
      subst eA
      obtain ⟨p, hp⟩ : ∃ p, l.getD i [] = p := ⟨_, rfl⟩
      rw [rd_mk, Int.toNat_natCast, hp] at hcell
      have hpz : p.length ≤ 200 := by rw [← hp, getD_of l [] hlt]; exact HM.out _ (List.getElem_mem hlt)
      obtain ⟨sp, hsp⟩ : ∃ sp, mk p = sp := ⟨_, rfl⟩
      rw [hsp] at hcell
      have hspz : sp.size ≤ 200 := by rw [← hsp, mk_size]; exact hpz
      have hsn := full_snoc l i hlt
      rw [hp] at hsn
      have HSN := Aside0.mk hsn; have HSP := Aside0.mk hsp; clear hsn hp hsp hpz
      by_cases he : p = []
      · have t1 : (sp.toList == ([] : List UInt8)) = true := by rw [← HSP.out, mk_toList, he]; rfl
        have HE := Aside0.mk he; clear he
        go_wp2
        go_roundg (gk - 1)
        case measure => have := HI.out.1; omega
        case rel =>
          have e := HSN.out
          rw [if_pos HE.out] at e
          exact ⟨i + 1, t, b, rfl, rfl, by go_num, rfl, ⟨by have := HI.out.1; omega, by rw [e]; exact HI.out.2.1, by rw [e]; exact HI.out.2.2⟩⟩
      · have t1 : (sp.toList == ([] : List UInt8)) = false := by rw [← HSP.out, mk_toList]; simpa using he
        have b1 : (t.size + 1 ≤ 9223372036854775807) = True := eq_true (by omega)
        have b2 : (9223372036854775807 < t.size + 1) = False := eq_false (by omega)
        have b3 : (t.size + sp.size ≤ 9223372036854775807) = True := eq_true (by omega)
        have b4 : (9223372036854775807 < t.size + sp.size) = False := eq_false (by omega)
        have b5 : (t.size + 1 + sp.size ≤ 9223372036854775807) = True := eq_true (by omega)
        have b6 : (9223372036854775807 < t.size + 1 + sp.size) = False := eq_false (by omega)
        have hjn : joinL [47] (full (l.take (i + 1))) = if full (l.take i) = [] then p else joinL [47] (full (l.take i)) ++ [47] ++ p := by
          have e := HSN.out
          rw [if_neg he] at e
          rw [e, joinL_snoc]
        have hne : (full (l.take (i + 1))).isEmpty = false := by
          have e := HSN.out
          rw [if_neg he] at e
          rw [e]; simp
        have HJ := Aside0.mk (And.intro hjn hne); clear hjn hne he
        cases b with
        | false =>
          have HF : Aside0 (full (l.take i) = []) := ⟨by have := HI.out.2.2; simpa using this⟩
          go_wp2
          go_roundg (gk - 1)
          case measure => have := HI.out.1; omega
          case rel => exact ⟨i + 1, _, true, rfl, rfl, by go_num, rfl, ⟨by have := HI.out.1; omega, by rw [HJ.out.1, if_pos HF.out, HI.out.2.1, HF.out, ← HSP.out]; exact nil_app _, by rw [HJ.out.2]; rfl⟩⟩
        | true =>
          have HF : Aside0 (full (l.take i) ≠ []) := ⟨by have := HI.out.2.2; simpa using this⟩
          go_wp2
          go_roundg (gk - 1)
          case measure => have := HI.out.1; omega
          case rel => exact ⟨i + 1, _, true, rfl, rfl, by go_num, rfl, ⟨by have := HI.out.1; omega, by rw [HJ.out.1, if_neg HF.out, HI.out.2.1, ← HSP.out, ← mk_append, ← mk_append]; rfl, by rw [HJ.out.2]; rfl⟩⟩
    · have hli : i = l.length := by omega
      have hje : t = mk (joinL [47] (full l)) ∧ b = !(full l).isEmpty := by
        have h := HI.out.2
        rw [hli, List.take_length] at h; exact h
      clear hli
      cases b with
      | false =>
        have HF : Aside0 (full l = []) := ⟨by have := hje.2; simpa using this⟩
        clear hje
        go_wp2
        go_ret
        exact ⟨by unfold joinPath; rw [if_pos HF.out]; rfl, HB.out⟩
      | true =>
        have HF : Aside0 (full l ≠ []) := ⟨by have := hje.2; simpa using this⟩
        have htd : t.data.toList = joinL [47] (full l) := by rw [hje.1]; rfl
        have hz2 : ∀ w, Calls Try.prog 69 #[.string t] w fun e w' => e = .returned (.string (mk (joinPath l))) ∧ Below w.heap.size w w' := by
          intro w
          have h := zzClean_calls t (by omega) w
          rw [htd] at h
          unfold joinPath; rw [if_neg HF.out]; exact h
        have HZ := Aside0.mk hz2; clear hje htd hz2
        go_wp2_with (first | ((with_reducible refine gate_callee (f := 69) rfl ?_); (try (refine gate_guard (by rfl) ?_; dsimp only)); refine goesL_ (some 25) rfl rfl Try.func69 (by kernel_rfl) rfl #[.string t] rfl (by (try simp only [List.map_toArray, List.map_cons, List.map_nil]); first | done | rfl) ?_; (with_reducible refine (HZ.out _).mono ?_); rintro e wN ⟨rfl, hb⟩; refine ⟨_, rfl, ?_⟩; have nb_ := Aside0.mk (below_step (by repeat (first | (with_reducible first | exact HB.out | apply below_alloc | apply pw_below_drewN | apply below_drew1) | exact HB.out)) hb); clear HB; have HB := nb_; clear nb_; (try clear hb)))
        go_ret
        exact ⟨rfl, (by repeat (first | (with_reducible first | exact HB.out | apply below_alloc | apply pw_below_drewN | apply below_drew1) | exact HB.out))⟩

set_option maxHeartbeats 2000000 in
theorem JoinAll_calls (A : Option Addr) (c : Nat) (l : List L) (w : World) (hr : Kd.C Kd.string w A l.length (l.map mk)) (hc : l.length ≤ c) (hl : l.length ≤ 400) (hm : ∀ p ∈ l, p.length ≤ 200) :
    Calls Try.prog 25 #[.slice A l.length c] w fun e w' => e = .returned (.string (mk (joinPath l))) ∧ Below w.heap.size w w' := by
  have HA := Aside0.mk hr
  have HB := Aside0.mk (Below.refl w.heap.size w)
  have HM := Aside0.mk hm
  clear hr hm
  go_enter Try.func25, Try.ntmps25
  go_wp2
  go_loopg [3, 8] (l.length) (fun g v3 v8 w' => ∃ (i : Nat), v8 = .int .i64 i ∧ Aside0 (g + i = l.length) ∧ Aside0 (Kd.R Kd.string 9 w' w.heap.size (fun _ => True) v3 ((full (l.take i)).map mk)) ∧ Aside0 (Below w.heap.size w w'))
  case atStart => exact ⟨0, rfl, ⟨by omega⟩, ⟨Kd.R_nil _ _ _ _ _⟩, HB⟩
  case round =>
    clear HB
    obtain ⟨i, rfl, HI, HR, HB⟩ := hrel
    have hi : i ≤ l.length := by have := HI.out; omega
    have hfl := (full_le l 200 HM.out i).1
    by_cases hlt : i < l.length
    · obtain ⟨ad, eA, hcell⟩ := Kd.at_string (Kd.C_below HA.out HB.out) (i : Int) (by omega) (by omega)
      subst eA
      obtain ⟨p, hp⟩ : ∃ p, l.getD i [] = p := ⟨_, rfl⟩
      rw [rd_mk, Int.toNat_natCast, hp] at hcell
      obtain ⟨sp, hsp⟩ : ∃ sp, mk p = sp := ⟨_, rfl⟩
      rw [hsp] at hcell
      have hsn := full_snoc l i hlt
      rw [hp] at hsn
      have HSN := Aside0.mk hsn; have HSP := Aside0.mk hsp; clear hsn hp hsp
      by_cases he : p = []
      · have t1 : (sp.toList == ([] : List UInt8)) = true := by rw [← HSP.out, mk_toList, he]; rfl
        have HR2 : Aside0 (Kd.R Kd.string 9 wr w.heap.size (fun _ => True) u3 ((full (l.take (i + 1))).map mk)) := ⟨by rw [HSN.out, if_pos he]; exact HR.out⟩
        clear he
        go_wp2
        go_roundg (gk - 1)
        case measure => have := HI.out; omega
        case rel => exact ⟨i + 1, by go_num, ⟨by have := HI.out; omega⟩, HR2, HB⟩
      · have t1 : (sp.toList == ([] : List UInt8)) = false := by rw [← HSP.out, mk_toList]; simpa using he
        have HLEN : Aside0 ((full (l.take i)).length ≤ 400) := ⟨by omega⟩
        have HNEW : Aside0 ((full (l.take i)).map mk ++ [sp] = (full (l.take (i + 1))).map mk) := ⟨by rw [HSN.out, if_neg he, ← HSP.out]; simp⟩
        clear he
        go_wp2_with (first | ((with_reducible refine gate_builtin (b := .append) (xs := #[.tmp 14, .tmp 16]) rfl ?_); (try (refine gate_guard (by rfl) ?_; dsimp only)); at_builtin; refine Kd.R_append Kd.string (w0 := w) w.heap.size rfl (.tmp 14) (.tmp 16) 22 9 (.string ⟨#[]⟩) 16 rfl Try.underlying22 infoS rfl (by decide) (by omega) u3 ((full (l.take i)).map mk) (sp) [.string (sp)] (fun _ => True) (fun _ => False) rfl rfl ?aP (fun _ hk => hk.elim) ?aF ?aO ?aB ?aS ?aL ?_; (case aP => exact rfl); (case aB => exact (by repeat (first | (with_reducible first | exact HB.out | apply below_alloc | apply pw_below_drewN | apply below_drew1) | exact HB.out))); (case aF => exact (fun _ _ => trivial)); (case aO => exact (by (with_reducible repeat (first | apply Kd.R_alloc | apply Kd.R_drewN | apply Kd.R_drew)); exact HR.out)); (case aS => exact (below_size (by repeat (first | (with_reducible first | exact HB.out | apply below_alloc | apply pw_below_drewN | apply below_drew1) | exact HB.out)))); (case aL => have := HLEN.out; (try simp only [List.length_map, List.length_nil] at *); omega); intro vN wN ho hb hg hat; rw [HNEW.out] at ho; clear HB; clear HR; have HB := Aside0.mk hb; have HR := Aside0.mk ho; clear ho hb hg hat))
        go_roundg (gk - 1)
        case measure => have := HI.out; omega
        case rel => exact ⟨i + 1, by go_num, ⟨by have := HI.out; omega⟩, HR, HB⟩
    · have hli : i = l.length := by omega
      have hR := HR.out
      rw [hli, List.take_length] at hR
      have HR2 := Aside0.mk hR; clear hR HR
      have hfl2 := full_le l 200 HM.out l.length
      rw [List.take_length] at hfl2
      obtain ⟨h1, h2⟩ := hfl2
      clear hli hfl
      obtain ⟨A4, c4, e4⟩ := Kd.R_slice HR2.out
      rw [List.length_map] at e4
      by_cases he : full l = []
      · rw [he] at e4
        subst e4
        have HE := Aside0.mk he; clear he h1 h2
        go_wp2
        go_ret
        exact ⟨by unfold joinPath; rw [if_pos HE.out]; rfl, (by repeat (first | (with_reducible first | exact HB.out | apply below_alloc | apply pw_below_drewN | apply below_drew1) | exact HB.out))⟩
      · subst e4
        have hpos : 0 < (full l).length := List.length_pos_iff.2 he
        have hz3 : l.length * (200 + 1) ≤ 400 * 201 := Nat.mul_le_mul hl (Nat.le_refl _)
        have hz4 : (full l).length * (200 + ([47] : L).length) ≤ 400 * 201 := Nat.mul_le_mul (by omega) (by simp)
        obtain ⟨kj, hkj⟩ := (joined_ev [47] (full l) 200 (fun p hp => HM.out p (List.mem_filter.1 hp).1) (by omega) (by omega)).rounds
        obtain ⟨so, hso⟩ : ∃ so, mk (joinL [47] (full l)) = so := ⟨_, rfl⟩
        have hsz : so.size ≤ 100000 := by rw [← hso, mk_size]; omega
        have hcl : ∀ w, Calls Try.prog 21 #[.string so] w fun e w' => e = .returned (.string (mk (joinPath l))) ∧ Below w.heap.size w w' := by
          intro w
          have h := Clean_calls so hsz w
          rw [show so.data.toList = joinL [47] (full l) by rw [← hso]; rfl] at h
          unfold joinPath; rw [if_neg he]; exact h
        rw [hso] at hkj
        have KJ := Aside0.mk hkj; have HCL := Aside0.mk hcl; have HE := Aside0.mk he
        clear hkj hcl he hso hz3 hz4 h2
        go_wp2_with (first | ((with_reducible refine gate_callee (f := 49) rfl ?_); (try (refine gate_guard (by rfl) ?_; dsimp only)); refine goesL_ (some 23) rfl rfl Try.func49 (by kernel_rfl) rfl #[.slice A4 (full l).length c4, .string ⟨#[47]⟩] rfl (by (try simp only [List.map_toArray, List.map_cons, List.map_nil]); first | done | rfl) ?_; (with_reducible refine (joined_calls kj A4 c4 (full l) so _ (Kd.R_reads' HR2.out).2.2 (by have := (Kd.R_reads' HR2.out).2.1; simpa using this) KJ.out).mono ?_); rintro e wN ⟨rfl, ⟨nd, rfl⟩⟩; refine ⟨_, rfl, ?_⟩; skip) | ((with_reducible refine gate_callee (f := 21) rfl ?_); (try (refine gate_guard (by rfl) ?_; dsimp only)); refine goesL_ (some 24) rfl rfl Try.func21 (by kernel_rfl) rfl #[.string so] rfl (by (try simp only [List.map_toArray, List.map_cons, List.map_nil]); first | done | rfl) ?_; (with_reducible refine (HCL.out _).mono ?_); rintro e wN ⟨rfl, hb⟩; refine ⟨_, rfl, ?_⟩; have nb_ := Aside0.mk (below_step (by repeat (first | (with_reducible first | exact HB.out | apply below_alloc | apply pw_below_drewN | apply below_drew1) | exact HB.out)) hb); clear HB; have HB := nb_; clear nb_; (try clear hb)))
        go_ret
        exact ⟨rfl, (by repeat (first | (with_reducible first | exact HB.out | apply below_alloc | apply pw_below_drewN | apply below_drew1) | exact HB.out))⟩
end Go.Proofs.Ytllmmnhgchidkaa.Hand
