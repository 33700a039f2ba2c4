/- FnPathHidden and the functions beneath it, by hand. -/
import Derived.Test.YtllmmnhgchidkaaPathParts
import Derived.Test.YtllmmnhgchidkaaPFnPathHiddenx5
namespace Go.Proofs.Ytllmmnhgchidkaa.Hand
open Go.RowKit Go.Proofs.YtllmmnhgchidkaaW.PrintWords Go.Proofs.YtllmmnhgchidkaaW.PrintLast Go.Proofs.YtllmmnhgchidkaaW.PrintMore Go.Proofs.Ytllmmnhgchidkaa.Base Go.Proofs.Ytllmmnhgchidkaa.PFnPathParts
set_option linter.unusedVariables false
set_option linter.unusedSimpArgs false
set_option maxRecDepth 100000

def lastName (x : L) : L := (names x).getD ((names x).length - 1) []
def hid (x : L) : Bool := (lastName x).getD 0 0 == 46
def vis (l : List L) : List L := l.filter (fun x => !hid x)

theorem epc_split {x : L} (h : epc x = true) : ∃ a, x = a ++ lastName x ∧ (a = [] ∨ a.getD (a.length - 1) 0 = 47) ∧ noSep (lastName x) ∧ lastName x ≠ [] := by
  obtain ⟨_, h2, h3, _, h5⟩ := epc_form h
  obtain ⟨init, n, hn⟩ : ∃ init n, names x = init ++ [n] := ⟨(names x).dropLast, (names x).getLast h3, (List.dropLast_concat_getLast _).symm⟩
  have hln : lastName x = n := by unfold lastName; rw [hn]; simp
  obtain ⟨g1, g2, _⟩ := h2 n (by rw [hn]; simp)
  rw [hln]
  rw [hn, joinL_snoc] at h5
  by_cases hi : init = []
  · rw [if_pos hi] at h5
    cases hr : rooted x with
    | true => rw [hr, if_pos rfl] at h5; exact ⟨[47], h5, .inr rfl, g2, g1⟩
    | false => rw [hr, if_neg (by decide)] at h5; exact ⟨[], h5, .inl rfl, g2, g1⟩
  · rw [if_neg hi] at h5
    cases hr : rooted x with
    | true =>
      rw [hr, if_pos rfl] at h5
      refine ⟨47 :: joinL [47] init ++ [47], by rw [h5]; simp, .inr ?_, g2, g1⟩
      exact last_sep (47 :: joinL [47] init)
    | false =>
      rw [hr, if_neg (by decide)] at h5
      exact ⟨joinL [47] init ++ [47], h5, .inr (last_sep _), g2, g1⟩

section
open PFnPathHidden
theorem base_l1 (a n : L) (ha : a = [] ∨ a.getD (a.length - 1) 0 = 47) (hn : noSep n) (hne : n ≠ []) (hz : (a ++ n).length ≤ 100000) :
    ∀ (d i : Nat), i = a.length + d → d ≤ n.length → Ev (fun k => filesys_zzBase.l1 k (mk (a ++ n)) ((i : Int) - 1)) (mk n) := by
  have hl : (a ++ n).length = a.length + n.length := List.length_append
  intro d
  induction d with
  | zero =>
    intro i hi _
    have hi' : i = a.length := by omega
    subst hi'
    by_cases h0 : a.length = 0
    · have ha0 : a = [] := List.eq_nil_of_length_eq_zero h0
      subst ha0
      refine Ev.step (f := fun k => filesys_zzBase.j3 k (mk ([] ++ n)) (((([] : L).length : Nat) : Int) - 1)) (fun k => ?_) ?_
      · simp only [filesys_zzBase.l1]
        rw [if_neg (by simp)]
      · refine Ev.step (f := fun _ => some (mk n)) (fun k => ?_) (Ev.now _)
        simp only [filesys_zzBase.j3]
        rw [if_neg (by simp), if_neg (by rw [mk_toList]; exact hne)]; rfl
    · have ha' : a.getD (a.length - 1) 0 = 47 := by
        rcases ha with h | h
        · rw [h] at h0; exact absurd rfl h0
        · exact h
      have eb : bt (mk (a ++ n)) ((a.length : Int) - 1) = 47 := by
        rw [bt_mk, show ((a.length : Int) - 1).toNat = a.length - 1 by omega, List.getD_eq_getElem?_getD, List.getElem?_append_left (by omega), ← List.getD_eq_getElem?_getD, ha']
        rfl
      have e1 : wrap64 ((a.length : Int) - 1 + 1) = a.length := by rw [wrap_id (by omega) (by omega)]; omega
      have r2 : (mk (a ++ n)).extract (a.length : Int).toNat (mk (a ++ n)).size = mk n := by rw [extract_mk, Int.toNat_natCast, mk_size, List.take_length]; simp
      refine Ev.step (f := fun k => filesys_zzBase.j3 k (mk (a ++ n)) ((a.length : Int) - 1)) (fun k => ?_) ?_
      · simp only [filesys_zzBase.l1]
        rw [if_pos (by omega), if_pos (by omega), if_pos (by rw [mk_size]; omega), if_pos eb]
      · refine Ev.step (f := fun _ => some (mk n)) (fun k => ?_) (Ev.now _)
        simp only [filesys_zzBase.j3]
        rw [if_pos (by omega), e1, if_pos (by omega), if_pos (by rw [mk_size]; omega), r2, if_neg (by rw [mk_toList]; exact hne)]
  | succ d ih =>
    intro i hi hd
    have h1 := ih (i - 1) (by omega) (by omega)
    have e0 : ((i - 1 : Nat) : Int) = (i : Int) - 1 := by omega
    rw [e0] at h1
    refine Ev.step (fun k => ?_) h1
    simp only [filesys_zzBase.l1]
    have eb : ¬ bt (mk (a ++ n)) ((i : Int) - 1) = 47 := by
      rw [bt_mk, show ((i : Int) - 1).toNat = a.length + d by omega, List.getD_eq_getElem?_getD, List.getElem?_append_right (by omega), show a.length + d - a.length = d by omega, List.getElem?_eq_getElem (by omega), Option.getD_some]
      intro h
      exact hn n[d] (List.getElem_mem (by omega)) (UInt8.toNat_inj.1 (by simpa using (by omega : n[d].toNat = 47)))
    rw [if_pos (by omega), if_pos (by omega), if_pos (by rw [mk_size]; omega), if_neg eb, wrap_id (by omega) (by omega)]
theorem base_ev (a n : L) (ha : a = [] ∨ a.getD (a.length - 1) 0 = 47) (hn : noSep n) (hne : n ≠ []) (hz : (a ++ n).length ≤ 100000) : Ev (fun k => filesys_zzBase.f k (mk (a ++ n))) (mk n) := by
  have hl : (a ++ n).length = a.length + n.length := List.length_append
  have hpos := List.length_pos_iff.2 hne
  have h1 := base_l1 a n ha hn hne hz n.length (a ++ n).length (by omega) (Nat.le_refl _)
  have h2 : Ev (fun k => filesys_zzBase.j1 k (mk (a ++ n))) (mk n) := Ev.step (fun k => by
    simp only [filesys_zzBase.j1]
    rw [mk_size, wrap_id (by omega) (by omega)]) h1
  have eb : ¬ bt (mk (a ++ n)) (((a ++ n).length : Int) - 1) = 47 := by
    rw [bt_mk, show (((a ++ n).length : Int) - 1).toNat = a.length + (n.length - 1) by omega, List.getD_eq_getElem?_getD, List.getElem?_append_right (by omega), show a.length + (n.length - 1) - a.length = n.length - 1 by omega, List.getElem?_eq_getElem (by omega), Option.getD_some]
    intro h
    exact hn n[n.length - 1] (List.getElem_mem (by omega)) (UInt8.toNat_inj.1 (by simpa using (by omega : n[n.length - 1].toNat = 47)))
  have h3 : Ev (fun k => filesys_zzBase.l0 k (mk (a ++ n))) (mk n) := Ev.step (fun k => by
    simp only [filesys_zzBase.l0]
    rw [mk_size, wrap_id (by omega) (by omega), if_pos (by omega), if_pos (by omega), if_pos (by omega), if_neg eb]) h2
  refine Ev.congr (fun k => ?_) h3
  unfold filesys_zzBase.f
  rw [if_neg (by rw [mk_toList]; intro h; exact hne (List.append_eq_nil_iff.1 h).2)]
theorem hidden_ev {x : L} (h : epc x = true) : Ev (fun k => filesys_IsHiddenFilePath.f k (mk x)) (hid x) := by
  obtain ⟨a, h1, h2, h3, h4⟩ := epc_split h
  have hx := (epc_form h).1
  have hb := base_ev a (lastName x) h2 h3 h4 (by rw [← h1]; omega)
  rw [← h1] at hb
  unfold filesys_IsHiddenFilePath.f
  refine Ev.bind hb ?_
  have hpos := List.length_pos_iff.2 h4
  refine Ev.pos (by rw [mk_size]; omega) ?_
  have e : (bt (mk (lastName x)) 0 == 46) = hid x := by
    rw [bt_mk, show (0 : Int).toNat = 0 from rfl]
    unfold hid
    rw [Bool.eq_iff_iff, beq_iff_eq, beq_iff_eq]
    constructor
    · intro h; exact UInt8.toNat_inj.1 (by simpa using (by omega : ((lastName x).getD 0 0).toNat = 46))
    · intro h; rw [h]; rfl
  rw [e]
  exact Ev.now _
end
theorem IsHidden_calls (s : ByteArray) (h : epc s.data.toList = true) (w : World) : Calls Try.prog 60 #[.string s] w fun e w' => e = .returned (.bool (hid s.data.toList)) ∧ Drawn0 w w' := by
  obtain ⟨k, hk⟩ := (hidden_ev h).rounds
  rw [← mk_of s] at hk
  exact PFnPathHidden.filesys_IsHiddenFilePath.calls k s _ w hk
theorem HiddenPath_calls (s : ByteArray) (h : epc s.data.toList = true) (w : World) : Calls Try.prog 35 #[.string s] w fun e w' => e = .returned (.bool (hid s.data.toList)) ∧ Drawn0 w w' := by
  obtain ⟨k, hk⟩ := (hidden_ev h).rounds
  rw [← mk_of s] at hk
  exact PFnPathHidden.impl_HiddenPath.calls k s _ w (by unfold PFnPathHidden.impl_HiddenPath.f; rw [hk]; rfl)

theorem vis_snoc (l : List L) (i : Nat) (h : i < l.length) : vis (l.take (i + 1)) = if hid (l.getD i []) = true then vis (l.take i) else vis (l.take i) ++ [l.getD i []] := by
  unfold vis
  rw [List.take_succ_eq_append_getElem h, List.filter_append, getD_of l [] h]
  by_cases e : hid l[i] = true
  · rw [if_pos e]; simp [e]
  · rw [if_neg e]; simp [List.filter_cons, e]
theorem vis_len (l : List L) (i : Nat) : (vis (l.take i)).length ≤ l.length := Nat.le_trans (List.length_filter_le _ _) (by rw [List.length_take]; omega)

set_option maxHeartbeats 2000000 in
theorem Remove_calls (A : Option Addr) (c : Nat) (l : List L) (w : World) (hr : Kd.C Kd.string w A l.length (l.map mk)) (hc : l.length ≤ c) (hl : l.length ≤ 20) (hm : ∀ p ∈ l, epc p = true) :
    Calls Try.prog 61 #[.slice A l.length c] w fun e w' => ∃ (A' : Option Addr) (c' : Nat), e = .returned (.slice A' (vis l).length c') ∧ Kd.C Kd.string w' A' (vis l).length ((vis l).map mk) ∧ (vis l).length ≤ c' ∧ Below w.heap.size w w' := by
  have HA := Aside0.mk hr
  have HB := Aside0.mk (Below.refl w.heap.size w)
  have HM := Aside0.mk hm
  clear hr hm
  by_cases h0 : l = []
  · subst h0
    go_enter Try.func61, Try.ntmps61
    go_wp2
    go_ret
    exact ⟨A, c, rfl, HA.out, by simp [vis], HB.out⟩
  · have hpos : 0 < l.length := List.length_pos_iff.2 h0
    have hne : (((l.length : Nat) : Int) == 0) = false := by rw [beq_eq_false_iff_ne]; omega
    clear h0
    go_enter Try.func61, Try.ntmps61
    go_wp2
    clear hne
    go_loopg [3, 12] (l.length) (fun g v3 v12 w' => ∃ (i : Nat), v12 = .int .i64 i ∧ Aside0 (g + i = l.length) ∧ Aside0 (Kd.R Kd.string 9 w' w.heap.size (fun _ => True) v3 ((vis (l.take i)).map mk)) ∧ Aside0 (Below w.heap.size w w'))
    case atStart => exact ⟨0, rfl, ⟨by omega⟩, ⟨Kd.R_nil _ _ _ _ _⟩, HB⟩
    case round =>
      clear HB
      obtain ⟨i, rfl, HI, HR, HB⟩ := hrel
      have hi : i ≤ l.length := by have := HI.out; omega
      have hfl := vis_len l i
      by_cases hlt : i < l.length
      · obtain ⟨ad, eA, hcell⟩ := Kd.at_string (Kd.C_below HA.out HB.out) (i : Int) (by omega) (by omega)
        subst eA
        obtain ⟨p, hp⟩ : ∃ p, l.getD i [] = p := ⟨_, rfl⟩
        rw [rd_mk, Int.toNat_natCast, hp] at hcell
        have hpe : epc p = true := by rw [← hp, getD_of l [] hlt]; exact HM.out _ (List.getElem_mem hlt)
        obtain ⟨sp, hsp⟩ : ∃ sp, mk p = sp := ⟨_, rfl⟩
        rw [hsp] at hcell
        have hsn := vis_snoc l i hlt
        rw [hp] at hsn
        have hspd : sp.data.toList = p := by rw [← hsp]; rfl
        have hih : ∀ w, Calls Try.prog 60 #[.string sp] w fun e w' => e = .returned (.bool (hid p)) ∧ Drawn0 w w' := by
          intro w; have h := IsHidden_calls sp (by rw [hspd]; exact hpe) w; rw [hspd] at h; exact h
        have HSN := Aside0.mk hsn; have HSP := Aside0.mk hsp
        clear hsn hp hsp hpe hspd
        cases he : hid p with
        | true =>
          rw [he] at hih
          have HIH := Aside0.mk hih
          have HR2 : Aside0 (Kd.R Kd.string 9 wr w.heap.size (fun _ => True) u3 ((vis (l.take (i + 1))).map mk)) := ⟨by rw [HSN.out, if_pos he]; exact HR.out⟩
          clear he hih HR
          go_wp2_with (first | ((with_reducible refine gate_callee (f := 60) rfl ?_); (try (refine gate_guard (by rfl) ?_; dsimp only)); refine goesL_ (some 17) rfl rfl Try.func60 (by kernel_rfl) rfl #[.string sp] rfl (by (try simp only [List.map_toArray, List.map_cons, List.map_nil]); first | done | rfl) ?_; (with_reducible refine (HIH.out _).mono ?_); rintro e wN ⟨rfl, ⟨nd, rfl⟩⟩; refine ⟨_, rfl, ?_⟩; skip))
          go_roundg (gk - 1)
          case measure => have := HI.out; omega
          case rel => exact ⟨i + 1, by go_num, ⟨by have := HI.out; omega⟩, ⟨by (with_reducible repeat (first | apply Kd.R_alloc | apply Kd.R_drewN | apply Kd.R_drew)); exact HR2.out⟩, ⟨(by repeat (first | (with_reducible first | exact HB.out | apply below_alloc | apply pw_below_drewN | apply below_drew1) | exact HB.out))⟩⟩
        | false =>
          rw [he] at hih
          have HIH := Aside0.mk hih
          have HLEN : Aside0 ((vis (l.take i)).length ≤ 20) := ⟨by omega⟩
          have HNEW : Aside0 ((vis (l.take i)).map mk ++ [sp] = (vis (l.take (i + 1))).map mk) := ⟨by rw [HSN.out, if_neg (by rw [he]; decide), ← HSP.out]; simp⟩
          clear he hih
          go_wp2_with (first | ((with_reducible refine gate_callee (f := 60) rfl ?_); (try (refine gate_guard (by rfl) ?_; dsimp only)); refine goesL_ (some 17) rfl rfl Try.func60 (by kernel_rfl) rfl #[.string sp] rfl (by (try simp only [List.map_toArray, List.map_cons, List.map_nil]); first | done | rfl) ?_; (with_reducible refine (HIH.out _).mono ?_); rintro e wN ⟨rfl, ⟨nd, rfl⟩⟩; refine ⟨_, rfl, ?_⟩; skip) | ((with_reducible refine gate_builtin (b := .append) (xs := #[.tmp 19, .tmp 21]) rfl ?_); (try (refine gate_guard (by rfl) ?_; dsimp only)); at_builtin; refine Kd.R_append Kd.string (w0 := w) w.heap.size rfl (.tmp 19) (.tmp 21) 22 9 (.string ⟨#[]⟩) 16 rfl Try.underlying22 infoS rfl (by decide) (by omega) u3 ((vis (l.take i)).map mk) (sp) [.string (sp)] (fun _ => True) (fun _ => False) rfl rfl ?aP (fun _ hk => hk.elim) ?aF ?aO ?aB ?aS ?aL ?_; (case aP => exact rfl); (case aB => exact (by repeat (first | (with_reducible first | exact HB.out | apply below_alloc | apply pw_below_drewN | apply below_drew1) | exact HB.out))); (case aF => exact (fun _ _ => trivial)); (case aO => exact (by (with_reducible repeat (first | apply Kd.R_alloc | apply Kd.R_drewN | apply Kd.R_drew)); exact HR.out)); (case aS => exact (below_size (by repeat (first | (with_reducible first | exact HB.out | apply below_alloc | apply pw_below_drewN | apply below_drew1) | exact HB.out)))); (case aL => have := HLEN.out; simp only [List.length_map]; omega); intro vN wN ho hb hg hat; rw [HNEW.out] at ho; clear HB; clear HR; have HB := Aside0.mk hb; have HR := Aside0.mk ho; clear ho hb hg hat))
          go_roundg (gk - 1)
          case measure => have := HI.out; omega
          case rel => exact ⟨i + 1, by go_num, ⟨by have := HI.out; omega⟩, HR, HB⟩
      · have hli : i = l.length := by omega
        have hR := HR.out
        rw [hli, List.take_length] at hR
        have HR2 := Aside0.mk hR; clear hR HR hli hfl
        obtain ⟨A4, c4, e4⟩ := Kd.R_slice HR2.out
        rw [List.length_map] at e4
        subst e4
        go_wp2
        go_ret
        exact ⟨A4, c4, rfl, by have h := (Kd.R_reads' HR2.out).2.2; rw [List.length_map] at h; exact h, by have := (Kd.R_reads' HR2.out).2.1; simpa using this, (by repeat (first | (with_reducible first | exact HB.out | apply below_alloc | apply pw_below_drewN | apply below_drew1) | exact HB.out))⟩

theorem Visible_calls (A : Option Addr) (c : Nat) (l : List L) (w : World) (hr : Kd.C Kd.string w A l.length (l.map mk)) (hc : l.length ≤ c) (hl : l.length ≤ 20) (hm : ∀ p ∈ l, epc p = true) :
    Calls Try.prog 37 #[.slice A l.length c] w fun e w' => ∃ (A' : Option Addr) (c' : Nat), e = .returned (.slice A' (vis l).length c') ∧ Kd.C Kd.string w' A' (vis l).length ((vis l).map mk) ∧ (vis l).length ≤ c' ∧ Below w.heap.size w w' := by
  have HB := Aside0.mk (Below.refl w.heap.size w)
  have HR := Aside0.mk hr; have HM := Aside0.mk hm; clear hr hm
  go_enter Try.func37, Try.ntmps37
  go_wp2_with (first | ((with_reducible refine gate_callee (f := 61) rfl ?_); (try (refine gate_guard (by rfl) ?_; dsimp only)); refine goesL_ (some 4) rfl rfl Try.func61 (by kernel_rfl) rfl #[.slice A l.length c] rfl (by (try simp only [List.map_toArray, List.map_cons, List.map_nil]); first | done | rfl) ?_; (with_reducible refine (Remove_calls A c l _ HR.out hc hl HM.out).mono ?_); rintro e wN ⟨A', c', rfl, hC, hcc, hb⟩; refine ⟨_, rfl, ?_⟩; have HCC := Aside0.mk (And.intro hC hcc); clear hC hcc; have nb_ := Aside0.mk (below_step (by repeat (first | (with_reducible first | exact HB.out | apply below_alloc | apply pw_below_drewN | apply below_drew1) | exact HB.out)) hb); clear HB; have HB := nb_; clear nb_; (try clear hb)))
  go_ret
  exact ⟨A', c', rfl, HCC.out.1, HCC.out.2, (by repeat (first | (with_reducible first | exact HB.out | apply below_alloc | apply pw_below_drewN | apply below_drew1) | exact HB.out))⟩
set_option maxHeartbeats 8000000 in
theorem FnPathHidden_calls (A : Option Addr) (c : Nat) (l : List L) (w : World) (hr : Kd.C Kd.string w A l.length (l.map mk)) (hc : l.length ≤ c) :
    Calls Try.prog 10 #[.slice A l.length c] w fun e w' => e = .returned (.bool true) ∧ Below w.heap.size w w' := by
  have HB := Aside0.mk (Below.refl w.heap.size w)
  have HA := Aside0.mk hr; clear hr
  have h1 : ∀ w, Kd.C Kd.string w A l.length (l.map mk) → Calls Try.prog 14 #[.slice A l.length c] w fun e w' => e = .returned (.bool (fits5 l)) ∧ Drawn0 w w' := fun w hr => fits5_calls A c l w hr hc
  cases hf : fits5 l with
  | false =>
    rw [hf] at h1
    have H1 := Aside0.mk h1; clear h1 hf
    go_enter Try.func10, Try.ntmps10
    go_wp2_with (first | ((with_reducible refine gate_callee (f := 14) rfl ?_); (try (refine gate_guard (by rfl) ?_; dsimp only)); refine goesL_ (some 11) rfl rfl Try.func14 (by kernel_rfl) rfl #[.slice A l.length c] rfl (by (try simp only [List.map_toArray, List.map_cons, List.map_nil]); first | done | rfl) ?_; (with_reducible refine (H1.out _ HA.out).mono ?_); rintro e wN ⟨rfl, ⟨nd, rfl⟩⟩; refine ⟨_, rfl, ?_⟩; skip))
    go_ret
    exact ⟨rfl, (by repeat (first | (with_reducible first | exact HB.out | apply below_alloc | apply pw_below_drewN | apply below_drew1) | exact HB.out))⟩
  | true =>
    rw [hf] at h1
    have H1 := Aside0.mk h1
    have hfl : l.length ≤ 2147483647 ∧ ∀ p ∈ l, p.length ≤ 2147483647 := by
      unfold fits5 at hf
      simp only [Bool.and_eq_true, decide_eq_true_eq, List.all_eq_true] at hf
      exact hf
    have HF := Aside0.mk hfl
    clear h1 hf hfl
    by_cases g1 : l.length > 20
    · go_enter Try.func10, Try.ntmps10
      go_wp2_with (first | ((with_reducible refine gate_callee (f := 14) rfl ?_); (try (refine gate_guard (by rfl) ?_; dsimp only)); refine goesL_ (some 11) rfl rfl Try.func14 (by kernel_rfl) rfl #[.slice A l.length c] rfl (by (try simp only [List.map_toArray, List.map_cons, List.map_nil]); first | done | rfl) ?_; (with_reducible refine (H1.out _ HA.out).mono ?_); rintro e wN ⟨rfl, ⟨nd, rfl⟩⟩; refine ⟨_, rfl, ?_⟩; skip))
      go_ret
      exact ⟨rfl, (by repeat (first | (with_reducible first | exact HB.out | apply below_alloc | apply pw_below_drewN | apply below_drew1) | exact HB.out))⟩
    have g2 : l.length ≤ 20 := by omega
    clear g1
    go_enter Try.func10, Try.ntmps10
    go_wp2_with (first | ((with_reducible refine gate_callee (f := 14) rfl ?_); (try (refine gate_guard (by rfl) ?_; dsimp only)); refine goesL_ (some 11) rfl rfl Try.func14 (by kernel_rfl) rfl #[.slice A l.length c] rfl (by (try simp only [List.map_toArray, List.map_cons, List.map_nil]); first | done | rfl) ?_; (with_reducible refine (H1.out _ HA.out).mono ?_); rintro e wN ⟨rfl, ⟨nd, rfl⟩⟩; refine ⟨_, rfl, ?_⟩; skip))
    go_loopg [3, 18] (l.length) (fun g v3 v18 w' => ∃ (i : Nat), v18 = .int .i64 i ∧ Aside0 (g + i = l.length) ∧ Aside0 (∀ p ∈ l.take i, epc p = true) ∧ Aside0 (Kd.R Kd.string 9 w' w.heap.size (fun _ => True) v3 ((vis (l.take i)).map mk)) ∧ Aside0 (Below w.heap.size w w'))
    case atStart => exact ⟨0, rfl, ⟨by omega⟩, ⟨by simp⟩, ⟨Kd.R_nil _ _ _ _ _⟩, ⟨(by repeat (first | (with_reducible first | exact HB.out | apply below_alloc | apply pw_below_drewN | apply below_drew1) | exact HB.out))⟩⟩
    case round =>
      clear HB H1
      obtain ⟨i, rfl, HI, HE, HR, HB⟩ := hrel
      generalize gk = go at *
      have hi : i ≤ l.length := by have := HI.out; omega
      have hvl := vis_len l i
      by_cases hlt : i < l.length
      · obtain ⟨ad, eA, hcell⟩ := Kd.at_string (Kd.C_below HA.out HB.out) (i : Int) (by omega) (by omega)
        subst eA
        obtain ⟨p, hp⟩ : ∃ p, l.getD i [] = p := ⟨_, rfl⟩
        rw [rd_mk, Int.toNat_natCast, hp] at hcell
        have hpz : p.length ≤ 2147483647 := by rw [← hp, getD_of l [] hlt]; exact HF.out.2 _ (List.getElem_mem hlt)
        obtain ⟨sp, hsp⟩ : ∃ sp, mk p = sp := ⟨_, rfl⟩
        rw [hsp] at hcell
        have hspz : sp.size ≤ 2147483647 := by rw [← hsp, mk_size]; exact hpz
        have hsn := vis_snoc l i hlt
        rw [hp] at hsn
        have hspd : sp.data.toList = p := by rw [← hsp]; rfl
        have hec : ∀ w, Calls Try.prog 33 #[.string sp] w fun e w' => e = .returned (.bool (epc p)) ∧ Below w.heap.size w w' := by
          intro w; have h := epClean_calls sp hspz w; rw [hspd] at h; exact h
        have hte : l.take (i + 1) = l.take i ++ [p] := by rw [List.take_succ_eq_append_getElem hlt, ← hp, getD_of l [] hlt]
        have HSN := Aside0.mk hsn; have HSP := Aside0.mk hsp; have HTE := Aside0.mk hte
        clear hsn hp hsp hte hpz
        cases hep : epc p with
        | false =>
          rw [hep] at hec
          have HEC := Aside0.mk hec
          clear hec hep hspd
          go_wp2_with (first | ((with_reducible refine gate_callee (f := 33) rfl ?_); (try (refine gate_guard (by rfl) ?_; dsimp only)); refine goesL_ (some 23) rfl rfl Try.func33 (by kernel_rfl) rfl #[.string sp] rfl (by (try simp only [List.map_toArray, List.map_cons, List.map_nil]); first | done | rfl) ?_; (with_reducible refine (HEC.out _).mono ?_); rintro e wN ⟨rfl, hb⟩; refine ⟨_, rfl, ?_⟩; have nd_ := Aside0.mk (Kd.R_below (by (with_reducible repeat (first | apply Kd.R_alloc | apply Kd.R_drewN | apply Kd.R_drew)); exact HR.out) hb); clear HR; have HR := nd_; clear nd_; have nb_ := Aside0.mk (below_step (by repeat (first | (with_reducible first | exact HB.out | apply below_alloc | apply pw_below_drewN | apply below_drew1) | exact HB.out)) hb); clear HB; have HB := nb_; clear nb_; (try clear hb)))
          go_ret
          exact ⟨rfl, (by repeat (first | (with_reducible first | exact HB.out | apply below_alloc | apply pw_below_drewN | apply below_drew1) | exact HB.out))⟩
        | true =>
          rw [hep] at hec
          have HEC := Aside0.mk hec
          obtain ⟨h1, h2, h3, h4, h5⟩ := epc_form hep
          have hfew := names_few p h1 h2 h3 h5
          have hsz2 : sp.size ≤ 100000 := by rw [← HSP.out, mk_size]; omega
          obtain ⟨nm, hnm⟩ : ∃ nm, (names p).map mk = nm := ⟨_, rfl⟩
          have hnml : nm.length = (names p).length := by rw [← hnm, List.length_map]
          have hnpos : 0 < nm.length := by rw [hnml]; exact List.length_pos_iff.2 h3
          have hnle : nm.length ≤ 101 := by omega
          have HNC : Aside0 (∀ w, Calls Try.prog 34 #[.string sp] w fun e w' => ∃ v0 : Value, e = .returned v0 ∧ Kd.R Kd.string 9 w' w.heap.size (fun _ => True) v0 nm ∧ Below w.heap.size w w') :=
            ⟨fun w => by have h := NamesC sp hsz2 w; rw [hspd, hnm] at h; exact h⟩
          have hhp : ∀ w, Calls Try.prog 35 #[.string sp] w fun e w' => e = .returned (.bool (hid p)) ∧ Drawn0 w w' := by
            intro w; have h := HiddenPath_calls sp (by rw [hspd]; exact hep) w; rw [hspd] at h; exact h
          have hcs : ∀ j, j < nm.length → ∃ s0, nm.getD j ByteArray.empty = s0 ∧ 0 < s0.size ∧ (∀ h : 0 < s0.size, (((s0[0]'h).toNat : Int) == 46) = (((names p).getD j []).getD 0 0 == 46)) := by
            intro j hj
            have hj2 : j < (names p).length := by omega
            refine ⟨mk ((names p).getD j []), ?_, ?_, ?_⟩
            · rw [← hnm, List.getD_eq_getElem?_getD, List.getElem?_map, List.getElem?_eq_getElem hj2, getD_of _ [] hj2]; rfl
            · rw [mk_size, getD_of _ [] hj2]; exact List.length_pos_iff.2 (h2 _ (List.getElem_mem hj2)).1
            · intro h; exact byteAt rfl 0 46 h
          have HCS := Aside0.mk hcs; have HHP := Aside0.mk hhp; have HEP := Aside0.mk hep
          have hlast : nm.length - 1 < nm.length := by omega
          obtain ⟨sl, hsl1, hsl2, hsl3⟩ := hcs (nm.length - 1) hlast
          have hsl4 : ∀ h : 0 < sl.size, (((sl[0]'h).toNat : Int) == 46) = hid p := by
            intro h; rw [hsl3 h, hnml]; rfl
          have HSL := Aside0.mk hsl1
          clear hec hep h1 h2 h3 h4 h5 hfew hnm hnml hcs hhp hspd hsl3 hlast hsl1
          go_wp2_with (first | ((with_reducible refine gate_callee (f := 33) rfl ?_); (try (refine gate_guard (by rfl) ?_; dsimp only)); refine goesL_ (some 23) rfl rfl Try.func33 (by kernel_rfl) rfl #[.string sp] rfl (by (try simp only [List.map_toArray, List.map_cons, List.map_nil]); first | done | rfl) ?_; (with_reducible refine (HEC.out _).mono ?_); rintro e wN ⟨rfl, hb⟩; refine ⟨_, rfl, ?_⟩; have nd_ := Aside0.mk (Kd.R_below (by (with_reducible repeat (first | apply Kd.R_alloc | apply Kd.R_drewN | apply Kd.R_drew)); exact HR.out) hb); clear HR; have HR := nd_; clear nd_; have nb_ := Aside0.mk (below_step (by repeat (first | (with_reducible first | exact HB.out | apply below_alloc | apply pw_below_drewN | apply below_drew1) | exact HB.out)) hb); clear HB; have HB := nb_; clear nb_; (try clear hb)) | ((with_reducible refine gate_callee (f := 34) rfl ?_); (try (refine gate_guard (by rfl) ?_; dsimp only)); refine goesL_ (some 26) rfl rfl Try.func34 (by kernel_rfl) rfl #[.string sp] rfl (by (try simp only [List.map_toArray, List.map_cons, List.map_nil]); first | done | rfl) ?_; (with_reducible refine (HNC.out _).mono ?_); rintro e wN ⟨v26, rfl, ho0, hb⟩; refine ⟨_, rfl, ?_⟩; have nq_ := Aside0.mk (Kd.R_lower ho0 (below_size (by repeat (first | (with_reducible first | exact HB.out | apply below_alloc | apply pw_below_drewN | apply below_drew1) | exact HB.out)))); have nd_ := Aside0.mk (Kd.R_below (by (with_reducible repeat (first | apply Kd.R_alloc | apply Kd.R_drewN | apply Kd.R_drew)); exact HR.out) hb); have nb_ := Aside0.mk (below_step (by repeat (first | (with_reducible first | exact HB.out | apply below_alloc | apply pw_below_drewN | apply below_drew1) | exact HB.out)) hb); clear HB; have HB := nb_; clear nb_; (try clear hb); have HQ := nq_; clear HR; have HR := nd_; clear nq_ nd_ ho0; (obtain ⟨AQ, cQ, eQ⟩ := Kd.R_slice HQ.out); subst eQ))
          clear HEC HNC
          go_loopg [29] (nm.length) (fun g v29 w' => ∃ (j : Nat), v29 = .int .i64 j ∧ wN = w' ∧ Aside0 (g + j = nm.length))
          case atStart => exact ⟨0, rfl, rfl, ⟨by omega⟩⟩
          case round =>
            obtain ⟨j, rfl, rfl, HJ⟩ := hrel
            have hj : j ≤ nm.length := by have := HJ.out; omega
            by_cases hjl : j < nm.length
            · obtain ⟨ad2, eA2, hcell2⟩ := Kd.at_string (Kd.R_reads' HQ.out).2.2 (j : Int) (by omega) (by omega)
              subst eA2
              obtain ⟨s0, hs1, hs2, hs3⟩ := HCS.out j hjl
              rw [show rdOf ByteArray.empty nm (j : Int) = s0 by unfold rdOf; rw [Int.toNat_natCast]; exact hs1, Int.toNat_natCast] at hcell2
              obtain ⟨bb, hbb⟩ : ∃ bb, (((names p).getD j []).getD 0 0 == 46) = bb := ⟨_, rfl⟩
              have hs4 : ∀ h : 0 < s0.size, (((s0[0]'h).toNat : Int) == 46) = bb := fun h => (hs3 h).trans hbb
              clear hs1 hs3 hbb
              cases bb with
              | true =>
                by_cases hj3 : j + 1 < nm.length
                · go_wp2
                  go_ret
                  exact ⟨rfl, HB.out⟩
                · go_wp2
                  go_roundg (gk - 1)
                  case measure => have := HJ.out; omega
                  case rel => exact ⟨j + 1, by go_num, rfl, ⟨by have := HJ.out; omega⟩⟩
              | false =>
                go_wp2
                go_roundg (gk - 1)
                case measure => have := HJ.out; omega
                case rel => exact ⟨j + 1, by go_num, rfl, ⟨by have := HJ.out; omega⟩⟩
            · obtain ⟨ad3, eA3, hcell3⟩ := Kd.at_string (Kd.R_reads' HQ.out).2.2 ((nm.length : Int) - 1) (by omega) (by omega)
              subst eA3
              have ei : ((nm.length : Int) - 1).toNat = nm.length - 1 := by omega
              rw [show rdOf ByteArray.empty nm ((nm.length : Int) - 1) = sl by unfold rdOf; rw [ei]; exact HSL.out, ei] at hcell3
              clear ei HCS HSL
              cases hh : hid p with
              | true =>
                rw [hh] at HHP hsl4
                have HR2 : Aside0 (Kd.R Kd.string 9 wN w.heap.size (fun _ => True) u3 ((vis (l.take (i + 1))).map mk)) := ⟨by rw [HSN.out, if_pos hh]; exact HR.out⟩
                clear hh HR
                go_wp2_with (first | ((with_reducible refine gate_callee (f := 35) rfl ?_); (try (refine gate_guard (by rfl) ?_; dsimp only)); refine goesL_ (some 54) rfl rfl Try.func35 (by kernel_rfl) rfl #[.string sp] rfl (by (try simp only [List.map_toArray, List.map_cons, List.map_nil]); first | done | rfl) ?_; (with_reducible refine (HHP.out _).mono ?_); rintro e wN ⟨rfl, ⟨nd, rfl⟩⟩; refine ⟨_, rfl, ?_⟩; skip))
                go_roundg (go - 1)
                case measure => have := HI.out; omega
                case rel => exact ⟨i + 1, by go_num, ⟨by have := HI.out; omega⟩, ⟨by rw [HTE.out]; intro q hq; rcases List.mem_append.1 hq with hq | hq; exact HE.out q hq; rw [List.mem_singleton.1 hq]; exact HEP.out⟩, ⟨by (with_reducible repeat (first | apply Kd.R_alloc | apply Kd.R_drewN | apply Kd.R_drew)); exact HR2.out⟩, ⟨(by repeat (first | (with_reducible first | exact HB.out | apply below_alloc | apply pw_below_drewN | apply below_drew1) | exact HB.out))⟩⟩
              | false =>
                rw [hh] at HHP hsl4
                have HLEN : Aside0 ((vis (l.take i)).length ≤ 20) := ⟨by omega⟩
                have HNEW : Aside0 ((vis (l.take i)).map mk ++ [sp] = (vis (l.take (i + 1))).map mk) := ⟨by rw [HSN.out, if_neg (by rw [hh]; decide), ← HSP.out]; simp⟩
                clear hh
                go_wp2_with (first | ((with_reducible refine gate_callee (f := 35) rfl ?_); (try (refine gate_guard (by rfl) ?_; dsimp only)); refine goesL_ (some 54) rfl rfl Try.func35 (by kernel_rfl) rfl #[.string sp] rfl (by (try simp only [List.map_toArray, List.map_cons, List.map_nil]); first | done | rfl) ?_; (with_reducible refine (HHP.out _).mono ?_); rintro e wN ⟨rfl, ⟨nd, rfl⟩⟩; refine ⟨_, rfl, ?_⟩; skip) | ((with_reducible refine gate_builtin (b := .append) (xs := #[.tmp 59, .tmp 61]) rfl ?_); (try (refine gate_guard (by rfl) ?_; dsimp only)); at_builtin; refine Kd.R_append Kd.string (w0 := w) w.heap.size rfl (.tmp 59) (.tmp 61) 22 9 (.string ⟨#[]⟩) 16 rfl Try.underlying22 infoS rfl (by decide) (by omega) u3 ((vis (l.take i)).map mk) (sp) [.string (sp)] (fun _ => True) (fun _ => False) rfl rfl ?aP (fun _ hk => hk.elim) ?aF ?aO ?aB ?aS ?aL ?_; (case aP => exact rfl); (case aB => exact (by repeat (first | (with_reducible first | exact HB.out | apply below_alloc | apply pw_below_drewN | apply below_drew1) | exact HB.out))); (case aF => exact (fun _ _ => trivial)); (case aO => exact (by (with_reducible repeat (first | apply Kd.R_alloc | apply Kd.R_drewN | apply Kd.R_drew)); exact HR.out)); (case aS => exact (below_size (by repeat (first | (with_reducible first | exact HB.out | apply below_alloc | apply pw_below_drewN | apply below_drew1) | exact HB.out)))); (case aL => have := HLEN.out; simp only [List.length_map]; omega); intro vN wN ho hb hg hat; rw [HNEW.out] at ho; clear HB; clear HR; have HB := Aside0.mk hb; have HR := Aside0.mk ho; clear ho hb hg hat))
                go_roundg (go - 1)
                case measure => have := HI.out; omega
                case rel => exact ⟨i + 1, by go_num, ⟨by have := HI.out; omega⟩, ⟨by rw [HTE.out]; intro q hq; rcases List.mem_append.1 hq with hq | hq; exact HE.out q hq; rw [List.mem_singleton.1 hq]; exact HEP.out⟩, HR, HB⟩
      · have hli : i = l.length := by omega
        have hR := HR.out
        have hE := HE.out
        rw [hli, List.take_length] at hR hE
        obtain ⟨vm, hvm⟩ : ∃ vm, (vis l).map mk = vm := ⟨_, rfl⟩
        have hvml : vm.length = (vis l).length := by rw [← hvm, List.length_map]
        have hvle : (vis l).length ≤ 20 := by have := vis_len l l.length; rw [List.take_length] at this; omega
        rw [hvm] at hR
        have HR2 := Aside0.mk hR
        have HVP : Aside0 (∀ w, Kd.C Kd.string w A l.length (l.map mk) → Calls Try.prog 37 #[.slice A l.length c] w fun e w' => ∃ (A' : Option Addr) (c' : Nat), e = .returned (.slice A' vm.length c') ∧ Kd.C Kd.string w' A' vm.length vm ∧ vm.length ≤ c' ∧ Below w.heap.size w w') :=
          ⟨fun w hr => by have h := Visible_calls A c l w hr hc g2 hE; rw [hvm, ← hvml] at h; exact h⟩
        have HSM : Aside0 (∀ (A : Option Addr) (c : Nat) (B : Option Addr) (d : Nat) (w : World), Kd.C Kd.string w A vm.length vm → Kd.C Kd.string w B vm.length vm → vm.length ≤ c → vm.length ≤ d → Calls Try.prog 36 #[.slice A vm.length c, .slice B vm.length d] w fun e w' => e = .returned (.bool true) ∧ Drawn0 w w') :=
          ⟨fun A c B d w ha hb hc hd => by
            rw [hvml] at ha hb hc hd ⊢
            rw [← hvm] at ha hb
            have h := SameC A c B d _ _ w ha hb hc hd (by omega)
            rw [beq_self_eq_true] at h; exact h⟩
        clear hR hE HR HE hli hvm hvl hvml hvle
        obtain ⟨A4, c4, e4⟩ := Kd.R_slice HR2.out
        subst e4
        go_wp2_with (first | ((with_reducible refine gate_callee (f := 37) rfl ?_); (try (refine gate_guard (by rfl) ?_; dsimp only)); refine goesL_ (some 65) rfl rfl Try.func37 (by kernel_rfl) rfl #[.slice A l.length c] rfl (by (try simp only [List.map_toArray, List.map_cons, List.map_nil]); first | done | rfl) ?_; (with_reducible refine (HVP.out _ (Kd.C_below HA.out (by repeat (first | (with_reducible first | exact HB.out | apply below_alloc | apply pw_below_drewN | apply below_drew1) | exact HB.out)))).mono ?_); rintro e wN ⟨A', c', rfl, hC, hcc, hb⟩; refine ⟨_, rfl, ?_⟩; have HCC := Aside0.mk (And.intro hC hcc); clear hC hcc; have nd_ := Aside0.mk (Kd.R_below (by (with_reducible repeat (first | apply Kd.R_alloc | apply Kd.R_drewN | apply Kd.R_drew)); exact HR2.out) hb); clear HR2; have HR2 := nd_; clear nd_; have nb_ := Aside0.mk (below_step (by repeat (first | (with_reducible first | exact HB.out | apply below_alloc | apply pw_below_drewN | apply below_drew1) | exact HB.out)) hb); clear HB; have HB := nb_; clear nb_; (try clear hb)) | ((with_reducible refine gate_callee (f := 36) rfl ?_); (try (refine gate_guard (by rfl) ?_; dsimp only)); refine goesL_ (some 67) rfl rfl Try.func36 (by kernel_rfl) rfl #[.slice A' vm.length c', .slice A4 vm.length c4] rfl (by (try simp only [List.map_toArray, List.map_cons, List.map_nil]); first | done | rfl) ?_; (with_reducible refine (HSM.out _ _ _ _ _ ?sa (Kd.R_reads' (by (with_reducible repeat (first | apply Kd.R_alloc | apply Kd.R_drewN | apply Kd.R_drew)); exact HR2.out)).2.2 HCC.out.2 (Kd.R_reads' HR2.out).2.1).mono ?_); (case sa => repeat (first | exact HCC.out.1 | (with_reducible refine Kd.C_alloc ?_ _) | (with_reducible refine Kd.C_drewN ?_ _) | (with_reducible refine Kd.C_drew ?_))); rintro e wN ⟨rfl, ⟨nd, rfl⟩⟩; refine ⟨_, rfl, ?_⟩; skip) | ((with_reducible refine gate_callee (f := 22) rfl ?_); (try (refine gate_guard (by rfl) ?_; dsimp only)); refine goesL_ (some 69) rfl rfl Try.func22 (by kernel_rfl) rfl #[] rfl (by (try simp only [List.map_toArray, List.map_cons, List.map_nil]); first | done | rfl) ?_; (with_reducible refine (epCleans_calls _).mono ?_); rintro e wN ⟨rfl, hb⟩; refine ⟨_, rfl, ?_⟩; have nb_ := Aside0.mk (below_step (by repeat (first | (with_reducible first | exact HB.out | apply below_alloc | apply pw_below_drewN | apply below_drew1) | exact HB.out)) hb); clear HB; have HB := nb_; clear nb_; (try clear hb)))
        go_ret
        exact ⟨rfl, (by repeat (first | (with_reducible first | exact HB.out | apply below_alloc | apply pw_below_drewN | apply below_drew1) | exact HB.out))⟩
end Go.Proofs.Ytllmmnhgchidkaa.Hand
