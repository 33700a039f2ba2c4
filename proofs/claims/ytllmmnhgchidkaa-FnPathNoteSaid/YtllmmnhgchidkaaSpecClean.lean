/- spec.Clean by hand: what it hands back is 'clean' of its bytes. For texts of at most 100,000 bytes. -/
import Derived.Test.YtllmmnhgchidkaaEvPath
import Derived.Test.YtllmmnhgchidkaaZzClean
namespace Go.Proofs.Ytllmmnhgchidkaa.Hand
open Go.RowKit Go.Proofs.YtllmmnhgchidkaaW.PrintWords Go.Proofs.YtllmmnhgchidkaaW.PrintLast Go.Proofs.YtllmmnhgchidkaaW.PrintMore Go.Proofs.Ytllmmnhgchidkaa.Base Go.Proofs.Ytllmmnhgchidkaa.PFnPathParts
set_option linter.unusedVariables false
set_option linter.unusedSimpArgs false

theorem fold_names (ro : Bool) (ps : List L) : ∀ l, (ps.filter (fun p => !(p == []))).foldl (pstep ro) l = ps.foldl (pstep ro) l := by
  induction ps with
  | nil => intro l; rfl
  | cons p t ih =>
    intro l
    rw [List.filter_cons]
    by_cases h : p = []
    · rw [if_neg (by simp [h]), ih, List.foldl_cons, h]
      congr 1
    · rw [if_pos (by simpa using h), List.foldl_cons, List.foldl_cons, ih]
theorem parts_names (x : L) : parts x = (names x).foldl (pstep (rooted x)) [] := by unfold parts names; rw [fold_names]
theorem names_mem (x : L) : ∀ p ∈ names x, p ≠ [] ∧ p.length ≤ x.length := by
  intro p hp
  have h := List.mem_filter.1 hp
  exact ⟨by simpa using h.2, pieces_le 47 x p h.1⟩
theorem names_len (x : L) : (names x).length ≤ x.length + 1 := Nat.le_trans (List.length_filter_le _ _) (pieces_len 47 x)

theorem fold_mem (ro : Bool) (m : Nat) (ps : List L) : ∀ (l : List L), (∀ p ∈ ps, p.length ≤ m) → (∀ p ∈ l, p.length ≤ m) → (∀ p ∈ ps.foldl (pstep ro) l, p.length ≤ m) ∧ (ps.foldl (pstep ro) l).length ≤ l.length + ps.length := by
  induction ps with
  | nil => intro l _ h; exact ⟨h, by simp⟩
  | cons q t ih =>
    intro l hq hl
    have h := ih (pstep ro l q) (fun p hp => hq p (by simp [hp])) (fun p hp => by rcases pstep_mem ro l q p hp with h | rfl; exact hl p h; exact hq p (by simp))
    have h2 := pstep_len ro l q
    exact ⟨h.1, by rw [List.foldl_cons, List.length_cons]; have := h.2; omega⟩
theorem parts_bd (x : L) : (∀ p ∈ parts x, p.length ≤ x.length) ∧ (parts x).length ≤ x.length + 1 := by
  have h := fold_mem (rooted x) x.length (pieces 47 x) [] (pieces_le 47 x) (by simp)
  have h2 := pieces_len 47 x
  exact ⟨h.1, by have := h.2; unfold parts; simp at this; omega⟩

/-- joined's contract, spelled over lists. -/
theorem joined_calls (k : Nat) (A : Option Addr) (c : Nat) (l : List L) (r : ByteArray) (w : World) (hr : Kd.string.C w A (l.map mk).length (l.map mk)) (hc : l.length ≤ c) (h : spec_joined.f k (l.map mk) (mk [47]) = some r) :
    Calls Try.prog 49 #[.slice A l.length c, .string ⟨#[47]⟩] w fun e w' => e = .returned (.string r) ∧ Drawn0 w w' := by
  have h1 := spec_joined.calls k A c (l.map mk) ⟨#[47]⟩ r w hr (by simpa using hc) h
  rw [List.length_map] at h1; exact h1

/-- What is known at a round's head: i names are taken. -/
def RelC (w : World) (x : L) (V16 : Value) (g : Nat) (v4 v18 : Value) (w' : World) : Prop :=
  ∃ (l : List L) (i : Nat), v18 = .int .i64 i ∧ Aside0 (i ≤ (names x).length ∧ l.length ≤ i ∧ ((names x).drop i).foldl (pstep (rooted x)) l = parts x) ∧ Aside0 (g + i = (names x).length) ∧
    Aside0 (Kd.R Kd.string 9 w' w.heap.size (fun k_ => some k_ ≠ V16.ownBlock) v4 (l.map mk)) ∧ Aside0 (Kd.R Kd.string 9 w' w.heap.size (fun k_ => some k_ ≠ v4.ownBlock) V16 ((names x).map mk)) ∧ Aside0 (Below w.heap.size w w')

set_option maxHeartbeats 8000000 in
set_option maxRecDepth 100000 in
theorem Clean_calls (s : ByteArray) (hs : s.size ≤ 100000) (w : World) :
    Calls Try.prog 21 #[.string s] w fun e w' => e = .returned (.string (mk (clean s.data.toList))) ∧ Below w.heap.size w w' := by
  obtain ⟨x, hx, hxs⟩ : ∃ x : L, s = mk x ∧ s.size = x.length := exists_mk s
  have hsx : s.data.toList = x := by rw [hx]; rfl
  rw [hsx]
  have HB := Aside0.mk (Below.refl w.heap.size w)
  obtain ⟨kn, hkn⟩ := (names_ev x (by omega)).rounds
  rw [← hx] at hkn
  have KN := Aside0.mk hkn; clear hkn
  obtain ⟨ro, hro⟩ : ∃ ro, rooted x = ro := ⟨_, rfl⟩
  have hnl := names_len x
  rw [← hxs] at hnl
  have NL := Aside0.mk hnl; clear hnl
  have HX := Aside0.mk (And.intro hx hxs)
  have HRO := Aside0.mk hro
  have hstart : (s.toList == ([] : List UInt8)) = true ∧ ro = false ∨ (s.toList == ([] : List UInt8)) = false ∧ 0 < s.size ∧ ∀ h : 0 < s.size, (((s[0]'h).toNat : Int) == 47) = ro := by
    by_cases hnil : x = []
    · refine .inl ⟨by rw [hx, mk_toList, hnil]; rfl, by rw [← hro, hnil]; rfl⟩
    · refine .inr ⟨by rw [hx, mk_toList]; simpa using hnil, by rw [hxs]; exact List.length_pos_iff.2 hnil, fun h => ?_⟩
      have e : ((s[0]'h).toNat : Int) = bt s 0 := bt_at s 0 h
      rw [e, hx, bt_mk, ← hro]
      exact rooted_head x hnil
  clear hx hxs hsx hro
  go_enter Try.func21, Try.ntmps21
  go_upto_region 1 with (fail)
  go_cut [3] (fun v3 wc => v3 = .bool ro ∧ w = wc)
  case first =>
    rcases hstart with ⟨h1, h2⟩ | ⟨h1, h2, h3⟩
    · have H2 := Aside0.mk h2
      clear h2
      go_wp2
      go_meet
      case rel => exact ⟨by rw [H2.out], rfl⟩
    · go_wp2
      go_meet
      case rel => exact ⟨rfl, rfl⟩
  case rest =>
    obtain ⟨rfl, rfl⟩ := hcut
    clear hstart
    go_wp2_with (first | ((with_reducible refine gate_callee (f := 34) rfl ?_); (try (refine gate_guard (by rfl) ?_; dsimp only)); refine goesL_ (some 16) rfl rfl Try.func34 (by kernel_rfl) rfl #[.string s] rfl (by (try simp only [List.map_toArray, List.map_cons, List.map_nil]); first | done | rfl) ?_; (with_reducible refine (spec_Names.calls kn s _ _ KN.out).mono ?_); rintro e wN ⟨v16, rfl, ho0, hb⟩; refine ⟨_, rfl, ?_⟩; have nq_ := Aside0.mk (Kd.R_lower ho0 (below_size (by repeat (first | (with_reducible first | exact HB.out | apply below_alloc | apply pw_below_drewN | apply below_drew1) | exact HB.out)))); have nb_ := Aside0.mk (below_step (by repeat (first | (with_reducible first | exact HB.out | apply below_alloc | apply pw_below_drewN | apply below_drew1) | exact HB.out)) hb); clear HB; have HB := nb_; clear nb_; (try clear hb); have HQ := nq_; clear nq_ ho0; (obtain ⟨A, c, e16⟩ := Kd.R_slice HQ.out); (rw [List.length_map] at e16); subst e16))
    go_loopg [4, 18] ((names x).length) (fun g v4 v18 w' => RelC w x (.slice A (names x).length c) g v4 v18 w')
    case atStart => exact ⟨[], 0, rfl, ⟨⟨by omega, by simp, by rw [List.drop_zero, parts_names]⟩⟩, ⟨by omega⟩, ⟨Kd.R_nil _ _ _ _ _⟩, ⟨Kd.R_mono (by first | exact HQ.out | exact (by (with_reducible repeat (first | apply Kd.R_alloc | apply Kd.R_drewN | apply Kd.R_drew)); exact HQ.out)) (fun _ _ => by simp [Value.ownBlock])⟩, ⟨(by repeat (first | (with_reducible first | exact HB.out | apply below_alloc | apply pw_below_drewN | apply below_drew1) | exact HB.out))⟩⟩
    case round =>
      clear HB HQ
      obtain ⟨l, i, rfl, HI, HG, HR, HQ, HB⟩ := hrel
      obtain ⟨hin, hli, _⟩ := HI.out
      have hnl := NL.out
      by_cases hlt : i < (names x).length
      · obtain ⟨p, hp⟩ : ∃ p, (names x).getD i [] = p := ⟨_, rfl⟩
        have hget : (names x)[i] = p := by rw [← getD_of (names x) [] hlt]; exact hp
        obtain ⟨hpne, hpl⟩ := names_mem x p (by rw [← hget]; exact List.getElem_mem hlt)
        have hnext : (names x).drop i = p :: (names x).drop (i + 1) := by rw [List.drop_eq_getElem_cons hlt, hget]
        have HN : Aside0 (i + 1 ≤ (names x).length ∧ (pstep ro l p).length ≤ i + 1 ∧ ((names x).drop (i + 1)).foldl (pstep (rooted x)) (pstep ro l p) = parts x) := by
          refine ⟨⟨by omega, by have := pstep_len ro l p; omega, ?_⟩⟩
          have h3 := HI.out.2.2
          rw [hnext, List.foldl_cons, HRO.out] at h3
          rw [HRO.out]; exact h3
        obtain ⟨ad, eA, hcell⟩ := Kd.at_string (Kd.R_reads' HQ.out).2.2 (i : Int) (by omega) (by simp; omega)
        subst eA
        rw [rd_mk, Int.toNat_natCast, hp] at hcell
        obtain ⟨sp, hsp⟩ : ∃ sp, mk p = sp := ⟨_, rfl⟩
        rw [hsp] at hcell
        have HSP := Aside0.mk hsp
        have tE : ∀ q : L, (sp.toList == q) = (p == q) := fun q => by rw [← hsp, mk_toList]
        have hlen : l.length ≤ 100001 := by omega
        have HP := Aside0.mk hp; have HPN := Aside0.mk hpne
        clear hp hget hpne hpl hnext hsp
        rcases pstep_cases ro l p with ⟨h1, h2⟩ | ⟨h1, h2⟩ | ⟨h1, h3, h4, h2⟩ | ⟨h1, h3, h4, h2⟩ | ⟨h1, h3, h4, h2⟩ | ⟨h1, h3, h4, h2⟩
        · exact absurd h1 HPN.out
        · have t2 : (sp.toList == ([46] : List UInt8)) = true := by rw [tE, h1]; rfl
          rw [h2] at HN
          have HH := Aside0.mk h1; clear h1 h2 tE
          go_wp2
          go_roundg (gk - 1)
          case measure => have := HG.out; omega
          case rel => exact ⟨l, i + 1, by go_num, HN, ⟨by have := HG.out; omega⟩, HR, HQ, HB⟩
        · have t2 : (sp.toList == ([46] : List UInt8)) = false := by rw [tE, h1]; rfl
          have t3 : (sp.toList == ([46, 46] : List UInt8)) = true := by rw [tE, h1]; rfl
          rw [h2] at HN
          obtain ⟨A4, c4, e4⟩ := Kd.R_slice HR.out
          rw [List.length_map] at e4
          subst e4
          obtain ⟨ad4, eA4, hcell4⟩ := Kd.at_string (Kd.R_reads' HR.out).2.2 ((l.length : Int) - 1) (by omega) (by simp; omega)
          subst eA4
          have ei : ((l.length : Int) - 1).toNat = l.length - 1 := by omega
          rw [rd_mk, ei] at hcell4
          obtain ⟨q, hq⟩ : ∃ q, mk (l.getD (l.length - 1) []) = q := ⟨_, rfl⟩
          have t4 : (q.toList == ([46, 46] : List UInt8)) = false := by rw [← hq, mk_toList]; simpa using h4
          rw [hq] at hcell4
          obtain ⟨i0, hi0, _, _, _⟩ := info_parts infoS
          have hcut := cut_to (P := Try.prog) 22 9 .i64 Try.underlying22 hi0 (some ad4) l.length c4 ((l.length : Int) - 1) (by omega) (by omega) (by have := (Kd.R_reads' HR.out).2.1; simpa using this)
          have hr := Kd.R_take (m := l.length - 1) HR.out (by simp)
          rw [ei] at hcut
          rw [← List.map_take] at hr
          have HR2 := Aside0.mk hr
          have HH := Aside0.mk (And.intro h1 h4); clear h1 h2 h4 tE hr hq ei hi0
          go_wp2
          go_roundg (gk - 1)
          case measure => have := HG.out; omega
          case rel => exact ⟨l.take (l.length - 1), i + 1, by go_num, HN, ⟨by have := HG.out; omega⟩, HR2, HQ, HB⟩
        · have t2 : (sp.toList == ([46] : List UInt8)) = false := by rw [tE, h1]; rfl
          have t3 : (sp.toList == ([46, 46] : List UInt8)) = true := by rw [tE, h1]; rfl
          rw [h2] at HN
          subst h4
          have HH := Aside0.mk h1; clear h1 h2 tE
          rcases h3 with h3 | ⟨h3, h4⟩
          · obtain ⟨A4, c4, e4⟩ := Kd.R_slice HR.out
            rw [List.length_map, h3] at e4
            subst e4
            have H3 := Aside0.mk h3; clear h3
            go_wp2
            go_roundg (gk - 1)
            case measure => have := HG.out; omega
            case rel => exact ⟨l, i + 1, by go_num, HN, ⟨by have := HG.out; omega⟩, HR, HQ, HB⟩
          · obtain ⟨A4, c4, e4⟩ := Kd.R_slice HR.out
            rw [List.length_map] at e4
            subst e4
            obtain ⟨ad4, eA4, hcell4⟩ := Kd.at_string (Kd.R_reads' HR.out).2.2 ((l.length : Int) - 1) (by omega) (by simp; omega)
            subst eA4
            have ei : ((l.length : Int) - 1).toNat = l.length - 1 := by omega
            rw [rd_mk, ei, h4] at hcell4
            have t4 : ((mk [46, 46]).toList == ([46, 46] : List UInt8)) = true := by rw [mk_toList]; rfl
            obtain ⟨q, hq⟩ : ∃ q, mk [46, 46] = q := ⟨_, rfl⟩
            rw [hq] at hcell4 t4
            clear hq ei
            have H4 := Aside0.mk h4; clear h4
            go_wp2
            go_roundg (gk - 1)
            case measure => have := HG.out; omega
            case rel => exact ⟨l, i + 1, by go_num, HN, ⟨by have := HG.out; omega⟩, HR, HQ, HB⟩
        · have t2 : (sp.toList == ([46] : List UInt8)) = false := by rw [tE, h1]; rfl
          have t3 : (sp.toList == ([46, 46] : List UInt8)) = true := by rw [tE, h1]; rfl
          rw [h2] at HN
          subst h4
          have HLEN := Aside0.mk hlen
          have HNEW : Aside0 (l.map mk ++ [sp] = (l ++ [p]).map mk) := ⟨by rw [← HSP.out]; simp⟩
          have HH := Aside0.mk h1; clear h1 h2 tE
          rcases h3 with h3 | ⟨h3, h4⟩
          · obtain ⟨A4, c4, e4⟩ := Kd.R_slice HR.out
            rw [List.length_map, h3] at e4
            subst e4
            have H3 := Aside0.mk h3; clear h3
            go_wp2_with (first | ((with_reducible refine gate_builtin (b := .append) (xs := #[.tmp 22, .tmp 24]) rfl ?_); (try (refine gate_guard (by rfl) ?_; dsimp only)); at_builtin; refine Kd.R_append Kd.string (w0 := w) w.heap.size rfl (.tmp 22) (.tmp 24) 22 9 (.string ⟨#[]⟩) 16 rfl Try.underlying22 infoS rfl (by decide) (by omega) (.slice A4 0 c4) (l.map mk) (sp) [.string (sp)] (fun k_ => some k_ ≠ (.slice (some ad) (names x).length c : Value).ownBlock) (fun _ => False) rfl rfl ?aP (fun _ hk => hk.elim) ?aF ?aO ?aB ?aS ?aL ?_; (case aP => exact rfl); (case aB => exact (by repeat (first | (with_reducible first | exact HB.out | apply below_alloc | apply pw_below_drewN | apply below_drew1) | exact HB.out))); (case aF => exact (fun k_ hk => Kd.fresh' (Kd.R_lt (by (with_reducible repeat (first | apply Kd.R_alloc | apply Kd.R_drewN | apply Kd.R_drew)); exact HQ.out)) k_ hk)); (case aO => exact (by (with_reducible repeat (first | apply Kd.R_alloc | apply Kd.R_drewN | apply Kd.R_drew)); exact HR.out)); (case aS => exact (below_size (by repeat (first | (with_reducible first | exact HB.out | apply below_alloc | apply pw_below_drewN | apply below_drew1) | exact HB.out)))); (case aL => have := HLEN.out; (try simp only [List.length_map, List.length_nil] at *); omega); intro vN wN ho hb hg hat; rw [HNEW.out] at ho; have hq_ := Aside0.mk (Kd.R_after (ok := (fun _ => True)) (by (with_reducible repeat (first | apply Kd.R_alloc | apply Kd.R_drewN | apply Kd.R_drew)); exact Kd.R_mono HQ.out (fun _ hk => ⟨trivial, hk⟩)) hg hat); clear HB; clear HR; clear HQ; have HQ := hq_; clear hq_; have HB := Aside0.mk hb; have HR := Aside0.mk ho; clear ho hb hg hat))
            go_roundg (gk - 1)
            case measure => have := HG.out; omega
            case rel => exact ⟨l ++ [p], i + 1, by go_num, HN, ⟨by have := HG.out; omega⟩, HR, ⟨Kd.R_mono HQ.out (fun _ hk => hk.2)⟩, HB⟩
          · obtain ⟨A4, c4, e4⟩ := Kd.R_slice HR.out
            rw [List.length_map] at e4
            subst e4
            obtain ⟨ad4, eA4, hcell4⟩ := Kd.at_string (Kd.R_reads' HR.out).2.2 ((l.length : Int) - 1) (by omega) (by simp; omega)
            subst eA4
            have ei : ((l.length : Int) - 1).toNat = l.length - 1 := by omega
            rw [rd_mk, ei, h4] at hcell4
            have t4 : ((mk [46, 46]).toList == ([46, 46] : List UInt8)) = true := by rw [mk_toList]; rfl
            obtain ⟨q, hq⟩ : ∃ q, mk [46, 46] = q := ⟨_, rfl⟩
            rw [hq] at hcell4 t4
            clear hq ei
            have H4 := Aside0.mk h4; clear h4
            go_wp2_with (first | ((with_reducible refine gate_builtin (b := .append) (xs := #[.tmp 22, .tmp 24]) rfl ?_); (try (refine gate_guard (by rfl) ?_; dsimp only)); at_builtin; refine Kd.R_append Kd.string (w0 := w) w.heap.size rfl (.tmp 22) (.tmp 24) 22 9 (.string ⟨#[]⟩) 16 rfl Try.underlying22 infoS rfl (by decide) (by omega) (.slice (some ad4) l.length c4) (l.map mk) (sp) [.string (sp)] (fun k_ => some k_ ≠ (.slice (some ad) (names x).length c : Value).ownBlock) (fun _ => False) rfl rfl ?aP (fun _ hk => hk.elim) ?aF ?aO ?aB ?aS ?aL ?_; (case aP => exact rfl); (case aB => exact (by repeat (first | (with_reducible first | exact HB.out | apply below_alloc | apply pw_below_drewN | apply below_drew1) | exact HB.out))); (case aF => exact (fun k_ hk => Kd.fresh' (Kd.R_lt (by (with_reducible repeat (first | apply Kd.R_alloc | apply Kd.R_drewN | apply Kd.R_drew)); exact HQ.out)) k_ hk)); (case aO => exact (by (with_reducible repeat (first | apply Kd.R_alloc | apply Kd.R_drewN | apply Kd.R_drew)); exact HR.out)); (case aS => exact (below_size (by repeat (first | (with_reducible first | exact HB.out | apply below_alloc | apply pw_below_drewN | apply below_drew1) | exact HB.out)))); (case aL => have := HLEN.out; (try simp only [List.length_map, List.length_nil] at *); omega); intro vN wN ho hb hg hat; rw [HNEW.out] at ho; have hq_ := Aside0.mk (Kd.R_after (ok := (fun _ => True)) (by (with_reducible repeat (first | apply Kd.R_alloc | apply Kd.R_drewN | apply Kd.R_drew)); exact Kd.R_mono HQ.out (fun _ hk => ⟨trivial, hk⟩)) hg hat); clear HB; clear HR; clear HQ; have HQ := hq_; clear hq_; have HB := Aside0.mk hb; have HR := Aside0.mk ho; clear ho hb hg hat))
            go_roundg (gk - 1)
            case measure => have := HG.out; omega
            case rel => exact ⟨l ++ [p], i + 1, by go_num, HN, ⟨by have := HG.out; omega⟩, HR, ⟨Kd.R_mono HQ.out (fun _ hk => hk.2)⟩, HB⟩
        · have t2 : (sp.toList == ([46] : List UInt8)) = false := by rw [tE]; simpa using h3
          have t3 : (sp.toList == ([46, 46] : List UInt8)) = false := by rw [tE]; simpa using h4
          rw [h2] at HN
          have HLEN := Aside0.mk hlen
          have HNEW : Aside0 (l.map mk ++ [sp] = (l ++ [p]).map mk) := ⟨by rw [← HSP.out]; simp⟩
          clear h1 h2 h3 h4 tE
          go_wp2_with (first | ((with_reducible refine gate_builtin (b := .append) (xs := #[.tmp 22, .tmp 24]) rfl ?_); (try (refine gate_guard (by rfl) ?_; dsimp only)); at_builtin; refine Kd.R_append Kd.string (w0 := w) w.heap.size rfl (.tmp 22) (.tmp 24) 22 9 (.string ⟨#[]⟩) 16 rfl Try.underlying22 infoS rfl (by decide) (by omega) u4 (l.map mk) (sp) [.string (sp)] (fun k_ => some k_ ≠ (.slice (some ad) (names x).length c : Value).ownBlock) (fun _ => False) rfl rfl ?aP (fun _ hk => hk.elim) ?aF ?aO ?aB ?aS ?aL ?_; (case aP => exact rfl); (case aB => exact (by repeat (first | (with_reducible first | exact HB.out | apply below_alloc | apply pw_below_drewN | apply below_drew1) | exact HB.out))); (case aF => exact (fun k_ hk => Kd.fresh' (Kd.R_lt (by (with_reducible repeat (first | apply Kd.R_alloc | apply Kd.R_drewN | apply Kd.R_drew)); exact HQ.out)) k_ hk)); (case aO => exact (by (with_reducible repeat (first | apply Kd.R_alloc | apply Kd.R_drewN | apply Kd.R_drew)); exact HR.out)); (case aS => exact (below_size (by repeat (first | (with_reducible first | exact HB.out | apply below_alloc | apply pw_below_drewN | apply below_drew1) | exact HB.out)))); (case aL => have := HLEN.out; (try simp only [List.length_map, List.length_nil] at *); omega); intro vN wN ho hb hg hat; rw [HNEW.out] at ho; have hq_ := Aside0.mk (Kd.R_after (ok := (fun _ => True)) (by (with_reducible repeat (first | apply Kd.R_alloc | apply Kd.R_drewN | apply Kd.R_drew)); exact Kd.R_mono HQ.out (fun _ hk => ⟨trivial, hk⟩)) hg hat); clear HB; clear HR; clear HQ; have HQ := hq_; clear hq_; have HB := Aside0.mk hb; have HR := Aside0.mk ho; clear ho hb hg hat))
          go_roundg (gk - 1)
          case measure => have := HG.out; omega
          case rel => exact ⟨l ++ [p], i + 1, by go_num, HN, ⟨by have := HG.out; omega⟩, HR, ⟨Kd.R_mono HQ.out (fun _ hk => hk.2)⟩, HB⟩
      · have hl : l = parts x := by
          have h3 := HI.out.2.2
          rw [List.drop_eq_nil_of_le (by omega)] at h3; exact h3
        have hbd := parts_bd x
        have hx1 := HX.out.2
        have hz := joinL_le [47] 100000 (parts x) (fun p hp => by have := hbd.1 p hp; omega)
        have hz2 : (parts x).length * (100000 + ([47] : L).length) ≤ 100001 * 100001 := Nat.mul_le_mul (by omega) (by simp)
        obtain ⟨kj, hkj⟩ := (joined_ev [47] (parts x) 100000 (fun p hp => by have := hbd.1 p hp; omega) (by omega) (by omega)).rounds
        have KJ := Aside0.mk hkj
        obtain ⟨so, hso⟩ : ∃ so, mk (joinL [47] (parts x)) = so := ⟨_, rfl⟩
        have hzs : so.size ≤ 20000300002 := by rw [← hso, mk_size]; omega
        have HSO := Aside0.mk hso
        rw [hl] at HR
        have hcl : clean x = if x = [] then [46] else finish ro (joinL [47] (parts x)) := by unfold clean; rw [HRO.out]
        have hemp : x = [] → ro = false ∧ so.toList = [] := by
          intro h
          refine ⟨by rw [← HRO.out, h]; rfl, ?_⟩
          rw [← hso, mk_toList, h]; decide
        have hcl2 : clean x = finish ro (joinL [47] (parts x)) := by
          by_cases h : x = []
          · have h5 := hemp h
            rw [← hso, mk_toList] at h5
            rw [hcl, if_pos h, h5.1, h5.2]; rfl
          · rw [hcl, if_neg h]
        have HCL := Aside0.mk hcl2
        clear hl hbd hx1 hz hz2 hkj hso hcl hemp hcl2 hin hli hnl
        obtain ⟨A4, c4, e4⟩ := Kd.R_slice HR.out
        rw [List.length_map] at e4
        subst e4
        have b1 : (1 + so.size ≤ 9223372036854775807) = True := eq_true (by omega)
        have b2 : (9223372036854775807 < 1 + so.size) = False := eq_false (by omega)
        have hkj2 := KJ.out
        rw [HSO.out] at hkj2
        have KJ2 := Aside0.mk hkj2; clear hkj2
        cases ro with
        | true =>
          go_wp2_with (first | ((with_reducible refine gate_callee (f := 49) rfl ?_); (try (refine gate_guard (by rfl) ?_; dsimp only)); refine goesL_ (some 59) rfl rfl Try.func49 (by kernel_rfl) rfl #[.slice A4 (parts x).length c4, .string ⟨#[47]⟩] rfl (by (try simp only [List.map_toArray, List.map_cons, List.map_nil]); first | done | rfl) ?_; (with_reducible refine (joined_calls kj A4 c4 (parts x) so _ (Kd.R_reads' HR.out).2.2 (by have := (Kd.R_reads' HR.out).2.1; simpa using this) KJ2.out).mono ?_); rintro e wN ⟨rfl, ⟨nd, rfl⟩⟩; refine ⟨_, rfl, ?_⟩; skip))
          go_ret
          exact ⟨by rw [HCL.out, ← HSO.out]; unfold finish; rw [if_pos rfl, show (47 : UInt8) :: joinL [47] (parts x) = [47] ++ joinL [47] (parts x) from rfl, ← mk_append]; rfl, (by repeat (first | (with_reducible first | exact HB.out | apply below_alloc | apply pw_below_drewN | apply below_drew1) | exact HB.out))⟩
        | false =>
          by_cases he : joinL [47] (parts x) = []
          · have t1 : (so.toList == ([] : List UInt8)) = true := by rw [← HSO.out, mk_toList, he]; rfl
            have HE := Aside0.mk he; clear he
            go_wp2_with (first | ((with_reducible refine gate_callee (f := 49) rfl ?_); (try (refine gate_guard (by rfl) ?_; dsimp only)); refine goesL_ (some 59) rfl rfl Try.func49 (by kernel_rfl) rfl #[.slice A4 (parts x).length c4, .string ⟨#[47]⟩] rfl (by (try simp only [List.map_toArray, List.map_cons, List.map_nil]); first | done | rfl) ?_; (with_reducible refine (joined_calls kj A4 c4 (parts x) so _ (Kd.R_reads' HR.out).2.2 (by have := (Kd.R_reads' HR.out).2.1; simpa using this) KJ2.out).mono ?_); rintro e wN ⟨rfl, ⟨nd, rfl⟩⟩; refine ⟨_, rfl, ?_⟩; skip))
            go_ret
            exact ⟨by rw [HCL.out]; unfold finish; rw [if_neg (by decide), if_pos HE.out]; rfl, (by repeat (first | (with_reducible first | exact HB.out | apply below_alloc | apply pw_below_drewN | apply below_drew1) | exact HB.out))⟩
          · have t1 : (so.toList == ([] : List UInt8)) = false := by rw [← HSO.out, mk_toList]; simpa using he
            have HE := Aside0.mk he; clear he
            go_wp2_with (first | ((with_reducible refine gate_callee (f := 49) rfl ?_); (try (refine gate_guard (by rfl) ?_; dsimp only)); refine goesL_ (some 59) rfl rfl Try.func49 (by kernel_rfl) rfl #[.slice A4 (parts x).length c4, .string ⟨#[47]⟩] rfl (by (try simp only [List.map_toArray, List.map_cons, List.map_nil]); first | done | rfl) ?_; (with_reducible refine (joined_calls kj A4 c4 (parts x) so _ (Kd.R_reads' HR.out).2.2 (by have := (Kd.R_reads' HR.out).2.1; simpa using this) KJ2.out).mono ?_); rintro e wN ⟨rfl, ⟨nd, rfl⟩⟩; refine ⟨_, rfl, ?_⟩; skip))
            go_ret
            exact ⟨by rw [HCL.out, ← HSO.out]; unfold finish; rw [if_neg (by decide), if_neg HE.out]; rfl, (by repeat (first | (with_reducible first | exact HB.out | apply below_alloc | apply pw_below_drewN | apply below_drew1) | exact HB.out))⟩
end Go.Proofs.Ytllmmnhgchidkaa.Hand
