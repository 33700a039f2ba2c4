/- filesys.zzClean by hand: what it hands back is 'clean' of its bytes. For texts of at most 100,000 bytes. -/
import Derived.Test.YtllmmnhgchidkaaClean
import Derived.Test.YtllmmnhgchidkaaPFnPathCleanedx0
namespace Go.Proofs.Ytllmmnhgchidkaa.Hand
open Go.RowKit Go.Proofs.YtllmmnhgchidkaaW.PrintWords Go.Proofs.YtllmmnhgchidkaaW.PrintLast Go.Proofs.YtllmmnhgchidkaaW.PrintMore Go.Proofs.Ytllmmnhgchidkaa.Base
set_option linter.unusedVariables false
set_option linter.unusedSimpArgs false
theorem infoS : (Try.prog.info? 9).map (fun i => (i.zero, i.size, i.bytes)) = some (some (.string ⟨#[]⟩), 1, 16) := by kernel_rfl

/-- What is known at a round's head. -/
def Rel (w : World) (x : L) (g : Nat) (v4 v5 v6 : Value) (w' : World) : Prop :=
  ∃ (l : List L) (f i : Nat), v5 = .int .i64 f ∧ v6 = .int .i64 i ∧ Aside0 (Inv x l f i) ∧ Aside0 (g + i = x.length + 2) ∧ Aside0 (Kd.R Kd.string 9 w' w.heap.size (fun _ => True) v4 (l.map mk)) ∧ Aside0 (Below w.heap.size w w')

set_option maxHeartbeats 4000000 in
set_option maxRecDepth 100000 in
theorem zzClean_calls (s : ByteArray) (hs : s.size ≤ 100000) (w : World) :
    Calls Try.prog 69 #[.string s] w fun e w' => e = .returned (.string (mk (clean s.data.toList))) ∧ Below w.heap.size w w' := by
  obtain ⟨x, hx, hxs⟩ : ∃ x : L, s = mk x ∧ s.size = x.length := exists_mk s
  have hsx : s.data.toList = x := by rw [hx]; rfl
  rw [hsx]
  have HB := Aside0.mk (Below.refl w.heap.size w)
  by_cases hnil : x = []
  · have c2b0 : (s.toList == ([] : List UInt8)) = true := by rw [hx, mk_toList, hnil]; rfl
    have HX := Aside0.mk hx; clear hx hsx hxs
    go_enter Try.func69, Try.ntmps69
    go_wp2
    go_ret
    exact ⟨by rw [hnil]; rfl, HB.out⟩
  · have c2b0 : (s.toList == ([] : List UInt8)) = false := by rw [hx, mk_toList]; simpa using hnil
    have hpos : 0 < s.size := by rw [hxs]; exact List.length_pos_iff.2 hnil
    obtain ⟨ro, hro⟩ : ∃ ro, rooted x = ro := ⟨_, rfl⟩
    have hx4 : ∀ h : 0 < s.size, (((s[0]'h).toNat : Int) == 47) = ro := by
      intro h
      have e : ((s[0]'h).toNat : Int) = bt s 0 := bt_at s 0 h
      rw [e, hx, bt_mk]
      rw [← hro]; exact rooted_head x hnil
    have HX := Aside0.mk (And.intro hx hxs); clear hx hxs hsx
    have HRO := Aside0.mk hro; clear hro
    go_enter Try.func69, Try.ntmps69
    go_wp2
    go_loopg [4, 5, 6] (s.size + 2) (fun g v4 v5 v6 w' => Rel w x g v4 v5 v6 w')
    case atStart => exact ⟨[], 0, 0, rfl, rfl, ⟨Inv.start x⟩, ⟨by have := HX.out.2; omega⟩, ⟨Kd.R_nil _ _ _ _ _⟩, HB⟩
    case round =>
      have HNIL := Aside0.mk hnil
      clear HB hx4 c2b0 hnil
      obtain ⟨l, f, i, rfl, rfl, HI, HG, HR, HB⟩ := hrel
      obtain ⟨hl1, hl2, hl3, _⟩ := HI.out.le
      rw [← HX.out.2] at hl2 hl3
      by_cases hgt : s.size < i
      · have hl : l = parts x := HI.out.done (by have := HX.out.2; omega)
        have hm := HI.out.le.2.2.2
        have hlen : l.length ≤ 100001 := by omega
        have hx1 := HX.out.2
        have hje : ∀ j, j ≤ l.length → (joinL [47] (l.take j)).length ≤ 20000300002 := by
          intro j hj
          have h1 := joinL_le [47] 100000 (l.take j) (fun p hp => by have := hm p (List.mem_of_mem_take hp); omega)
          have h2 : (l.take j).length ≤ 100001 := by rw [List.length_take]; omega
          have h3 : (l.take j).length * (100000 + ([47] : L).length) ≤ 100001 * 100001 := Nat.mul_le_mul h2 (by simp)
          omega
        have hpl : ∀ j, (l.getD j []).length ≤ 100000 := by
          intro j
          by_cases h : j < l.length
          · rw [List.getD_eq_getElem?_getD, List.getElem?_eq_getElem h, Option.getD_some]; have := hm _ (List.getElem_mem h); omega
          · rw [List.getD_eq_getElem?_getD, List.getElem?_eq_none (by omega)]; simp
        have HL := Aside0.mk hl; have HJE := Aside0.mk hje; have HPL := Aside0.mk hpl
        clear hl hm hx1 hje hpl hl1 hl2 hl3
        obtain ⟨A, c, e4⟩ := Kd.R_slice HR.out
        rw [List.length_map] at e4
        subst e4
        have hd0 : decide (i ≤ s.size) = false := by simp; omega
        go_wp2
        clear hd0
        go_loopg [8, 79] (l.length) (fun g v8 v79 w' => ∃ j : Nat, j ≤ l.length ∧ v8 = .string (mk (joinL [47] (l.take j))) ∧ v79 = .int .i64 j ∧ Aside0 (g + j = l.length) ∧ Aside0 (Kd.R Kd.string 9 w' w.heap.size (fun _ => True) (.slice A l.length c) (l.map mk)) ∧ Aside0 (Below w.heap.size w w'))
        case atStart => exact ⟨0, by omega, rfl, rfl, ⟨by omega⟩, by first | exact HR | exact ⟨(by (with_reducible repeat (first | apply Kd.R_alloc | apply Kd.R_drewN | apply Kd.R_drew)); exact HR.out)⟩, ⟨(by repeat (first | (with_reducible first | exact HB.out | apply below_alloc | apply pw_below_drewN | apply below_drew1) | exact HB.out))⟩⟩
        case round =>
          obtain ⟨j, hj, rfl, rfl, HG2, HR2, HB2⟩ := hrel
          clear HR HB
          have HR := HR2
          have HB := HB2
          clear HR2 HB2
          obtain ⟨so, hso⟩ : ∃ so, mk (joinL [47] (l.take j)) = so := ⟨_, rfl⟩
          have hz : so.size ≤ 20000300002 := by rw [← hso, mk_size]; exact HJE.out j hj
          rw [hso]
          have HSO := Aside0.mk hso; clear hso
          by_cases hlt : j < l.length
          · obtain ⟨ad, eA, hcell⟩ := Kd.at_string (Kd.R_reads' HR.out).2.2 (j : Int) (by omega) (by simp; omega)
            subst eA
            have ei : (j : Int).toNat = j := by omega
            rw [rd_mk, ei] at hcell
            obtain ⟨q, hq⟩ : ∃ q, mk (l.getD j []) = q := ⟨_, rfl⟩
            rw [hq] at hcell
            have hqz : q.size ≤ 100000 := by rw [← hq, mk_size]; exact HPL.out j
            have HQ := Aside0.mk hq; clear hq ei
            have b1 : (so.size + 1 ≤ 9223372036854775807) = True := eq_true (by omega)
            have b2 : (9223372036854775807 < so.size + 1) = False := eq_false (by omega)
            have b3 : (so.size + q.size ≤ 9223372036854775807) = True := eq_true (by omega)
            have b4 : (9223372036854775807 < so.size + q.size) = False := eq_false (by omega)
            have b5 : (so.size + 1 + q.size ≤ 9223372036854775807) = True := eq_true (by omega)
            have b6 : (9223372036854775807 < so.size + 1 + q.size) = False := eq_false (by omega)
            have hjt := joinL_take [47] l j hlt
            have HJT := Aside0.mk hjt; clear hjt
            by_cases h0 : j = 0
            · subst h0
              have hcell0 : wr.cell? ad = some (.string q) := by
                have e : ad.add 0 = ad := by cases ad; rfl
                rw [e] at hcell; exact hcell
              clear hcell
              go_wp2
              go_roundg (gk - 1)
              case measure => have := HG2.out; omega
              case rel => exact ⟨1, by omega, by have e : joinL [47] (l.take (0 + 1)) = l.getD 0 [] := HJT.out.trans (by simp); change _ = Value.string (mk (joinL [47] (l.take (0 + 1)))); rw [e, HQ.out, ← HSO.out]; exact congrArg Value.string (nil_app q), by go_num, ⟨by have := HG2.out; omega⟩, HR, HB⟩
            · go_wp2
              go_roundg (gk - 1)
              case measure => have := HG2.out; omega
              case rel => exact ⟨j + 1, by omega, by rw [HJT.out, if_neg h0, ← HQ.out, ← HSO.out, ← mk_append, ← mk_append]; rfl, by go_num, ⟨by have := HG2.out; omega⟩, HR, HB⟩
          · have hj2 : j = l.length := by omega
            have hcl : clean x = finish ro (joinL [47] (l.take j)) := by
              rw [hj2, List.take_length, HL.out, ← HRO.out]; unfold clean; rw [if_neg HNIL.out]
            have HCL := Aside0.mk hcl; clear hcl hj2
            have b1 : (1 + so.size ≤ 9223372036854775807) = True := eq_true (by omega)
            have b2 : (9223372036854775807 < 1 + so.size) = False := eq_false (by omega)
            cases ro with
            | true =>
              go_wp2
              go_ret
              exact ⟨by rw [HCL.out, ← HSO.out]; unfold finish; rw [if_pos rfl, show (47 : UInt8) :: joinL [47] (l.take j) = [47] ++ joinL [47] (l.take j) from rfl, ← mk_append]; rfl, HB.out⟩
            | false =>
              by_cases he : joinL [47] (l.take j) = []
              · have t1 : (so.toList == ([] : List UInt8)) = true := by rw [← HSO.out, mk_toList, he]; rfl
                have HE := Aside0.mk he; clear he
                go_wp2
                go_ret
                exact ⟨by rw [HCL.out]; unfold finish; rw [if_neg (by decide), if_pos HE.out]; rfl, HB.out⟩
              · have t1 : (so.toList == ([] : List UInt8)) = false := by rw [← HSO.out, mk_toList]; simpa using he
                have HE := Aside0.mk he; clear he
                go_wp2
                go_ret
                exact ⟨by rw [HCL.out, ← HSO.out]; unfold finish; rw [if_neg (by decide), if_neg HE.out]; rfl, HB.out⟩
      · have hi : i ≤ s.size := by omega
        have hfi := hl3 hi
        clear hl3 hl2 hgt
        by_cases hc : i < s.size ∧ x.getD i 0 ≠ 47
        · obtain ⟨hlt, hne⟩ := hc
          have hb : ∀ h : i < s.size, (((s[i]'h).toNat : Int) != 47) = true := by
            intro h
            have e : ((s[i]'h).toNat : Int) = bt s i := bt_at s i h
            rw [e, HX.out.1, bt_mk]; exact byte_ne hne
          have HN := Aside0.mk hne; clear hne
          go_wp2
          go_roundg (gk - 1)
          case measure => have := HG.out; have := HX.out.2; omega
          case rel => exact ⟨l, f, i + 1, rfl, by go_num, ⟨HI.out.next (by have := HX.out.2; omega) HN.out⟩, ⟨by have := HG.out; have := HX.out.2; omega⟩, HR, HB⟩
        · have hs' : i = x.length ∨ x.getD i 0 = 47 := by
            have := HX.out.2
            by_cases h : i < s.size
            · exact .inr (Classical.byContradiction fun hn => hc ⟨h, hn⟩)
            · exact .inl (by omega)
          have HN := Aside0.mk (HI.out.sep (by have := HX.out.2; omega) hs')
          have hp : s.extract f i = mk ((x.take i).drop f) := by rw [HX.out.1, extract_mk]
          obtain ⟨p, hpp⟩ : ∃ p, (x.take i).drop f = p := ⟨_, rfl⟩
          rw [hpp] at hp
          rw [hpp, HRO.out] at HN
          clear hpp
          have hb : ∀ h : i < s.size, (((s[i]'h).toNat : Int) != 47) = false := by
            intro h
            have e : ((s[i]'h).toNat : Int) = bt s i := bt_at s i h
            rw [e, HX.out.1, bt_mk]; exact byte_eq (by have := HX.out.2; rcases hs' with h' | h'; omega; exact h')
          have HS' := Aside0.mk hs'; clear hs' hc
          have HP := Aside0.mk hp
          have tl : (s.extract f i).toList = p := by rw [hp, mk_toList]
          have tE : ∀ q : L, ((s.extract f i).toList == q) = (p == q) := fun q => by rw [tl]
          have hlen : l.length ≤ 100001 := by omega
          clear hp tl
          rcases pstep_cases ro l p with ⟨h1, h2⟩ | ⟨h1, h2⟩ | ⟨h1, h3, h4, h2⟩ | ⟨h1, h3, h4, h2⟩ | ⟨h1, h3, h4, h2⟩ | ⟨h1, h3, h4, h2⟩
          · have t1 : ((s.extract f i).toList == ([] : List UInt8)) = true := by rw [tE, h1]; rfl
            rw [h2] at HN
            have HH := Aside0.mk h1; clear h1 h2 tE
            by_cases hlt : i < s.size
            all_goals
              go_wp2
              go_roundg (gk - 1)
              case measure => have := HG.out; have := HX.out.2; omega
              case rel => exact ⟨l, i + 1, i + 1, by go_num, by go_num, HN, ⟨by have := HG.out; have := HX.out.2; omega⟩, HR, HB⟩
          · have t1 : ((s.extract f i).toList == ([] : List UInt8)) = false := by rw [tE, h1]; rfl
            have t2 : ((s.extract f i).toList == ([46] : List UInt8)) = true := by rw [tE, h1]; rfl
            rw [h2] at HN
            have HH := Aside0.mk h1; clear h1 h2 tE
            by_cases hlt : i < s.size
            all_goals
              go_wp2
              go_roundg (gk - 1)
              case measure => have := HG.out; have := HX.out.2; omega
              case rel => exact ⟨l, i + 1, i + 1, by go_num, by go_num, HN, ⟨by have := HG.out; have := HX.out.2; omega⟩, HR, HB⟩
          · have t1 : ((s.extract f i).toList == ([] : List UInt8)) = false := by rw [tE, h1]; rfl
            have t2 : ((s.extract f i).toList == ([46] : List UInt8)) = false := by rw [tE, h1]; rfl
            have t3 : ((s.extract f i).toList == ([46, 46] : List UInt8)) = true := by rw [tE, h1]; rfl
            rw [h2] at HN
            obtain ⟨A, c, e4⟩ := Kd.R_slice HR.out
            rw [List.length_map] at e4
            subst e4
            obtain ⟨ad, eA, hcell⟩ := Kd.at_string (Kd.R_reads' HR.out).2.2 ((l.length : Int) - 1) (by omega) (by simp; omega)
            subst eA
            have ei : ((l.length : Int) - 1).toNat = l.length - 1 := by omega
            rw [rd_mk, ei] at hcell
            obtain ⟨q, hq⟩ : ∃ q, mk (l.getD (l.length - 1) []) = q := ⟨_, rfl⟩
            have t4 : (q.toList == ([46, 46] : List UInt8)) = false := by rw [← hq, mk_toList]; simpa using h4
            rw [hq] at hcell
            obtain ⟨i0, hi0, _, _, _⟩ := info_parts infoS
            have hcut := cut_to (P := Try.prog) 22 9 .i64 Try.underlying22 hi0 (some ad) l.length c ((l.length : Int) - 1) (by omega) (by omega) (by have := (Kd.R_reads' HR.out).2.1; simpa using this)
            have hr := Kd.R_take (m := l.length - 1) HR.out (by simp)
            rw [ei] at hcut
            rw [← List.map_take] at hr
            have HR2 := Aside0.mk hr
            have HH := Aside0.mk (And.intro h1 h4); clear h1 h2 h4 tE hr hq ei hi0
            by_cases hlt : i < s.size
            all_goals
              go_wp2
              go_roundg (gk - 1)
              case measure => have := HG.out; have := HX.out.2; omega
              case rel => exact ⟨l.take (l.length - 1), i + 1, i + 1, by go_num, by go_num, HN, ⟨by have := HG.out; have := HX.out.2; omega⟩, HR2, HB⟩
          · have t1 : ((s.extract f i).toList == ([] : List UInt8)) = false := by rw [tE, h1]; rfl
            have t2 : ((s.extract f i).toList == ([46] : List UInt8)) = false := by rw [tE, h1]; rfl
            have t3 : ((s.extract f i).toList == ([46, 46] : List UInt8)) = true := by rw [tE, h1]; rfl
            rw [h2] at HN
            subst h4
            have HH := Aside0.mk h1; clear h1 h2 tE
            rcases h3 with h3 | ⟨h3, h4⟩
            · obtain ⟨A, c, e4⟩ := Kd.R_slice HR.out
              rw [List.length_map, h3] at e4
              subst e4
              have H3 := Aside0.mk h3; clear h3
              by_cases hlt : i < s.size
              all_goals
                go_wp2
                go_roundg (gk - 1)
                case measure => have := HG.out; have := HX.out.2; omega
                case rel => exact ⟨l, i + 1, i + 1, by go_num, by go_num, HN, ⟨by have := HG.out; have := HX.out.2; omega⟩, HR, HB⟩
            · obtain ⟨A, c, e4⟩ := Kd.R_slice HR.out
              rw [List.length_map] at e4
              subst e4
              obtain ⟨ad, eA, hcell⟩ := Kd.at_string (Kd.R_reads' HR.out).2.2 ((l.length : Int) - 1) (by omega) (by simp; omega)
              subst eA
              have ei : ((l.length : Int) - 1).toNat = l.length - 1 := by omega
              rw [rd_mk, ei, h4] at hcell
              have t4 : ((mk [46, 46]).toList == ([46, 46] : List UInt8)) = true := by rw [mk_toList]; rfl
              obtain ⟨q, hq⟩ : ∃ q, mk [46, 46] = q := ⟨_, rfl⟩
              rw [hq] at hcell t4
              clear hq ei
              have H4 := Aside0.mk h4; clear h4
              by_cases hlt : i < s.size
              all_goals
                go_wp2
                go_roundg (gk - 1)
                case measure => have := HG.out; have := HX.out.2; omega
                case rel => exact ⟨l, i + 1, i + 1, by go_num, by go_num, HN, ⟨by have := HG.out; have := HX.out.2; omega⟩, HR, HB⟩
          · have t1 : ((s.extract f i).toList == ([] : List UInt8)) = false := by rw [tE, h1]; rfl
            have t2 : ((s.extract f i).toList == ([46] : List UInt8)) = false := by rw [tE, h1]; rfl
            have t3 : ((s.extract f i).toList == ([46, 46] : List UInt8)) = true := by rw [tE, h1]; rfl
            rw [h2] at HN
            subst h4
            have HLEN := Aside0.mk hlen
            have HNEW : Aside0 (l.map mk ++ [s.extract f i] = (l ++ [p]).map mk) := ⟨by rw [HP.out]; simp⟩
            have HH := Aside0.mk h1; clear h1 h2 tE
            rcases h3 with h3 | ⟨h3, h4⟩
            · obtain ⟨A, c, e4⟩ := Kd.R_slice HR.out
              rw [List.length_map, h3] at e4
              subst e4
              have H3 := Aside0.mk h3; clear h3
              by_cases hlt : i < s.size
              all_goals
                go_wp2_with (first | ((with_reducible refine gate_builtin (b := .append) (xs := #[.tmp 38, .tmp 40]) rfl ?_); (try (refine gate_guard (by rfl) ?_; dsimp only)); at_builtin; refine Kd.R_append Kd.string (w0 := w) w.heap.size rfl (.tmp 38) (.tmp 40) 22 9 (.string ⟨#[]⟩) 16 rfl Try.underlying22 infoS rfl (by decide) (by omega) (.slice A 0 c) (l.map mk) (s.extract f i) [.string (s.extract f i)] (fun _ => True) (fun _ => False) rfl rfl ?aP (fun _ hk => hk.elim) ?aF ?aO ?aB ?aS ?aL ?_; (case aP => exact rfl); (case aB => exact (by repeat (first | (with_reducible first | exact HB.out | apply below_alloc | apply pw_below_drewN | apply below_drew1) | exact HB.out))); (case aF => exact (fun _ _ => trivial)); (case aO => exact (by (with_reducible repeat (first | apply Kd.R_alloc | apply Kd.R_drewN | apply Kd.R_drew)); exact HR.out)); (case aS => exact (below_size (by repeat (first | (with_reducible first | exact HB.out | apply below_alloc | apply pw_below_drewN | apply below_drew1) | exact HB.out)))); (case aL => have := HLEN.out; (try simp only [List.length_map, List.length_nil] at *); omega); intro vN wN ho hb hg hat; rw [HNEW.out] at ho; clear HB; clear HR; have HB := Aside0.mk hb; have HR := Aside0.mk ho; clear ho hb hg hat))
                go_roundg (gk - 1)
                case measure => have := HG.out; have := HX.out.2; omega
                case rel => exact ⟨l ++ [p], i + 1, i + 1, by go_num, by go_num, HN, ⟨by have := HG.out; have := HX.out.2; omega⟩, HR, HB⟩
            · obtain ⟨A, c, e4⟩ := Kd.R_slice HR.out
              rw [List.length_map] at e4
              subst e4
              obtain ⟨ad, eA, hcell⟩ := Kd.at_string (Kd.R_reads' HR.out).2.2 ((l.length : Int) - 1) (by omega) (by simp; omega)
              subst eA
              have ei : ((l.length : Int) - 1).toNat = l.length - 1 := by omega
              rw [rd_mk, ei, h4] at hcell
              have t4 : ((mk [46, 46]).toList == ([46, 46] : List UInt8)) = true := by rw [mk_toList]; rfl
              obtain ⟨q, hq⟩ : ∃ q, mk [46, 46] = q := ⟨_, rfl⟩
              rw [hq] at hcell t4
              clear hq ei
              have H4 := Aside0.mk h4; clear h4
              by_cases hlt : i < s.size
              all_goals
                go_wp2_with (first | ((with_reducible refine gate_builtin (b := .append) (xs := #[.tmp 38, .tmp 40]) rfl ?_); (try (refine gate_guard (by rfl) ?_; dsimp only)); at_builtin; refine Kd.R_append Kd.string (w0 := w) w.heap.size rfl (.tmp 38) (.tmp 40) 22 9 (.string ⟨#[]⟩) 16 rfl Try.underlying22 infoS rfl (by decide) (by omega) (.slice (some ad) l.length c) (l.map mk) (s.extract f i) [.string (s.extract f i)] (fun _ => True) (fun _ => False) rfl rfl ?aP (fun _ hk => hk.elim) ?aF ?aO ?aB ?aS ?aL ?_; (case aP => exact rfl); (case aB => exact (by repeat (first | (with_reducible first | exact HB.out | apply below_alloc | apply pw_below_drewN | apply below_drew1) | exact HB.out))); (case aF => exact (fun _ _ => trivial)); (case aO => exact (by (with_reducible repeat (first | apply Kd.R_alloc | apply Kd.R_drewN | apply Kd.R_drew)); exact HR.out)); (case aS => exact (below_size (by repeat (first | (with_reducible first | exact HB.out | apply below_alloc | apply pw_below_drewN | apply below_drew1) | exact HB.out)))); (case aL => have := HLEN.out; (try simp only [List.length_map, List.length_nil] at *); omega); intro vN wN ho hb hg hat; rw [HNEW.out] at ho; clear HB; clear HR; have HB := Aside0.mk hb; have HR := Aside0.mk ho; clear ho hb hg hat))
                go_roundg (gk - 1)
                case measure => have := HG.out; have := HX.out.2; omega
                case rel => exact ⟨l ++ [p], i + 1, i + 1, by go_num, by go_num, HN, ⟨by have := HG.out; have := HX.out.2; omega⟩, HR, HB⟩
          · have t1 : ((s.extract f i).toList == ([] : List UInt8)) = false := by rw [tE]; simpa using h1
            have t2 : ((s.extract f i).toList == ([46] : List UInt8)) = false := by rw [tE]; simpa using h3
            have t3 : ((s.extract f i).toList == ([46, 46] : List UInt8)) = false := by rw [tE]; simpa using h4
            rw [h2] at HN
            have HLEN := Aside0.mk hlen
            have HNEW : Aside0 (l.map mk ++ [s.extract f i] = (l ++ [p]).map mk) := ⟨by rw [HP.out]; simp⟩
            clear h1 h2 h3 h4 tE
            by_cases hlt : i < s.size
            all_goals
              go_wp2_with (first | ((with_reducible refine gate_builtin (b := .append) (xs := #[.tmp 38, .tmp 40]) rfl ?_); (try (refine gate_guard (by rfl) ?_; dsimp only)); at_builtin; refine Kd.R_append Kd.string (w0 := w) w.heap.size rfl (.tmp 38) (.tmp 40) 22 9 (.string ⟨#[]⟩) 16 rfl Try.underlying22 infoS rfl (by decide) (by omega) u4 (l.map mk) (s.extract f i) [.string (s.extract f i)] (fun _ => True) (fun _ => False) rfl rfl ?aP (fun _ hk => hk.elim) ?aF ?aO ?aB ?aS ?aL ?_; (case aP => exact rfl); (case aB => exact (by repeat (first | (with_reducible first | exact HB.out | apply below_alloc | apply pw_below_drewN | apply below_drew1) | exact HB.out))); (case aF => exact (fun _ _ => trivial)); (case aO => exact (by (with_reducible repeat (first | apply Kd.R_alloc | apply Kd.R_drewN | apply Kd.R_drew)); exact HR.out)); (case aS => exact (below_size (by repeat (first | (with_reducible first | exact HB.out | apply below_alloc | apply pw_below_drewN | apply below_drew1) | exact HB.out)))); (case aL => have := HLEN.out; (try simp only [List.length_map, List.length_nil] at *); omega); intro vN wN ho hb hg hat; rw [HNEW.out] at ho; clear HB; clear HR; have HB := Aside0.mk hb; have HR := Aside0.mk ho; clear ho hb hg hat))
              go_roundg (gk - 1)
              case measure => have := HG.out; have := HX.out.2; omega
              case rel => exact ⟨l ++ [p], i + 1, i + 1, by go_num, by go_num, HN, ⟨by have := HG.out; have := HX.out.2; omega⟩, HR, HB⟩
end Go.Proofs.Ytllmmnhgchidkaa.Hand
