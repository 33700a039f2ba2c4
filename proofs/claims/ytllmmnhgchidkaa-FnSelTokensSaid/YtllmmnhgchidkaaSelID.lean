/- scanIDOrKeyword. -/
import Derived.Test.YtllmmnhgchidkaaSelLex
import Derived.WalkMore
namespace Go.Proofs.Ytllmmnhgchidkaa.Hand
open Go.RowKit Go.Proofs.YtllmmnhgchidkaaW.PrintWords Go.Proofs.YtllmmnhgchidkaaW.PrintLast Go.Proofs.YtllmmnhgchidkaaW.PrintMore Go.Proofs.Ytllmmnhgchidkaa.Base
set_option linter.unusedVariables false
set_option linter.unusedSimpArgs false
set_option maxRecDepth 100000

theorem infoB : (Try.prog.info? 5).map (fun i => (i.zero, i.size, i.bytes)) = some (some (.int .u8 0), 1, 1) := by kernel_rfl
abbrev bytesL (l : L) : List Int := l.map fun b => (b.toNat : Int)
theorem str_bytes (l : L) : strOfNums (bytesL l) = mk l := by
  unfold strOfNums mk bytesL
  rw [List.map_map, show ((fun n : Int => UInt8.ofNat n.toNat) ∘ fun b : UInt8 => (b.toNat : Int)) = id from funext fun b => by simp, List.map_id]
theorem take_wd {x : L} {m : Nat} (h : m < x.length) (hm : m ≤ wdLen x) : (isWd (x.getD m 0) = true ↔ m + 1 ≤ wdLen x) := by
  induction x generalizing m with
  | nil => simp at h
  | cons c r ih =>
    rw [wd_cons] at hm ⊢
    cases m with
    | zero =>
      show isWd c = true ↔ _
      by_cases e : isWd c = true
      · simp [e]
      · simp [e]
    | succ m =>
      by_cases e : isWd c = true
      · rw [if_pos e] at hm ⊢
        have := ih (m := m) (by simpa using h) (by omega)
        rw [show (c :: r).getD (m + 1) 0 = r.getD m 0 from rfl, this]; omega
      · rw [if_neg e] at hm; omega
set_option maxHeartbeats 4000000 in
theorem scanID_calls (x : L) (hx : x.length ≤ 1000000) (hz : ∀ b ∈ x, b ≠ 0) (g i : Nat) (hi : i ≤ x.length) (w0 w : World) (h : LX w0 w w g x i) :
    Calls Try.prog 84 #[.pointer (some ⟨g, 0, none⟩)] w fun e w' => e = .returned (.tuple #[.int .i64 (((tokOf ((x.drop i).take (wdLen (x.drop i)))).getD 8 : Nat) : Int), .string (mk ((x.drop i).take (wdLen (x.drop i))))]) ∧ LX w0 w w' g x (i + wdLen (x.drop i)) := by
  have HX := Aside0.mk h
  have hg : g < w.heap.size := h.st.lt
  have h0 : w0.heap.size ≤ w.heap.size := h.be.size
  clear h
  obtain ⟨y, hy⟩ : ∃ y, x.drop i = y := ⟨_, rfl⟩
  have HY := Aside0.mk hy
  have hyl : i + y.length = x.length := by rw [← hy, List.length_drop]; omega
  have hyd : ∀ m, x.getD (i + m) 0 = y.getD m 0 := fun m => by rw [← hy, List.getD_eq_getElem?_getD, List.getD_eq_getElem?_getD, List.getElem?_drop]
  rw [hy]
  clear hy
  go_enter Try.func84, Try.ntmps84
  go_wp2
  go_step3
  go_wp2
  go_step3
  go_wp2
  go_loopg [4] (y.length) (fun k v4 w' => ∃ m : Nat, Aside0 (k + m = y.length ∧ m ≤ wdLen y) ∧ Aside0 (LX w0 w w' g x (i + m)) ∧ Aside0 ((Kd.int .u8).R 5 w' w0.heap.size (fun k => w.heap.size ≤ k) v4 (bytesL (y.take m))))
  case atStart => exact ⟨0, ⟨by omega, Nat.zero_le _⟩, HX, ⟨Kd.R_nil _ _ _ _ _⟩⟩
  case round =>
    clear HX
    obtain ⟨m, HM, HX, HR⟩ := hrel
    have hm1 := HM.out.1
    have hm2 := HM.out.2
    have HRD := Aside0.mk (read_calls x hx g (i + m) (by omega) w0 w wr HX.out)
    by_cases hml : m < y.length
    · have hne : y.getD m 0 ≠ 0 := by
        rw [← hyd]
        have : i + m < x.length := by omega
        rw [List.getD_eq_getElem?_getD, List.getElem?_eq_getElem this]
        exact hz _ (List.getElem_mem this)
      rw [hyd, show nx x (i + m) = i + m + 1 from if_pos (by omega)] at HRD
      obtain ⟨c, hc⟩ : ∃ c, y.getD m 0 = c := ⟨_, rfl⟩
      rw [hc] at HRD hne
      have hc0 : (((c.toNat : Int)) == 0) = false := by
        rw [beq_eq_false_iff_ne]; intro e; apply hne; apply UInt8.toNat_inj.1
        have : (0 : UInt8).toNat = 0 := rfl
        omega
      have HSP := Aside0.mk (isSp_calls c)
      have HWS := Aside0.mk (isWs_calls c)
      have hwd := take_wd hml hm2
      rw [hc] at hwd
      by_cases hw : isWd c = true
      · have hs : isSp c = false ∧ isWs c = false := by unfold isWd at hw; simpa using hw
        rw [hs.1] at HSP
        rw [hs.2] at HWS
        have hm3 := hwd.1 hw
        have HNEW : Aside0 (bytesL (y.take m) ++ [(c.toNat : Int)] = bytesL (y.take (m + 1))) := ⟨by
          have : y.take (m + 1) = y.take m ++ [c] := by
            rw [List.take_add_one]; congr 1
            rw [List.getElem?_eq_getElem hml, ← hc, List.getD_eq_getElem?_getD, List.getElem?_eq_getElem hml]; rfl
          rw [this, bytesL, bytesL, List.map_append]; rfl⟩
        clear hs hwd hne
        go_wp2_with (first | ((with_reducible refine (HRD.out).mono ?_); rintro e wE ⟨rfl, hI, hk⟩; have HR2 := Aside0.mk (Kd.R_keep HR.out hk (fun k hk' => by omega)); have HX2 := Aside0.mk hI; clear hI hk) | ((with_reducible refine (HSP.out _).mono ?_); rintro e wS ⟨rfl, hd⟩; have HR3 := Aside0.mk (Kd.R_below HR2.out hd.below); have HX3 := Aside0.mk (HX2.out.drawn hd); clear hd) | ((with_reducible refine (HWS.out _).mono ?_); rintro e wT ⟨rfl, hd⟩; have HR4 := Aside0.mk (Kd.R_below HR3.out hd.below); have HX4 := Aside0.mk (HX3.out.drawn hd); clear hd) | ((with_reducible refine gate_builtin (b := .append) (xs := #[.tmp 11, .tmp 13]) rfl ?_); (try (refine gate_guard (by rfl) ?_; dsimp only)); at_builtin; refine Kd.R_append (Kd.int .u8) (w0 := w0) (w0.heap.size) rfl (.tmp 11) (.tmp 13) 90 5 (.int .u8 0) 1 rfl Try.underlying90 infoB rfl (by decide) (by decide) (u4) (bytesL (y.take m)) ((c.toNat : Int)) [.int .u8 (c.toNat : Int)] (fun k => w.heap.size ≤ k) (fun _ => False) rfl rfl ?aP (fun _ hk => hk.elim) ?aF ?aO ?aB ?aS ?aL ?_; (case aP => exact rfl); (case aF => exact (fun k hk => Nat.le_trans HX4.out.ke.1 hk)); (case aO => exact HR4.out); (case aB => exact HX4.out.be); (case aS => exact HX4.out.be.size); (case aL => (simp [bytesL]; omega)); intro vN wN ho hb hg hat; rw [HNEW.out] at ho; have HR5 := Aside0.mk ho; have HX5 : Aside0 (LX w0 w wN g x (i + m + 1)) := ⟨HX4.out.st.grown hg (fun e => by have := HR4.out.1 g e.symm; omega), hb, HX4.out.ke.trans (KeepBut.of_grown hg g) (by cases e : u4.ownBlock; exact .inl rfl; exact .inr ⟨_, rfl, HR4.out.1 _ e⟩)⟩; clear ho hb hg hat))
        go_roundg (gk - 1)
        case measure => omega
        case rel => exact ⟨m + 1, ⟨by omega, hm3⟩, HX5, HR5⟩
      · have hme : m = wdLen y := by
          have : ¬ (m + 1 ≤ wdLen y) := fun h => hw (hwd.2 h)
          omega
        have hsw : isSp c = true ∨ (isSp c = false ∧ isWs c = true) := by
          unfold isWd at hw
          cases h1 : isSp c
          · rw [h1] at hw; simp at hw; exact .inr ⟨rfl, hw⟩
          · exact .inl rfl
        obtain ⟨A, cp, hv⟩ := Kd.R_slice HR.out
        obtain ⟨q, hq⟩ : ∃ q, (bytesL (y.take m)).length = q := ⟨_, rfl⟩
        rw [hq] at hv
        subst hv
        have HQ := Aside0.mk hq; clear hq
        have HME := Aside0.mk hme
        clear hwd hw hne HM hme
        rcases hsw with hs | ⟨hs, hs2⟩
        · rw [hs] at HSP
          clear HWS
          have HT := Aside0.mk (tok_calls (y.take m))
          cases htk : tokOf (y.take m) with
          | none =>
            rw [htk] at HT
            have HTK2 : Aside0 ((tokOf (y.take m)).getD 8 = 8) := ⟨by rw [htk]; rfl⟩
            clear htk
            simp only [Option.getD_none, Option.getD_some, Option.isSome_none, Option.isSome_some] at HT
            go_wp2_with (first | ((with_reducible refine (HRD.out).mono ?_); rintro e wE ⟨rfl, hI, hk⟩; have HR2 := Aside0.mk (Kd.R_keep HR.out hk (fun k hk' => by omega)); have HX2 := Aside0.mk hI; clear hI hk) | ((with_reducible refine (HSP.out _).mono ?_); rintro e wS ⟨rfl, hd⟩; have HR3 := Aside0.mk (Kd.R_below HR2.out hd.below); have HX3 := Aside0.mk (HX2.out.drawn hd); clear hd) | ((with_reducible refine (unread_calls x hx g (i + m) (by omega) w0 w _ HX3.out).mono ?_); rintro e wE ⟨rfl, hI, hk⟩; have HRE := Aside0.mk (Kd.R_keep HR3.out hk (fun k hk' => by omega)); have HXE := Aside0.mk hI; clear hI hk; have hst := Kd.C_string (P := Try.prog) (src := 90) (dst := 9) (c := cp) Try.underlying90 Try.underlying5 Try.underlying9 (Kd.R_reads' HRE.out).2.2; rw [str_bytes, HQ.out] at hst))
            go_wp2_with (first | ((with_reducible refine (HT.out _).mono ?_); rintro e wF ⟨rfl, hd⟩; have HXF := Aside0.mk (HXE.out.drawn hd); clear hd))
            rw [Exit.noGoto_ret]
            go_ret2
            exact ⟨by first | (rw [← HME.out, HTK2.out]; done) | (rw [← HME.out, HTK2.out]; rfl), by rw [← HME.out]; exact HXF.out⟩
          | some kk =>
            rw [htk] at HT
            have HTK2 : Aside0 ((tokOf (y.take m)).getD 8 = kk) := ⟨by rw [htk]; rfl⟩
            clear htk
            simp only [Option.getD_none, Option.getD_some, Option.isSome_none, Option.isSome_some] at HT
            go_wp2_with (first | ((with_reducible refine (HRD.out).mono ?_); rintro e wE ⟨rfl, hI, hk⟩; have HR2 := Aside0.mk (Kd.R_keep HR.out hk (fun k hk' => by omega)); have HX2 := Aside0.mk hI; clear hI hk) | ((with_reducible refine (HSP.out _).mono ?_); rintro e wS ⟨rfl, hd⟩; have HR3 := Aside0.mk (Kd.R_below HR2.out hd.below); have HX3 := Aside0.mk (HX2.out.drawn hd); clear hd) | ((with_reducible refine (unread_calls x hx g (i + m) (by omega) w0 w _ HX3.out).mono ?_); rintro e wE ⟨rfl, hI, hk⟩; have HRE := Aside0.mk (Kd.R_keep HR3.out hk (fun k hk' => by omega)); have HXE := Aside0.mk hI; clear hI hk; have hst := Kd.C_string (P := Try.prog) (src := 90) (dst := 9) (c := cp) Try.underlying90 Try.underlying5 Try.underlying9 (Kd.R_reads' HRE.out).2.2; rw [str_bytes, HQ.out] at hst))
            go_wp2_with (first | ((with_reducible refine (HT.out _).mono ?_); rintro e wF ⟨rfl, hd⟩; have HXF := Aside0.mk (HXE.out.drawn hd); clear hd))
            rw [Exit.noGoto_ret]
            go_ret2
            exact ⟨by first | (rw [← HME.out, HTK2.out]; done) | (rw [← HME.out, HTK2.out]; rfl), by rw [← HME.out]; exact HXF.out⟩
        · rw [hs] at HSP
          rw [hs2] at HWS
          have HT := Aside0.mk (tok_calls (y.take m))
          cases htk : tokOf (y.take m) with
          | none =>
            rw [htk] at HT
            have HTK2 : Aside0 ((tokOf (y.take m)).getD 8 = 8) := ⟨by rw [htk]; rfl⟩
            clear htk
            simp only [Option.getD_none, Option.getD_some, Option.isSome_none, Option.isSome_some] at HT
            go_wp2_with (first | ((with_reducible refine (HRD.out).mono ?_); rintro e wE ⟨rfl, hI, hk⟩; have HR2 := Aside0.mk (Kd.R_keep HR.out hk (fun k hk' => by omega)); have HX2 := Aside0.mk hI; clear hI hk) | ((with_reducible refine (HSP.out _).mono ?_); rintro e wS ⟨rfl, hd⟩; have HR3 := Aside0.mk (Kd.R_below HR2.out hd.below); have HX3 := Aside0.mk (HX2.out.drawn hd); clear hd) | ((with_reducible refine (HWS.out _).mono ?_); rintro e wT ⟨rfl, hd⟩; have HR4 := Aside0.mk (Kd.R_below HR3.out hd.below); have HX4 := Aside0.mk (HX3.out.drawn hd); clear hd) | ((with_reducible refine (unread_calls x hx g (i + m) (by omega) w0 w _ HX4.out).mono ?_); rintro e wE ⟨rfl, hI, hk⟩; have HRE := Aside0.mk (Kd.R_keep HR4.out hk (fun k hk' => by omega)); have HXE := Aside0.mk hI; clear hI hk; have hst := Kd.C_string (P := Try.prog) (src := 90) (dst := 9) (c := cp) Try.underlying90 Try.underlying5 Try.underlying9 (Kd.R_reads' HRE.out).2.2; rw [str_bytes, HQ.out] at hst))
            go_wp2_with (first | ((with_reducible refine (HT.out _).mono ?_); rintro e wF ⟨rfl, hd⟩; have HXF := Aside0.mk (HXE.out.drawn hd); clear hd))
            rw [Exit.noGoto_ret]
            go_ret2
            exact ⟨by first | (rw [← HME.out, HTK2.out]; done) | (rw [← HME.out, HTK2.out]; rfl), by rw [← HME.out]; exact HXF.out⟩
          | some kk =>
            rw [htk] at HT
            have HTK2 : Aside0 ((tokOf (y.take m)).getD 8 = kk) := ⟨by rw [htk]; rfl⟩
            clear htk
            simp only [Option.getD_none, Option.getD_some, Option.isSome_none, Option.isSome_some] at HT
            go_wp2_with (first | ((with_reducible refine (HRD.out).mono ?_); rintro e wE ⟨rfl, hI, hk⟩; have HR2 := Aside0.mk (Kd.R_keep HR.out hk (fun k hk' => by omega)); have HX2 := Aside0.mk hI; clear hI hk) | ((with_reducible refine (HSP.out _).mono ?_); rintro e wS ⟨rfl, hd⟩; have HR3 := Aside0.mk (Kd.R_below HR2.out hd.below); have HX3 := Aside0.mk (HX2.out.drawn hd); clear hd) | ((with_reducible refine (HWS.out _).mono ?_); rintro e wT ⟨rfl, hd⟩; have HR4 := Aside0.mk (Kd.R_below HR3.out hd.below); have HX4 := Aside0.mk (HX3.out.drawn hd); clear hd) | ((with_reducible refine (unread_calls x hx g (i + m) (by omega) w0 w _ HX4.out).mono ?_); rintro e wE ⟨rfl, hI, hk⟩; have HRE := Aside0.mk (Kd.R_keep HR4.out hk (fun k hk' => by omega)); have HXE := Aside0.mk hI; clear hI hk; have hst := Kd.C_string (P := Try.prog) (src := 90) (dst := 9) (c := cp) Try.underlying90 Try.underlying5 Try.underlying9 (Kd.R_reads' HRE.out).2.2; rw [str_bytes, HQ.out] at hst))
            go_wp2_with (first | ((with_reducible refine (HT.out _).mono ?_); rintro e wF ⟨rfl, hd⟩; have HXF := Aside0.mk (HXE.out.drawn hd); clear hd))
            rw [Exit.noGoto_ret]
            go_ret2
            exact ⟨by first | (rw [← HME.out, HTK2.out]; done) | (rw [← HME.out, HTK2.out]; rfl), by rw [← HME.out]; exact HXF.out⟩
    · have hme : m = wdLen y := by have := wdLen_le y; omega
      obtain ⟨A, cp, hv⟩ := Kd.R_slice HR.out
      obtain ⟨q, hq⟩ : ∃ q, (bytesL (y.take m)).length = q := ⟨_, rfl⟩
      rw [hq] at hv
      subst hv
      have HQ := Aside0.mk hq; clear hq
      have hme2 : m = y.length := by omega
      have e0 : x.getD (i + m) 0 = 0 := by rw [List.getD_eq_getElem?_getD, List.getElem?_eq_none (by omega)]; rfl
      rw [e0, show nx x (i + m) = i + m from if_neg (by omega)] at HRD
      have HME := Aside0.mk hme
      clear hme HM e0
      simp only [show ((0 : UInt8).toNat : Int) = 0 from rfl] at HRD
      clear hme2 hml hm1 hm2 hyl
      have HT := Aside0.mk (tok_calls (y.take m))
      cases htk : tokOf (y.take m) with
      | none =>
        rw [htk] at HT
        have HTK2 : Aside0 ((tokOf (y.take m)).getD 8 = 8) := ⟨by rw [htk]; rfl⟩
        clear htk
        simp only [Option.getD_none, Option.getD_some, Option.isSome_none, Option.isSome_some] at HT
        go_wp2_with (first | ((with_reducible refine (HRD.out).mono ?_); rintro e wE ⟨rfl, hI, hk⟩; have HRE := Aside0.mk (Kd.R_keep HR.out hk (fun k hk' => by omega)); have HXE := Aside0.mk hI; clear hI hk; have hst := Kd.C_string (P := Try.prog) (src := 90) (dst := 9) (c := cp) Try.underlying90 Try.underlying5 Try.underlying9 (Kd.R_reads' HRE.out).2.2; rw [str_bytes, HQ.out] at hst))
        go_wp2_with (first | ((with_reducible refine (HT.out _).mono ?_); rintro e wF ⟨rfl, hd⟩; have HXF := Aside0.mk (HXE.out.drawn hd); clear hd))
        rw [Exit.noGoto_ret]
        go_ret2
        exact ⟨by first | (rw [← HME.out, HTK2.out]; done) | (rw [← HME.out, HTK2.out]; rfl), by rw [← HME.out]; exact HXF.out⟩
      | some kk =>
        rw [htk] at HT
        have HTK2 : Aside0 ((tokOf (y.take m)).getD 8 = kk) := ⟨by rw [htk]; rfl⟩
        clear htk
        simp only [Option.getD_none, Option.getD_some, Option.isSome_none, Option.isSome_some] at HT
        go_wp2_with (first | ((with_reducible refine (HRD.out).mono ?_); rintro e wE ⟨rfl, hI, hk⟩; have HRE := Aside0.mk (Kd.R_keep HR.out hk (fun k hk' => by omega)); have HXE := Aside0.mk hI; clear hI hk; have hst := Kd.C_string (P := Try.prog) (src := 90) (dst := 9) (c := cp) Try.underlying90 Try.underlying5 Try.underlying9 (Kd.R_reads' HRE.out).2.2; rw [str_bytes, HQ.out] at hst))
        go_wp2_with (first | ((with_reducible refine (HT.out _).mono ?_); rintro e wF ⟨rfl, hd⟩; have HXF := Aside0.mk (HXE.out.drawn hd); clear hd))
        rw [Exit.noGoto_ret]
        go_ret2
        exact ⟨by first | (rw [← HME.out, HTK2.out]; done) | (rw [← HME.out, HTK2.out]; rfl), by rw [← HME.out]; exact HXF.out⟩
end Go.Proofs.Ytllmmnhgchidkaa.Hand
