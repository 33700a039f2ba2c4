/- Lex, scan. -/
import Derived.Test.YtllmmnhgchidkaaSelSym
namespace Go.Proofs.Ytllmmnhgchidkaa.Hand
open Go.RowKit Go.Proofs.YtllmmnhgchidkaaW.PrintWords Go.Proofs.YtllmmnhgchidkaaW.PrintLast Go.Proofs.YtllmmnhgchidkaaW.PrintMore Go.Proofs.Ytllmmnhgchidkaa.Base
set_option linter.unusedVariables false
set_option linter.unusedSimpArgs false
set_option maxRecDepth 100000

theorem LX.self {w0 w W : World} {g : Nat} {x : L} {p : Nat} (h : LX w0 w W g x p) : LX w0 W W g x p := LX.new h.st h.be
set_option maxHeartbeats 4000000 in
theorem Lex_calls (x : L) (hx : x.length ≤ 1000000) (hz : ∀ b ∈ x, b ≠ 0) (g i : Nat) (hi : i ≤ x.length) (w0 w : World) (h : LX w0 w w g x i) :
    Calls Try.prog 78 #[.pointer (some ⟨g, 0, none⟩)] w fun e w' => e = .returned (.tuple #[.int .i64 (((lexL (x.drop i)).1 : Nat) : Int), .string (mk (lexL (x.drop i)).2.1)]) ∧ LX w0 w w' g x (i + (lexL (x.drop i)).2.2) := by
  have HRD := Aside0.mk (read_calls x hx g i hi w0 w w h)
  have HSK := Aside0.mk (fun (W : World) (h : LX w0 w W g x (nx x i)) => skip_calls x hx hz g i hi w0 w W h)
  obtain ⟨b0, hb0⟩ : ∃ b0, x.getD i 0 = b0 := ⟨_, rfl⟩
  rw [hb0] at HRD HSK
  clear hb0
  obtain ⟨j, hj⟩ : ∃ j, i + wsLen (x.drop i) = j := ⟨_, rfl⟩
  have hjl : j ≤ x.length := by have := wsLen_le (x.drop i); rw [List.length_drop] at this; omega
  have hdd : (x.drop i).drop (wsLen (x.drop i)) = x.drop j := by rw [List.drop_drop, hj]
  rw [hj] at HSK
  have hlex : lexL (x.drop i) = ((lexAt (x.drop j)).1, (x.drop j).take (lexAt (x.drop j)).2, wsLen (x.drop i) + (lexAt (x.drop j)).2) := by
    unfold lexL; rw [hdd]
  clear h
  by_cases hjx : j < x.length
  · have hdr := drop_getD hjx
    have hne : x.getD j 0 ≠ 0 := by
      rw [List.getD_eq_getElem?_getD, List.getElem?_eq_getElem hjx]
      exact hz _ (List.getElem_mem hjx)
    obtain ⟨c, hc⟩ : ∃ c, x.getD j 0 = c := ⟨_, rfl⟩
    obtain ⟨r, hr⟩ : ∃ r, x.drop (j + 1) = r := ⟨_, rfl⟩
    rw [hc, hr] at hdr
    rw [hc] at HSK hne
    rw [show nx x j = j + 1 from if_pos hjx] at HSK
    have hc0 : (((c.toNat : Int)) == 0) = false := by
      rw [beq_eq_false_iff_ne]; intro e; apply hne; apply UInt8.toNat_inj.1
      have : (0 : UInt8).toNat = 0 := rfl
      omega
    have HSP := Aside0.mk (isSp_calls c)
    by_cases hs : isSp c = true
    · have hat : lexAt (x.drop j) = ((tokOf ((c :: r).take (symLen (c :: r)))).getD 0, symLen (c :: r)) := by rw [hdr]; unfold lexAt; simp [hs]
      have HL : Aside0 ((lexL (x.drop i)).1 = (tokOf ((c :: r).take (symLen (c :: r)))).getD 0 ∧ (lexL (x.drop i)).2.1 = (c :: r).take (symLen (c :: r)) ∧ i + (lexL (x.drop i)).2.2 = j + symLen (c :: r)) := ⟨by rw [hlex, hat, hdr]; exact ⟨rfl, rfl, by simp only; omega⟩⟩
      have HSC := Aside0.mk (fun (W : World) (h : LX w0 W W g x j) => scanSym_calls x hx hz g j hjl c r hdr hs w0 W h)
      rw [hs] at HSP
      clear hlex hat hdr hdd hc hr hne hs hj
      go_enter Try.func78, Try.ntmps78
      go_wp2_with (first | ((with_reducible refine (HRD.out).mono ?_); rintro e w1 ⟨rfl, hI, hk⟩; have H1 := Aside0.mk hI; clear hI hk) | ((with_reducible refine (HSK.out _ H1.out).mono ?_); rintro e w2 ⟨rfl, hI, hk⟩; have H2 := Aside0.mk hI; clear hI hk H1 HSK) | ((with_reducible refine (HSP.out _).mono ?_); rintro e w3 ⟨rfl, hd⟩; have H3 := Aside0.mk (H2.out.drawn hd); clear hd H2) | ((with_reducible refine (unread_calls x hx g j (by omega) w0 w _ H3.out).mono ?_); rintro e w4 ⟨rfl, hI, hk⟩; have H4 := Aside0.mk hI; clear hI hk H3) | ((with_reducible refine (HSC.out _ H4.out.self).mono ?_); rintro e w5 ⟨rfl, hI⟩; have H5 := Aside0.mk (H4.out.trans hI); clear hI H4 HSC))
      go_ret2
      exact ⟨by rw [HL.out.1, HL.out.2.1]; rfl, by rw [HL.out.2.2]; exact H5.out⟩
    · have hs' : isSp c = false := by simpa using hs
      have hat : lexAt (x.drop j) = ((tokOf ((x.drop j).take (wdLen (x.drop j)))).getD 8, wdLen (x.drop j)) := by rw [hdr]; unfold lexAt; simp [hs']
      have HL : Aside0 ((lexL (x.drop i)).1 = (tokOf ((x.drop j).take (wdLen (x.drop j)))).getD 8 ∧ (lexL (x.drop i)).2.1 = (x.drop j).take (wdLen (x.drop j)) ∧ i + (lexL (x.drop i)).2.2 = j + wdLen (x.drop j)) := ⟨by rw [hlex, hat]; exact ⟨rfl, rfl, by simp only; omega⟩⟩
      have HSC := Aside0.mk (fun (W : World) (h : LX w0 W W g x j) => scanID_calls x hx hz g j hjl w0 W h)
      rw [hs'] at HSP
      clear hlex hat hdr hdd hc hr hne hs hs' hj
      go_enter Try.func78, Try.ntmps78
      go_wp2_with (first | ((with_reducible refine (HRD.out).mono ?_); rintro e w1 ⟨rfl, hI, hk⟩; have H1 := Aside0.mk hI; clear hI hk) | ((with_reducible refine (HSK.out _ H1.out).mono ?_); rintro e w2 ⟨rfl, hI, hk⟩; have H2 := Aside0.mk hI; clear hI hk H1 HSK) | ((with_reducible refine (HSP.out _).mono ?_); rintro e w3 ⟨rfl, hd⟩; have H3 := Aside0.mk (H2.out.drawn hd); clear hd H2) | ((with_reducible refine (unread_calls x hx g j (by omega) w0 w _ H3.out).mono ?_); rintro e w4 ⟨rfl, hI, hk⟩; have H4 := Aside0.mk hI; clear hI hk H3) | ((with_reducible refine (HSC.out _ H4.out.self).mono ?_); rintro e w5 ⟨rfl, hI⟩; have H5 := Aside0.mk (H4.out.trans hI); clear hI H4 HSC))
      go_ret2
      exact ⟨by rw [HL.out.1, HL.out.2.1]; rfl, by rw [HL.out.2.2]; exact H5.out⟩
  · have e0 : x.getD j 0 = 0 := by rw [List.getD_eq_getElem?_getD, List.getElem?_eq_none (by omega)]; rfl
    have ed : x.drop j = [] := List.drop_eq_nil_of_le (by omega)
    rw [e0, show nx x j = j from if_neg hjx] at HSK
    simp only [show ((0 : UInt8).toNat : Int) = 0 from rfl] at HSK
    have HL : Aside0 ((lexL (x.drop i)).1 = 1 ∧ (lexL (x.drop i)).2.1 = [] ∧ i + (lexL (x.drop i)).2.2 = j) := ⟨by rw [hlex, ed]; exact ⟨rfl, rfl, hj⟩⟩
    clear hlex hdd ed e0 hj hjx
    go_enter Try.func78, Try.ntmps78
    go_wp2_with (first | ((with_reducible refine (HRD.out).mono ?_); rintro e w1 ⟨rfl, hI, hk⟩; have H1 := Aside0.mk hI; clear hI hk) | ((with_reducible refine (HSK.out _ H1.out).mono ?_); rintro e w2 ⟨rfl, hI, hk⟩; have H2 := Aside0.mk hI; clear hI hk H1 HSK))
    go_ret2
    exact ⟨by rw [HL.out.1, HL.out.2.1]; rfl, by rw [HL.out.2.2]; exact H2.out⟩
end Go.Proofs.Ytllmmnhgchidkaa.Hand
