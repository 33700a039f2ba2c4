/- The law FnSelTokens, walked. -/
import Derived.Test.YtllmmnhgchidkaaSelSpec
import Derived.BigQuiet
namespace Go.Proofs.Ytllmmnhgchidkaa.Hand
open Go.RowKit Go.Proofs.Ytllmmnhgchidkaa.PFnSelTokens Go.Proofs.YtllmmnhgchidkaaW.PrintWords Go.Proofs.YtllmmnhgchidkaaW.PrintLast Go.Proofs.YtllmmnhgchidkaaW.PrintMore Go.Proofs.Ytllmmnhgchidkaa.Base
set_option linter.unusedVariables false
set_option linter.unusedSimpArgs false
set_option maxRecDepth 100000

set_option maxHeartbeats 8000000 in
theorem FnSelTokens_calls (s : ByteArray) (hs : s.size ≤ 140737488351232) (w : World) :
    Calls Try.prog 13 #[.string s] w fun e w' => e = .returned (.bool true) ∧ Below w.heap.size w w' := by
  by_cases g0 : 2147483647 < s.size
  · go_enter Try.func13, Try.ntmps13
    go_wp2
    go_ret
    exact ⟨rfl, Below.refl _ _⟩
  by_cases g1 : 500 < s.size
  · go_enter Try.func13, Try.ntmps13
    go_wp2
    go_ret
    exact ⟨rfl, Below.refl _ _⟩
  obtain ⟨y, hy⟩ : ∃ y, s.data.toList = y := ⟨_, rfl⟩
  have HSB : Aside0 (s = mk y) := ⟨by rw [← hy]; exact mk_of s⟩
  have HZ : Aside0 (s.size = y.length) := ⟨by rw [← hy]; exact Lib.size_eq s⟩
  have HLX := Aside0.mk (fun (hz : ∀ b ∈ y, b ≠ 0) (W : World) => LexSelector_calls y (by have := HZ.out; omega) hz W)
  have HTK := Aside0.mk (fun (W : World) => STokens_calls y (by have := HZ.out; omega) W)
  rw [← HSB.out] at HLX HTK
  have hlen : (tokensL y).length ≤ 501 := by have := tokens_len y.length y (Nat.le_refl _); have := HZ.out; omega
  obtain ⟨l, hl⟩ : ∃ l, tokensL y = l := ⟨_, rfl⟩
  rw [hl] at HLX HTK hlen
  clear hl hy
  go_enter Try.func13, Try.ntmps13
  go_wp2
  go_loopg [17] (s.size) (fun k v17 w' => ∃ m : Nat, v17 = .int .i64 m ∧ Aside0 (k + m = s.size) ∧ Aside0 (∀ j, j < m → y.getD j 0 ≠ 0) ∧ Aside0 (Below w.heap.size w w'))
  case atStart => exact ⟨0, rfl, ⟨by omega⟩, ⟨fun j hj => by omega⟩, ⟨Below.refl _ _⟩⟩
  case round =>
    obtain ⟨m, rfl, HM, HA, HB⟩ := hrel
    by_cases hml : m < s.size
    · have hbm : ∀ h : m < s.size, ((s[m]'h).toNat : Int) = ((y.getD m 0).toNat : Int) := fun h => by
        have hb : bt s (m : Int) = ((y.getD m 0).toNat : Int) := by rw [HSB.out, bt_mk, Int.toNat_natCast]
        have h1 := bt_at s (m : Int) (by simpa using h)
        rw [hb] at h1
        exact h1
      obtain ⟨d, hd⟩ : ∃ d, y.getD m 0 = d := ⟨_, rfl⟩
      rw [hd] at hbm
      by_cases h1 : d = 0
      · have k1 : ((d.toNat : Int) == 0) = true := by rw [h1]; rfl
        clear hd h1
        go_wp2
        go_ret
        exact ⟨rfl, HB.out⟩
      · have k1 : ((d.toNat : Int) == 0) = false := by rw [beq_eq_false_iff_ne]; intro e; apply h1; apply UInt8.toNat_inj.1; show d.toNat = 0; omega
        by_cases h2 : 127 < (d.toNat : Int)
        · clear hd h1
          go_wp2
          go_ret
          exact ⟨rfl, HB.out⟩
        · have HA2 : Aside0 (∀ j, j < m + 1 → y.getD j 0 ≠ 0) := ⟨fun j hj => by
            by_cases e : j = m
            · rw [e, hd]; exact h1
            · exact HA.out j (by omega)⟩
          clear hd h1
          go_wp2
          go_roundg (gk - 1)
          case measure => have := HM.out; omega
          case rel => exact ⟨m + 1, by go_num, ⟨by have := HM.out; omega⟩, HA2, HB⟩
    · have hz : ∀ b ∈ y, b ≠ 0 := by
        intro b hb
        obtain ⟨j, hj, rfl⟩ := List.getElem_of_mem hb
        have := HA.out j (by have := HM.out; have := HZ.out; omega)
        rwa [List.getD_eq_getElem?_getD, List.getElem?_eq_getElem hj] at this
      have HL1 := Aside0.mk (HLX.out hz)
      have hmm : ((m : Int) < (s.size : Int)) = False := eq_false (by omega)
      clear hz HLX HA
      go_wp2_with (first | ((with_reducible refine (HL1.out _).mono ?_); rintro e w1 ⟨v1, rfl, hR1, hB1⟩; obtain ⟨A1, c1, hv1⟩ := Kd.R_slice hR1; rw [show (toksV l).length = l.length from by simp [toksV]] at hv1; subst hv1; have HC1 := Aside0.mk (Kd.R_reads' hR1).2.2; have HB1 := Aside0.mk (below_step HB.out hB1); clear hR1 hB1 HL1) | ((with_reducible refine (HTK.out _).mono ?_); rintro e w2 ⟨v2, rfl, hR2, hB2⟩; obtain ⟨A2, c2, hv2⟩ := Kd.R_slice hR2; rw [show (toksV l).length = l.length from by simp [toksV]] at hv2; subst hv2; have HC2 := Aside0.mk (Kd.R_reads' hR2).2.2; have HC3 := Aside0.mk (Kd.C_below HC1.out hB2); have HB2 := Aside0.mk (below_step HB1.out hB2); clear hR2 hB2 HTK HC1 HB1))
      rw [show (toksV l).length = l.length from by simp [toksV]] at HC2 HC3
      generalize gk = go at *
      go_loopg [49] (l.length) (fun k v49 w' => ∃ j : Nat, v49 = .int .i64 j ∧ Aside0 (k + j = l.length) ∧ Aside0 (Below w2.heap.size w2 w'))
      case atStart => exact ⟨0, rfl, ⟨by omega⟩, ⟨Below.refl _ _⟩⟩
      case round =>
        obtain ⟨j, rfl, HJ, HBJ⟩ := hrel
        by_cases hjl : j < l.length
        · obtain ⟨a1, rfl, hk0, hk1⟩ := kt_at (Kd.C_below HC3.out HBJ.out) j hjl
          obtain ⟨a2, rfl, hk2, hk3⟩ := kt_at (Kd.C_below HC2.out HBJ.out) j hjl
          obtain ⟨kk, lit, hkl⟩ : ∃ (kk : Nat) (lit : L), l[j]? = some (kk, lit) := ⟨_, _, List.getElem?_eq_getElem hjl⟩
          have hg : (toksV l).getD j (0, ⟨#[]⟩) = ((kk : Int), mk lit) := by
            rw [List.getD_eq_getElem?_getD, List.getElem?_map, hkl]; rfl
          rw [hg] at hk0 hk1 hk2 hk3
          have HBX := Aside0.mk (below_alloc (Below.refl wr.heap.size wr) (.cells #[.int .i64 (kk : Int), .string (mk lit)] 60))
          have hk4 : wr.cell? ⟨(a2.add (j * 2)).block, (a2.add (j * 2)).off + 1, none⟩ = some (.string (mk lit)) := by
            show wr.cell? ((a2.add (j * 2)).add 1) = _
            rw [add_add]; exact hk3
          have hk5 : wr.cell? ⟨(a1.add (j * 2)).block, (a1.add (j * 2)).off + 1, none⟩ = some (.string (mk lit)) := by
            show wr.cell? ((a1.add (j * 2)).add 1) = _
            rw [add_add]; exact hk1
          have HKL := Aside0.mk hg
          clear hkl hg
          go_upto_region 18 with (fail)
          have hxb := heap_alloc_new wr (.cells #[.int .i64 (kk : Int), .string (mk lit)] 60)
          have HBL := Aside0.mk (below_alloc HBJ.out (.cells #[.int .i64 (kk : Int), .string (mk lit)] 60))
          obtain ⟨b, hb⟩ : ∃ b, wr.heap.size = b := ⟨_, rfl⟩
          rw [hb] at hxb ⊢
          obtain ⟨W3, hW3⟩ : ∃ W3, wr.alloc (.cells #[.int .i64 (kk : Int), .string (mk lit)] 60) = W3 := ⟨_, rfl⟩
          rw [hW3] at hxb HBL ⊢
          clear hW3 hb hk0 hk1 hk2 hk3 hk4 hk5 HBX
          obtain ⟨a1', e1, hk0, hk1⟩ := kt_at (Kd.C_below HC3.out HBL.out) j hjl
          injection e1 with e1
          subst e1
          rw [HKL.out] at hk0 hk1
          have hk5 : W3.cell? ⟨(a1.add (j * 2)).block, (a1.add (j * 2)).off + 1, none⟩ = some (.string (mk lit)) := by
            show W3.cell? ((a1.add (j * 2)).add 1) = _
            rw [add_add]; exact hk1
          have hx0 : W3.cell? ⟨b, 0, none⟩ = some (.int .i64 (kk : Int)) := (blk_cell hxb 0).trans rfl
          have hx1 : W3.cell? ⟨b, 1, none⟩ = some (.string (mk lit)) := (blk_cell hxb 1).trans rfl
          clear hk1 hxb
          go_quiet (fail)
          go_wp2
          go_roundg (l.length - (j + 1))
          case measure => have := HJ.out; omega
          case rel => exact ⟨j + 1, by go_num, ⟨by omega⟩, ⟨(by repeat (first | (with_reducible first | exact HBL.out | apply below_alloc | apply pw_below_drewN | apply below_drew1) | exact HBL.out))⟩⟩
        · have hje : j = l.length := by have := HJ.out; omega
          subst hje
          go_wp2
          go_ret
          exact ⟨rfl, below_step HB2.out HBJ.out⟩
end Go.Proofs.Ytllmmnhgchidkaa.Hand
