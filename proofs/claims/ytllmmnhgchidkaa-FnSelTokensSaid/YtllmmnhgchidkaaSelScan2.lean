/- Parser.scan: all tokens of a text. -/
import Derived.Test.YtllmmnhgchidkaaSelScan
namespace Go.Proofs.Ytllmmnhgchidkaa.Hand
open Go.RowKit Go.Proofs.YtllmmnhgchidkaaW.PrintWords Go.Proofs.YtllmmnhgchidkaaW.PrintLast Go.Proofs.YtllmmnhgchidkaaW.PrintMore Go.Proofs.Ytllmmnhgchidkaa.Base
set_option linter.unusedVariables false
set_option linter.unusedSimpArgs false
set_option maxRecDepth 100000

theorem infoSI : (Try.prog.info? 101).map (fun i => (i.zero, i.size, i.bytes)) = some (some (.agg #[.int .i64 0, .string ⟨#[]⟩]), 2, 24) := by kernel_rfl
/-- A token: its kind, and its text. -/
abbrev KT : Kd (Int × ByteArray) := Kd.pair (Kd.int .i64) Kd.string
abbrev toksV (l : List (Nat × L)) : List (Int × ByteArray) := l.map fun t => ((t.1 : Int), mk t.2)
theorem kt_at {w : World} {A : Option Addr} {n : Nat} {xs : List (Int × ByteArray)} (h : KT.C w A n xs) (i : Nat) (h1 : i < n) :
    ∃ ad, A = some ad ∧ w.cell? (ad.add (i * 2)) = some (.int .i64 (xs.getD i (0, ⟨#[]⟩)).1) ∧ w.cell? (ad.add (i * 2 + 1)) = some (.string (xs.getD i (0, ⟨#[]⟩)).2) := by
  obtain ⟨ad, c, e, hl, ⟨c0, c1, hc, k0, k1⟩, hat⟩ := Kd.C_get h (0, ⟨#[]⟩) (i : Int) (by omega) (by omega)
  have k0' : c0 = [.int .i64 (xs.getD (i : Int).toNat (0, ⟨#[]⟩)).1] := k0
  have k1' : c1 = [.string (xs.getD (i : Int).toNat (0, ⟨#[]⟩)).2] := k1
  subst k0' k1'
  subst hc
  rw [Int.toNat_natCast] at hat
  exact ⟨ad, e, hat 0 _ rfl, hat 1 _ rfl⟩
theorem lexL_lit_end {x : L} (h : (lexL x).1 = 1) : (lexL x).2.1 = [] := by
  have h1 : (lexAt (x.drop (wsLen x))).1 = 1 := h
  show (x.drop (wsLen x)).take (lexAt (x.drop (wsLen x))).2 = []
  cases e : x.drop (wsLen x) with
  | nil => simp
  | cons c r => rw [e] at h1; exact absurd h1 lexAt_one
set_option maxHeartbeats 4000000 in
theorem scan_calls (x : L) (hx : x.length ≤ 1000000) (hz : ∀ b ∈ x, b ≠ 0) (g pb : Nat) (w0 w : World) (h : LX w0 w w g x 0) (hp : w.heap[pb]? = some (.cells #[.pointer (some ⟨g, 0, none⟩), .slice none 0 0, .int .i64 0] 98 (0, 0))) (hb : w0.heap.size ≤ pb) (hne : pb ≠ g) :
    Calls Try.prog 77 #[.pointer (some ⟨pb, 0, none⟩)] w fun e w' => e = .returned (.tuple #[]) ∧ ∃ v, w'.heap[pb]? = some (.cells #[.pointer (some ⟨g, 0, none⟩), v, .int .i64 0] 98 (0, 0)) ∧ KT.R 101 w' w0.heap.size (fun k => w.heap.size ≤ k) v (toksV (tokensL x)) ∧ Below w0.heap.size w0 w' := by
  have HX := Aside0.mk h
  have HPB := Aside0.mk hp
  have hg : g < w.heap.size := h.st.lt
  have h0 : w0.heap.size ≤ w.heap.size := h.be.size
  have hpl : pb < w.heap.size := blk_lt hp
  have HN := Aside0.mk (And.intro hg (And.intro h0 (And.intro hpl (And.intro hb hne))))
  have hT : ∀ q, q ∈ 101 :: KT.E → q ≠ 98 := by intro q hq; simp [KT, Kd.pair, Kd.int, Kd.string, Kd.scalar] at hq; omega
  clear h hp
  go_enter Try.func77, Try.ntmps77
  go_wp2
  go_loopg [] (x.length) (fun k w' => ∃ (i : Nat) (l : List (Nat × L)) (v : Value), Aside0 (k + i = x.length ∧ l ++ tokensL (x.drop i) = tokensL x) ∧ Aside0 (LX w0 w' w' g x i) ∧ Aside0 (w'.heap[pb]? = some (.cells #[.pointer (some ⟨g, 0, none⟩), v, .int .i64 0] 98 (0, 0))) ∧ Aside0 (w.heap.size ≤ w'.heap.size) ∧ Aside0 (KT.R 101 w' w0.heap.size (fun k => w.heap.size ≤ k) v (toksV l)))
  case atStart => exact ⟨0, [], .slice none 0 0, ⟨by omega, rfl⟩, HX, HPB, ⟨Nat.le_refl _⟩, ⟨Kd.R_nil _ _ _ _ _⟩⟩
  case round =>
    clear HX HPB
    obtain ⟨i, l, v, HM, HX, HPB, HS, HR⟩ := hrel
    have hi : i ≤ x.length := by have := HM.out.1; omega
    have HL := Aside0.mk (Lex_calls x hx hz g i hi w0 wr HX.out)
    obtain ⟨kk, hkk⟩ : ∃ kk, (lexL (x.drop i)).1 = kk := ⟨_, rfl⟩
    obtain ⟨lit, hlit⟩ : ∃ lit, (lexL (x.drop i)).2.1 = lit := ⟨_, rfl⟩
    obtain ⟨n, hn⟩ : ∃ n, (lexL (x.drop i)).2.2 = n := ⟨_, rfl⟩
    rw [hkk, hlit, hn] at HL
    have hcp : wr.cell? ⟨pb, 0, none⟩ = some (.pointer (some ⟨g, 0, none⟩)) := (blk_cell HPB.out 0).trans rfl
    have hlen : l.length ≤ 1000001 := by
      have h1 := tokens_len x.length x (Nat.le_refl _)
      have h2 := congrArg List.length HM.out.2
      rw [List.length_append] at h2
      omega
    have HNEW : Aside0 (toksV l ++ [((kk : Int), mk lit)] = toksV (l ++ [(kk, lit)])) := ⟨by simp [toksV]⟩
    have HLEN : Aside0 ((toksV l).length ≤ 1000001) := ⟨by simp only [toksV, List.length_map]; exact hlen⟩
    by_cases hend : kk = 1
    · have hk1 : (((kk : Nat) : Int) == 1) = true := by subst hend; rfl
      have HT : Aside0 (l ++ [(kk, lit)] = tokensL x) := ⟨by
        rw [← HM.out.2, tokens_end (by rw [hkk, hend])]
        have : lit = [] := by
          rw [← hlit]
          exact lexL_lit_end (by rw [hkk, hend])
        rw [this, hend]⟩
      clear hend hkk hlit hn HM
      go_wp2_with (first | ((with_reducible refine (HL.out).mono ?_); rintro e w1 ⟨rfl, hI⟩; have HX1 := Aside0.mk hI.self; have HP1 := Aside0.mk (hI.ke.blk HPB.out HN.out.2.2.2.2 (by simp)); have HR1 := Aside0.mk (Kd.R_keep HR.out hI.ke (fun k hk => by have := HN.out.1; omega)); have HS1 := Aside0.mk (Nat.le_trans HS.out hI.ke.1); clear hI; have hc1 : w1.cell? ⟨pb, 1, none⟩ = some v := (blk_cell HP1.out 1).trans rfl) | ((with_reducible refine gate_builtin (b := .append) (xs := #[.tmp 16, .tmp 20]) rfl ?_); (try (refine gate_guard (by rfl) ?_; dsimp only)); at_builtin; refine Kd.R_append (KT) (w0 := w0) (w0.heap.size) rfl (.tmp 16) (.tmp 20) 96 101 (.agg #[.int .i64 0, .string ⟨#[]⟩]) 24 rfl Try.underlying96 infoSI rfl (by decide) (by decide) (v) (toksV l) (((kk : Int), mk lit)) [.int .i64 (kk : Int), .string (mk lit)] (fun k => w.heap.size ≤ k) (fun _ => False) rfl rfl ?aP (fun _ hk => hk.elim) ?aF ?aO ?aB ?aS ?aL ?_; (case aP => exact ⟨[_], [_], rfl, rfl, rfl⟩); (case aF => exact (fun k hk => Nat.le_trans HS1.out hk)); (case aO => exact HR1.out); (case aB => exact HX1.out.be); (case aS => exact HX1.out.be.size); (case aL => have := HLEN.out; omega); intro vN wN ho hb hg hat; rw [HNEW.out] at ho; have HR2 := Aside0.mk ho; have HX2 : Aside0 (LX w0 wN wN g x (i + n)) := ⟨LX.new (HX1.out.st.grown hg (fun e => by have := HR1.out.1 g e.symm; have := HN.out.1; omega)) hb⟩; have HP2 := Aside0.mk (blk_grown HP1.out hg (Kd.R_ne HR1.out HP1.out (by decide))); have HS2 := Aside0.mk (Nat.le_trans HS1.out hg.size); clear ho hb hg hat; obtain ⟨AN, cN, hvN⟩ := Kd.R_slice HR2.out; obtain ⟨qN, hqN⟩ : ∃ q, (toksV (l ++ [(kk, lit)])).length = q := ⟨_, rfl⟩; rw [hqN] at hvN; clear hqN; subst hvN; have hc2 : wN.cell? ⟨pb, 1, none⟩ = some v := (blk_cell HP2.out 1).trans rfl; have hf2 : wN.frozen? ⟨pb, 1, none⟩ = false := blk_frozen HP2.out 1))
      have HP3 := Aside0.mk (blk_put HP2.out 1 (.slice AN qN cN) (cs' := #[.pointer (some ⟨g, 0, none⟩), .slice AN qN cN, .int .i64 0]) rfl)
      have HX3 : Aside0 (LX w0 (wN.setCell ⟨pb, 1, none⟩ (.slice AN qN cN)) (wN.setCell ⟨pb, 1, none⟩ (.slice AN qN cN)) g x (i + n)) := ⟨LX.new (HX2.out.st.far (p := ⟨pb, 1, none⟩) (Ne.symm HN.out.2.2.2.2) _) (below_set HX2.out.be HN.out.2.2.2.1)⟩
      have HR3 := Aside0.mk (Kd.R_set HR2.out HP2.out hT 1 (.slice AN qN cN))
      have HS3 : Aside0 (w.heap.size ≤ (wN.setCell ⟨pb, 1, none⟩ (.slice AN qN cN)).heap.size) := ⟨by have := HS2.out; simpa [World.setCell] using this⟩
      go_wp2
      first | refine bodyPost_ret (results_none rfl _ _ _) rfl ?_ | go_end0
      exact ⟨rfl, _, HP3.out, by rw [← HT.out]; exact HR3.out, HX3.out.be⟩
    · have hk1 : (((kk : Nat) : Int) == 1) = false := by rw [beq_eq_false_iff_ne]; omega
      have HT : Aside0 (l ++ [(kk, lit)] ++ tokensL (x.drop (i + n)) = tokensL x) := ⟨by
        rw [← HM.out.2, tokens_more (x := x.drop i) (by rw [hkk]; exact hend), hkk, hlit, hn, List.drop_drop]; simp⟩
      have hn1 : 1 ≤ n := by rw [← hn]; exact lexL_pos _ (by rw [hkk]; exact hend)
      have hn2 : i + n ≤ x.length := by have := lexL_le (x.drop i); rw [hn, List.length_drop] at this; omega
      have HM1 := Aside0.mk HM.out.1
      clear hend hkk hlit hn HM
      go_wp2_with (first | ((with_reducible refine (HL.out).mono ?_); rintro e w1 ⟨rfl, hI⟩; have HX1 := Aside0.mk hI.self; have HP1 := Aside0.mk (hI.ke.blk HPB.out HN.out.2.2.2.2 (by simp)); have HR1 := Aside0.mk (Kd.R_keep HR.out hI.ke (fun k hk => by have := HN.out.1; omega)); have HS1 := Aside0.mk (Nat.le_trans HS.out hI.ke.1); clear hI; have hc1 : w1.cell? ⟨pb, 1, none⟩ = some v := (blk_cell HP1.out 1).trans rfl) | ((with_reducible refine gate_builtin (b := .append) (xs := #[.tmp 16, .tmp 20]) rfl ?_); (try (refine gate_guard (by rfl) ?_; dsimp only)); at_builtin; refine Kd.R_append (KT) (w0 := w0) (w0.heap.size) rfl (.tmp 16) (.tmp 20) 96 101 (.agg #[.int .i64 0, .string ⟨#[]⟩]) 24 rfl Try.underlying96 infoSI rfl (by decide) (by decide) (v) (toksV l) (((kk : Int), mk lit)) [.int .i64 (kk : Int), .string (mk lit)] (fun k => w.heap.size ≤ k) (fun _ => False) rfl rfl ?aP (fun _ hk => hk.elim) ?aF ?aO ?aB ?aS ?aL ?_; (case aP => exact ⟨[_], [_], rfl, rfl, rfl⟩); (case aF => exact (fun k hk => Nat.le_trans HS1.out hk)); (case aO => exact HR1.out); (case aB => exact HX1.out.be); (case aS => exact HX1.out.be.size); (case aL => have := HLEN.out; omega); intro vN wN ho hb hg hat; rw [HNEW.out] at ho; have HR2 := Aside0.mk ho; have HX2 : Aside0 (LX w0 wN wN g x (i + n)) := ⟨LX.new (HX1.out.st.grown hg (fun e => by have := HR1.out.1 g e.symm; have := HN.out.1; omega)) hb⟩; have HP2 := Aside0.mk (blk_grown HP1.out hg (Kd.R_ne HR1.out HP1.out (by decide))); have HS2 := Aside0.mk (Nat.le_trans HS1.out hg.size); clear ho hb hg hat; obtain ⟨AN, cN, hvN⟩ := Kd.R_slice HR2.out; obtain ⟨qN, hqN⟩ : ∃ q, (toksV (l ++ [(kk, lit)])).length = q := ⟨_, rfl⟩; rw [hqN] at hvN; clear hqN; subst hvN; have hc2 : wN.cell? ⟨pb, 1, none⟩ = some v := (blk_cell HP2.out 1).trans rfl; have hf2 : wN.frozen? ⟨pb, 1, none⟩ = false := blk_frozen HP2.out 1))
      have HP3 := Aside0.mk (blk_put HP2.out 1 (.slice AN qN cN) (cs' := #[.pointer (some ⟨g, 0, none⟩), .slice AN qN cN, .int .i64 0]) rfl)
      have HX3 : Aside0 (LX w0 (wN.setCell ⟨pb, 1, none⟩ (.slice AN qN cN)) (wN.setCell ⟨pb, 1, none⟩ (.slice AN qN cN)) g x (i + n)) := ⟨LX.new (HX2.out.st.far (p := ⟨pb, 1, none⟩) (Ne.symm HN.out.2.2.2.2) _) (below_set HX2.out.be HN.out.2.2.2.1)⟩
      have HR3 := Aside0.mk (Kd.R_set HR2.out HP2.out hT 1 (.slice AN qN cN))
      have HS3 : Aside0 (w.heap.size ≤ (wN.setCell ⟨pb, 1, none⟩ (.slice AN qN cN)).heap.size) := ⟨by have := HS2.out; simpa [World.setCell] using this⟩
      go_wp2
      go_roundg (x.length - (i + n))
      case measure => have := HM1.out; omega
      case rel => exact ⟨i + n, l ++ [(kk, lit)], _, ⟨by omega, HT.out⟩, HX3, HP3, HS3, HR3⟩
end Go.Proofs.Ytllmmnhgchidkaa.Hand
