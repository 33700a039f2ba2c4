/- scanSpecialSymbol, Lex. -/
import Derived.Test.YtllmmnhgchidkaaSelID
import Derived.BigQuiet
namespace Go.Proofs.Ytllmmnhgchidkaa.Hand
open Go.RowKit Go.Proofs.YtllmmnhgchidkaaW.PrintWords Go.Proofs.YtllmmnhgchidkaaW.PrintLast Go.Proofs.YtllmmnhgchidkaaW.PrintMore Go.Proofs.Ytllmmnhgchidkaa.Base
set_option linter.unusedVariables false
set_option linter.unusedSimpArgs false
set_option maxRecDepth 100000

theorem symLen_two (x : L) : symLen x ≤ 2 := by unfold symLen; split <;> omega
theorem sym_of_two {x : L} (h : symLen x = 2) : x.take 2 = [61, 61] ∨ x.take 2 = [33, 61] := by
  unfold symLen at h
  split at h
  · assumption
  · omega
theorem sym_take {c : UInt8} {r : L} (h : isSp c = true) {m : Nat} (h1 : 1 ≤ m) (h2 : m ≤ symLen (c :: r)) : ∃ k, tokOf ((c :: r).take m) = some k ∧ k ≠ 0 ∧ k ≠ 1 := by
  have h3 := symLen_two (c :: r)
  by_cases e : m = 1
  · subst e; exact sp_tok h
  · obtain rfl : m = 2 := by omega
    rcases sym_of_two (x := c :: r) (by omega) with e | e
    · rw [e]; exact ⟨5, by decide⟩
    · rw [e]; exact ⟨11, by decide⟩
theorem sym_stop {c : UInt8} {r : L} {m : Nat} (h1 : 1 ≤ m) (h2 : m ≤ symLen (c :: r)) (hs : m = (c :: r).length ∨ isSp ((c :: r).getD m 0) = false ∨ tokOf ((c :: r).take (m + 1)) = none) : m = symLen (c :: r) := by
  have h3 := symLen_two (c :: r)
  by_cases e : m = 1
  · subst e
    by_cases e2 : symLen (c :: r) = 2
    · exfalso
      cases r with
      | nil => rw [sym_one] at e2; omega
      | cons d r =>
        rcases sym_of_two e2 with e | e
        · simp only [List.take_succ_cons, List.take_zero, List.cons.injEq, and_true] at e
          obtain ⟨rfl, rfl⟩ := e
          rcases hs with hs | hs | hs
          · simp at hs
          · exact absurd (show isSp 61 = false from hs) (by decide)
          · exact absurd (show tokOf [61, 61] = none from hs) (by decide)
        · simp only [List.take_succ_cons, List.take_zero, List.cons.injEq, and_true] at e
          obtain ⟨rfl, rfl⟩ := e
          rcases hs with hs | hs | hs
          · simp at hs
          · exact absurd (show isSp 61 = false from hs) (by decide)
          · exact absurd (show tokOf [33, 61] = none from hs) (by decide)
    · omega
  · omega
theorem sym_more {c : UInt8} {r : L} (h : isSp c = true) {m k : Nat} (hl : m < (c :: r).length) (hs : isSp ((c :: r).getD m 0) = true) (h2 : m ≤ symLen (c :: r)) (ht : tokOf ((c :: r).take (m + 1)) = some k) : m + 1 ≤ symLen (c :: r) := by
  have h3 := symLen_two (c :: r)
  have h4 := sym_pos (c :: r)
  have : m = 0 ∨ m = 1 ∨ m = 2 := by omega
  rcases this with rfl | rfl | rfl
  · omega
  · cases r with
    | nil => simp at hl
    | cons d r =>
      simp only [List.take_succ_cons, List.take_zero] at ht
      rw [tok_two] at ht
      rw [sym_two]
      by_cases e1 : c = 61 ∧ d = 61
      · rw [if_pos ⟨.inl e1.1, e1.2⟩]; omega
      · rw [if_neg e1] at ht
        by_cases e2 : c = 33 ∧ d = 61
        · rw [if_pos ⟨.inr e2.1, e2.2⟩]; omega
        · rw [if_neg e2] at ht
          by_cases e3 : c = 105 ∧ d = 110
          · obtain ⟨rfl, _⟩ := e3; exact absurd h (by decide)
          · rw [if_neg e3] at ht; exact absurd ht (by simp)
  · exfalso
    cases r with
    | nil => simp at hl
    | cons d r =>
      cases r with
      | nil => simp at hl
      | cons e r =>
        simp only [List.take_succ_cons, List.take_zero] at ht
        rw [tok_three] at ht; exact absurd ht (by simp)
theorem LX.far {w0 w W : World} {g : Nat} {x : L} {p : Nat} (h : LX w0 w W g x p) (hg : g < w.heap.size) (h0 : w0.heap.size ≤ w.heap.size) {b : Nat} (hb : w.heap.size ≤ b) (j : Nat) (v : Value) : LX w0 w (W.setCell ⟨b, j, none⟩ v) g x p :=
  ⟨h.st.far (p := ⟨b, j, none⟩) (show g ≠ b by omega) v, below_set h.be (show w0.heap.size ≤ b by omega), keep_far h.ke (p := ⟨b, j, none⟩) hb v⟩
theorem run_store2 {P : Program} {W : World} {b e : Nat} {c0 c1 v0 v1 : Value} (t : TypeId) (h : W.heap[b]? = some (.cells #[c0, c1] e (0, 0))) (ht : (P.info? t).map (·.size) = some 2) (h0 : v0.oneCell' = true) (h1 : v1.oneCell' = true) :
    (Instr.storeAt t (.pointer (some ⟨b, 0, none⟩)) (.agg #[v0, v1])).run P W = .ok () ((W.setCell ⟨b, 0, none⟩ v0).setCell ⟨b, 1, none⟩ v1) := by
  have := run_store_run (P := P) (o := 0) t (.agg #[v0, v1]) [v0, v1] h rfl ht (by simp) (by simp [h0, h1])
  rw [this]; rfl
theorem store2_event {P : Program} {ops : Array Oper} {rest : List Oper} {o : Oper} {a : Act} {Q : Exit → Act → World → Prop} {W : World} {b e : Nat} {c0 c1 v0 v1 : Value} (hgd : o.guard = none) {t : TypeId} {p : Tmp} {v : Operand} (ho : o.op = .store t (.tmp p) v) (hN : o.dst = none)
    (hp : a.eval (.tmp p) = .pointer (some ⟨b, 0, none⟩)) (hv : a.eval v = .agg #[v0, v1]) (h : W.heap[b]? = some (.cells #[c0, c1] e (0, 0))) (ht : (P.info? t).map (·.size) = some 2) (h0 : v0.oneCell' = true) (h1 : v1.oneCell' = true)
    (k : ∀ w', w' = (W.setCell ⟨b, 0, none⟩ v0).setCell ⟨b, 1, none⟩ v1 → wpList P ops Q rest a w') : wpList P ops Q (o :: rest) a W := by
  refine store_event hgd ho hN ?_ k
  unfold execOp
  simp only [ho, hp, hv, Sem.run_bind, run_store2 (P := P) t h ht h0 h1, Sem.run_pure, Result.andThen_ok]
/-- The lexer, the sign that was read last, and the bytes that were read. -/
structure SX (w0 w W : World) (g : Nat) (x : L) (p b : Nat) (kk : Int) (lit : ByteArray) (v : Value) (l : L) : Prop where
  lx : LX w0 w W g x p
  bk : W.heap[b]? = some (.cells #[.int .i64 kk, .string lit] 101 (0, 0))
  ro : (Kd.int .u8).R 5 W w0.heap.size (fun k => w.heap.size ≤ k) v (bytesL l)
section
variable {w0 w W W' : World} {g : Nat} {x : L} {p b : Nat} {kk : Int} {lit : ByteArray} {v : Value} {l : L}
theorem SX.keep {q : Nat} (h : SX w0 w W g x p b kk lit v l) (hg : g < w.heap.size) (hb : w.heap.size ≤ b) (h1 : LX w0 w W' g x q) (hk : KeepBut W W' g none) : SX w0 w W' g x q b kk lit v l :=
  ⟨h1, hk.blk h.bk (by omega) (by simp), Kd.R_keep h.ro hk (fun k hk' => by omega)⟩
theorem SX.drawn (h : SX w0 w W g x p b kk lit v l) (hd : Drawn0 W W') : SX w0 w W' g x p b kk lit v l := by
  refine ⟨h.lx.drawn hd, ?_, Kd.R_below h.ro hd.below⟩
  rw [hd.below.block b (blk_lt h.bk)]; exact h.bk
theorem SX.alloc (h : SX w0 w W g x p b kk lit v l) (o : Obj) : SX w0 w (W.alloc o) g x p b kk lit v l := by
  have hb := below_alloc (Below.refl W.heap.size W) o
  refine ⟨h.lx.alloc o, ?_, Kd.R_below h.ro hb⟩
  rw [hb.block b (blk_lt h.bk)]; exact h.bk
theorem SX.put (h : SX w0 w W g x p b kk lit v l) (hg : g < w.heap.size) (h0 : w0.heap.size ≤ w.heap.size) (hb : w.heap.size ≤ b) (k2 : Int) (l2 : ByteArray) :
    SX w0 w ((W.setCell ⟨b, 0, none⟩ (.int .i64 k2)).setCell ⟨b, 1, none⟩ (.string l2)) g x p b k2 l2 v l := by
  have hq : ∀ q, q ∈ 5 :: (Kd.int .u8).E → q ≠ 101 := by intro q hq; simp [Kd.int, Kd.scalar] at hq; omega
  have hb1 := blk_put h.bk 0 (.int .i64 k2) (cs' := #[.int .i64 k2, .string lit]) rfl
  refine ⟨(h.lx.far hg h0 hb _ _).far hg h0 hb _ _, blk_put hb1 1 (.string l2) rfl, ?_⟩
  exact Kd.R_set (Kd.R_set h.ro h.bk hq 0 _) hb1 hq 1 _
theorem SX.grown (h : SX w0 w W g x p b kk lit v l) (hg : g < w.heap.size) {v1 : Value} {l1 : L} (hw : W.grownBy W' v.ownBlock) (hb : Below w0.heap.size w0 W') (ho : (Kd.int .u8).R 5 W' w0.heap.size (fun k => w.heap.size ≤ k) v1 (bytesL l1)) : SX w0 w W' g x p b kk lit v1 l1 := by
  refine ⟨⟨h.lx.st.grown hw (fun e => by have := h.ro.1 g e.symm; omega), hb, h.lx.ke.trans (KeepBut.of_grown hw g) ?_⟩, ?_, ho⟩
  · cases e : v.ownBlock
    · exact .inl rfl
    · exact .inr ⟨_, rfl, h.ro.1 _ e⟩
  · exact blk_grown h.bk hw (Kd.R_ne h.ro h.bk (by decide))
end
theorem read_sx {w0 w W : World} {g : Nat} {x : L} {j b : Nat} {kk : Int} {lit : ByteArray} {v : Value} {l : L} (hx : x.length ≤ 1000000) (hj : j ≤ x.length) (hg : g < w.heap.size) (hb : w.heap.size ≤ b) (h : SX w0 w W g x j b kk lit v l) :
    Calls Try.prog 80 #[.pointer (some ⟨g, 0, none⟩)] W fun e W' => e = .returned (.int .u8 ((x.getD j 0).toNat : Int)) ∧ SX w0 w W' g x (nx x j) b kk lit v l := by
  refine (read_calls x hx g j hj w0 w W h.lx).mono ?_
  rintro e W' ⟨rfl, h1, h2⟩
  exact ⟨rfl, h.keep hg hb h1 h2⟩
theorem unread_sx {w0 w W : World} {g : Nat} {x : L} {j b : Nat} {kk : Int} {lit : ByteArray} {v : Value} {l : L} (hx : x.length ≤ 1000000) (hj : j + 1 ≤ x.length) (hg : g < w.heap.size) (hb : w.heap.size ≤ b) (h : SX w0 w W g x (j + 1) b kk lit v l) :
    Calls Try.prog 82 #[.pointer (some ⟨g, 0, none⟩)] W fun e W' => e = .returned (.tuple #[]) ∧ SX w0 w W' g x j b kk lit v l := by
  refine (unread_calls x hx g j hj w0 w W h.lx).mono ?_
  rintro e W' ⟨rfl, h1, h2⟩
  exact ⟨rfl, h.keep hg hb h1 h2⟩
set_option maxHeartbeats 4000000 in
theorem scanSym_calls (x : L) (hx : x.length ≤ 1000000) (hz : ∀ b ∈ x, b ≠ 0) (g i : Nat) (hi : i ≤ x.length) (c0 : UInt8) (r : L) (hy : x.drop i = c0 :: r) (hsp : isSp c0 = true) (w0 w : World) (h : LX w0 w w g x i) :
    Calls Try.prog 83 #[.pointer (some ⟨g, 0, none⟩)] w fun e w' => e = .returned (.tuple #[.int .i64 (((tokOf ((c0 :: r).take (symLen (c0 :: r)))).getD 0 : Nat) : Int), .string (mk ((c0 :: r).take (symLen (c0 :: r))))]) ∧ LX w0 w w' g x (i + symLen (c0 :: r)) := by
  have HX := Aside0.mk h
  have hg : g < w.heap.size := h.st.lt
  have h0 : w0.heap.size ≤ w.heap.size := h.be.size
  clear h
  obtain ⟨y, hyy⟩ : ∃ y, c0 :: r = y := ⟨_, rfl⟩
  rw [hyy] at hy ⊢
  have hyl : i + y.length = x.length := by rw [← hy, List.length_drop]; omega
  have hyd : ∀ m, x.getD (i + m) 0 = y.getD m 0 := fun m => by rw [← hy, List.getD_eq_getElem?_getD, List.getD_eq_getElem?_getD, List.getElem?_drop]
  have HTAKE : Aside0 (∀ m, 1 ≤ m → m ≤ symLen y → ∃ k, tokOf (y.take m) = some k ∧ k ≠ 0 ∧ k ≠ 1) := ⟨by rw [← hyy]; exact fun m h1 h2 => sym_take hsp h1 h2⟩
  have HSTOP : Aside0 (∀ m, 1 ≤ m → m ≤ symLen y → (m = y.length ∨ isSp (y.getD m 0) = false ∨ tokOf (y.take (m + 1)) = none) → m = symLen y) := ⟨by rw [← hyy]; exact fun m h1 h2 hs => sym_stop h1 h2 hs⟩
  have HMORE : Aside0 (∀ m k, m < y.length → isSp (y.getD m 0) = true → m ≤ symLen y → tokOf (y.take (m + 1)) = some k → m + 1 ≤ symLen y) := ⟨by rw [← hyy]; exact fun m k hl hs h2 ht => sym_more hsp hl hs h2 ht⟩
  have HFIRST : Aside0 (1 ≤ y.length ∧ y.getD 0 0 = c0 ∧ ∃ k, tokOf (y.take 1) = some k) := ⟨by rw [← hyy]; exact ⟨by simp, rfl, by obtain ⟨k, h1, _⟩ := sp_tok hsp; exact ⟨k, h1⟩⟩⟩
  have HP := Aside0.mk (sym_pos y)
  have HTWO := Aside0.mk (symLen_two y)
  clear hy hyy
  go_enter Try.func83, Try.ntmps83
  go_wp2
  go_step3
  go_wp2
  go_step3
  go_wp2
  go_loopg [5] (y.length) (fun k v5 w' => ∃ (m : Nat) (kk : Int) (lit : ByteArray), Aside0 (k + m = y.length ∧ m ≤ symLen y ∧ (m = 0 → kk = 0) ∧ (1 ≤ m → kk = (((tokOf (y.take m)).getD 0 : Nat) : Int) ∧ lit = mk (y.take m))) ∧ Aside0 (SX w0 w w' g x (i + m) w.heap.size kk lit v5 (y.take m)))
  case atStart =>
    refine ⟨0, 0, ⟨#[]⟩, ⟨by omega, Nat.zero_le _, fun _ => rfl, fun h => by omega⟩, ⟨LX.alloc HX.out _, heap_alloc_new w (.cells #[.int .i64 0, .string ⟨#[]⟩] 101), Kd.R_nil _ _ _ _ _⟩⟩
  case round =>
    clear HX
    obtain ⟨m, kk, lit, HM, HS⟩ := hrel
    have hm1 := HM.out.1
    have hm2 := HM.out.2.1
    have HG := Aside0.mk hg
    have H00 := Aside0.mk h0
    have hpos : 1 ≤ m → kk ≠ 0 ∧ (kk == 0) = false ∧ (kk != 0) = true := fun h => by
      obtain ⟨k, h1, h2, _⟩ := HTAKE.out m h hm2
      have h3 := (HM.out.2.2.2 h).1
      rw [h1] at h3
      have h4 : kk ≠ 0 := by rw [h3]; simp; exact h2
      exact ⟨h4, by simpa using h4, by simpa using h4⟩
    have HRD := Aside0.mk (read_sx hx (by omega) hg (Nat.le_refl _) HS.out)
    by_cases hml : m < y.length
    · have hne : y.getD m 0 ≠ 0 := by
        rw [← hyd]
        have : i + m < x.length := by omega
        rw [List.getD_eq_getElem?_getD, List.getElem?_eq_getElem this]
        exact hz _ (List.getElem_mem this)
      rw [hyd, show nx x (i + m) = i + m + 1 from if_pos (by omega)] at HRD
      obtain ⟨c, hc⟩ : ∃ c, y.getD m 0 = c := ⟨_, rfl⟩
      rw [hc] at HRD hne
      have hc0_ : (((c.toNat : Int)) == 0) = false := by
        rw [beq_eq_false_iff_ne]; intro e; apply hne; apply UInt8.toNat_inj.1
        have : (0 : UInt8).toNat = 0 := rfl
        omega
      have HSP := Aside0.mk (isSp_calls c)
      have HNEW : Aside0 (bytesL (y.take m) ++ [(c.toNat : Int)] = bytesL (y.take (m + 1))) := ⟨by
        have : y.take (m + 1) = y.take m ++ [c] := by
          rw [List.take_add_one]; congr 1
          rw [List.getElem?_eq_getElem hml, ← hc, List.getD_eq_getElem?_getD, List.getElem?_eq_getElem hml]; rfl
        rw [this, bytesL, bytesL, List.map_append]; rfl⟩
      obtain ⟨q, hq⟩ : ∃ q, (bytesL (y.take (m + 1))).length = q := ⟨_, rfl⟩
      have HQN := Aside0.mk hq
      clear hq hne
      by_cases hs : isSp c = true
      · rw [hs] at HSP
        have HT := Aside0.mk (tok_calls (y.take (m + 1)))
        cases htk : tokOf (y.take (m + 1)) with
        | none =>
          have hm0 : 1 ≤ m := by
            rcases Nat.eq_zero_or_pos m with e | e
            · subst e; obtain ⟨k, h⟩ := HFIRST.out.2.2; rw [h] at htk; cases htk
            · exact e
          have HME := Aside0.mk (HSTOP.out m hm0 hm2 (.inr (.inr htk)))
          have HKL := Aside0.mk (HM.out.2.2.2 hm0)
          obtain ⟨_, hk1, hk2⟩ := hpos hm0
          rw [htk] at HT
          simp only [Option.getD_none, Option.isSome_none] at HT
          clear htk hpos hc HM HSTOP HMORE HTAKE HFIRST
          go_wp2_with (first | ((with_reducible refine (HRD.out).mono ?_); rintro e wE ⟨rfl, hI⟩; have HSE := Aside0.mk hI; clear hI) | ((with_reducible refine (HSP.out _).mono ?_); rintro e wS ⟨rfl, hd⟩; have HSS := Aside0.mk (HSE.out.drawn hd); clear hd) | ((with_reducible refine gate_builtin (b := .append) (xs := #[.tmp 20, .tmp 22]) rfl ?_); (try (refine gate_guard (by rfl) ?_; dsimp only)); at_builtin; refine Kd.R_append (Kd.int .u8) (w0 := w0) (w0.heap.size) rfl (.tmp 20) (.tmp 22) 90 5 (.int .u8 0) 1 rfl Try.underlying90 infoB rfl (by decide) (by decide) (u5) (bytesL (y.take m)) ((c.toNat : Int)) [.int .u8 (c.toNat : Int)] (fun k => w.heap.size ≤ k) (fun _ => False) rfl rfl ?aP (fun _ hk => hk.elim) ?aF ?aO ?aB ?aS ?aL ?_; (case aP => exact rfl); (case aF => exact (fun k hk => Nat.le_trans HSS.out.lx.ke.1 hk)); (case aO => exact HSS.out.ro); (case aB => exact HSS.out.lx.be); (case aS => exact HSS.out.lx.be.size); (case aL => (simp [bytesL]; omega)); intro vN wN ho hb hg hat; rw [HNEW.out] at ho; have HSA := Aside0.mk (SX.grown HSS.out HG.out hg hb ho); clear ho hat hb hg; obtain ⟨AA, cA, hvA⟩ := Kd.R_slice HSA.out.ro; rw [HQN.out] at hvA; subst hvA; have hst := Kd.C_string (P := Try.prog) (src := 90) (dst := 9) (c := cA) Try.underlying90 Try.underlying5 Try.underlying9 (Kd.R_reads' HSA.out.ro).2.2; rw [str_bytes, HQN.out] at hst))
          go_wp2_with (first | ((with_reducible refine (HT.out _).mono ?_); rintro e wT ⟨rfl, hd⟩; have HST := Aside0.mk (HSA.out.drawn hd); clear hd hst; have hc0 : wT.cell? ⟨w.heap.size, 0, none⟩ = some (.int .i64 kk) := (blk_cell HST.out.bk 0).trans rfl; have hc1 : wT.cell? ⟨w.heap.size, 1, none⟩ = some (.string lit) := (blk_cell HST.out.bk 1).trans rfl))
          go_wp2_with (first | ((with_reducible refine (unread_sx hx (by omega) hg (Nat.le_refl _) HST.out).mono ?_); rintro e wU ⟨rfl, hI⟩; have HSU := Aside0.mk hI; clear hI; have hc0 : wU.cell? ⟨w.heap.size, 0, none⟩ = some (.int .i64 kk) := (blk_cell HSU.out.bk 0).trans rfl; have hc1 : wU.cell? ⟨w.heap.size, 1, none⟩ = some (.string lit) := (blk_cell HSU.out.bk 1).trans rfl))
          go_wp2
          try (go_quiet (fail))
          try go_wp2
          rw [Exit.noGoto_ret]
          go_ret2
          exact ⟨by rw [← HME.out, HKL.out.1, HKL.out.2]; first | done | rfl, by rw [← HME.out]; first | exact HSU.out.lx | exact HSU.out.lx.drawn ⟨⟨_, rfl⟩⟩⟩
        | some k =>
          have hm3 := HMORE.out m k hml (by rw [hc]; exact hs) hm2 htk
          rw [htk] at HT
          simp only [Option.getD_some, Option.isSome_some] at HT
          have HTK := Aside0.mk htk
          clear htk hpos hc HM HSTOP HMORE HTAKE HFIRST
          go_wp2_with (first | ((with_reducible refine (HRD.out).mono ?_); rintro e wE ⟨rfl, hI⟩; have HSE := Aside0.mk hI; clear hI) | ((with_reducible refine (HSP.out _).mono ?_); rintro e wS ⟨rfl, hd⟩; have HSS := Aside0.mk (HSE.out.drawn hd); clear hd) | ((with_reducible refine gate_builtin (b := .append) (xs := #[.tmp 20, .tmp 22]) rfl ?_); (try (refine gate_guard (by rfl) ?_; dsimp only)); at_builtin; refine Kd.R_append (Kd.int .u8) (w0 := w0) (w0.heap.size) rfl (.tmp 20) (.tmp 22) 90 5 (.int .u8 0) 1 rfl Try.underlying90 infoB rfl (by decide) (by decide) (u5) (bytesL (y.take m)) ((c.toNat : Int)) [.int .u8 (c.toNat : Int)] (fun k => w.heap.size ≤ k) (fun _ => False) rfl rfl ?aP (fun _ hk => hk.elim) ?aF ?aO ?aB ?aS ?aL ?_; (case aP => exact rfl); (case aF => exact (fun k hk => Nat.le_trans HSS.out.lx.ke.1 hk)); (case aO => exact HSS.out.ro); (case aB => exact HSS.out.lx.be); (case aS => exact HSS.out.lx.be.size); (case aL => (simp [bytesL]; omega)); intro vN wN ho hb hg hat; rw [HNEW.out] at ho; have HSA := Aside0.mk (SX.grown HSS.out HG.out hg hb ho); clear ho hat hb hg; obtain ⟨AA, cA, hvA⟩ := Kd.R_slice HSA.out.ro; rw [HQN.out] at hvA; subst hvA; have hst := Kd.C_string (P := Try.prog) (src := 90) (dst := 9) (c := cA) Try.underlying90 Try.underlying5 Try.underlying9 (Kd.R_reads' HSA.out.ro).2.2; rw [str_bytes, HQN.out] at hst))
          go_wp2_with (first | ((with_reducible refine (HT.out _).mono ?_); rintro e wT ⟨rfl, hd⟩; have HST := Aside0.mk (HSA.out.drawn hd); clear hd hst; have hst := Kd.C_string (P := Try.prog) (src := 90) (dst := 9) (c := cA) Try.underlying90 Try.underlying5 Try.underlying9 (Kd.R_reads' HST.out.ro).2.2; rw [str_bytes, HQN.out] at hst; have hf0 : wT.frozen? ⟨w.heap.size, 0, none⟩ = false := blk_frozen HST.out.bk 0; have hf1 : wT.frozen? ⟨w.heap.size, 1, none⟩ = false := blk_frozen HST.out.bk 1) | ((with_reducible refine gate_store (t := 101) (p := 4) rfl ?_); refine store2_event (t := 101) (p := 4) (v := ?vo) (v0 := .int .i64 (k : Int)) (v1 := .string (mk (y.take (m + 1)))) ?a1 ?a2 ?a3 ?a4 ?a5 HST.out.bk ?a6 ?a7 ?a8 ?_; (case a1 => rfl); (case a2 => rfl); (case a3 => rfl); (case a4 => rfl); (case a5 => rfl); (case a6 => kernel_rfl); (case a7 => rfl); (case a8 => rfl); intro w2 hw; have HSF : Aside0 (SX w0 w w2 g x (i + m + 1) w.heap.size (k : Int) (mk (y.take (m + 1))) (.slice AA q cA) (y.take (m + 1))) := ⟨by rw [hw]; exact HST.out.put HG.out H00.out (Nat.le_refl _) _ _⟩; clear hw HST))
          go_roundg (gk - 1)
          case measure => omega
          case rel => exact ⟨m + 1, k, mk (y.take (m + 1)), ⟨by omega, hm3, fun h => by omega, fun _ => ⟨by rw [HTK.out]; rfl, rfl⟩⟩, HSF⟩
      · have hs' : isSp c = false := by simpa using hs
        have hm0 : 1 ≤ m := by
          rcases Nat.eq_zero_or_pos m with e | e
          · subst e; rw [HFIRST.out.2.1] at hc; subst hc; exact absurd hsp hs
          · exact e
        have HME := Aside0.mk (HSTOP.out m hm0 hm2 (.inr (.inl (by rw [hc]; exact hs'))))
        have HKL := Aside0.mk (HM.out.2.2.2 hm0)
        obtain ⟨_, hk1, hk2⟩ := hpos hm0
        rw [hs'] at HSP
        clear hpos hc HM HSTOP HMORE HTAKE HFIRST HNEW HQN hs hs'
        go_wp2_with (first | ((with_reducible refine (HRD.out).mono ?_); rintro e wE ⟨rfl, hI⟩; have HSE := Aside0.mk hI; clear hI) | ((with_reducible refine (HSP.out _).mono ?_); rintro e wS ⟨rfl, hd⟩; have HSS := Aside0.mk (HSE.out.drawn hd); clear hd) | ((with_reducible refine (unread_sx hx (by omega) hg (Nat.le_refl _) HSS.out).mono ?_); rintro e wU ⟨rfl, hI⟩; have HSU := Aside0.mk hI; clear hI; have hc0 : wU.cell? ⟨w.heap.size, 0, none⟩ = some (.int .i64 kk) := (blk_cell HSU.out.bk 0).trans rfl; have hc1 : wU.cell? ⟨w.heap.size, 1, none⟩ = some (.string lit) := (blk_cell HSU.out.bk 1).trans rfl))
        go_wp2
        try (go_quiet (fail))
        try go_wp2
        rw [Exit.noGoto_ret]
        go_ret2
        exact ⟨by rw [← HME.out, HKL.out.1, HKL.out.2]; first | done | rfl, by rw [← HME.out]; first | exact HSU.out.lx | exact HSU.out.lx.drawn ⟨⟨_, rfl⟩⟩⟩
    · have hm0 : 1 ≤ m := by have := HFIRST.out.1; omega
      have HME := Aside0.mk (HSTOP.out m hm0 hm2 (.inl (by omega)))
      have HKL := Aside0.mk (HM.out.2.2.2 hm0)
      obtain ⟨_, hk1, hk2⟩ := hpos hm0
      have e0 : x.getD (i + m) 0 = 0 := by rw [List.getD_eq_getElem?_getD, List.getElem?_eq_none (by omega)]; rfl
      rw [e0, show nx x (i + m) = i + m from if_neg (by omega)] at HRD
      simp only [show ((0 : UInt8).toNat : Int) = 0 from rfl] at HRD
      clear hpos HM HSTOP HMORE HTAKE HFIRST e0 hml hm1 hm2 hyl
      go_wp2_with (first | ((with_reducible refine (HRD.out).mono ?_); rintro e wE ⟨rfl, hI⟩; have HSE := Aside0.mk hI; clear hI; have hc0 : wE.cell? ⟨w.heap.size, 0, none⟩ = some (.int .i64 kk) := (blk_cell HSE.out.bk 0).trans rfl; have hc1 : wE.cell? ⟨w.heap.size, 1, none⟩ = some (.string lit) := (blk_cell HSE.out.bk 1).trans rfl))
      go_wp2
      try (go_quiet (fail))
      try go_wp2
      rw [Exit.noGoto_ret]
      go_ret2
      exact ⟨by rw [← HME.out, HKL.out.1, HKL.out.2]; first | done | rfl, by rw [← HME.out]; first | exact HSE.out.lx | exact HSE.out.lx.drawn ⟨⟨_, rfl⟩⟩⟩
end Go.Proofs.Ytllmmnhgchidkaa.Hand
