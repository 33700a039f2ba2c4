/- The law FnLabelsText. -/
import Derived.Test.YteigfmchnblkgaaGreatDoorMTLabStr
import Derived.Test.YteigfmchnblkgaaGreatDoorMTM25
namespace Go.Proofs.YteigfmchnblkgaaGreatDoor.Hand
open Go.RowKit Go.Maps Go.Proofs.YteigfmchnblkgaaGreatDoorW.PrintWords Go.Proofs.YteigfmchnblkgaaGreatDoorW.PrintLast Go.Proofs.YteigfmchnblkgaaGreatDoorW.PrintMore Go.Proofs.YteigfmchnblkgaaGreatDoor.Base
open Go.Sort (ltStr)
set_option linter.unusedVariables false
set_option linter.unusedSimpArgs false
set_option maxRecDepth 100000
theorem pieces_two {c : UInt8} : ∀ {x : L}, c ∈ x → 2 ≤ (pieces c x).length
  | [], h => absurd h (by simp)
  | b :: t, h => by
    unfold pieces
    have hne : 1 ≤ (pieces c t).length := by
      have := pieces_ne c t
      cases hp : pieces c t with
      | nil => exact absurd hp this
      | cons p r => simp
    split
    · simp only [List.length_cons]; omega
    · rename_i hb
      have ht : c ∈ t := by
        rcases List.mem_cons.1 h with e | e
        · exact absurd e.symm hb
        · exact e
      have ih := pieces_two ht
      cases hp : pieces c t with
      | nil => rw [hp] at ih; simp at ih
      | cons p r => rw [hp] at ih; simpa [glue] using ih
theorem kv_inj {a b c d : L} (ha : (61 : UInt8) ∉ a) (hc : (61 : UInt8) ∉ c) (h : a ++ 61 :: b = c ++ 61 :: d) : a = c ∧ b = d := by
  induction a generalizing c with
  | nil =>
    cases c with
    | nil => exact ⟨rfl, by simpa using h⟩
    | cons x c =>
      simp only [List.nil_append, List.cons_append, List.cons.injEq] at h
      exact absurd (by rw [← h.1]; simp) hc
  | cons y a ih =>
    cases c with
    | nil =>
      simp only [List.nil_append, List.cons_append, List.cons.injEq] at h
      exact absurd (by rw [h.1]; simp) ha
    | cons x c =>
      simp only [List.cons_append, List.cons.injEq] at h
      obtain ⟨rfl, h⟩ := h
      obtain ⟨rfl, rfl⟩ := ih (fun hm => ha (by simp [hm])) (c := c) (fun hm => hc (by simp [hm])) h
      exact ⟨rfl, rfl⟩
theorem kv_nodup {xs : List LP} (hs : SK xs) (hk : ∀ p ∈ xs, (61 : UInt8) ∉ p.1) : (xs.map kv).Nodup := by
  have h := nodup_keys (sk_keys hs)
  unfold List.Nodup at *
  rw [List.pairwise_map]
  refine h.imp_of_mem (fun {a b} ha hb hne e => hne ?_)
  obtain ⟨e1, e2⟩ := kv_inj (hk a ha) (hk b hb) e
  obtain ⟨a1, a2⟩ := a
  obtain ⟨b1, b2⟩ := b
  obtain rfl : a1 = b1 := e1
  obtain rfl : a2 = b2 := e2
  rfl
theorem insS_mem' {out : List L} {s x : L} (h : x ∈ insS out s) : x = s ∨ x ∈ out := by
  unfold insS at h
  split at h
  · exact .inr h
  · rcases List.mem_append.1 h with h | h
    · exact .inr (List.mem_of_mem_take h)
    · rcases List.mem_cons.1 h with h | h
      · exact .inl h
      · exact .inr (List.mem_of_mem_drop h)
theorem foldl_nodup : ∀ (l out : List L), l.Nodup → (∀ x ∈ l, x ∉ out) → (l.foldl insS out).length = out.length + l.length
  | [], out, _, _ => rfl
  | s :: l, out, h, hd => by
    obtain ⟨h1, h2⟩ := List.nodup_cons.1 h
    have hl : (insS out s).length = out.length + 1 := by
      unfold insS
      split
      · rename_i e
        exact absurd (List.mem_of_getElem? e) (hd s (by simp))
      · rw [List.length_append, List.length_cons, List.length_take, List.length_drop]; omega
    rw [List.foldl_cons, foldl_nodup l (insS out s) h2 (fun x hx hm => by
      rcases insS_mem' hm with e | e
      · exact h1 (e ▸ hx)
      · exact hd x (by simp [hx]) e), hl, List.length_cons]
    omega
theorem setL_nodup {l : List L} (h : l.Nodup) : (setL l).length = l.length := by
  have := foldl_nodup l [] h (fun x _ hm => by simp at hm)
  simpa [setL] using this
theorem setL_all {l : List L} (h : l.Nodup) : Asc (setL l) ∧ (setL l).Perm l := by
  obtain ⟨h1, _, h3⟩ := foldl_perm l [] List.Pairwise.nil
  have h4 := h3 (by have := setL_nodup h; simpa [setL] using this)
  rw [List.nil_append] at h4
  exact ⟨h1, h4⟩
theorem foldl_size_le (sg : ByteArray) : ∀ (r : List ByteArray) (a : ByteArray), a.size ≤ (r.foldl (fun a s => a ++ sg ++ s) a).size
  | [], a => Nat.le_refl _
  | s :: r, a => by
    rw [List.foldl_cons]
    refine Nat.le_trans ?_ (foldl_size_le sg r _)
    rw [ByteArray.size_append, ByteArray.size_append]; omega
theorem joinB_pos (sg v : ByteArray) (r : List ByteArray) (h : 0 < v.size) : (joinB sg (v :: r)).toList ≠ [] := by
  have h1 : v.size ≤ (joinB sg (v :: r)).size := by
    have := foldl_size_le sg r (ByteArray.empty ++ v)
    rw [ByteArray.size_append] at this
    exact Nat.le_trans (by omega) this
  intro e
  have h2 : (joinB sg (v :: r)).size = 0 := by rw [Lib.size_eq, ← ByteArray.toList_eq, e]; rfl
  omega
set_option maxHeartbeats 8000000 in
theorem Shown_calls (A : Option Addr) (c n : Nat) (ls : List (ByteArray × ByteArray)) (hn : ls.length = n) (hn2 : n ≤ 200) (hnc : n ≤ c) (hz : ∀ p ∈ ls, p.1.size ≤ 1000 ∧ p.2.size ≤ 1000) (w : World) (hC : PK.C w A n ls) :
    Calls Tryz.prog 28 #[.slice A n c] w fun e w' => e = .returned (.string (joinB ⟨#[44]⟩ ((setL ((keyL (ls.map unP)).map kv)).map mk))) ∧ Below w.heap.size w w' := by
  have HK := Aside0.mk (show Calls Tryz.prog 33 #[.slice A n c] w fun e w' => ∃ v : Value, e = .returned v ∧ PK.R 45 w' w.heap.size (fun _ => True) v ((keyL (ls.map unP)).map mkP) ∧ Below w.heap.size w w' from by
    have h := Keyed_calls A c (ls.map unP) (by rw [List.length_map, hn]; omega) w (by rw [map_un, List.length_map, hn]; exact hC) (by rw [List.length_map, hn]; exact hnc)
    rw [List.length_map, hn] at h
    exact h)
  have hxl : (keyL (ls.map unP)).length ≤ 200 := by
    have := keyL_len (ls.map unP)
    rw [List.length_map] at this
    omega
  have hxz : ∀ p ∈ keyL (ls.map unP), p.1.length ≤ 1000 ∧ p.2.length ≤ 1000 := fun p hp => by
    obtain ⟨q, hq, e⟩ := List.mem_map.1 (keyL_sub hp)
    have := hz q hq
    rw [← e]
    exact this
  generalize keyL (ls.map unP) = xs at *
  have HX := Aside0.mk (And.intro hxl hxz)
  have HSO := Aside0.mk (fun A c W (hr : Kd.C Kd.string W A xs.length ((xs.map kv).map mk)) (hc : xs.length ≤ c) => show Calls Tryz.prog 30 #[.slice A xs.length c] W fun e w' => ∃ v : Value, e = .returned v ∧ Kd.R Kd.string 9 w' W.heap.size (fun _ => True) v ((setL (xs.map kv)).map mk) ∧ Below W.heap.size W w' from by
    have h := SetOf_calls A c (xs.map kv) (by rw [List.length_map]; omega) W (by rw [List.length_map]; exact hr) (by rw [List.length_map]; exact hc)
    rw [List.length_map] at h
    exact h)
  have hsl : (setL (xs.map kv)).length ≤ 200 := by have := setL_len (xs.map kv); rw [List.length_map] at this; omega
  have hsz : ∀ p ∈ (setL (xs.map kv)).map mk, p.size ≤ 10000 := fun p hp => by
    obtain ⟨u, hu, rfl⟩ := List.mem_map.1 hp
    have hin : ∀ (l out : List L), u ∈ l.foldl insS out → u ∈ out ∨ u ∈ l := by
      intro l
      induction l with
      | nil => intro out h; exact .inl h
      | cons s l ih =>
        intro out h
        rw [List.foldl_cons] at h
        rcases ih _ h with h | h
        · rcases insS_mem' h with e | e
          · exact .inr (by simp [e])
          · exact .inl e
        · exact .inr (by simp [h])
    rcases hin _ _ hu with h | h
    · simp at h
    · obtain ⟨q, hq, rfl⟩ := List.mem_map.1 h
      have := hxz q hq
      rw [mk_size]
      simp only [kv, List.length_append, List.length_cons]; omega
  have HJ := Aside0.mk (fun A c W (hC : Kd.C Kd.string W A (setL (xs.map kv)).length ((setL (xs.map kv)).map mk)) => joined_calls ⟨#[44]⟩ (by decide) A c (setL (xs.map kv)).length ((setL (xs.map kv)).map mk) (by rw [List.length_map]) (by omega) hsz W hC)
  generalize setL (xs.map kv) = us at *
  have HB := Aside0.mk (Below.refl w.heap.size w)
  clear hC hz hxz hsz hn hnc hxl hsl
  go_enter Tryz.func28, Tryz.ntmps28
  go_wp2_with (first | ((with_reducible refine (HK.out).mono ?_); rintro e w8 ⟨v8, rfl, hr, hb⟩; have HB8 := Aside0.mk hb; (obtain ⟨AX, cX, eX⟩ := Kd.R_slice hr); rw [List.length_map] at eX; subst eX; have HX8 : Aside0 (PK.C w8 AX xs.length (xs.map mkP)) := ⟨by first | exact (Kd.R_reads' hr).2.2 | (have h9 := (Kd.R_reads' hr).2.2; rw [List.length_map] at h9; exact h9)⟩; clear hr hb HK))
  go_loopg [3, 5, 9] (xs.length) (fun g v3 v5 v9 w' => ∃ j : Nat, v9 = .int .i64 j ∧ Aside0 (g + j = xs.length) ∧ Aside0 (Kd.R Kd.string 9 w' w8.heap.size (fun _ => True) v3 (((xs.take j).map kv).map mk)) ∧ Aside0 (Below w8.heap.size w8 w'))
  case atStart => exact ⟨0, rfl, ⟨by omega⟩, ⟨Kd.R_nil _ _ _ _ _⟩, ⟨Below.refl _ _⟩⟩
  case round =>
    obtain ⟨j, rfl, HJJ, HR, HB2⟩ := hrel
    have hj : j ≤ xs.length := by have := HJJ.out; omega
    by_cases hjl : j < xs.length
    · obtain ⟨ad, eA, hk0, hk1⟩ := pk_both (Kd.C_below HX8.out HB2.out) j hjl (by rw [List.length_map]; exact hjl)
      subst eA
      obtain ⟨q, hq⟩ : ∃ q, xs[j] = q := ⟨_, rfl⟩
      rw [List.getElem_map, hq] at hk0 hk1
      obtain ⟨hq1, hq2⟩ := HX.out.2 q (by rw [← hq]; exact List.getElem_mem _)
      obtain ⟨k, t⟩ := q
      obtain ⟨sk, hsk⟩ : ∃ sk, mk k = sk := ⟨_, rfl⟩
      obtain ⟨st, hst⟩ : ∃ st, mk t = st := ⟨_, rfl⟩
      replace hk0 : wr.cell? (ad.add (j * 2)) = some (.string sk) := by rw [← hsk]; exact hk0
      replace hk1 : wr.cell? ⟨(ad.add (j * 2)).block, (ad.add (j * 2)).off + 1, none⟩ = some (.string st) := by rw [← hst]; exact hk1
      have hs1 : sk.size ≤ 1000 := by rw [← hsk, mk_size]; exact hq1
      have hs2 : st.size ≤ 1000 := by rw [← hst, mk_size]; exact hq2
      have HNEW : Aside0 (((xs.take j).map kv).map mk ++ [sk ++ ⟨#[61]⟩ ++ st] = ((xs.take (j + 1)).map kv).map mk) := ⟨by
        rw [List.take_succ_eq_append_getElem hjl, hq, List.map_append, List.map_append, kv_app, ← hsk, ← hst]
        simp [mk]⟩
      have HLEN : Aside0 ((((xs.take j).map kv).map mk).length ≤ 1000) := ⟨by rw [List.length_map, List.length_map, List.length_take]; have := HX.out.1; omega⟩
      have hbk := heap_alloc_new wr (.cells #[.string sk, .string st] 45)
      have hb3 := below_alloc HB2.out (.cells #[.string sk, .string st] 45)
      have hr3 := Kd.R_alloc HR.out (.cells #[.string sk, .string st] 45)
      obtain ⟨w1, hw1⟩ : ∃ w1, wr.alloc (.cells #[.string sk, .string st] 45) = w1 := ⟨_, rfl⟩
      rw [hw1] at hbk hb3 hr3
      have c0 : w1.cell? ⟨wr.heap.size, 0, none⟩ = some (.string sk) := (blk_cell hbk 0).trans rfl
      have c1 : w1.cell? ⟨wr.heap.size, 1, none⟩ = some (.string st) := (blk_cell hbk 1).trans rfl
      have HB3 := Aside0.mk hb3
      have HR3 := Aside0.mk hr3
      obtain ⟨z1, z2, z3⟩ := small_sum (a := sk) (b := ⟨#[61]⟩) (by have : (⟨#[61]⟩ : ByteArray).size = 1 := rfl; omega)
      obtain ⟨y1, y2, y3⟩ := small_sum (a := sk ++ ⟨#[61]⟩) (b := st) (by rw [ByteArray.size_append]; have : (⟨#[61]⟩ : ByteArray).size = 1 := rfl; omega)
      clear hq hsk hst hbk HB2 HR hq1 hq2 hj hb3 hr3
      have hxl9 := HX.out.1
      go_wp2_with (first | ((with_reducible refine gate_builtin (b := .append) (xs := #[.tmp 13, .tmp 20]) rfl ?_); (try (refine gate_guard (by rfl) ?_; dsimp only)); at_builtin; refine Kd.R_append Kd.string (w0 := w8) w8.heap.size rfl (.tmp 13) (.tmp 20) 29 9 (.string ⟨#[]⟩) 16 rfl Tryz.underlying29 infoS rfl (by decide) (by omega) u3 (((xs.take j).map kv).map mk) (sk ++ (⟨#[61]⟩ : ByteArray) ++ st) [.string (sk ++ (⟨#[61]⟩ : ByteArray) ++ st)] (fun _ => True) (fun _ => False) rfl rfl ?aP (fun _ hk => hk.elim) ?aF ?aO ?aB ?aS ?aL ?_; (case aP => exact rfl); (case aB => exact (by repeat (first | (with_reducible first | exact HB3.out | apply below_alloc | apply pw_below_drewN | apply below_drew1) | exact HB3.out))); (case aF => exact (fun _ _ => trivial)); (case aO => exact (by (with_reducible repeat (first | apply Kd.R_alloc | apply Kd.R_drewN | apply Kd.R_drew)); exact HR3.out)); (case aS => exact (below_size (by repeat (first | (with_reducible first | exact HB3.out | apply below_alloc | apply pw_below_drewN | apply below_drew1) | exact HB3.out)))); (case aL => have := HLEN.out; (try simp only [List.length_map, List.length_nil] at *); omega); intro vN wN2 ho hb hg hat; rw [HNEW.out] at ho; clear HB3; clear HR3; have HB3 := Aside0.mk hb; have HR3 := Aside0.mk ho; clear ho hb hg hat))
      go_roundg (xs.length - (j + 1))
      case measure => have := HJJ.out; omega
      case rel => exact ⟨j + 1, by go_num, ⟨by omega⟩, HR3, HB3⟩
    · have hli : j = xs.length := by omega
      subst hli
      have hro := HR.out
      rw [List.take_length] at hro
      obtain ⟨A3, c3, e3⟩ := Kd.R_slice hro
      rw [List.length_map, List.length_map] at e3
      subst e3
      have hh := (Kd.R_reads' hro).2
      rw [List.length_map, List.length_map] at hh
      have HSV := Aside0.mk (HSO.out A3 c3 wr hh.2 hh.1)
      clear hro hh HR HSO
      go_wp2_with (first
        | ((with_reducible refine (HSV.out).mono ?_); rintro e w9 ⟨v9, rfl, hr, hb⟩; have HB9 := Aside0.mk (below_step HB8.out (below_step HB2.out hb)); (obtain ⟨AY, cY, eY⟩ := Kd.R_slice hr); rw [List.length_map] at eY; subst eY; have HJV := Aside0.mk (HJ.out AY cY w9 (by first | exact (Kd.R_reads' hr).2.2 | (have h9 := (Kd.R_reads' hr).2.2; rw [List.length_map] at h9; exact h9))); clear hr hb HSV HJ)
        | ((with_reducible refine (HJV.out).mono ?_); rintro e w10 ⟨rfl, rfl⟩))
      go_ret
      exact ⟨rfl, HB9.out⟩
set_option maxHeartbeats 16000000 in
theorem LT_calls (A : Option Addr) (c n : Nat) (ls : List (ByteArray × ByteArray)) (hn : ls.length = n) (hnc : n ≤ c) (w : World) (hP : PK.C w A n ls) (hT : TV w) :
    Calls Tryz.prog 7 #[.slice A n c] w fun e w' => e = .returned (.bool true) ∧ Below w.heap.size w w' := by
  have HP := Aside0.mk hP
  have HL := Aside0.mk hn
  have HBA := Aside0.mk (Below.refl w.heap.size w)
  have HF1 := Aside0.mk (fun (W : World) (hb : Below w.heap.size w W) => Fits1_calls A c n ls hn W (Kd.C_below hP hb))
  have HSE := Aside0.mk (fun (W : World) (hb : Below w.heap.size w W) => epSel_calls W (hT.below hb))
  clear hP hT hn
  cases hf1 : fits1 ls
  · rw [hf1] at HF1
    clear hf1
    go_enter Tryz.func7, Tryz.ntmps7
    go_wp2_with (first | ((with_reducible refine (HF1.out _ HBA.out).mono ?_); rintro e w1 ⟨rfl, hb⟩; have HB1 := Aside0.mk (below_step HBA.out hb); clear hb HF1))
    go_ret
    exact ⟨rfl, HB1.out⟩
  rw [hf1] at HF1
  obtain ⟨hm1, hz1⟩ := fits1_t hf1
  rw [HL.out] at hm1
  clear hf1
  have HEP := Aside0.mk (fun (b : Nat) (W : World) (hb : Below w.heap.size w W) (hk : W.cell? ⟨b, 0, none⟩ = some (.slice A n c)) => epPairs_calls b 1 1 (fun _ => A) (fun _ => n) (fun _ => c) (fun _ => ls) W (by omega) (fun _ _ => HL.out) (fun _ _ => hm1) (fun i hi => by have h0 : i = 0 := (by omega); subst h0; exact hk) (fun _ _ => Kd.C_below HP.out hb))
  rw [show ((List.range 1).all fun _ => pairsOk ls) = pairsOk ls from by simp [List.range_succ]] at HEP
  cases hep : pairsOk ls
  · rw [hep] at HEP
    clear hep hz1 hm1
    go_enter Tryz.func7, Tryz.ntmps7
    go_wp2_with (first | ((with_reducible refine (HF1.out _ HBA.out).mono ?_); rintro e w1 ⟨rfl, hb⟩; have HB1 := Aside0.mk (below_step HBA.out hb); have hbk6 := heap_alloc_new w1 (.cells #[.slice A n c] 22); have HS6 := Aside0.mk ((blk_cell hbk6 0).trans (show _ = some (Value.slice A n c) from rfl)); have HB6 := Aside0.mk (below_alloc HB1.out (.cells #[.slice A n c] 22)); clear hb HF1 hbk6) | ((with_reducible refine (HEP.out _ _ HB6.out HS6.out).mono ?_); rintro e w7 ⟨rfl, hb⟩; have HB7 := Aside0.mk (below_step HB6.out hb); clear hb HEP))
    go_ret
    exact ⟨rfl, HB7.out⟩
  rw [hep] at HEP
  obtain ⟨hl1, hs1⟩ := pairsOk_t hep
  rw [HL.out] at hl1
  have HSZ := Aside0.mk (And.intro hl1 hs1)
  clear hep hz1 hm1 hs1
  go_enter Tryz.func7, Tryz.ntmps7
  go_wp2_with (first | ((with_reducible refine (HF1.out _ HBA.out).mono ?_); rintro e w1 ⟨rfl, hb⟩; have HB1 := Aside0.mk (below_step HBA.out hb); have hbk6 := heap_alloc_new w1 (.cells #[.slice A n c] 22); have HS6 := Aside0.mk ((blk_cell hbk6 0).trans (show _ = some (Value.slice A n c) from rfl)); have HB6 := Aside0.mk (below_alloc HB1.out (.cells #[.slice A n c] 22)); clear hb HF1 hbk6) | ((with_reducible refine (HEP.out _ _ HB6.out HS6.out).mono ?_); rintro e w7 ⟨rfl, hb⟩; have HB7 := Aside0.mk (below_step HB6.out hb); clear hb HEP))
  go_loopg [4, 17] (n) (fun g v4 v17 w' => ∃ j : Nat, v17 = .int .i64 j ∧ Aside0 (g + j = n) ∧ Aside0 (∀ p ∈ ls.take j, (61 : UInt8) ∉ p.1.data.toList) ∧ Aside0 (Below w.heap.size w w'))
  case atStart => exact ⟨0, rfl, ⟨by omega⟩, ⟨fun p hp => by simp at hp⟩, HB7⟩
  case round =>
    clear HB7
    obtain ⟨j, rfl, HJ, HK, HB⟩ := hrel
    have hj : j ≤ n := by have := HJ.out; omega
    by_cases hjl : j < n
    · have hjl2 : j < ls.length := by rw [HL.out]; exact hjl
      obtain ⟨ad, eA, hk0, hk1⟩ := pk_both (Kd.C_below HP.out HB.out) j hjl hjl2
      subst eA
      obtain ⟨q, hq⟩ : ∃ q, ls[j] = q := ⟨_, rfl⟩
      rw [hq] at hk0 hk1
      have hqs := (HSZ.out.2 q (by rw [← hq]; exact List.getElem_mem _)).1
      have HTK : Aside0 (ls.take (j + 1) = ls.take j ++ [q]) := ⟨by rw [List.take_succ_eq_append_getElem hjl2, hq]⟩
      obtain ⟨sk, st⟩ := q
      replace hk0 : wr.cell? (ad.add (j * 2)) = some (.string sk) := hk0
      replace hk1 : wr.cell? ⟨(ad.add (j * 2)).block, (ad.add (j * 2)).off + 1, none⟩ = some (.string st) := hk1
      have hbk := heap_alloc_new wr (.cells #[.string sk, .string st] 45)
      have c0 : (wr.alloc (.cells #[.string sk, .string st] 45)).cell? ⟨wr.heap.size, 0, none⟩ = some (.string sk) := (blk_cell hbk 0).trans rfl
      have HB3 := Aside0.mk (below_alloc HB.out (.cells #[.string sk, .string st] 45))
      have HPC := Aside0.mk (Pieces_calls 61 sk (by have h9 : sk.size ≤ 100 := hqs; omega) (wr.alloc (.cells #[.string sk, .string st] 45)))
      rw [show (((61 : UInt8).toNat : Nat) : Int) = 61 from rfl] at HPC
      have HP2 : Aside0 ((pieces 61 sk.data.toList).length ≤ 1 → (61 : UInt8) ∉ sk.data.toList) := ⟨fun hle hm => by have := pieces_two hm; omega⟩
      generalize pieces 61 sk.data.toList = P at *
      clear hq hbk HB hqs
      by_cases hpl : P.length ≤ 1
      · have b0 : decide ((1 : Int) < ((P.length : Nat) : Int)) = false := decide_eq_false (by omega)
        have b1 : decide (1 < P.length) = false := decide_eq_false (by omega)
        have HK2 : Aside0 (∀ p ∈ ls.take (j + 1), (61 : UInt8) ∉ p.1.data.toList) := ⟨fun p hp => by
          rw [HTK.out] at hp
          rcases List.mem_append.1 hp with h | h
          · exact HK.out p h
          · rw [List.mem_singleton.1 h]; exact HP2.out hpl⟩
        clear HTK HP2 HK
        go_wp2_with (first | ((with_reducible refine (HPC.out).mono ?_); rintro e w2 ⟨v2, rfl, hr, hb⟩; have HB4 := Aside0.mk (below_step HB3.out hb); (obtain ⟨AP, cP, eP⟩ := Kd.R_slice hr); rw [List.length_map] at eP; subst eP; clear hr hb HPC))
        go_roundg (n - (j + 1))
        case measure => have := HJ.out; omega
        case rel => exact ⟨j + 1, by go_num, ⟨by omega⟩, HK2, HB4⟩
      · have b0 : decide ((1 : Int) < ((P.length : Nat) : Int)) = true := decide_eq_true (by omega)
        have b1 : decide (1 < P.length) = true := decide_eq_true (by omega)
        clear HTK HP2 HK
        go_wp2_with (first | ((with_reducible refine (HPC.out).mono ?_); rintro e w2 ⟨v2, rfl, hr, hb⟩; have HB4 := Aside0.mk (below_step HB3.out hb); (obtain ⟨AP, cP, eP⟩ := Kd.R_slice hr); rw [List.length_map] at eP; subst eP; clear hr hb HPC))
        go_ret
        exact ⟨rfl, HB4.out⟩
    · have hje : j = n := by omega
      subst hje
      have hkk := HK.out
      rw [List.take_of_length_le (by rw [HL.out]; exact Nat.le_refl _)] at hkk
      have hsk : SK (keyL (ls.map unP)) := (keyL_mem _).1
      have hnk : ∀ p ∈ keyL (ls.map unP), (61 : UInt8) ∉ p.1 := fun p hp => by
        obtain ⟨q, hq, e⟩ := List.mem_map.1 (keyL_sub hp)
        rw [← e]
        exact hkk q hq
      obtain ⟨hT1, hT2⟩ := setL_all (kv_nodup hsk hnk)
      have hz2 : ∀ p ∈ ls, p.1.size ≤ 1000 ∧ p.2.size ≤ 1000 := fun p hp => by have := HSZ.out.2 p hp; omega
      have HSH := Aside0.mk (fun (W : World) (hb : Below w.heap.size w W) => Shown_calls A c j ls HL.out (by have := HSZ.out.1; omega) hnc hz2 W (Kd.C_below HP.out hb))
      have HIT := Aside0.mk (fun (W : World) (hb : Below w.heap.size w W) => show Calls Tryz.prog 29 #[.slice A j c] W fun e w' => e = .returned (.tuple #[.string (joinB ⟨#[44]⟩ ((setL ((keyL (ls.map unP)).map kv)).map mk)), .string (fmtB (joinB ⟨#[44]⟩ ((setL ((keyL (ls.map unP)).map kv)).map mk)))]) ∧ Below W.heap.size W w' from by
        have h := IText_calls A c ls (by rw [HL.out]; have := HSZ.out.1; omega) hz2 _ hT1 hT2 W (by rw [HL.out]; exact Kd.C_below HP.out hb)
        rw [HL.out] at h
        exact h)
      by_cases h0 : j = 0
      · subst h0
        have hle : ls = [] := List.eq_nil_of_length_eq_zero HL.out
        subst hle
        rw [show joinB ⟨#[44]⟩ ((setL ((keyL (([] : List (ByteArray × ByteArray)).map unP)).map kv)).map mk) = ⟨#[]⟩ from rfl] at HIT HSH
        rw [show fmtB ⟨#[]⟩ = ⟨#[60, 110, 111, 110, 101, 62]⟩ from if_pos (mk_toList [])] at HIT
        clear hkk hsk hnk hT1 hT2 hz2 HK
        go_wp2_with (first
          | ((with_reducible refine (HSH.out _ HB.out).mono ?_); rintro e w2 ⟨rfl, hb⟩; have HB2 := Aside0.mk (below_step HB.out hb); clear hb HSH)
          | ((with_reducible refine (HIT.out _ HB2.out).mono ?_); rintro e w3 ⟨rfl, hb⟩; have HB3 := Aside0.mk (below_step HB2.out hb); clear hb HIT))
        go_ret
        exact ⟨by first | rfl | simp | decide, HB3.out⟩
      · have hJ : (joinB ⟨#[44]⟩ ((setL ((keyL (ls.map unP)).map kv)).map mk)).toList ≠ [] := by
          have hlen : 0 < (setL ((keyL (ls.map unP)).map kv)).length := by
            rw [hT2.length_eq, List.length_map]
            rcases Nat.eq_zero_or_pos (keyL (ls.map unP)).length with h | h
            · exfalso
              have hke := List.eq_nil_of_length_eq_zero h
              obtain ⟨p, hp⟩ : ∃ p, ls[0]? = some p := ⟨_, List.getElem?_eq_getElem (by rw [HL.out]; omega)⟩
              have hm : unP p ∈ ls.map unP := List.mem_map_of_mem (List.mem_of_getElem? hp)
              obtain ⟨v, hv⟩ : ∃ v, mget (ls.map unP).reverse (unP p).1 = some v := by
                unfold mget
                cases hf : (ls.map unP).reverse.find? (fun q => q.1 == (unP p).1) with
                | some q => exact ⟨q.2, by simp⟩
                | none =>
                  have := List.find?_eq_none.1 hf (unP p) (List.mem_reverse.2 hm)
                  simp at this
              have := ((keyL_mem (ls.map unP)).2 _ _).2 hv
              rw [hke] at this
              simp at this
            · exact h
          cases hs : setL ((keyL (ls.map unP)).map kv) with
          | nil => rw [hs] at hlen; simp at hlen
          | cons u r =>
            have hu : u ∈ (keyL (ls.map unP)).map kv := hT2.mem_iff.1 (by rw [hs]; simp)
            obtain ⟨q, _, rfl⟩ := List.mem_map.1 hu
            rw [List.map_cons]
            refine joinB_pos _ _ _ ?_
            rw [mk_size]
            simp only [kv, List.length_append, List.length_cons]; omega
        have hF : fmtB (joinB ⟨#[44]⟩ ((setL ((keyL (ls.map unP)).map kv)).map mk)) = joinB ⟨#[44]⟩ ((setL ((keyL (ls.map unP)).map kv)).map mk) := if_neg hJ
        rw [hF] at HIT
        clear hF hJ hkk hsk hnk hT1 hT2 hz2 HK
        generalize joinB ⟨#[44]⟩ ((setL ((keyL (ls.map unP)).map kv)).map mk) = J at *
        have b0 : (((j : Nat) : Int) == 0) = false := by rw [beq_eq_false_iff_ne]; omega
        have b1 : (j == 0) = false := by rw [beq_eq_false_iff_ne]; omega
        have bJ : (J.toList == J.toList) = true := by simp
        go_wp2_with (first
          | ((with_reducible refine (HSH.out _ HB.out).mono ?_); rintro e w2 ⟨rfl, hb⟩; have HB2 := Aside0.mk (below_step HB.out hb); clear hb HSH)
          | ((with_reducible refine (HIT.out _ HB2.out).mono ?_); rintro e w3 ⟨rfl, hb⟩; have HB3 := Aside0.mk (below_step HB2.out hb); clear hb HIT)
          | ((with_reducible refine (HSE.out _ HB3.out).mono ?_); rintro e w4 ⟨rfl, hb⟩; have HB4 := Aside0.mk (below_step HB3.out hb); clear hb HSE))
        go_ret
        exact ⟨rfl, HB4.out⟩
end Go.Proofs.YteigfmchnblkgaaGreatDoor.Hand
