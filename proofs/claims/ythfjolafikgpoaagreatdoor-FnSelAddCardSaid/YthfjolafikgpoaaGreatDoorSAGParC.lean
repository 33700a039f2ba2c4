/- The parser of selectors: all requirements. -/
import Derived.Test.YthfjolafikgpoaaGreatDoorSAGParB
import Derived.Shelf.GgSortMore.SortSort
namespace Go.Proofs.YthfjolafikgpoaaGreatDoor.Hand
open Go.RowKit Go.Maps Go.Proofs.YthfjolafikgpoaaGreatDoorW.PrintWords Go.Proofs.YthfjolafikgpoaaGreatDoorW.PrintLast Go.Proofs.YthfjolafikgpoaaGreatDoorW.PrintMore Go.Proofs.YthfjolafikgpoaaGreatDoor.Base
set_option linter.unusedVariables false
set_option linter.unusedSimpArgs false
set_option maxRecDepth 100000
theorem infoRQ : (Tryz.prog.info? 88).map (fun i => (i.zero, i.size, i.bytes)) = some (some (.agg #[.string ⟨#[]⟩, .string ⟨#[]⟩, .slice none 0 0]), 3, 56) := by kernel_rfl
abbrev KQ : Kd (ByteArray × ByteArray × List ByteArray) := Kd.pair Kd.string (Kd.pair Kd.string (Kd.slice 9 Kd.string))
abbrev rqV (l : List Rq) : List (ByteArray × ByteArray × List ByteArray) := l.map fun r => (mk r.1, mk r.2.1, r.2.2.map mk)
theorem pVals_next {T ts' : List Tk} {p : Nat} {ks : List L} (hE : EndsT T) (h : pVals (T.drop p) = some (ks, ts')) : ts' ≠ [] := by
 cases e : T.drop p with
 | nil => rw [e] at h; cases h
 | cons t ts =>
   obtain ⟨k1, s1⟩ := t
   rw [e] at h
   unfold pVals at h
   simp only at h
   split at h
   · cases ts with
     | nil => cases h
     | cons t2 ts2 =>
       obtain ⟨k2, s2⟩ := t2
       have e1 := drop_one e
       simp only at h
       split at h
       · split at h
         · rename_i ks k3 s3 ts3 e2
           split at h
           · rename_i h3
             simp only [Option.some.injEq, Prod.mk.injEq] at h
             obtain ⟨q, _, q1⟩ := pIds_tail _ _ _ _ _ e2
             rw [← e1, List.drop_drop] at q1
             rw [← h.2]
             intro e3
             rw [e3] at q1
             have := hE _ _ _ q1.symm
             subst this; exact absurd h3 (by decide)
           · cases h
         · cases h
       · split at h
         · rename_i h2
           simp only [Option.some.injEq, Prod.mk.injEq] at h
           rw [← h.2]
           intro e3
           rw [e3] at e1
           have := hE _ _ _ e1
           subst this; exact absurd h2 (by decide)
         · cases h
   · cases h
theorem pOne_next {T ts' : List Tk} {p : Nat} {ks : List L} (hE : EndsT T) (h : pOne (T.drop p) = some (ks, ts')) : ts' ≠ [] := by
 cases e : T.drop p with
 | nil => rw [e] at h; cases h
 | cons t ts =>
   obtain ⟨k1, s1⟩ := t
   rw [e] at h
   unfold pOne at h
   simp only at h
   split at h
   · simp only [Option.some.injEq, Prod.mk.injEq] at h
     rw [← h.2]; simp
   · split at h
     · rename_i h8
       simp only [Option.some.injEq, Prod.mk.injEq] at h
       rw [← h.2]
       intro e3
       rw [e3] at e
       have := hE _ _ _ e
       subst this; exact absurd h8 (by decide)
     · cases h
theorem pReq_next {T ts' : List Tk} {p : Nat} {r : Rq} (hE : EndsT T) (hz : ∀ t ∈ T, t.2.length ≤ 1000000) (h : pReq (T.drop p) = some (r, ts')) : ts' ≠ [] := by
 unfold pReq at h
 split at h
 · cases h
 · rename_i key op ts1 e1
   have hn := (pKey_next hE hz e1).1
   obtain ⟨p1, _, q1⟩ := pKey_tail e1
   split at h
   · split at h
     · cases h
     · rename_i op2 ts2 e2
       obtain ⟨p2, _, q2⟩ := pOp_tail e2
       rw [q1, List.drop_drop, List.drop_drop] at q2
       split at h
       · cases h
       · rename_i ks ts3 e3
         have q3 : ts3 ≠ [] := by
          rw [q2] at e3
          split at e3
          · exact pVals_next hE e3
          · exact pOne_next hE e3
         split at h
         · simp only [Option.some.injEq, Prod.mk.injEq] at h
           rw [← h.2]; exact q3
         · cases h
   · split at h
     · simp only [Option.some.injEq, Prod.mk.injEq] at h
       rw [← h.2]; exact hn
     · cases h
def SelP (R : Option (List Rq)) (w0 : World) (e : Ending) (w' : World) : Prop := match R with
 | some l => ∃ v, e = .returned (.tuple #[v, .nilIface]) ∧ KQ.R 88 w' w0.heap.size (fun _ => True) v (rqV l)
 | none => ∃ v, e = .returned (.tuple #[.slice none 0 0, v]) ∧ IsErr v
theorem SelP.some' {l : List Rq} {R : Option (List Rq)} {w0 w' : World} {v : Value} {ok : Nat → Prop} (hr : R = some l) (h : KQ.R 88 w' w0.heap.size ok v (rqV l)) : SelP R w0 (.returned (.tuple #[v, .nilIface])) w' := by
 subst hr; exact ⟨v, rfl, Kd.R_mono h (fun _ _ => trivial)⟩
theorem SelP.none' {R : Option (List Rq)} {w0 w' : World} {v : Value} (hr : R = none) (h : IsErr v) : SelP R w0 (.returned (.tuple #[.slice none 0 0, v])) w' := by
 subst hr; exact ⟨v, rfl, h⟩
theorem PX.grownR {w w' : World} {pb g p base : Nat} {T : List Tk} {ok : Nat → Prop} {v : Value} {xs : List (ByteArray × ByteArray × List ByteArray)} (h : PX w pb g T p) (hR : KQ.R 88 w base ok v xs) (hg : w.grownBy w' v.ownBlock) : PX w' pb g T p := by
 obtain ⟨A, c, h1, h2⟩ := h
 obtain ⟨inner, ho⟩ := Kd.R_own hR
 refine ⟨A, c, (hg.block pb (blk_lt h1) (Kd.R_ne hR h1 (by decide))).trans h1, Kd.R_mono (Kd.R_grown (Kd.R_bound h2) hg (fun k hk e => ?_)) (fun k hk => hk.1)⟩
 obtain ⟨_, _, _, q, hq, cells, hc⟩ := hk
 obtain ⟨cells2, hc2⟩ := own_typed ho k e.symm
 rw [hc] at hc2
 simp only [Option.some.injEq, Obj.cells.injEq] at hc2
 simp [KT, Kd.pair, Kd.int, Kd.string, Kd.scalar] at hq
 exact absurd (hq.symm.trans hc2.2.1) (by decide)
theorem rq_elem {W : World} {B base : Nat} {r : Rq} {A : Option Addr} {c : Nat} (hb : base ≤ B) (h : Kd.R Kd.string 9 W B (fun _ => True) (.slice A r.2.2.length c) (r.2.2.map mk)) :
   KQ.M W base (fun k => B ≤ k) (mk r.1, mk r.2.1, r.2.2.map mk) [.string (mk r.1), .string (mk r.2.1), .slice A r.2.2.length c] :=
 ⟨[_], [_, _], rfl, rfl, ⟨[_], [_], rfl, rfl, ⟨_, rfl, Kd.R_lower (Kd.R_mono (Kd.R_bound h) (fun k hk => hk.2.1)) hb⟩⟩⟩
theorem rq_cells {w : World} {b B : Nat} {r : Rq} (h : RqAt w b B r) : ∃ (A : Option Addr) (c : Nat), w.cell? ⟨b, 0, none⟩ = some (.string (mk r.1)) ∧ w.cell? ⟨b, 1, none⟩ = some (.string (mk r.2.1)) ∧ w.cell? ⟨b, 2, none⟩ = some (.slice A r.2.2.length c) ∧ Kd.R Kd.string 9 w B (fun _ => True) (.slice A r.2.2.length c) (r.2.2.map mk) := by
 obtain ⟨A, c, h1, h2⟩ := h
 exact ⟨A, c, (blk_cell h1 0).trans rfl, (blk_cell h1 1).trans rfl, (blk_cell h1 2).trans rfl, h2⟩
structure LS (w0 w W : World) (pb g : Nat) (T : List Tk) (q : Nat) (v : Value) (acc : List Rq) : Prop where
 px : PX W pb g T q
 be : Below w0.heap.size w0 W
 sz : w.heap.size ≤ W.heap.size
 rw : KQ.R 88 W w0.heap.size (fun k => w.heap.size ≤ k) v (rqV acc)
theorem LS.move {w0 w W W' : World} {pb g q q' : Nat} {T : List Tk} {v : Value} {acc : List Rq} (h : LS w0 w W pb g T q v acc) (h1 : w0.heap.size ≤ pb) (h2 : pb < w.heap.size) (hp : PX W' pb g T q') (hk : Kb W W' pb) : LS w0 w W' pb g T q' v acc :=
 ⟨hp, h.be.trans (hk.below h1 h.be.size), Nat.le_trans h.sz hk.size, Kd.R_keep h.rw hk.ke (fun k hk => by omega)⟩
theorem LS.below {w0 w W W' : World} {pb g q : Nat} {T : List Tk} {v : Value} {acc : List Rq} (h : LS w0 w W pb g T q v acc) (hb : Below W.heap.size W W') : LS w0 w W' pb g T q v acc :=
 ⟨h.px.below hb, h.be.trans (hb.mono h.be.size), Nat.le_trans h.sz hb.size, Kd.R_below h.rw hb⟩
theorem LS.app {w0 w W W' : World} {pb g q : Nat} {T : List Tk} {v v' : Value} {acc acc' : List Rq} (h : LS w0 w W pb g T q v acc) (hR : KQ.R 88 W' w0.heap.size (fun k => w.heap.size ≤ k) v' (rqV acc')) (hb : Below w0.heap.size w0 W') (hg : W.grownBy W' v.ownBlock) : LS w0 w W' pb g T q v' acc' :=
 ⟨h.px.grownR h.rw hg, hb, Nat.le_trans h.sz hg.size, hR⟩
theorem scan_size {w w1 : World} {B n c : Nat} {A : Option Addr} {xs : List (Int × ByteArray)} (hR : KT.R 203 w1 B (fun k => w.heap.size ≤ k) (.slice A n c) xs) (hx : xs ≠ []) : w.heap.size ≤ w1.heap.size := by
 obtain ⟨A', c', e, hl, hC⟩ := Kd.R_reads hR
 obtain ⟨ad, rfl, _⟩ := kt_at hC 0 (List.length_pos_iff.2 hx)
 simp only [Value.slice.injEq] at e
 obtain ⟨rfl, _, rfl⟩ := e
 obtain ⟨h1, h2, h3, _⟩ := (Kd.R_bound hR).1 ad.block rfl
 omega
theorem map_app {o : Option (List Rq)} {acc : List Rq} {r : Rq} : (o.map (r :: ·)).map (acc ++ ·) = o.map ((acc ++ [r]) ++ ·) := by
 cases o with
 | none => rfl
 | some l => simp
set_option maxHeartbeats 16000000 in
theorem parse_calls (x : L) (hx : x.length ≤ 1000000) (h0 : ∀ b ∈ x, b ≠ 0) (g pb : Nat) (T : List Tk) (hTx : tokensL x = T) (hT : T.length ≤ 900) (hT0 : T ≠ []) (hE : EndsT T) (hz : ∀ t ∈ T, t.2.length ≤ 1000000) (w0 w : World) (h : LX w0 w w g x 0) (hp : w.heap[pb]? = some (.cells #[.pointer (some ⟨g, 0, none⟩), .slice none 0 0, .int .i64 0] 154 (0, 0))) (hb : w0.heap.size ≤ pb) (hne : pb ≠ g) (hV : TV w0) :
   Calls Tryz.prog 99 #[.pointer (some ⟨pb, 0, none⟩)] w fun e w' => SelP (pAll T.length T) w0 e w' ∧ Below w0.heap.size w0 w' := by
 have HSC := Aside0.mk (scan_calls x hx h0 g pb w0 w h hp hb hne)
 rw [hTx] at HSC
 have HN := Aside0.mk ENew_calls
 have hpl : pb < w.heap.size := blk_lt hp
 have hlx : w0.heap.size ≤ w.heap.size := h.be.size
 obtain ⟨R, hR⟩ : ∃ R, pAll T.length T = R := ⟨_, rfl⟩
 rw [hR]
 have HR := Aside0.mk hR
 have HT0 := Aside0.mk hT0
 have HE := Aside0.mk hE
 have HZ := Aside0.mk hz
 have HV := Aside0.mk hV
 have HRQ := Aside0.mk (fun (q k : Nat) (s : L) (ts : List Tk) (ht : T.drop q = (k, s) :: ts) (W : World) (h : PX W pb g T q) (hb0 : Below w0.heap.size w0 W) => req_calls pb g q T ts k s hT hE hz ht w0 W h hV hb0 hb)
 have HTV0 : Aside0 (toksV T ≠ []) := ⟨by intro e; exact hT0 (List.map_eq_nil_iff.1 e)⟩
 have HT9 := Aside0.mk hT
 obtain ⟨n, hn⟩ : ∃ n, T.length = n := ⟨_, rfl⟩
 have HNN := Aside0.mk hn
 have hn9 : n ≤ 900 := by omega
 clear hR hT0 hE hz hV h hp h0 hTx hT
 go_enter Tryz.func99, Tryz.ntmps99
 go_upto_region 3 with (first | ((with_reducible refine (HSC.out).mono ?_); rintro e w1 ⟨rfl, v, hpb, hR, hb1⟩; obtain ⟨AT, cT, hv_⟩ := Kd.R_slice hR; rw [List.length_map] at hv_; subst hv_; have hsz1 := scan_size hR HTV0.out; have HS1 : Aside0 (LS w0 w w1 pb g T 0 (.slice none 0 0) []) := ⟨⟨⟨AT, cT, hpb, Kd.R_lower (Kd.R_mono hR (fun k hk => by omega)) (Nat.zero_le _)⟩, hb1, hsz1, Kd.R_nil _ _ _ _ _⟩⟩; clear hpb hR hb1 hsz1 HSC))
 go_loopg [4] (n) (fun k s4 w' => ∃ (q : Nat) (acc : List Rq) (v4 : Value), v4 = s4 ∧ Aside0 ((pAll k (T.drop q)).map (acc ++ ·) = R) ∧ Aside0 ((T.drop q).length ≤ k ∧ acc.length + k ≤ 900 ∧ T.drop q ≠ []) ∧ Aside0 (LS w0 w w' pb g T q v4 acc))
 case atStart => exact ⟨0, [], _, rfl, ⟨by rw [← HR.out, List.drop_zero, HNN.out]; cases pAll n T <;> rfl⟩, ⟨by rw [List.drop_zero, HNN.out]; exact Nat.le_refl _, by simpa using hn9, by rw [List.drop_zero]; exact HT0.out⟩, HS1⟩
 case round =>
  obtain ⟨q, acc, v4, rfl, HRA, HQ, HS⟩ := hrel
  clear HS1 HR HNN HT0
  obtain ⟨k1, s1, ts1, ht1⟩ : ∃ k1 s1 ts1, T.drop q = (k1, s1) :: ts1 := by
   cases e : T.drop q with
   | nil => exact absurd e HQ.out.2.2
   | cons t ts => exact ⟨t.1, t.2, ts, rfl⟩
  obtain ⟨m, rfl⟩ : ∃ m, gk = m + 1 := ⟨gk - 1, by have := HQ.out.1; rw [ht1] at this; simp at this; omega⟩
  have hlen : ts1.length ≤ m := by have := HQ.out.1; rw [ht1] at this; simpa using this
  have hac : acc.length + m ≤ 899 := by have := HQ.out.2.1; omega
  have hra := HRA.out
  rw [ht1] at hra
  unfold pAll at hra
  rw [← ht1] at hra
  clear HRA HQ
  have HL := Aside0.mk (fun (W : World) (h : PX W pb g T q) => look_calls pb g q T ts1 k1 s1 (by have := HT9.out; omega) ht1 W h)
  have HRQ1 := Aside0.mk (HRQ.out q k1 s1 ts1 ht1)
  by_cases h84 : vk k1 = 8 ∨ vk k1 = 4
  · rw [if_pos h84, ht1] at hra
    rw [← ht1] at hra
    cases hrq : pReq (T.drop q) with
    | none =>
      rw [hrq] at hra HRQ1
      have HR : Aside0 (R = none) := ⟨hra.symm⟩
      rcases h84 with h8 | h4
      · rw [h8] at HL
        clear h8 hra hrq ht1 hlen
        go_wp2_with (first | ((with_reducible refine (HL.out _ HS.out.px).mono ?_); rintro e w2 ⟨rfl, hb⟩; have HS2 := Aside0.mk (HS.out.below hb); clear hb HL) | ((with_reducible refine (HRQ1.out _ HS2.out.px HS2.out.be).mono ?_); rintro e w3 ⟨⟨v, rfl, gv, rfl⟩, hk⟩; have HB3 := Aside0.mk (HS2.out.be.trans (hk.below hb HS2.out.be.size)); clear hk HRQ1) | ((with_reducible refine (HN.out _ _).mono ?_); rintro e w9 ⟨rfl, hb⟩; have HB9 := Aside0.mk (below_step HB3.out hb); clear hb))
        go_ret2
        exact ⟨SelP.none' HR.out ⟨_, rfl⟩, HB9.out⟩
      · rw [h4] at HL
        clear h4 hra hrq ht1 hlen
        go_wp2_with (first | ((with_reducible refine (HL.out _ HS.out.px).mono ?_); rintro e w2 ⟨rfl, hb⟩; have HS2 := Aside0.mk (HS.out.below hb); clear hb HL) | ((with_reducible refine (HRQ1.out _ HS2.out.px HS2.out.be).mono ?_); rintro e w3 ⟨⟨v, rfl, gv, rfl⟩, hk⟩; have HB3 := Aside0.mk (HS2.out.be.trans (hk.below hb HS2.out.be.size)); clear hk HRQ1) | ((with_reducible refine (HN.out _ _).mono ?_); rintro e w9 ⟨rfl, hb⟩; have HB9 := Aside0.mk (below_step HB3.out hb); clear hb))
        go_ret2
        exact ⟨SelP.none' HR.out ⟨_, rfl⟩, HB9.out⟩
    | some r2 =>
      obtain ⟨r, ts'⟩ := r2
      have hnx := pReq_next HE.out HZ.out hrq
      obtain ⟨k2, s2, ts2, rfl⟩ : ∃ k2 s2 ts2, ts' = (k2, s2) :: ts2 := by
       cases ts' with
       | nil => exact absurd rfl hnx
       | cons a l => exact ⟨a.1, a.2, l, rfl⟩
      obtain ⟨pq, hpq, hdq⟩ := pReq_tail hrq
      rw [List.drop_drop] at hdq
      rw [hrq] at hra HRQ1
      simp only at hra
      have HC := Aside0.mk (fun (q2 : Nat) (hd : (k2, s2) :: ts2 = T.drop q2) (W : World) (h : PX W pb g T q2) => cons1_calls pb g q2 T ts2 k2 s2 (by have := HT9.out; omega) hd.symm W h)
      by_cases h1 : vk k2 = 1
      · rw [if_pos h1] at hra
        rw [h1] at HC
        have HR : Aside0 (R = some (acc ++ [r])) := ⟨hra.symm⟩
        rcases h84 with h8 | h4
        · rw [h8] at HL
          clear h8 hra hrq ht1 hlen h1 hdq hnx
          go_wp2_with (first | ((with_reducible refine (HL.out _ HS.out.px).mono ?_); rintro e w2 ⟨rfl, hb⟩; have HS2 := Aside0.mk (HS.out.below hb); clear hb HL) | ((with_reducible refine (HRQ1.out _ HS2.out.px HS2.out.be).mono ?_); rintro e w3 ⟨⟨b, q2, rfl, hd, hp, hbb, hat⟩, hk⟩; have HS3 := Aside0.mk (HS2.out.move hb hpl hp hk); have HD := Aside0.mk hd; obtain ⟨A3, c3, i0, i1, i2, hvr⟩ := rq_cells hat; have HVR := Aside0.mk hvr; have HLV := Aside0.mk (fun k (e : v4.ownBlock = some k) => own_lt (Kd.R_own HS2.out.rw).choose_spec k e); have HB2 : Aside0 (w.heap.size ≤ w2.heap.size ∧ w0.heap.size ≤ w2.heap.size) := ⟨HS2.out.sz, HS2.out.be.size⟩; clear hp hk hd hbb hat hvr HRQ1) | ((with_reducible refine gate_builtin (b := .append) (xs := #[.tmp 33, .tmp 37]) rfl ?_); (try (refine gate_guard (by rfl) ?_; dsimp only)); at_builtin; refine Kd.R_append KQ (w0 := w0) (w0.heap.size) rfl (.tmp 33) (.tmp 37) 121 88 (.agg #[.string ⟨#[]⟩, .string ⟨#[]⟩, .slice none 0 0]) 56 rfl Tryz.underlying121 infoRQ rfl (by decide) (by decide) v4 (rqV acc) (mk r.1, mk r.2.1, r.2.2.map mk) [.string (mk r.1), .string (mk r.2.1), .slice A3 r.2.2.length c3] (fun k => w.heap.size ≤ k) (fun k => w2.heap.size ≤ k) rfl (by first | rfl | (simp [Act.eval]; done)) ?aP ?aK ?aF ?aO ?aB ?aS ?aL ?_; (case aP => exact rq_elem HB2.out.2 HVR.out); (case aK => exact fun k hk => ⟨Nat.le_trans HB2.out.1 hk, fun e => by have := HLV.out k e.symm; omega⟩); (case aF => exact fun k hk => Nat.le_trans HS3.out.sz hk); (case aO => exact HS3.out.rw); (case aB => exact HS3.out.be); (case aS => exact HS3.out.be.size); (case aL => (simp only [List.length_map]; omega)); intro vN wN ho hb hg hat; rw [show rqV acc ++ [(mk r.1, mk r.2.1, r.2.2.map mk)] = rqV (acc ++ [r]) from by simp [rqV]] at ho; have HS4 := Aside0.mk (HS3.out.app ho hb hg); clear ho hb hg hat) | ((with_reducible refine (HC.out _ HD.out _ HS4.out.px).mono ?_); rintro e w5 ⟨rfl, hp5, hk5⟩; have HS5 := Aside0.mk (HS4.out.move hb hpl hp5 hk5); have HD5 := Aside0.mk (drop_one HD.out.symm); clear hp5 hk5 HC))
          go_ret2
          exact ⟨SelP.some' HR.out HS5.out.rw, HS5.out.be⟩
        · rw [h4] at HL
          clear h4 hra hrq ht1 hlen h1 hdq hnx
          go_wp2_with (first | ((with_reducible refine (HL.out _ HS.out.px).mono ?_); rintro e w2 ⟨rfl, hb⟩; have HS2 := Aside0.mk (HS.out.below hb); clear hb HL) | ((with_reducible refine (HRQ1.out _ HS2.out.px HS2.out.be).mono ?_); rintro e w3 ⟨⟨b, q2, rfl, hd, hp, hbb, hat⟩, hk⟩; have HS3 := Aside0.mk (HS2.out.move hb hpl hp hk); have HD := Aside0.mk hd; obtain ⟨A3, c3, i0, i1, i2, hvr⟩ := rq_cells hat; have HVR := Aside0.mk hvr; have HLV := Aside0.mk (fun k (e : v4.ownBlock = some k) => own_lt (Kd.R_own HS2.out.rw).choose_spec k e); have HB2 : Aside0 (w.heap.size ≤ w2.heap.size ∧ w0.heap.size ≤ w2.heap.size) := ⟨HS2.out.sz, HS2.out.be.size⟩; clear hp hk hd hbb hat hvr HRQ1) | ((with_reducible refine gate_builtin (b := .append) (xs := #[.tmp 33, .tmp 37]) rfl ?_); (try (refine gate_guard (by rfl) ?_; dsimp only)); at_builtin; refine Kd.R_append KQ (w0 := w0) (w0.heap.size) rfl (.tmp 33) (.tmp 37) 121 88 (.agg #[.string ⟨#[]⟩, .string ⟨#[]⟩, .slice none 0 0]) 56 rfl Tryz.underlying121 infoRQ rfl (by decide) (by decide) v4 (rqV acc) (mk r.1, mk r.2.1, r.2.2.map mk) [.string (mk r.1), .string (mk r.2.1), .slice A3 r.2.2.length c3] (fun k => w.heap.size ≤ k) (fun k => w2.heap.size ≤ k) rfl (by first | rfl | (simp [Act.eval]; done)) ?aP ?aK ?aF ?aO ?aB ?aS ?aL ?_; (case aP => exact rq_elem HB2.out.2 HVR.out); (case aK => exact fun k hk => ⟨Nat.le_trans HB2.out.1 hk, fun e => by have := HLV.out k e.symm; omega⟩); (case aF => exact fun k hk => Nat.le_trans HS3.out.sz hk); (case aO => exact HS3.out.rw); (case aB => exact HS3.out.be); (case aS => exact HS3.out.be.size); (case aL => (simp only [List.length_map]; omega)); intro vN wN ho hb hg hat; rw [show rqV acc ++ [(mk r.1, mk r.2.1, r.2.2.map mk)] = rqV (acc ++ [r]) from by simp [rqV]] at ho; have HS4 := Aside0.mk (HS3.out.app ho hb hg); clear ho hb hg hat) | ((with_reducible refine (HC.out _ HD.out _ HS4.out.px).mono ?_); rintro e w5 ⟨rfl, hp5, hk5⟩; have HS5 := Aside0.mk (HS4.out.move hb hpl hp5 hk5); have HD5 := Aside0.mk (drop_one HD.out.symm); clear hp5 hk5 HC))
          go_ret2
          exact ⟨SelP.some' HR.out HS5.out.rw, HS5.out.be⟩
      rw [if_neg h1] at hra
      by_cases h3 : vk k2 = 3
      · rw [if_pos h3] at hra
        rw [h3] at HC
        obtain ⟨k3, s3, ts3, rfl, ht3⟩ := HE.out.more hdq.symm (by omega)
        simp only at hra
        have HL3 := Aside0.mk (fun (q3 : Nat) (hd : T.drop q3 = (k3, s3) :: ts3) (W : World) (h : PX W pb g T q3) => look_calls pb g q3 T ts3 k3 s3 (by have := HT9.out; omega) hd W h)
        have hl3 : ((k3, s3) :: ts3).length ≤ m := by
         have e1 := congrArg List.length hdq
         have e2 := congrArg List.length ht1
         simp only [List.length_cons, List.length_drop] at e1 e2 ⊢
         omega
        by_cases h38 : vk k3 = 8 ∨ vk k3 = 4
        · rw [if_pos h38, map_app] at hra
          have HRA2 := Aside0.mk hra
          have HL9 := Aside0.mk hl3
          rcases h84 with h8 | h4
          · rw [h8] at HL
            rcases h38 with h38 | h38
            · rw [h38] at HL3
              clear h8 hra hrq ht1 ht3 hlen h1 h3 h38 hdq hnx hl3
              go_wp2_with (first | ((with_reducible refine (HL.out _ HS.out.px).mono ?_); rintro e w2 ⟨rfl, hb⟩; have HS2 := Aside0.mk (HS.out.below hb); clear hb HL) | ((with_reducible refine (HRQ1.out _ HS2.out.px HS2.out.be).mono ?_); rintro e w3 ⟨⟨b, q2, rfl, hd, hp, hbb, hat⟩, hk⟩; have HS3 := Aside0.mk (HS2.out.move hb hpl hp hk); have HD := Aside0.mk hd; obtain ⟨A3, c3, i0, i1, i2, hvr⟩ := rq_cells hat; have HVR := Aside0.mk hvr; have HLV := Aside0.mk (fun k (e : v4.ownBlock = some k) => own_lt (Kd.R_own HS2.out.rw).choose_spec k e); have HB2 : Aside0 (w.heap.size ≤ w2.heap.size ∧ w0.heap.size ≤ w2.heap.size) := ⟨HS2.out.sz, HS2.out.be.size⟩; clear hp hk hd hbb hat hvr HRQ1) | ((with_reducible refine gate_builtin (b := .append) (xs := #[.tmp 33, .tmp 37]) rfl ?_); (try (refine gate_guard (by rfl) ?_; dsimp only)); at_builtin; refine Kd.R_append KQ (w0 := w0) (w0.heap.size) rfl (.tmp 33) (.tmp 37) 121 88 (.agg #[.string ⟨#[]⟩, .string ⟨#[]⟩, .slice none 0 0]) 56 rfl Tryz.underlying121 infoRQ rfl (by decide) (by decide) v4 (rqV acc) (mk r.1, mk r.2.1, r.2.2.map mk) [.string (mk r.1), .string (mk r.2.1), .slice A3 r.2.2.length c3] (fun k => w.heap.size ≤ k) (fun k => w2.heap.size ≤ k) rfl (by first | rfl | (simp [Act.eval]; done)) ?aP ?aK ?aF ?aO ?aB ?aS ?aL ?_; (case aP => exact rq_elem HB2.out.2 HVR.out); (case aK => exact fun k hk => ⟨Nat.le_trans HB2.out.1 hk, fun e => by have := HLV.out k e.symm; omega⟩); (case aF => exact fun k hk => Nat.le_trans HS3.out.sz hk); (case aO => exact HS3.out.rw); (case aB => exact HS3.out.be); (case aS => exact HS3.out.be.size); (case aL => (simp only [List.length_map]; omega)); intro vN wN ho hb hg hat; rw [show rqV acc ++ [(mk r.1, mk r.2.1, r.2.2.map mk)] = rqV (acc ++ [r]) from by simp [rqV]] at ho; have HS4 := Aside0.mk (HS3.out.app ho hb hg); clear ho hb hg hat) | ((with_reducible refine (HC.out _ HD.out _ HS4.out.px).mono ?_); rintro e w5 ⟨rfl, hp5, hk5⟩; have HS5 := Aside0.mk (HS4.out.move hb hpl hp5 hk5); have HD5 := Aside0.mk (drop_one HD.out.symm); clear hp5 hk5 HC) | ((with_reducible refine (HL3.out _ HD5.out _ HS5.out.px).mono ?_); rintro e w6 ⟨rfl, hb⟩; have HS6 := Aside0.mk (HS5.out.below hb); clear hb HL3))
              go_roundg m
              case measure => omega
              case rel => exact ⟨_, acc ++ [r], _, rfl, ⟨by rw [HD5.out]; exact HRA2.out⟩, ⟨by rw [HD5.out]; exact HL9.out, by rw [List.length_append]; simp only [List.length_cons, List.length_nil]; omega, by rw [HD5.out]; simp⟩, HS6⟩
            · rw [h38] at HL3
              clear h8 hra hrq ht1 ht3 hlen h1 h3 h38 hdq hnx hl3
              go_wp2_with (first | ((with_reducible refine (HL.out _ HS.out.px).mono ?_); rintro e w2 ⟨rfl, hb⟩; have HS2 := Aside0.mk (HS.out.below hb); clear hb HL) | ((with_reducible refine (HRQ1.out _ HS2.out.px HS2.out.be).mono ?_); rintro e w3 ⟨⟨b, q2, rfl, hd, hp, hbb, hat⟩, hk⟩; have HS3 := Aside0.mk (HS2.out.move hb hpl hp hk); have HD := Aside0.mk hd; obtain ⟨A3, c3, i0, i1, i2, hvr⟩ := rq_cells hat; have HVR := Aside0.mk hvr; have HLV := Aside0.mk (fun k (e : v4.ownBlock = some k) => own_lt (Kd.R_own HS2.out.rw).choose_spec k e); have HB2 : Aside0 (w.heap.size ≤ w2.heap.size ∧ w0.heap.size ≤ w2.heap.size) := ⟨HS2.out.sz, HS2.out.be.size⟩; clear hp hk hd hbb hat hvr HRQ1) | ((with_reducible refine gate_builtin (b := .append) (xs := #[.tmp 33, .tmp 37]) rfl ?_); (try (refine gate_guard (by rfl) ?_; dsimp only)); at_builtin; refine Kd.R_append KQ (w0 := w0) (w0.heap.size) rfl (.tmp 33) (.tmp 37) 121 88 (.agg #[.string ⟨#[]⟩, .string ⟨#[]⟩, .slice none 0 0]) 56 rfl Tryz.underlying121 infoRQ rfl (by decide) (by decide) v4 (rqV acc) (mk r.1, mk r.2.1, r.2.2.map mk) [.string (mk r.1), .string (mk r.2.1), .slice A3 r.2.2.length c3] (fun k => w.heap.size ≤ k) (fun k => w2.heap.size ≤ k) rfl (by first | rfl | (simp [Act.eval]; done)) ?aP ?aK ?aF ?aO ?aB ?aS ?aL ?_; (case aP => exact rq_elem HB2.out.2 HVR.out); (case aK => exact fun k hk => ⟨Nat.le_trans HB2.out.1 hk, fun e => by have := HLV.out k e.symm; omega⟩); (case aF => exact fun k hk => Nat.le_trans HS3.out.sz hk); (case aO => exact HS3.out.rw); (case aB => exact HS3.out.be); (case aS => exact HS3.out.be.size); (case aL => (simp only [List.length_map]; omega)); intro vN wN ho hb hg hat; rw [show rqV acc ++ [(mk r.1, mk r.2.1, r.2.2.map mk)] = rqV (acc ++ [r]) from by simp [rqV]] at ho; have HS4 := Aside0.mk (HS3.out.app ho hb hg); clear ho hb hg hat) | ((with_reducible refine (HC.out _ HD.out _ HS4.out.px).mono ?_); rintro e w5 ⟨rfl, hp5, hk5⟩; have HS5 := Aside0.mk (HS4.out.move hb hpl hp5 hk5); have HD5 := Aside0.mk (drop_one HD.out.symm); clear hp5 hk5 HC) | ((with_reducible refine (HL3.out _ HD5.out _ HS5.out.px).mono ?_); rintro e w6 ⟨rfl, hb⟩; have HS6 := Aside0.mk (HS5.out.below hb); clear hb HL3))
              go_roundg m
              case measure => omega
              case rel => exact ⟨_, acc ++ [r], _, rfl, ⟨by rw [HD5.out]; exact HRA2.out⟩, ⟨by rw [HD5.out]; exact HL9.out, by rw [List.length_append]; simp only [List.length_cons, List.length_nil]; omega, by rw [HD5.out]; simp⟩, HS6⟩
          · rw [h4] at HL
            rcases h38 with h38 | h38
            · rw [h38] at HL3
              clear h4 hra hrq ht1 ht3 hlen h1 h3 h38 hdq hnx hl3
              go_wp2_with (first | ((with_reducible refine (HL.out _ HS.out.px).mono ?_); rintro e w2 ⟨rfl, hb⟩; have HS2 := Aside0.mk (HS.out.below hb); clear hb HL) | ((with_reducible refine (HRQ1.out _ HS2.out.px HS2.out.be).mono ?_); rintro e w3 ⟨⟨b, q2, rfl, hd, hp, hbb, hat⟩, hk⟩; have HS3 := Aside0.mk (HS2.out.move hb hpl hp hk); have HD := Aside0.mk hd; obtain ⟨A3, c3, i0, i1, i2, hvr⟩ := rq_cells hat; have HVR := Aside0.mk hvr; have HLV := Aside0.mk (fun k (e : v4.ownBlock = some k) => own_lt (Kd.R_own HS2.out.rw).choose_spec k e); have HB2 : Aside0 (w.heap.size ≤ w2.heap.size ∧ w0.heap.size ≤ w2.heap.size) := ⟨HS2.out.sz, HS2.out.be.size⟩; clear hp hk hd hbb hat hvr HRQ1) | ((with_reducible refine gate_builtin (b := .append) (xs := #[.tmp 33, .tmp 37]) rfl ?_); (try (refine gate_guard (by rfl) ?_; dsimp only)); at_builtin; refine Kd.R_append KQ (w0 := w0) (w0.heap.size) rfl (.tmp 33) (.tmp 37) 121 88 (.agg #[.string ⟨#[]⟩, .string ⟨#[]⟩, .slice none 0 0]) 56 rfl Tryz.underlying121 infoRQ rfl (by decide) (by decide) v4 (rqV acc) (mk r.1, mk r.2.1, r.2.2.map mk) [.string (mk r.1), .string (mk r.2.1), .slice A3 r.2.2.length c3] (fun k => w.heap.size ≤ k) (fun k => w2.heap.size ≤ k) rfl (by first | rfl | (simp [Act.eval]; done)) ?aP ?aK ?aF ?aO ?aB ?aS ?aL ?_; (case aP => exact rq_elem HB2.out.2 HVR.out); (case aK => exact fun k hk => ⟨Nat.le_trans HB2.out.1 hk, fun e => by have := HLV.out k e.symm; omega⟩); (case aF => exact fun k hk => Nat.le_trans HS3.out.sz hk); (case aO => exact HS3.out.rw); (case aB => exact HS3.out.be); (case aS => exact HS3.out.be.size); (case aL => (simp only [List.length_map]; omega)); intro vN wN ho hb hg hat; rw [show rqV acc ++ [(mk r.1, mk r.2.1, r.2.2.map mk)] = rqV (acc ++ [r]) from by simp [rqV]] at ho; have HS4 := Aside0.mk (HS3.out.app ho hb hg); clear ho hb hg hat) | ((with_reducible refine (HC.out _ HD.out _ HS4.out.px).mono ?_); rintro e w5 ⟨rfl, hp5, hk5⟩; have HS5 := Aside0.mk (HS4.out.move hb hpl hp5 hk5); have HD5 := Aside0.mk (drop_one HD.out.symm); clear hp5 hk5 HC) | ((with_reducible refine (HL3.out _ HD5.out _ HS5.out.px).mono ?_); rintro e w6 ⟨rfl, hb⟩; have HS6 := Aside0.mk (HS5.out.below hb); clear hb HL3))
              go_roundg m
              case measure => omega
              case rel => exact ⟨_, acc ++ [r], _, rfl, ⟨by rw [HD5.out]; exact HRA2.out⟩, ⟨by rw [HD5.out]; exact HL9.out, by rw [List.length_append]; simp only [List.length_cons, List.length_nil]; omega, by rw [HD5.out]; simp⟩, HS6⟩
            · rw [h38] at HL3
              clear h4 hra hrq ht1 ht3 hlen h1 h3 h38 hdq hnx hl3
              go_wp2_with (first | ((with_reducible refine (HL.out _ HS.out.px).mono ?_); rintro e w2 ⟨rfl, hb⟩; have HS2 := Aside0.mk (HS.out.below hb); clear hb HL) | ((with_reducible refine (HRQ1.out _ HS2.out.px HS2.out.be).mono ?_); rintro e w3 ⟨⟨b, q2, rfl, hd, hp, hbb, hat⟩, hk⟩; have HS3 := Aside0.mk (HS2.out.move hb hpl hp hk); have HD := Aside0.mk hd; obtain ⟨A3, c3, i0, i1, i2, hvr⟩ := rq_cells hat; have HVR := Aside0.mk hvr; have HLV := Aside0.mk (fun k (e : v4.ownBlock = some k) => own_lt (Kd.R_own HS2.out.rw).choose_spec k e); have HB2 : Aside0 (w.heap.size ≤ w2.heap.size ∧ w0.heap.size ≤ w2.heap.size) := ⟨HS2.out.sz, HS2.out.be.size⟩; clear hp hk hd hbb hat hvr HRQ1) | ((with_reducible refine gate_builtin (b := .append) (xs := #[.tmp 33, .tmp 37]) rfl ?_); (try (refine gate_guard (by rfl) ?_; dsimp only)); at_builtin; refine Kd.R_append KQ (w0 := w0) (w0.heap.size) rfl (.tmp 33) (.tmp 37) 121 88 (.agg #[.string ⟨#[]⟩, .string ⟨#[]⟩, .slice none 0 0]) 56 rfl Tryz.underlying121 infoRQ rfl (by decide) (by decide) v4 (rqV acc) (mk r.1, mk r.2.1, r.2.2.map mk) [.string (mk r.1), .string (mk r.2.1), .slice A3 r.2.2.length c3] (fun k => w.heap.size ≤ k) (fun k => w2.heap.size ≤ k) rfl (by first | rfl | (simp [Act.eval]; done)) ?aP ?aK ?aF ?aO ?aB ?aS ?aL ?_; (case aP => exact rq_elem HB2.out.2 HVR.out); (case aK => exact fun k hk => ⟨Nat.le_trans HB2.out.1 hk, fun e => by have := HLV.out k e.symm; omega⟩); (case aF => exact fun k hk => Nat.le_trans HS3.out.sz hk); (case aO => exact HS3.out.rw); (case aB => exact HS3.out.be); (case aS => exact HS3.out.be.size); (case aL => (simp only [List.length_map]; omega)); intro vN wN ho hb hg hat; rw [show rqV acc ++ [(mk r.1, mk r.2.1, r.2.2.map mk)] = rqV (acc ++ [r]) from by simp [rqV]] at ho; have HS4 := Aside0.mk (HS3.out.app ho hb hg); clear ho hb hg hat) | ((with_reducible refine (HC.out _ HD.out _ HS4.out.px).mono ?_); rintro e w5 ⟨rfl, hp5, hk5⟩; have HS5 := Aside0.mk (HS4.out.move hb hpl hp5 hk5); have HD5 := Aside0.mk (drop_one HD.out.symm); clear hp5 hk5 HC) | ((with_reducible refine (HL3.out _ HD5.out _ HS5.out.px).mono ?_); rintro e w6 ⟨rfl, hb⟩; have HS6 := Aside0.mk (HS5.out.below hb); clear hb HL3))
              go_roundg m
              case measure => omega
              case rel => exact ⟨_, acc ++ [r], _, rfl, ⟨by rw [HD5.out]; exact HRA2.out⟩, ⟨by rw [HD5.out]; exact HL9.out, by rw [List.length_append]; simp only [List.length_cons, List.length_nil]; omega, by rw [HD5.out]; simp⟩, HS6⟩
        rw [if_neg h38] at hra
        have HR : Aside0 (R = none) := ⟨hra.symm⟩
        obtain ⟨kk, hkk⟩ : ∃ kk, vk k3 = kk := ⟨_, rfl⟩
        rw [hkk] at HL3 h38
        have f8 : ((kk : Int) != 8) = true := by rw [bne_iff_ne]; omega
        have f4 : ((kk : Int) != 4) = true := by rw [bne_iff_ne]; omega
        clear hkk h38
        rcases h84 with h8 | h4
        · rw [h8] at HL
          clear h8 hra hrq ht1 ht3 hlen h1 h3 hdq hnx hl3
          go_wp2_with (first | ((with_reducible refine (HL.out _ HS.out.px).mono ?_); rintro e w2 ⟨rfl, hb⟩; have HS2 := Aside0.mk (HS.out.below hb); clear hb HL) | ((with_reducible refine (HRQ1.out _ HS2.out.px HS2.out.be).mono ?_); rintro e w3 ⟨⟨b, q2, rfl, hd, hp, hbb, hat⟩, hk⟩; have HS3 := Aside0.mk (HS2.out.move hb hpl hp hk); have HD := Aside0.mk hd; obtain ⟨A3, c3, i0, i1, i2, hvr⟩ := rq_cells hat; have HVR := Aside0.mk hvr; have HLV := Aside0.mk (fun k (e : v4.ownBlock = some k) => own_lt (Kd.R_own HS2.out.rw).choose_spec k e); have HB2 : Aside0 (w.heap.size ≤ w2.heap.size ∧ w0.heap.size ≤ w2.heap.size) := ⟨HS2.out.sz, HS2.out.be.size⟩; clear hp hk hd hbb hat hvr HRQ1) | ((with_reducible refine gate_builtin (b := .append) (xs := #[.tmp 33, .tmp 37]) rfl ?_); (try (refine gate_guard (by rfl) ?_; dsimp only)); at_builtin; refine Kd.R_append KQ (w0 := w0) (w0.heap.size) rfl (.tmp 33) (.tmp 37) 121 88 (.agg #[.string ⟨#[]⟩, .string ⟨#[]⟩, .slice none 0 0]) 56 rfl Tryz.underlying121 infoRQ rfl (by decide) (by decide) v4 (rqV acc) (mk r.1, mk r.2.1, r.2.2.map mk) [.string (mk r.1), .string (mk r.2.1), .slice A3 r.2.2.length c3] (fun k => w.heap.size ≤ k) (fun k => w2.heap.size ≤ k) rfl (by first | rfl | (simp [Act.eval]; done)) ?aP ?aK ?aF ?aO ?aB ?aS ?aL ?_; (case aP => exact rq_elem HB2.out.2 HVR.out); (case aK => exact fun k hk => ⟨Nat.le_trans HB2.out.1 hk, fun e => by have := HLV.out k e.symm; omega⟩); (case aF => exact fun k hk => Nat.le_trans HS3.out.sz hk); (case aO => exact HS3.out.rw); (case aB => exact HS3.out.be); (case aS => exact HS3.out.be.size); (case aL => (simp only [List.length_map]; omega)); intro vN wN ho hb hg hat; rw [show rqV acc ++ [(mk r.1, mk r.2.1, r.2.2.map mk)] = rqV (acc ++ [r]) from by simp [rqV]] at ho; have HS4 := Aside0.mk (HS3.out.app ho hb hg); clear ho hb hg hat) | ((with_reducible refine (HC.out _ HD.out _ HS4.out.px).mono ?_); rintro e w5 ⟨rfl, hp5, hk5⟩; have HS5 := Aside0.mk (HS4.out.move hb hpl hp5 hk5); have HD5 := Aside0.mk (drop_one HD.out.symm); clear hp5 hk5 HC) | ((with_reducible refine (HL3.out _ HD5.out _ HS5.out.px).mono ?_); rintro e w6 ⟨rfl, hb⟩; have HS6 := Aside0.mk (HS5.out.below hb); clear hb HL3) | ((with_reducible refine (HN.out _ _).mono ?_); rintro e w9 ⟨rfl, hb⟩; have HB9 := Aside0.mk (below_step HS6.out.be hb); clear hb))
          go_ret2
          exact ⟨SelP.none' HR.out ⟨_, rfl⟩, HB9.out⟩
        · rw [h4] at HL
          clear h4 hra hrq ht1 ht3 hlen h1 h3 hdq hnx hl3
          go_wp2_with (first | ((with_reducible refine (HL.out _ HS.out.px).mono ?_); rintro e w2 ⟨rfl, hb⟩; have HS2 := Aside0.mk (HS.out.below hb); clear hb HL) | ((with_reducible refine (HRQ1.out _ HS2.out.px HS2.out.be).mono ?_); rintro e w3 ⟨⟨b, q2, rfl, hd, hp, hbb, hat⟩, hk⟩; have HS3 := Aside0.mk (HS2.out.move hb hpl hp hk); have HD := Aside0.mk hd; obtain ⟨A3, c3, i0, i1, i2, hvr⟩ := rq_cells hat; have HVR := Aside0.mk hvr; have HLV := Aside0.mk (fun k (e : v4.ownBlock = some k) => own_lt (Kd.R_own HS2.out.rw).choose_spec k e); have HB2 : Aside0 (w.heap.size ≤ w2.heap.size ∧ w0.heap.size ≤ w2.heap.size) := ⟨HS2.out.sz, HS2.out.be.size⟩; clear hp hk hd hbb hat hvr HRQ1) | ((with_reducible refine gate_builtin (b := .append) (xs := #[.tmp 33, .tmp 37]) rfl ?_); (try (refine gate_guard (by rfl) ?_; dsimp only)); at_builtin; refine Kd.R_append KQ (w0 := w0) (w0.heap.size) rfl (.tmp 33) (.tmp 37) 121 88 (.agg #[.string ⟨#[]⟩, .string ⟨#[]⟩, .slice none 0 0]) 56 rfl Tryz.underlying121 infoRQ rfl (by decide) (by decide) v4 (rqV acc) (mk r.1, mk r.2.1, r.2.2.map mk) [.string (mk r.1), .string (mk r.2.1), .slice A3 r.2.2.length c3] (fun k => w.heap.size ≤ k) (fun k => w2.heap.size ≤ k) rfl (by first | rfl | (simp [Act.eval]; done)) ?aP ?aK ?aF ?aO ?aB ?aS ?aL ?_; (case aP => exact rq_elem HB2.out.2 HVR.out); (case aK => exact fun k hk => ⟨Nat.le_trans HB2.out.1 hk, fun e => by have := HLV.out k e.symm; omega⟩); (case aF => exact fun k hk => Nat.le_trans HS3.out.sz hk); (case aO => exact HS3.out.rw); (case aB => exact HS3.out.be); (case aS => exact HS3.out.be.size); (case aL => (simp only [List.length_map]; omega)); intro vN wN ho hb hg hat; rw [show rqV acc ++ [(mk r.1, mk r.2.1, r.2.2.map mk)] = rqV (acc ++ [r]) from by simp [rqV]] at ho; have HS4 := Aside0.mk (HS3.out.app ho hb hg); clear ho hb hg hat) | ((with_reducible refine (HC.out _ HD.out _ HS4.out.px).mono ?_); rintro e w5 ⟨rfl, hp5, hk5⟩; have HS5 := Aside0.mk (HS4.out.move hb hpl hp5 hk5); have HD5 := Aside0.mk (drop_one HD.out.symm); clear hp5 hk5 HC) | ((with_reducible refine (HL3.out _ HD5.out _ HS5.out.px).mono ?_); rintro e w6 ⟨rfl, hb⟩; have HS6 := Aside0.mk (HS5.out.below hb); clear hb HL3) | ((with_reducible refine (HN.out _ _).mono ?_); rintro e w9 ⟨rfl, hb⟩; have HB9 := Aside0.mk (below_step HS6.out.be hb); clear hb))
          go_ret2
          exact ⟨SelP.none' HR.out ⟨_, rfl⟩, HB9.out⟩
      rw [if_neg h3] at hra
      have HR : Aside0 (R = none) := ⟨hra.symm⟩
      obtain ⟨kk, hkk⟩ : ∃ kk, vk k2 = kk := ⟨_, rfl⟩
      rw [hkk] at HC h1 h3
      have f1 : ((kk : Int) == 1) = false := by rw [beq_eq_false_iff_ne]; omega
      have f3 : ((kk : Int) == 3) = false := by rw [beq_eq_false_iff_ne]; omega
      clear hkk h1 h3
      rcases h84 with h8 | h4
      · rw [h8] at HL
        clear h8 hra hrq ht1 hlen hdq hnx
        go_wp2_with (first | ((with_reducible refine (HL.out _ HS.out.px).mono ?_); rintro e w2 ⟨rfl, hb⟩; have HS2 := Aside0.mk (HS.out.below hb); clear hb HL) | ((with_reducible refine (HRQ1.out _ HS2.out.px HS2.out.be).mono ?_); rintro e w3 ⟨⟨b, q2, rfl, hd, hp, hbb, hat⟩, hk⟩; have HS3 := Aside0.mk (HS2.out.move hb hpl hp hk); have HD := Aside0.mk hd; obtain ⟨A3, c3, i0, i1, i2, hvr⟩ := rq_cells hat; have HVR := Aside0.mk hvr; have HLV := Aside0.mk (fun k (e : v4.ownBlock = some k) => own_lt (Kd.R_own HS2.out.rw).choose_spec k e); have HB2 : Aside0 (w.heap.size ≤ w2.heap.size ∧ w0.heap.size ≤ w2.heap.size) := ⟨HS2.out.sz, HS2.out.be.size⟩; clear hp hk hd hbb hat hvr HRQ1) | ((with_reducible refine gate_builtin (b := .append) (xs := #[.tmp 33, .tmp 37]) rfl ?_); (try (refine gate_guard (by rfl) ?_; dsimp only)); at_builtin; refine Kd.R_append KQ (w0 := w0) (w0.heap.size) rfl (.tmp 33) (.tmp 37) 121 88 (.agg #[.string ⟨#[]⟩, .string ⟨#[]⟩, .slice none 0 0]) 56 rfl Tryz.underlying121 infoRQ rfl (by decide) (by decide) v4 (rqV acc) (mk r.1, mk r.2.1, r.2.2.map mk) [.string (mk r.1), .string (mk r.2.1), .slice A3 r.2.2.length c3] (fun k => w.heap.size ≤ k) (fun k => w2.heap.size ≤ k) rfl (by first | rfl | (simp [Act.eval]; done)) ?aP ?aK ?aF ?aO ?aB ?aS ?aL ?_; (case aP => exact rq_elem HB2.out.2 HVR.out); (case aK => exact fun k hk => ⟨Nat.le_trans HB2.out.1 hk, fun e => by have := HLV.out k e.symm; omega⟩); (case aF => exact fun k hk => Nat.le_trans HS3.out.sz hk); (case aO => exact HS3.out.rw); (case aB => exact HS3.out.be); (case aS => exact HS3.out.be.size); (case aL => (simp only [List.length_map]; omega)); intro vN wN ho hb hg hat; rw [show rqV acc ++ [(mk r.1, mk r.2.1, r.2.2.map mk)] = rqV (acc ++ [r]) from by simp [rqV]] at ho; have HS4 := Aside0.mk (HS3.out.app ho hb hg); clear ho hb hg hat) | ((with_reducible refine (HC.out _ HD.out _ HS4.out.px).mono ?_); rintro e w5 ⟨rfl, hp5, hk5⟩; have HS5 := Aside0.mk (HS4.out.move hb hpl hp5 hk5); have HD5 := Aside0.mk (drop_one HD.out.symm); clear hp5 hk5 HC) | ((with_reducible refine (HN.out _ _).mono ?_); rintro e w9 ⟨rfl, hb⟩; have HB9 := Aside0.mk (below_step HS5.out.be hb); clear hb))
        go_ret2
        exact ⟨SelP.none' HR.out ⟨_, rfl⟩, HB9.out⟩
      · rw [h4] at HL
        clear h4 hra hrq ht1 hlen hdq hnx
        go_wp2_with (first | ((with_reducible refine (HL.out _ HS.out.px).mono ?_); rintro e w2 ⟨rfl, hb⟩; have HS2 := Aside0.mk (HS.out.below hb); clear hb HL) | ((with_reducible refine (HRQ1.out _ HS2.out.px HS2.out.be).mono ?_); rintro e w3 ⟨⟨b, q2, rfl, hd, hp, hbb, hat⟩, hk⟩; have HS3 := Aside0.mk (HS2.out.move hb hpl hp hk); have HD := Aside0.mk hd; obtain ⟨A3, c3, i0, i1, i2, hvr⟩ := rq_cells hat; have HVR := Aside0.mk hvr; have HLV := Aside0.mk (fun k (e : v4.ownBlock = some k) => own_lt (Kd.R_own HS2.out.rw).choose_spec k e); have HB2 : Aside0 (w.heap.size ≤ w2.heap.size ∧ w0.heap.size ≤ w2.heap.size) := ⟨HS2.out.sz, HS2.out.be.size⟩; clear hp hk hd hbb hat hvr HRQ1) | ((with_reducible refine gate_builtin (b := .append) (xs := #[.tmp 33, .tmp 37]) rfl ?_); (try (refine gate_guard (by rfl) ?_; dsimp only)); at_builtin; refine Kd.R_append KQ (w0 := w0) (w0.heap.size) rfl (.tmp 33) (.tmp 37) 121 88 (.agg #[.string ⟨#[]⟩, .string ⟨#[]⟩, .slice none 0 0]) 56 rfl Tryz.underlying121 infoRQ rfl (by decide) (by decide) v4 (rqV acc) (mk r.1, mk r.2.1, r.2.2.map mk) [.string (mk r.1), .string (mk r.2.1), .slice A3 r.2.2.length c3] (fun k => w.heap.size ≤ k) (fun k => w2.heap.size ≤ k) rfl (by first | rfl | (simp [Act.eval]; done)) ?aP ?aK ?aF ?aO ?aB ?aS ?aL ?_; (case aP => exact rq_elem HB2.out.2 HVR.out); (case aK => exact fun k hk => ⟨Nat.le_trans HB2.out.1 hk, fun e => by have := HLV.out k e.symm; omega⟩); (case aF => exact fun k hk => Nat.le_trans HS3.out.sz hk); (case aO => exact HS3.out.rw); (case aB => exact HS3.out.be); (case aS => exact HS3.out.be.size); (case aL => (simp only [List.length_map]; omega)); intro vN wN ho hb hg hat; rw [show rqV acc ++ [(mk r.1, mk r.2.1, r.2.2.map mk)] = rqV (acc ++ [r]) from by simp [rqV]] at ho; have HS4 := Aside0.mk (HS3.out.app ho hb hg); clear ho hb hg hat) | ((with_reducible refine (HC.out _ HD.out _ HS4.out.px).mono ?_); rintro e w5 ⟨rfl, hp5, hk5⟩; have HS5 := Aside0.mk (HS4.out.move hb hpl hp5 hk5); have HD5 := Aside0.mk (drop_one HD.out.symm); clear hp5 hk5 HC) | ((with_reducible refine (HN.out _ _).mono ?_); rintro e w9 ⟨rfl, hb⟩; have HB9 := Aside0.mk (below_step HS5.out.be hb); clear hb))
        go_ret2
        exact ⟨SelP.none' HR.out ⟨_, rfl⟩, HB9.out⟩
  rw [if_neg h84] at hra
  by_cases h1 : vk k1 = 1
  · rw [if_pos h1] at hra
    rw [h1] at HL
    have HR : Aside0 (R = some acc) := ⟨by rw [← hra]; simp⟩
    clear hra ht1 hlen h1 h84 HRQ1
    go_wp2_with (first | ((with_reducible refine (HL.out _ HS.out.px).mono ?_); rintro e w2 ⟨rfl, hb⟩; have HS2 := Aside0.mk (HS.out.below hb); clear hb HL))
    go_ret2
    exact ⟨SelP.some' HR.out HS2.out.rw, HS2.out.be⟩
  rw [if_neg h1] at hra
  have HR : Aside0 (R = none) := ⟨hra.symm⟩
  obtain ⟨kk, hkk⟩ : ∃ kk, vk k1 = kk := ⟨_, rfl⟩
  rw [hkk] at HL h1 h84
  have f1 : ((kk : Int) == 1) = false := by rw [beq_eq_false_iff_ne]; omega
  have f8 : ((kk : Int) == 8) = false := by rw [beq_eq_false_iff_ne]; omega
  have f4 : ((kk : Int) == 4) = false := by rw [beq_eq_false_iff_ne]; omega
  clear hkk h1 h84 hra ht1 hlen HRQ1
  go_wp2_with (first | ((with_reducible refine (HL.out _ HS.out.px).mono ?_); rintro e w2 ⟨rfl, hb⟩; have HS2 := Aside0.mk (HS.out.below hb); clear hb HL) | ((with_reducible refine (HN.out _ _).mono ?_); rintro e w9 ⟨rfl, hb⟩; have HB9 := Aside0.mk (below_step HS2.out.be hb); clear hb))
  go_ret2
  exact ⟨SelP.none' HR.out ⟨_, rfl⟩, HB9.out⟩
open Go.Sort (ltStr SWO PermIn SortedIn swp insInner insOuter)
theorem q_elem {W : World} {base g n cap : Nat} {ok : Nat → Prop} {xs : List (ByteArray × ByteArray × List ByteArray)} (h : KQ.R 88 W base ok (.slice (some ⟨g, 0, none⟩) n cap) xs) (i : Nat) (hi : i < n) (z : ByteArray × ByteArray × List ByteArray) :
   ∃ v, KQ.M W base (fun k => ok k ∧ k ≠ g) (xs.getD i z) [.string (xs.getD i z).1, .string (xs.getD i z).2.1, v] ∧ W.cell? ⟨g, i * 3, none⟩ = some (.string (xs.getD i z).1) ∧ W.cell? ⟨g, i * 3 + 1, none⟩ = some (.string (xs.getD i z).2.1) ∧ W.cell? ⟨g, i * 3 + 2, none⟩ = some v ∧ ∀ j, W.frozen? ⟨g, i * 3 + j, none⟩ = false := by
 obtain ⟨c, hl, hM, hc, hf⟩ := Kd.R_elem h z (i : Int) (by omega) (by omega)
 rw [Int.toNat_natCast] at hM hc hf
 have hM2 := hM
 obtain ⟨c0, c1, rfl, h0, c2, c3, rfl, h2, v, h3, hr⟩ := hM
 have e0 : c0 = [.string (xs.getD i z).1] := h0
 have e2 : c2 = [.string (xs.getD i z).2.1] := h2
 subst e0 e2 h3
 exact ⟨v, hM2, hc 0 _ rfl, hc 1 _ rfl, hc 2 _ rfl, hf⟩
theorem byk_len (p : Option Addr) (n c : Nat) (W : World) : LenM Tryz.prog 253 (.slice p n c) n W := by
 unfold LenM
 go_enter Tryz.func253, Tryz.ntmps253
 go_wp2
 go_ret
 exact ⟨rfl, 0, rfl⟩
set_option maxHeartbeats 2000000 in
theorem byk_less0 (g n c : Nat) (W : World) (x y : ByteArray) (i j : Nat) (hi : i < n) (hj : j < n) (ci : W.cell? ⟨g, i * 3, none⟩ = some (.string x)) (cj : W.cell? ⟨g, j * 3, none⟩ = some (.string y)) :
   Calls Tryz.prog 254 #[.slice (some ⟨g, 0, none⟩) n c, .int .i64 i, .int .i64 j] W fun e w' => e = .returned (.bool (ltStr x.toList y.toList)) ∧ Below W.heap.size W w' := by
 have HP : Aside0 (Sort.ltStr x.toList y.toList = Op.bytesLess x.toList y.toList) := ⟨by simp [Sort.ltStr, bytesLess_eq]⟩
 rw [HP.out]
 go_enter Tryz.func254, Tryz.ntmps254
 go_wp2
 go_region
 all_goals (try go_wp2)
 all_goals go_ret
 all_goals exact ⟨rfl, by first | exact Below.refl _ _ | exact below_drew1 (Below.refl _ _) | exact pw_below_drewN (Below.refl _ _) _⟩
set_option maxHeartbeats 4000000 in
theorem byk_swap0 (g n c : Nat) (W : World) (x0 x1 y0 y1 : ByteArray) (X Y : Option Addr) (xl xc yl yc : Nat) (i j : Nat) (hi : i < n) (hj : j < n) (hne : i ≠ j)
   (ci0 : W.cell? ⟨g, i * 3, none⟩ = some (.string x0)) (ci1 : W.cell? ⟨g, i * 3 + 1, none⟩ = some (.string x1)) (ci2 : W.cell? ⟨g, i * 3 + 2, none⟩ = some (.slice X xl xc))
   (cj0 : W.cell? ⟨g, j * 3, none⟩ = some (.string y0)) (cj1 : W.cell? ⟨g, j * 3 + 1, none⟩ = some (.string y1)) (cj2 : W.cell? ⟨g, j * 3 + 2, none⟩ = some (.slice Y yl yc))
   (fr : ∀ o, W.frozen? ⟨g, o, none⟩ = false) :
   Calls Tryz.prog 255 #[.slice (some ⟨g, 0, none⟩) n c, .int .i64 i, .int .i64 j] W fun e w' => e = .returned (.tuple #[]) ∧ ∃ q, w' = ((W.setCells g (i * 3) [.string y0, .string y1, .slice Y yl yc]).setCells g (j * 3) [.string x0, .string x1, .slice X xl xc]).drewN q := by
 go_enter Tryz.func255, Tryz.ntmps255
 go_wp2
 go_region
 all_goals (try go_wp2)
 all_goals go_end0
 all_goals exact ⟨rfl, 1, rfl⟩
theorem gb_trans {a b c : World} {row : Option Nat} (h : a.grownBy b row) (k : b.grownBy c row) : a.grownBy c row :=
 ⟨k.os.trans h.os, k.tape.trans h.tape, k.output.trans h.output, Nat.le_trans h.size k.size, fun i hi hr => (k.block i (Nat.lt_of_lt_of_le hi h.size) hr).trans (h.block i hi hr)⟩
abbrev rq1 (r : Rq) : ByteArray × ByteArray × List ByteArray := (mk r.1, mk r.2.1, r.2.2.map mk)
theorem row_swap {W : World} {base g n cap : Nat} {ok : Nat → Prop} {xs : List (ByteArray × ByteArray × List ByteArray)} (h : KQ.R 88 W base ok (.slice (some ⟨g, 0, none⟩) n cap) xs) {x y : ByteArray × ByteArray × List ByteArray} {i j : Nat} (hi : i < n) (hj : j < n) {ci cj : List Value}
   (hMi : KQ.M W base (fun k => ok k ∧ k ≠ g) x ci) (hMj : KQ.M W base (fun k => ok k ∧ k ≠ g) y cj) (li : ci.length = 3) (lj : cj.length = 3) :
   KQ.R 88 ((W.setCells g (i * 3) cj).setCells g (j * 3) ci) base ok (.slice (some ⟨g, 0, none⟩) n cap) ((xs.set i y).set j x) ∧ W.grownBy ((W.setCells g (i * 3) cj).setCells g (j * 3) ci) (some g) := by
 obtain ⟨c, hl, _, hc, _⟩ := Kd.R_elem h x (i : Int) (by omega) (by omega)
 obtain ⟨h1, g1⟩ := Kd.R_seg (okp := fun k => ok k ∧ k ≠ g) h (i : Int) (by omega) (by omega) (seg := cj) (j := 0) hl hc (by rw [lj]; decide) (x' := y) (by rw [List.take_zero, List.nil_append, List.drop_of_length_le (by rw [hl, lj]; decide), List.append_nil]; exact hMj) (fun k hk => hk)
 rw [Int.toNat_natCast, Nat.add_zero] at h1 g1
 have hMi1 := Kd.M_grown hMi g1 (fun k hk e => hk.2 (Option.some.inj e))
 obtain ⟨c2, hl2, _, hc2, _⟩ := Kd.R_elem h1 x (j : Int) (by omega) (by omega)
 obtain ⟨h2, g2⟩ := Kd.R_seg (okp := fun k => ok k ∧ k ≠ g) h1 (j : Int) (by omega) (by omega) (seg := ci) (j := 0) hl2 hc2 (by rw [li]; decide) (x' := x) (by rw [List.take_zero, List.nil_append, List.drop_of_length_le (by rw [hl2, li]; decide), List.append_nil]; exact hMi1) (fun k hk => hk)
 rw [Int.toNat_natCast, Nat.add_zero] at h2 g2
 exact ⟨h2, gb_trans g1 g2⟩
def QK (W0 W : World) (base g cap : Nat) (ok : Nat → Prop) (d : Array Rq) : Prop :=
 KQ.R 88 W base ok (.slice (some ⟨g, 0, none⟩) d.size cap) (rqV d.toList) ∧ W0.grownBy W (some g)
theorem QK.below {W0 W W' : World} {base g cap : Nat} {ok : Nat → Prop} {d : Array Rq} (h : QK W0 W base g cap ok d) (hb : Below W.heap.size W W') : QK W0 W' base g cap ok d :=
 ⟨Kd.R_below h.1 hb, gb_trans h.2 (grown_of_below hb _)⟩
theorem rqV_getD (d : Array Rq) (i : Nat) (hi : i < d.size) : (rqV d.toList).getD i (rq1 default) = rq1 d[i]! := by
 rw [List.getD_eq_getElem?_getD, rqV, List.getElem?_map, Array.getElem?_toList, Array.getElem?_eq_getElem hi, getElem!_pos d i hi]
 rfl
theorem rqV_swp (d : Array Rq) (i j : Nat) (hi : i < d.size) (hj : j < d.size) : rqV (swp d i j).toList = ((rqV d.toList).set i (rq1 d[j]!)).set j (rq1 d[i]!) := by
 unfold swp
 rw [Array.toList_setIfInBounds, Array.toList_setIfInBounds]
 simp only [rqV, List.map_set]
theorem swp_size' (d : Array Rq) (i j : Nat) : (swp d i j).size = d.size := by unfold swp; simp
abbrev klt (r s : Rq) : Bool := ltStr r.1 s.1
theorem klt_swo : SWO klt where
 irrefl := fun x => Go.Sort.swo_ltStr.irrefl x.1
 trans := fun x y z => Go.Sort.swo_ltStr.trans x.1 y.1 z.1
 ntrans := fun x y z => Go.Sort.swo_ltStr.ntrans x.1 y.1 z.1
theorem byk_less {W0 W : World} {base g cap : Nat} {ok : Nat → Prop} {d : Array Rq} (h : QK W0 W base g cap ok d) (i j : Nat) (hi : i < d.size) (hj : j < d.size) :
   Calls Tryz.prog 254 #[.slice (some ⟨g, 0, none⟩) d.size cap, .int .i64 i, .int .i64 j] W fun e w' => e = .returned (.bool (klt d[i]! d[j]!)) ∧ QK W0 w' base g cap ok d := by
 obtain ⟨vi, _, ci, _⟩ := q_elem h.1 i hi (rq1 default)
 obtain ⟨vj, _, cj, _⟩ := q_elem h.1 j hj (rq1 default)
 rw [rqV_getD d i hi] at ci
 rw [rqV_getD d j hj] at cj
 refine (byk_less0 g d.size cap W _ _ i j hi hj ci cj).mono ?_
 rintro e w' ⟨rfl, hb⟩
 exact ⟨by rw [mk_toList, mk_toList], h.below hb⟩
theorem byk_swap {W0 W : World} {base g cap : Nat} {ok : Nat → Prop} {d : Array Rq} (h : QK W0 W base g cap ok d) (i j : Nat) (hi : i < d.size) (hj : j < d.size) (hne : i ≠ j) :
   Calls Tryz.prog 255 #[.slice (some ⟨g, 0, none⟩) d.size cap, .int .i64 i, .int .i64 j] W fun e w' => e = .returned (.tuple #[]) ∧ QK W0 w' base g cap ok (swp d i j) := by
 obtain ⟨vi, mi, ci0, ci1, ci2, fr⟩ := q_elem h.1 i hi (rq1 default)
 obtain ⟨vj, mj, cj0, cj1, cj2, _⟩ := q_elem h.1 j hj (rq1 default)
 rw [rqV_getD d i hi] at ci0 ci1 mi
 rw [rqV_getD d j hj] at cj0 cj1 mj
 have sl : ∀ {x v}, KQ.M W base (fun k => ok k ∧ k ≠ g) x [.string x.1, .string x.2.1, v] → ∃ A l c, v = .slice A l c := by
  rintro x v ⟨c0, c1, e, h0, c2, c3, rfl, h2, u, h3, hr⟩
  have e0 : c0 = [.string x.1] := h0
  have e2 : c2 = [.string x.2.1] := h2
  subst e0 e2 h3
  simp only [List.singleton_append, List.cons.injEq, and_true, true_and] at e
  subst e
  obtain ⟨A, c, e⟩ := Kd.R_slice hr
  exact ⟨A, _, c, e⟩
 obtain ⟨X, xl, xc, rfl⟩ := sl mi
 obtain ⟨Y, yl, yc, rfl⟩ := sl mj
 have hfr : ∀ o, W.frozen? ⟨g, o, none⟩ = false := by
  obtain ⟨cells, hc⟩ := own_typed (Kd.R_own h.1).choose_spec g (by simp [Value.ownBlock])
  exact fun o => blk_frozen hc o
 refine (byk_swap0 g d.size cap W _ _ _ _ X Y xl xc yl yc i j hi hj hne ci0 ci1 ci2 cj0 cj1 cj2 hfr).mono ?_
 rintro e w' ⟨rfl, q, rfl⟩
 obtain ⟨h1, h2⟩ := row_swap h.1 hi hj mi mj rfl rfl
 refine ⟨rfl, ?_⟩
 rw [← rqV_swp d i j hi hj] at h1
 exact QK.below ⟨by rw [swp_size']; exact h1, gb_trans h.2 h2⟩ (pw_below_drewN (Below.refl _ _) q)
theorem byk_lenR (p : Option Addr) (n c : Nat) : Reaches Tryz.prog 157 (.slice p n c) "Len" 253 := ⟨fun _ => by kernel_rfl, enters_of Tryz.func253 (by kernel_rfl) rfl⟩
set_option maxHeartbeats 4000000 in
theorem ins_sort (g cap a b : Nat) (base : Nat) (ok : Nat → Prop) (d : Array Rq) (hab : a ≤ b) (hb : b ≤ d.size) (hsz : d.size < 4611686018427387904) (W0 w : World) (h : QK W0 w base g cap ok d) :
   Calls Tryz.prog 150 #[.iface 157 (.slice (some ⟨g, 0, none⟩) d.size cap), .int .i64 a, .int .i64 b] w fun e w' => e = .returned (.tuple #[]) ∧ QK W0 w' base g cap ok (Sort.insertionSort klt d a b) ∧ (Sort.insertionSort klt d a b).size = d.size := by
 have mL : ∀ w, Sem.run Tryz.prog (method 390 157 (.slice (some ⟨g, 0, none⟩) d.size cap) "Less") w = .ok (254, .slice (some ⟨g, 0, none⟩) d.size cap) w := fun _ => by kernel_rfl
 have mS : ∀ w, Sem.run Tryz.prog (method 390 157 (.slice (some ⟨g, 0, none⟩) d.size cap) "Swap") w = .ok (255, .slice (some ⟨g, 0, none⟩) d.size cap) w := fun _ => by kernel_rfl
 have HW := Aside0.mk h
 have HN := Aside0.mk hsz
 obtain ⟨n, hn⟩ : ∃ n, d.size = n := ⟨_, rfl⟩
 rw [hn] at mL mS hb hsz ⊢
 have HDN := Aside0.mk hn
 have eI : Sort.insertionSort klt d a b = insOuter klt a b (a + 1) d := rfl
 rw [eI]
 clear h eI hn
 obtain ⟨D, hD⟩ : ∃ D, insOuter klt a b (a + 1) d = D := ⟨_, rfl⟩
 rw [hD]
 have HD := Aside0.mk hD
 clear hD
 go_enter Tryz.func150, Tryz.ntmps150
 go_wp2
 go_loopg [6] (b - a) (fun k vi wr => ∃ (i : Nat) (dk : Array Rq), vi = .int .i64 i ∧ Aside0 (a < i ∧ k + i = b + 1 ∧ dk.size = n) ∧ Aside0 (insOuter klt a b i dk = D) ∧ Aside0 (QK W0 wr base g cap ok dk))
 case atStart => exact ⟨a + 1, d, by go_num, ⟨by omega, by omega, HDN.out⟩, HD, HW⟩
 case round =>
  obtain ⟨i, dk, rfl, HI, HO, HQ⟩ := hrel
  by_cases hib : i < b
  · go_wp2
    generalize gk = go at *
    go_loopg [7] (i) (fun k2 vj wr2 => ∃ (j : Nat) (dj : Array Rq), vj = .int .i64 j ∧ Aside0 (k2 = j ∧ a ≤ j ∧ j ≤ i ∧ dj.size = n) ∧ Aside0 (insInner klt a j dj = insInner klt a i dk) ∧ Aside0 (QK W0 wr2 base g cap ok dj))
    case atStart => exact ⟨i, dk, rfl, ⟨rfl, by have := HI.out.1; omega, Nat.le_refl _, HI.out.2.2⟩, ⟨rfl⟩, HQ⟩
    case round =>
     obtain ⟨j, dj, rfl, HJ, HI2, HQ2⟩ := hrel
     have hjn : j < n := by have := HJ.out.2.2.1; omega
     by_cases hja : a < j
     · have hl := byk_less HQ2.out j (j - 1) (by rw [HJ.out.2.2.2]; exact hjn) (by rw [HJ.out.2.2.2]; omega)
       rw [HJ.out.2.2.2, show (((j - 1 : Nat) : Int)) = (j : Int) - 1 by omega] at hl
       cases hlv : klt dj[j]! dj[j - 1]! with
       | true =>
         rw [hlv] at hl
         have HL := Aside0.mk hl
         have HS := Aside0.mk (fun (W : World) (h : QK W0 W base g cap ok dj) => byk_swap h j (j - 1) (by rw [HJ.out.2.2.2]; exact hjn) (by rw [HJ.out.2.2.2]; omega) (by omega))
         rw [HJ.out.2.2.2, show (((j - 1 : Nat) : Int)) = (j : Int) - 1 by omega] at HS
         have HI3 : Aside0 (insInner klt a (j - 1) (swp dj j (j - 1)) = insInner klt a i dk) := ⟨by rw [← HI2.out, Go.Proofs.insInner_go _ _ _ _ hja hlv]⟩
         clear hl hlv
         go_wp2_with (first | ((with_reducible refine (HL.out).mono ?_); rintro e w2 ⟨rfl, hq⟩; have HQ3 := Aside0.mk hq; clear hq) | ((with_reducible refine (HS.out _ HQ3.out).mono ?_); rintro e w3 ⟨rfl, hq⟩; have HQ4 := Aside0.mk hq; clear hq))
         go_roundg (j - 1)
         case measure => have := HJ.out.1; omega
         case rel => exact ⟨j - 1, swp dj j (j - 1), by congr 1; omega, ⟨rfl, by omega, by have := HJ.out.2.2.1; omega, by rw [swp_size']; exact HJ.out.2.2.2⟩, HI3, HQ4⟩
       | false =>
         rw [hlv] at hl
         have HL := Aside0.mk hl
         have HO2 : Aside0 (insOuter klt a b (i + 1) dj = D) := ⟨by rw [← HO.out, Go.Proofs.insOuter_go _ _ _ _ _ hib, ← HI2.out, Go.Proofs.insInner_stop _ _ _ _ (.inr hlv)]⟩
         clear hl hlv
         go_wp2_with (first | ((with_reducible refine (HL.out).mono ?_); rintro e w2 ⟨rfl, hq⟩; have HQ3 := Aside0.mk hq; clear hq))
         go_roundg (go - 1)
         case measure => have := HI.out.2.1; omega
         case rel => exact ⟨i + 1, dj, by go_num, ⟨by have := HI.out.1; omega, by have := HI.out.2.1; omega, HJ.out.2.2.2⟩, HO2, HQ3⟩
     · have HO2 : Aside0 (insOuter klt a b (i + 1) dj = D) := ⟨by rw [← HO.out, Go.Proofs.insOuter_go _ _ _ _ _ hib, ← HI2.out, Go.Proofs.insInner_stop _ _ _ _ (.inl (by omega))]⟩
       go_wp2
       go_roundg (go - 1)
       case measure => have := HI.out.2.1; omega
       case rel => exact ⟨i + 1, dj, by go_num, ⟨by have := HI.out.1; omega, by have := HI.out.2.1; omega, HJ.out.2.2.2⟩, HO2, HQ2⟩
  · have HE : Aside0 (dk = D) := ⟨by rw [← HO.out, Go.Proofs.insOuter_stop _ _ _ _ _ hib]⟩
    go_wp2
    first | refine bodyPost_ret (results_none rfl _ _ _) rfl ?_ | go_end0
    exact ⟨rfl, by rw [← HE.out]; exact HQ.out, by rw [← HE.out]; exact HI.out.2.2⟩
def KAsc (l : List Rq) : Prop := l.Pairwise fun r s => klt s r = false
theorem kasc_of {d : Array Rq} (h : SortedIn klt 0 d.size d) : KAsc d.toList := by
 unfold KAsc
 rw [List.pairwise_iff_getElem]
 intro i j hi hj hij
 have := h i j (Nat.zero_le _) hij (by simpa using hj)
 rw [getElem!_pos d i (by simpa using hi), getElem!_pos d j (by simpa using hj)] at this
 simpa using this
theorem perm_of {d d' : Array Rq} (h : PermIn 0 d.size d d') : d'.toList.Perm d.toList := by
 have hsz : d'.size = d.size := h.1
 have hp := h.2.2
 have e1 : (d'.extract 0 d.size).toList = d'.toList := by rw [← hsz, Array.extract_size]
 have e2 : (d.extract 0 d.size).toList = d.toList := by rw [Array.extract_size]
 rw [e1, e2] at hp
 exact hp
set_option maxHeartbeats 4000000 in
theorem pdq12 (g cap n limit : Nat) (base : Nat) (ok : Nat → Prop) (d : Array Rq) (hn : d.size = n) (h12 : n ≤ 12) (W0 w : World) (h : QK W0 w base g cap ok d) :
   Calls Tryz.prog 119 #[.iface 157 (.slice (some ⟨g, 0, none⟩) n cap), .int .i64 0, .int .i64 n, .int .i64 limit] w fun e w' => e = .returned (.tuple #[]) ∧ QK W0 w' base g cap ok (Sort.insertionSort klt d 0 n) := by
 have HI := Aside0.mk (ins_sort g cap 0 n base ok d (Nat.zero_le _) (by omega) (by omega) W0 w h)
 rw [hn, show ((0 : Nat) : Int) = 0 from rfl] at HI
 clear h hn
 go_enter Tryz.func119, Tryz.ntmps119
 go_wp2
 go_loopg [1, 2] (0) (fun k v1 v2 w' => v1 = .int .i64 0 ∧ v2 = .int .i64 n ∧ w = w')
 case atStart => exact ⟨rfl, rfl, rfl⟩
 case round =>
  obtain ⟨rfl, rfl, rfl⟩ := hrel
  go_wp2_with (first | ((with_reducible refine (HI.out).mono ?_); rintro e w2 ⟨rfl, hq, _⟩; have HQ := Aside0.mk hq; clear hq))
  first | refine bodyPost_ret (results_none rfl _ _ _) rfl ?_ | go_end0
  exact ⟨rfl, HQ.out⟩
set_option maxHeartbeats 4000000 in
theorem sortK_calls (l : List Rq) (hl : l.length ≤ 12) (W : World) (base : Nat) (ok : Nat → Prop) (v : Value) (hR : KQ.R 88 W base ok v (rqV l)) :
   Calls Tryz.prog 100 #[.iface 157 v] W fun e w' => e = .returned (.tuple #[]) ∧ ∃ l' : List Rq, l'.Perm l ∧ KAsc l' ∧ KQ.R 88 w' base ok v (rqV l') ∧ W.grownBy w' v.ownBlock := by
 by_cases h2 : 2 ≤ l.length
 · obtain ⟨g, cap, rfl, hbg, hlt, _⟩ := Kd.R_form hR (by rw [List.length_map]; omega)
   rw [List.length_map] at hR ⊢
   have hQ : QK W W base g cap ok l.toArray := ⟨by simpa using hR, World.grownBy.refl _ _⟩
   obtain ⟨n, hn⟩ : ∃ n, l.length = n := ⟨_, rfl⟩
   have hda : l.toArray.size = n := by simpa using hn
   have hs := Sort.insertionSort_holds (lt := klt) klt_swo l.toArray 0 n (Nat.zero_le _) (by omega)
   have HS := Aside0.mk hs
   have HDA := Aside0.mk hda
   have HQ := Aside0.mk hQ
   have HP := Aside0.mk (fun (limit : Nat) (w : World) (h : QK W w base g cap ok l.toArray) => pdq12 g cap n limit base ok l.toArray hda (by omega) W w h)
   have HLE : Aside0 (∀ w, Calls Tryz.prog 253 #[.slice (some ⟨g, 0, none⟩) n cap] w fun e w' => e = .returned (.int .i64 n) ∧ ∃ q, w' = w.drewN q) := ⟨fun w => byk_len (some ⟨g, 0, none⟩) n cap w⟩
   have HB := Aside0.mk (fun w => Tryz.bits_Len (n : Int) w (by omega) (by omega))
   have mN : ∀ w, Sem.run Tryz.prog (method 390 157 (.slice (some ⟨g, 0, none⟩) n cap) "Len") w = .ok (253, .slice (some ⟨g, 0, none⟩) n cap) w := fun _ => by kernel_rfl
   have hu : IntKind.u64.wrap (n : Int) = (n : Int) := by simp [IntKind.wrap, IntKind.bits, IntKind.signed]; omega
   rw [hn] at h2 hl hR ⊢
   have hgt : ((n : Int) ≤ 1) = False := eq_false (by omega)
   have e1 : Aside0 ((Sort.insertionSort klt l.toArray 0 n).size = n) := ⟨by have := hs.1.1; omega⟩
   clear hs hda hQ hR hn
   go_enter Tryz.func100, Tryz.ntmps100
   go_wp2_with (first | ((with_reducible refine (HLE.out _).mono ?_); rintro e w1 ⟨rfl, q, rfl⟩) | ((with_reducible refine (HB.out _).mono ?_); rintro e w2 ⟨rfl, rfl⟩) | ((with_reducible refine (HP.out _ _ (HQ.out.below (pw_below_drewN (Below.refl _ _) _))).mono ?_); rintro e w3 ⟨rfl, hq⟩; have HQ3 := Aside0.mk hq; clear hq))
   first | refine bodyPost_ret (results_none rfl _ _ _) rfl ?_ | go_end0
   have hq := HQ3.out
   have hs := HS.out
   refine ⟨rfl, (Sort.insertionSort klt l.toArray 0 n).toList, ?_, ?_, ?_, hq.2⟩
   · rw [← HDA.out] at hs ⊢; exact (perm_of hs.1)
   · exact kasc_of (by rw [e1.out]; exact hs.2)
   · have := hq.1; rw [e1.out] at this; exact this
 · obtain ⟨A, c, rfl⟩ := Kd.R_slice hR
   refine (Tryz.sort_Sort_tiny (α := L) 157 _ 253 (byk_lenR _ _ _) _ (by rw [List.length_map]; omega) W (byk_len _ _ _ _)).mono ?_
   rintro e w' ⟨rfl, q, rfl⟩
   refine ⟨rfl, l, List.Perm.refl _, ?_, Kd.R_drewN hR q, ⟨rfl, rfl, rfl, Nat.le_refl _, fun _ _ _ => rfl⟩⟩
   match l, h2 with
   | [], _ => exact List.Pairwise.nil
   | [x], _ => exact List.pairwise_singleton _ _
   | x :: y :: r, h2 => exact absurd (by simp) h2
end Go.Proofs.YthfjolafikgpoaaGreatDoor.Hand
namespace Go.Proofs.YthfjolafikgpoaaGreatDoor.Hand
open Go.RowKit Go.Maps Go.Proofs.YthfjolafikgpoaaGreatDoorW.PrintWords Go.Proofs.YthfjolafikgpoaaGreatDoorW.PrintLast Go.Proofs.YthfjolafikgpoaaGreatDoorW.PrintMore Go.Proofs.YthfjolafikgpoaaGreatDoor.Base Go.Proofs.YthfjolafikgpoaaGreatDoor.PFnSelDecidesLabels
set_option linter.unusedVariables false
set_option linter.unusedSimpArgs false
set_option maxRecDepth 100000
theorem tokens_ne (x : L) : tokensL x ≠ [] := by
 by_cases e : (lexL x).1 = 1
 · rw [tokens_end e]; simp
 · rw [tokens_more e]; simp
theorem lexL_lit (x : L) : (lexL x).2.1.length ≤ x.length := by
 show ((x.drop (wsLen x)).take (lexAt (x.drop (wsLen x))).2).length ≤ x.length
 rw [List.length_take, List.length_drop]; omega
theorem tokens_lit : ∀ (n : Nat) (x : L), x.length ≤ n → ∀ t ∈ tokensL x, t.2.length ≤ n := by
 intro n
 induction n with
 | zero =>
   intro x h t ht
   have : x = [] := List.eq_nil_of_length_eq_zero (by omega)
   subst this
   rw [tokens_end (by simp [lexL, lexAt, wsLen])] at ht
   obtain rfl : t = (1, []) := by simpa using ht
   exact Nat.le_refl _
 | succ n ih =>
   intro x h t ht
   by_cases e : (lexL x).1 = 1
   · rw [tokens_end e] at ht
     obtain rfl : t = (1, []) := by simpa using ht
     exact Nat.zero_le _
   · rw [tokens_more e] at ht
     have h1 := lexL_pos x e
     rcases List.mem_cons.1 ht with rfl | ht
     · show (lexL x).2.1.length ≤ n + 1
       have := lexL_lit x; omega
     · have := ih (x.drop (lexL x).2.2) (by simp only [List.length_drop]; omega) t ht; omega
theorem tokens_ends : ∀ (n : Nat) (x : L), x.length ≤ n → EndsT (tokensL x) := by
 intro n
 induction n with
 | zero =>
   intro x h p k s ht
   have : x = [] := List.eq_nil_of_length_eq_zero (by omega)
   subst this
   rw [tokens_end (by simp [lexL, lexAt, wsLen])] at ht
   cases p with
   | zero => simp at ht; exact ht.1.symm
   | succ p => simp at ht
 | succ n ih =>
   intro x h p k s ht
   by_cases e : (lexL x).1 = 1
   · rw [tokens_end e] at ht
     cases p with
     | zero => simp at ht; exact ht.1.symm
     | succ p => simp at ht
   · rw [tokens_more e] at ht
     have h1 := lexL_pos x e
     cases p with
     | zero =>
       rw [List.drop_zero] at ht
       simp only [List.cons.injEq] at ht
       exact absurd ht.2 (tokens_ne _)
     | succ p =>
       rw [List.drop_succ_cons] at ht
       exact ih (x.drop (lexL x).2.2) (by simp only [List.length_drop]; omega) p k s ht
def SortOK (l : List Rq) : Prop := ∀ (W : World) (base : Nat) (ok : Nat → Prop) (v : Value), KQ.R 88 W base ok v (rqV l) →
    Calls Tryz.prog 100 #[.iface 157 v] W fun e w' => e = .returned (.tuple #[]) ∧ ∃ l' : List Rq, l'.Perm l ∧ KAsc l' ∧ KQ.R 88 w' base ok v (rqV l') ∧ W.grownBy w' v.ownBlock
theorem sortOK_12 (l : List Rq) (h : l.length ≤ 12) : SortOK l := fun W base ok v hR => sortK_calls l h W base ok v hR
theorem below_grown_own {w W W' : World} {ok : Nat → Prop} {v : Value} {xs : List (ByteArray × ByteArray × List ByteArray)} (hb : Below w.heap.size w W) (hR : KQ.R 88 W w.heap.size ok v xs) (hg : W.grownBy W' v.ownBlock) : Below w.heap.size w W' :=
 ⟨hg.os.trans hb.os, hg.tape.trans hb.tape, hg.output.trans hb.output, Nat.le_trans hb.size hg.size, fun k hk => (hg.block k (Nat.lt_of_lt_of_le hk hb.size) (fun e => by
  obtain ⟨inner, ho⟩ := Kd.R_own hR
  have := own_base ho k e.symm
  omega)).trans (hb.block k hk)⟩
def ParP (R : Option (List Rq)) (w0 : World) (e : Ending) (w' : World) : Prop := match R with
 | some l => ∃ (v : Value) (l' : List Rq), e = .returned (.tuple #[v, .nilIface]) ∧ l'.Perm l ∧ KAsc l' ∧ KQ.R 88 w' w0.heap.size (fun _ => True) v (rqV l')
 | none => ∃ v, e = .returned (.tuple #[.slice none 0 0, v]) ∧ IsErr v
def ParQ (R : Option (List Rq)) (w0 : World) (e : Ending) (w' : World) : Prop := match R with
 | some l => ∃ (v : Value) (l' : List Rq), e = .returned (.tuple #[.iface 121 v, .nilIface]) ∧ l'.Perm l ∧ KAsc l' ∧ KQ.R 88 w' w0.heap.size (fun _ => True) v (rqV l')
 | none => ∃ v, e = .returned (.tuple #[.nilIface, v]) ∧ IsErr v
theorem ParP.some' {R : Option (List Rq)} {l l' : List Rq} {w0 w' : World} {v : Value} (hr : R = some l) (h1 : l'.Perm l) (h2 : KAsc l') (h3 : KQ.R 88 w' w0.heap.size (fun _ => True) v (rqV l')) : ParP R w0 (.returned (.tuple #[v, .nilIface])) w' := by
 subst hr; exact ⟨v, l', rfl, h1, h2, h3⟩
theorem ParP.none' {R : Option (List Rq)} {w0 w' : World} {v : Value} (hr : R = none) (h : IsErr v) : ParP R w0 (.returned (.tuple #[.slice none 0 0, v])) w' := by
 subst hr; exact ⟨v, rfl, h⟩
theorem ParQ.some' {R : Option (List Rq)} {l l' : List Rq} {w0 w' : World} {v : Value} (hr : R = some l) (h1 : l'.Perm l) (h2 : KAsc l') (h3 : KQ.R 88 w' w0.heap.size (fun _ => True) v (rqV l')) : ParQ R w0 (.returned (.tuple #[.iface 121 v, .nilIface])) w' := by
 subst hr; exact ⟨v, l', rfl, h1, h2, h3⟩
theorem ParQ.none' {R : Option (List Rq)} {w0 w' : World} {v : Value} (hr : R = none) (h : IsErr v) : ParQ R w0 (.returned (.tuple #[.nilIface, v])) w' := by
 subst hr; exact ⟨v, rfl, h⟩
set_option maxHeartbeats 4000000 in
theorem lparse_calls (x : L) (hx : x.length ≤ 1000000) (h0 : ∀ b ∈ x, b ≠ 0) (T : List Tk) (hTx : tokensL x = T) (hT : T.length ≤ 900) (hS : ∀ l, pAll T.length T = some l → SortOK l) (w : World) (hV : TV w) :
   Calls Tryz.prog 78 #[.string (mk x)] w fun e w' => ParP (pAll T.length T) w e w' ∧ Below w.heap.size w w' := by
 have HX : Aside0 (LX w ((w.alloc (.cells #[.string (mk x), .int .i64 0] 151)).alloc (.cells #[.pointer (some ⟨w.heap.size, 0, none⟩), .slice none 0 0, .int .i64 0] 154)) ((w.alloc (.cells #[.string (mk x), .int .i64 0] 151)).alloc (.cells #[.pointer (some ⟨w.heap.size, 0, none⟩), .slice none 0 0, .int .i64 0] 154)) w.heap.size x 0) :=
   ⟨LX.new ((IsS151.new w w (mk x) 0 (Below.refl _ _)).alloc _) (below_alloc (below_alloc (Below.refl _ _) _) _)⟩
 have HP : Aside0 (((w.alloc (.cells #[.string (mk x), .int .i64 0] 151)).alloc (.cells #[.pointer (some ⟨w.heap.size, 0, none⟩), .slice none 0 0, .int .i64 0] 154)).heap[w.heap.size + 1]? = some (.cells #[.pointer (some ⟨w.heap.size, 0, none⟩), .slice none 0 0, .int .i64 0] 154 (0, 0))) :=
   ⟨by have := heap_alloc_new (w.alloc (.cells #[.string (mk x), .int .i64 0] 151)) (.cells #[.pointer (some ⟨w.heap.size, 0, none⟩), .slice none 0 0, .int .i64 0] 154); simpa using this⟩
 obtain ⟨W, hW⟩ : ∃ W, (w.alloc (.cells #[.string (mk x), .int .i64 0] 151)).alloc (.cells #[.pointer (some ⟨w.heap.size, 0, none⟩), .slice none 0 0, .int .i64 0] 154) = W := ⟨_, rfl⟩
 rw [hW] at HX HP
 have HPA := Aside0.mk (parse_calls x hx h0 w.heap.size (w.heap.size + 1) T hTx hT (by rw [← hTx]; exact tokens_ne x) (by rw [← hTx]; exact tokens_ends x.length x (Nat.le_refl _)) (by rw [← hTx]; intro t ht; have := tokens_lit x.length x (Nat.le_refl _) t ht; omega) w W HX.out HP.out (by omega) (by omega) hV)
 clear HX HP h0 hTx hV
 cases hr : pAll T.length T with
 | none =>
   rw [hr] at HPA
   clear hr hS
   go_enter Tryz.func78, Tryz.ntmps78
   go_wp2_with (first | ((with_reducible refine (HPA.out).mono ?_); rintro e w1 ⟨⟨v, rfl, gv, rfl⟩, hb⟩; have HB := Aside0.mk hb; clear hb))
   go_ret2
   exact ⟨ParP.none' rfl ⟨_, rfl⟩, HB.out⟩
 | some l =>
   rw [hr] at HPA
   have HS := Aside0.mk (hS l hr)
   clear hr hS
   go_enter Tryz.func78, Tryz.ntmps78
   go_wp2_with (first | ((with_reducible refine (HPA.out).mono ?_); rintro e w1 ⟨⟨v, rfl, hR⟩, hb⟩; have HB := Aside0.mk hb; have HR := Aside0.mk hR; have HSV := Aside0.mk (HS.out _ _ _ _ hR); clear hb hR HPA) | ((with_reducible refine (HSV.out).mono ?_); rintro e w2 ⟨rfl, l', hp, ha, hR, hg⟩; have HB2 := Aside0.mk (below_grown_own HB.out HR.out hg); have HR2 := Aside0.mk hR; have HPP := Aside0.mk hp; have HAA := Aside0.mk ha; clear hp ha hR hg))
   go_ret2
   exact ⟨ParP.some' rfl HPP.out HAA.out HR2.out, HB2.out⟩
set_option maxHeartbeats 4000000 in
theorem Parse_calls (x : L) (hx : x.length ≤ 1000000) (h0 : ∀ b ∈ x, b ≠ 0) (T : List Tk) (hTx : tokensL x = T) (hT : T.length ≤ 900) (hS : ∀ l, pAll T.length T = some l → SortOK l) (w : World) (hV : TV w) :
   Calls Tryz.prog 44 #[.string (mk x)] w fun e w' => ParQ (pAll T.length T) w e w' ∧ Below w.heap.size w w' := by
 have HPA := Aside0.mk (lparse_calls x hx h0 T hTx hT hS w hV)
 clear h0 hTx hV hS
 cases hr : pAll T.length T with
 | none =>
   rw [hr] at HPA
   clear hr
   go_enter Tryz.func44, Tryz.ntmps44
   go_wp2_with (first | ((with_reducible refine (HPA.out).mono ?_); rintro e w1 ⟨⟨v, rfl, gv, rfl⟩, hb⟩; have HB := Aside0.mk hb; clear hb))
   go_ret2
   exact ⟨ParQ.none' rfl ⟨_, rfl⟩, HB.out⟩
 | some l =>
   rw [hr] at HPA
   clear hr
   go_enter Tryz.func44, Tryz.ntmps44
   go_wp2_with (first | ((with_reducible refine (HPA.out).mono ?_); rintro e w1 ⟨⟨v, l', rfl, hp, ha, hR⟩, hb⟩; have HB2 := Aside0.mk hb; have HR2 := Aside0.mk hR; have HPP := Aside0.mk hp; have HAA := Aside0.mk ha; clear hp ha hR hb))
   go_ret2
   exact ⟨ParQ.some' rfl HPP.out HAA.out HR2.out, HB2.out⟩
end Go.Proofs.YthfjolafikgpoaaGreatDoor.Hand
