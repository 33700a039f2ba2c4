/- spec.Selector: the reference reads a selector's text. -/
import Derived.Test.YthfjolafikgpoaaGreatDoorSDRdC
import Derived.Test.YthfjolafikgpoaaGreatDoorSDSelSpec
import Derived.Test.YthfjolafikgpoaaGreatDoorSDGParC
import Derived.Test.YthfjolafikgpoaaGreatDoorSDM30
import Derived.Test.YthfjolafikgpoaaGreatDoorSDGLabB
import Derived.StillTailTactics
namespace Go.Proofs.YthfjolafikgpoaaGreatDoor.Hand
open Go.RowKit Go.Maps Go.Proofs.YthfjolafikgpoaaGreatDoorW.PrintWords Go.Proofs.YthfjolafikgpoaaGreatDoorW.PrintLast Go.Proofs.YthfjolafikgpoaaGreatDoorW.PrintMore Go.Proofs.YthfjolafikgpoaaGreatDoor.Base
set_option linter.unusedVariables false
set_option linter.unusedSimpArgs false
set_option maxRecDepth 100000
theorem infoIR : (Tryz.prog.info? 53).map (fun i => (i.zero, i.size, i.bytes)) = some (some (.agg #[.string ⟨#[]⟩, .string ⟨#[]⟩, .slice none 0 0]), 3, 56) := by kernel_rfl
theorem rq_elem2 {W : World} {B base : Nat} {r : Rq} {A : Option Addr} {c : Nat} (hb : base ≤ B) (h : Kd.R Kd.string 9 W B (fun k => B ≤ k) (.slice A r.2.2.length c) (r.2.2.map mk)) :
   KQ.M W base (fun k => B ≤ k) (mk r.1, mk r.2.1, r.2.2.map mk) [.string (mk r.1), .string (mk r.2.1), .slice A r.2.2.length c] :=
 ⟨[_], [_, _], rfl, rfl, ⟨[_], [_], rfl, rfl, ⟨_, rfl, Kd.R_lower h hb⟩⟩⟩
structure SlX (w0 W : World) (rb B : Nat) (T : List Tk) (q : Nat) (v : Value) (acc : List Rq) : Prop where
 ex : EX W rb B T q
 be : Below w0.heap.size w0 W
 sz : B ≤ W.heap.size
 rw_ : KQ.R 53 W w0.heap.size (fun k => B ≤ k) v (rqV acc)
section
variable {w0 W W' : World} {rb B q q' : Nat} {T : List Tk} {v v' : Value} {acc acc' : List Rq}
theorem SlX.move (h : SlX w0 W rb B T q v acc) (h1 : w0.heap.size ≤ rb) (hx : EX W' rb B T q') (hk : Kb W W' rb) : SlX w0 W' rb B T q' v acc :=
 ⟨hx, h.be.trans (hk.below h1 h.be.size), Nat.le_trans h.sz hk.size, Kd.R_keep h.rw_ hk.ke (fun k hk' e => by have := h.ex.1; omega)⟩
theorem SlX.below (h : SlX w0 W rb B T q v acc) (hb : Below W.heap.size W W') : SlX w0 W' rb B T q v acc :=
 ⟨h.ex.belowS hb, h.be.trans (hb.mono h.be.size), Nat.le_trans h.sz hb.size, Kd.R_below h.rw_ hb⟩
theorem SlX.app (h : SlX w0 W rb B T q v acc) (ho : KQ.R 53 W' w0.heap.size (fun k => B ≤ k) v' (rqV acc')) (hg : W.grownBy W' v.ownBlock) : SlX w0 W' rb B T q v' acc' :=
 ⟨h.ex.below (pw_below_grown (Below.refl B W) v.ownBlock h.sz hg (fun k e => h.rw_.1 k e)), pw_below_grown h.be v.ownBlock h.be.size hg (fun k e => Kd.R_base h.rw_ k e), Nat.le_trans h.sz hg.size, ho⟩
end
def SlR (R : Option (List Rq)) (w0 : World) (e : Ending) (w' : World) : Prop := Below w0.heap.size w0 w' ∧ (match R with
 | some l => ∃ v, e = .returned (.tuple #[v, .bool true]) ∧ KQ.R 53 w' w0.heap.size (fun _ => True) v (rqV l)
 | none => e = .returned (.tuple #[.slice none 0 0, .bool false]))
theorem SlR.none' {R : Option (List Rq)} {w0 w' : World} (hr : R = none) (hb : Below w0.heap.size w0 w') : SlR R w0 (.returned (.tuple #[.slice none 0 0, .bool false])) w' := by
 subst hr; exact ⟨hb, rfl⟩
theorem SlR.some' {R : Option (List Rq)} {l : List Rq} {w0 w' : World} {v : Value} {ok : Nat → Prop} (hr : R = some l) (hb : Below w0.heap.size w0 w') (h : KQ.R 53 w' w0.heap.size ok v (rqV l)) : SlR R w0 (.returned (.tuple #[v, .bool true])) w' := by
 subst hr; exact ⟨hb, v, rfl, Kd.R_mono h (fun _ _ => trivial)⟩
set_option maxHeartbeats 32000000 in
theorem Sel_calls (x : L) (hx : x.length ≤ 390) (w : World) (hV : TV w) :
   Calls Tryz.prog 29 #[.string (mk x)] w fun e w' => SlR (pAll (tokensL x).length (tokensL x)) w e w' := by
 obtain ⟨T, hTx⟩ : ∃ T, tokensL x = T := ⟨_, rfl⟩
 have hT : T.length ≤ 400 := by rw [← hTx]; have := tokens_len x.length x (Nat.le_refl _); omega
 have hT0 : T ≠ [] := by rw [← hTx]; exact tokens_ne x
 have hE : EndsT T := by rw [← hTx]; exact tokens_ends x.length x (Nat.le_refl _)
 have hz : ∀ t ∈ T, t.2.length ≤ 1000000 := by rw [← hTx]; intro t ht; have := tokens_lit x.length x (Nat.le_refl _) t ht; omega
 have HTK := Aside0.mk (STokens_calls x (by omega) w)
 rw [hTx] at HTK ⊢
 obtain ⟨R, hR⟩ : ∃ R, pAll T.length T = R := ⟨_, rfl⟩
 rw [hR]
 have HR := Aside0.mk hR
 have HT0 := Aside0.mk hT0
 have HE := Aside0.mk hE
 have HZ := Aside0.mk hz
 have HT9 := Aside0.mk hT
 have HRQ := Aside0.mk (fun (rb B q k : Nat) (s : L) (ts : List Tk) (ht : T.drop q = (k, s) :: ts) (hrb : w.heap.size ≤ rb) (W : World) (v : Value) (acc : List Rq) (h : SlX w W rb B T q v acc) => rreq_calls rb B q T ts k s hT hE hz ht w W h.sz h.ex hV h.be hrb)
 obtain ⟨n, hn⟩ : ∃ n, T.length = n := ⟨_, rfl⟩
 have HNN := Aside0.mk hn
 have hn9 : n ≤ 400 := by omega
 clear hR hT0 hE hz hV hTx hT hx hn
 go_enter Tryz.func29, Tryz.ntmps29
 go_upto_region 2 with (first | ((with_reducible refine (HTK.out).mono ?_); rintro e w1 ⟨v1, rfl, hr1, hb1⟩; obtain ⟨AT, cT, hv_⟩ := Kd.R_slice hr1; rw [List.length_map] at hv_; subst hv_; have HR1 := Aside0.mk hr1; have HB1 := Aside0.mk hb1; clear hr1 hb1 HTK))
 obtain ⟨rb, hrb⟩ : ∃ rb, w1.heap.size = rb := ⟨_, rfl⟩
 obtain ⟨w2, hw2⟩ : ∃ w2, w1.alloc (.cells #[.slice AT T.length cT, .int .i64 0] 105) = w2 := ⟨_, rfl⟩
 rw [hrb, hw2]
 have HRB : Aside0 (w.heap.size ≤ rb) := ⟨by rw [← hrb]; exact HB1.out.size⟩
 have HS1 : Aside0 (SlX w w2 rb w2.heap.size T 0 (.slice none 0 0) []) := ⟨by
  have hb2 : Below w1.heap.size w1 w2 := by rw [← hw2]; exact below_alloc (Below.refl _ _) _
  have hbk := heap_alloc_new w1 (.cells #[.slice AT T.length cT, .int .i64 0] 105)
  rw [hrb, hw2] at hbk
  refine ⟨⟨blk_lt hbk, AT, cT, hbk, ?_⟩, HB1.out.trans (hb2.mono HB1.out.size), Nat.le_refl _, Kd.R_nil _ _ _ _ _⟩
  refine Kd.R_mono (Kd.R_bound (Kd.R_below (Kd.R_lower (Kd.R_bound HR1.out) (Nat.zero_le _)) hb2)) (fun k hk => ⟨?_, hk.2.2.1⟩)
  have := hk.1.2.2.1; omega⟩
 obtain ⟨B, hB⟩ : ∃ B, w2.heap.size = B := ⟨_, rfl⟩
 rw [hB] at HS1
 have HRQ1 := Aside0.mk (fun q k s ts ht => HRQ.out rb B q k s ts ht HRB.out)
 clear hw2 hrb hB HR1 HB1 HRQ
 go_wp2
 go_loopg [5] (n) (fun k s5 w' => ∃ (q : Nat) (acc : List Rq) (v5 : Value), v5 = s5 ∧ Aside0 ((pAll k (T.drop q)).map (acc ++ ·) = R) ∧ Aside0 ((T.drop q).length ≤ k ∧ acc.length + k ≤ 400 ∧ T.drop q ≠ []) ∧ Aside0 (SlX w w' rb B T q v5 acc))
 case atStart => exact ⟨0, [], _, rfl, ⟨by rw [← HR.out, List.drop_zero, HNN.out]; cases pAll n T <;> rfl⟩, ⟨by rw [List.drop_zero, HNN.out]; exact Nat.le_refl _, by simpa using hn9, by rw [List.drop_zero]; exact HT0.out⟩, HS1⟩
 case round =>
  obtain ⟨q, acc, v5, rfl, HRA, HQ, HS⟩ := hrel
  clear HS1 HR HNN HT0
  obtain ⟨k1, s1, ts1, ht1⟩ : ∃ k1 s1 ts1, T.drop q = (k1, s1) :: ts1 := by
   cases e : T.drop q with
   | nil => exact absurd e HQ.out.2.2
   | cons t ts => exact ⟨t.1, t.2, ts, rfl⟩
  obtain ⟨m, rfl⟩ : ∃ m, gk = m + 1 := ⟨gk - 1, by have := HQ.out.1; rw [ht1] at this; simp at this; omega⟩
  have hlen : ts1.length ≤ m := by have := HQ.out.1; rw [ht1] at this; simpa using this
  have hac : acc.length + m ≤ 399 := by have := HQ.out.2.1; omega
  have hra := HRA.out
  rw [ht1] at hra
  unfold pAll at hra
  rw [← ht1] at hra
  clear HRA HQ
  have HL := Aside0.mk (fun (W : World) (h : EX W rb B T q) => pk_calls rb B q T ts1 k1 s1 (by have := HT9.out; omega) ht1 W h)
  have HRQ2 := Aside0.mk (HRQ1.out q k1 s1 ts1 ht1)
  rw [rReq_eq] at HRQ2
  by_cases h84 : vk k1 = 8 ∨ vk k1 = 4
  rotate_left
  · rw [if_neg h84] at hra
    by_cases h1 : vk k1 = 1
    · rw [if_pos h1] at hra
      have HR : Aside0 (R = some acc) := ⟨by rw [← hra]; simp⟩
      rw [h1] at HL
      clear h84 h1 hra ht1 hlen
      go_wp2_with (first | ((with_reducible refine (HL.out _ HS.out.ex).mono ?_); rintro e w3 ⟨rfl, hb⟩; have HS3 := Aside0.mk (HS.out.below hb); clear hb HL))
      go_ret2
      exact SlR.some' HR.out HS3.out.be HS3.out.rw_
    · rw [if_neg h1] at hra
      have HR : Aside0 (R = none) := ⟨hra.symm⟩
      obtain ⟨kk, hkk⟩ : ∃ kk, vk k1 = kk := ⟨_, rfl⟩
      rw [hkk] at HL h84 h1
      have f1 : ((kk : Int) == 1) = false := by rw [beq_eq_false_iff_ne]; omega
      have f8 : ((kk : Int) == 8) = false := by rw [beq_eq_false_iff_ne]; omega
      have f4 : ((kk : Int) == 4) = false := by rw [beq_eq_false_iff_ne]; omega
      clear hkk h84 h1 hra ht1 hlen
      go_wp2_with (first | ((with_reducible refine (HL.out _ HS.out.ex).mono ?_); rintro e w3 ⟨rfl, hb⟩; have HS3 := Aside0.mk (HS.out.below hb); clear hb HL))
      go_ret2
      exact SlR.none' HR.out HS3.out.be
  rw [if_pos h84, ht1] at hra
  rw [← ht1] at hra
  obtain ⟨kk, hkk⟩ : ∃ kk, vk k1 = kk := ⟨_, rfl⟩
  rw [hkk] at HL h84
  have g1 : ((kk : Int) == 1) = false := by rw [beq_eq_false_iff_ne]; omega
  have HG : ((kk : Int) == 8) = true ∨ (((kk : Int) == 8) = false ∧ ((kk : Int) == 4) = true) := by
   rcases h84 with rfl | rfl
   · exact .inl rfl
   · exact .inr ⟨rfl, rfl⟩
  clear hkk h84
  cases hrq : pReq (T.drop q) with
  | none =>
    rw [hrq] at hra HRQ2
    have HR : Aside0 (R = none) := ⟨hra.symm⟩
    clear hra hrq ht1 hlen
    go_upto_block 2 with (first | ((with_reducible refine (HL.out _ HS.out.ex).mono ?_); rintro e w3 ⟨rfl, hb⟩; have HS3 := Aside0.mk (HS.out.below hb); clear hb HL))
    go_cut [] (fun wx => w3 = wx)
    case first =>
     rcases HG with g8 | ⟨g8, g4⟩
     · go_wp2
       go_meet
       case rel => rfl
     · go_wp2
       go_meet
       case rel => rfl
    case rest =>
    obtain rfl := hcut
    clear HG
    go_wp2_with (first | ((with_reducible refine (HRQ2.out _ _ _ HS3.out).mono ?_); rintro e w4 ⟨hk, v, b, rfl, rfl, xx, yy, Az, nz, cz, rfl⟩; have HB4 := Aside0.mk (HS3.out.be.trans (hk.below HRB.out HS3.out.be.size)); clear hk HRQ2))
    go_ret2
    exact SlR.none' HR.out (below_alloc HB4.out _)
  | some r2 =>
    obtain ⟨r, ts'⟩ := r2
    have hnx := pReq_next HE.out HZ.out hrq
    obtain ⟨k2, s2, ts2, rfl⟩ : ∃ k2 s2 ts2, ts' = (k2, s2) :: ts2 := by
     cases ts' with
     | nil => exact absurd rfl hnx
     | cons a l => exact ⟨a.1, a.2, l, rfl⟩
    obtain ⟨pq, hpq, hdq⟩ := pReq_tail hrq
    rw [List.drop_drop] at hdq
    have hl2 : ts2.length + 1 ≤ ts1.length := by
     have e1 := congrArg List.length hdq
     have e2 := congrArg List.length ht1
     simp only [List.length_cons, List.length_drop] at e1 e2 ⊢
     omega
    rw [hrq] at hra HRQ2
    simp only at hra
    have HB0 : Aside0 (acc.length ≤ 399) := ⟨by omega⟩
    clear ht1 hrq hnx hdq hpq
    go_upto_block 2 with (first | ((with_reducible refine (HL.out _ HS.out.ex).mono ?_); rintro e w3 ⟨rfl, hb⟩; have HS3 := Aside0.mk (HS.out.below hb); clear hb HL))
    go_cut [] (fun wx => w3 = wx)
    case first =>
     rcases HG with g8 | ⟨g8, g4⟩
     · go_wp2
       go_meet
       case rel => rfl
     · go_wp2
       go_meet
       case rel => rfl
    case rest =>
    obtain rfl := hcut
    clear HG
    go_upto_region 10 with (first | ((with_reducible refine (HRQ2.out _ _ _ HS3.out).mono ?_); rintro e w4 ⟨hk, v, b, rfl, rfl, ⟨i, hi, hxi⟩, AV, cV, rfl, hrV⟩; have HS4 := Aside0.mk (HS3.out.move HRB.out hxi hk); have HRV := Aside0.mk hrV; have HI := Aside0.mk hi; have HK4 := Aside0.mk hk.size; clear hi hxi hk hrV HRQ2))
    obtain ⟨g6, hg6⟩ : ∃ g, w4.heap.size = g := ⟨_, rfl⟩
    have hb6 := heap_alloc_new w4 (.cells #[.string (mk r.1), .string (mk r.2.1), .slice AV r.2.2.length cV] 53)
    have hl6 : Below w4.heap.size w4 (w4.alloc (.cells #[.string (mk r.1), .string (mk r.2.1), .slice AV r.2.2.length cV] 53)) := below_alloc (Below.refl _ _) _
    rw [hg6] at hb6 hl6 ⊢
    generalize hw6 : World.alloc w4 _ = w6 at hb6 hl6 ⊢
    have HL6 : Aside0 (Below w4.heap.size w4 w6) := ⟨by rw [hg6]; exact hl6⟩
    have HS6 := Aside0.mk (HS4.out.below HL6.out)
    have HRV6 := Aside0.mk (Kd.R_below HRV.out HL6.out)
    have HB6 := Aside0.mk hb6
    obtain ⟨c60, c61, c62⟩ := blk3 hb6
    have HLV := Aside0.mk (fun k (e : v5.ownBlock = some k) => Kd.R_lt HS3.out.rw_ k e)
    have HSZ : Aside0 (B ≤ w3.heap.size ∧ w.heap.size ≤ w3.heap.size ∧ w3.heap.size ≤ w6.heap.size) := ⟨HS3.out.sz, HS3.out.be.size, Nat.le_trans HK4.out HL6.out.size⟩
    clear hw6 hg6 hb6 hl6 HS4 HRV HK4 HL6
    have HC0 := Aside0.mk (fun (W : World) (h : EX W rb B T i) => next_calls rb B i T ts2 k2 s2 (by have := HT9.out; omega) HI.out true W h)
    rw [show vkb true k2 = vk k2 from rfl] at HC0
    have HD := Aside0.mk (drop_one HI.out)
    by_cases h1 : vk k2 = 1
    · rw [if_pos h1] at hra
      rw [h1] at HC0
      have HR : Aside0 (R = some (acc ++ [r])) := ⟨hra.symm⟩
      clear h1 hra hlen hl2
      go_wp2_with (first | ((with_reducible refine gate_builtin (b := .append) (xs := #[.tmp 30, .tmp 32]) rfl ?_); (try (refine gate_guard (by rfl) ?_; dsimp only)); at_builtin; refine Kd.R_append KQ (w0 := w) (w.heap.size) rfl (.tmp 30) (.tmp 32) 22 53 (.agg #[.string ⟨#[]⟩, .string ⟨#[]⟩, .slice none 0 0]) 56 rfl Tryz.underlying22 infoIR rfl (by decide) (by decide) v5 (rqV acc) (mk r.1, mk r.2.1, r.2.2.map mk) [.string (mk r.1), .string (mk r.2.1), .slice AV r.2.2.length cV] (fun k => B ≤ k) (fun k => w3.heap.size ≤ k) rfl (by first | rfl | (simp [Act.eval]; done)) ?aP ?aK ?aF ?aO ?aB ?aS ?aL ?_; (case aP => exact rq_elem2 HSZ.out.2.1 HRV6.out); (case aK => exact fun k hk => ⟨Nat.le_trans HSZ.out.1 hk, fun e => by have := HLV.out k e.symm; omega⟩); (case aF => exact fun k hk => Nat.le_trans HS6.out.sz hk); (case aO => exact HS6.out.rw_); (case aB => exact HS6.out.be); (case aS => exact HS6.out.be.size); (case aL => have := HB0.out; (simp only [List.length_map]; omega)); intro vN wN ho hb hg hat; rw [show rqV acc ++ [(mk r.1, mk r.2.1, r.2.2.map mk)] = rqV (acc ++ [r]) from by simp [rqV]] at ho; have HS7 := Aside0.mk (HS6.out.app ho hg); clear ho hb hg hat) | ((with_reducible refine (HC0.out _ HS7.out.ex).mono ?_); rintro e w8 ⟨rfl, hp5, hk5⟩; have HS8 := Aside0.mk (HS7.out.move HRB.out hp5 hk5); clear hp5 hk5 HC0))
      go_ret2
      exact SlR.some' HR.out HS8.out.be HS8.out.rw_
    rw [if_neg h1] at hra
    have f1 : ((vk k2 : Int) == 1) = false := by rw [beq_eq_false_iff_ne]; omega
    by_cases h3 : vk k2 = 3
    rotate_left
    · rw [if_neg h3] at hra
      have HR : Aside0 (R = none) := ⟨hra.symm⟩
      have f3 : ((vk k2 : Int) == 3) = false := by rw [beq_eq_false_iff_ne]; omega
      obtain ⟨kk2, hkk2⟩ : ∃ kk, vk k2 = kk := ⟨_, rfl⟩
      rw [hkk2] at HC0 f1 f3
      clear hkk2 h1 h3 hra hlen hl2
      go_wp2_with (first | ((with_reducible refine gate_builtin (b := .append) (xs := #[.tmp 30, .tmp 32]) rfl ?_); (try (refine gate_guard (by rfl) ?_; dsimp only)); at_builtin; refine Kd.R_append KQ (w0 := w) (w.heap.size) rfl (.tmp 30) (.tmp 32) 22 53 (.agg #[.string ⟨#[]⟩, .string ⟨#[]⟩, .slice none 0 0]) 56 rfl Tryz.underlying22 infoIR rfl (by decide) (by decide) v5 (rqV acc) (mk r.1, mk r.2.1, r.2.2.map mk) [.string (mk r.1), .string (mk r.2.1), .slice AV r.2.2.length cV] (fun k => B ≤ k) (fun k => w3.heap.size ≤ k) rfl (by first | rfl | (simp [Act.eval]; done)) ?aP ?aK ?aF ?aO ?aB ?aS ?aL ?_; (case aP => exact rq_elem2 HSZ.out.2.1 HRV6.out); (case aK => exact fun k hk => ⟨Nat.le_trans HSZ.out.1 hk, fun e => by have := HLV.out k e.symm; omega⟩); (case aF => exact fun k hk => Nat.le_trans HS6.out.sz hk); (case aO => exact HS6.out.rw_); (case aB => exact HS6.out.be); (case aS => exact HS6.out.be.size); (case aL => have := HB0.out; (simp only [List.length_map]; omega)); intro vN wN ho hb hg hat; rw [show rqV acc ++ [(mk r.1, mk r.2.1, r.2.2.map mk)] = rqV (acc ++ [r]) from by simp [rqV]] at ho; have HS7 := Aside0.mk (HS6.out.app ho hg); clear ho hb hg hat) | ((with_reducible refine (HC0.out _ HS7.out.ex).mono ?_); rintro e w8 ⟨rfl, hp5, hk5⟩; have HS8 := Aside0.mk (HS7.out.move HRB.out hp5 hk5); clear hp5 hk5 HC0))
      go_ret2
      exact SlR.none' HR.out HS8.out.be
    rw [if_pos h3] at hra
    rw [h3] at HC0
    obtain ⟨k3, s3, ts3, rfl, ht3⟩ := HE.out.more HI.out (by omega)
    simp only at hra
    rw [show stp i ((k3, s3) :: ts3) = i + 1 from if_neg (by simp)] at HC0
    have HL3 := Aside0.mk (fun (W : World) (h : EX W rb B T (i + 1)) => pk_calls rb B (i + 1) T ts3 k3 s3 (by have := HT9.out; omega) ht3 W h)
    clear f1 h1 h3
    by_cases h38 : vk k3 = 8 ∨ vk k3 = 4
    rotate_left
    · rw [if_neg h38] at hra
      have HR : Aside0 (R = none) := ⟨hra.symm⟩
      obtain ⟨kk3, hkk3⟩ : ∃ kk, vk k3 = kk := ⟨_, rfl⟩
      rw [hkk3] at HL3 h38
      have f8 : ((kk3 : Int) != 8) = true := by rw [bne_iff_ne]; omega
      have f4 : ((kk3 : Int) != 4) = true := by rw [bne_iff_ne]; omega
      clear hkk3 h38 hra hlen hl2 ht3
      go_wp2_with (first | ((with_reducible refine gate_builtin (b := .append) (xs := #[.tmp 30, .tmp 32]) rfl ?_); (try (refine gate_guard (by rfl) ?_; dsimp only)); at_builtin; refine Kd.R_append KQ (w0 := w) (w.heap.size) rfl (.tmp 30) (.tmp 32) 22 53 (.agg #[.string ⟨#[]⟩, .string ⟨#[]⟩, .slice none 0 0]) 56 rfl Tryz.underlying22 infoIR rfl (by decide) (by decide) v5 (rqV acc) (mk r.1, mk r.2.1, r.2.2.map mk) [.string (mk r.1), .string (mk r.2.1), .slice AV r.2.2.length cV] (fun k => B ≤ k) (fun k => w3.heap.size ≤ k) rfl (by first | rfl | (simp [Act.eval]; done)) ?aP ?aK ?aF ?aO ?aB ?aS ?aL ?_; (case aP => exact rq_elem2 HSZ.out.2.1 HRV6.out); (case aK => exact fun k hk => ⟨Nat.le_trans HSZ.out.1 hk, fun e => by have := HLV.out k e.symm; omega⟩); (case aF => exact fun k hk => Nat.le_trans HS6.out.sz hk); (case aO => exact HS6.out.rw_); (case aB => exact HS6.out.be); (case aS => exact HS6.out.be.size); (case aL => have := HB0.out; (simp only [List.length_map]; omega)); intro vN wN ho hb hg hat; rw [show rqV acc ++ [(mk r.1, mk r.2.1, r.2.2.map mk)] = rqV (acc ++ [r]) from by simp [rqV]] at ho; have HS7 := Aside0.mk (HS6.out.app ho hg); clear ho hb hg hat) | ((with_reducible refine (HC0.out _ HS7.out.ex).mono ?_); rintro e w8 ⟨rfl, hp5, hk5⟩; have HS8 := Aside0.mk (HS7.out.move HRB.out hp5 hk5); clear hp5 hk5 HC0) | ((with_reducible refine (HL3.out _ HS8.out.ex).mono ?_); rintro e w9 ⟨rfl, hb⟩; have HS9 := Aside0.mk (HS8.out.below hb); clear hb HL3))
      go_ret2
      exact SlR.none' HR.out HS9.out.be
    rw [if_pos h38, map_app] at hra
    have HRA2 := Aside0.mk hra
    have HL9 : Aside0 (ts3.length + 1 ≤ m) := ⟨by simp only [List.length_cons] at hl2; omega⟩
    clear hra hlen hl2 ht3
    rcases h38 with h38 | h38
    all_goals
      rw [h38] at HL3
      clear h38
      go_wp2_with (first | ((with_reducible refine gate_builtin (b := .append) (xs := #[.tmp 30, .tmp 32]) rfl ?_); (try (refine gate_guard (by rfl) ?_; dsimp only)); at_builtin; refine Kd.R_append KQ (w0 := w) (w.heap.size) rfl (.tmp 30) (.tmp 32) 22 53 (.agg #[.string ⟨#[]⟩, .string ⟨#[]⟩, .slice none 0 0]) 56 rfl Tryz.underlying22 infoIR rfl (by decide) (by decide) v5 (rqV acc) (mk r.1, mk r.2.1, r.2.2.map mk) [.string (mk r.1), .string (mk r.2.1), .slice AV r.2.2.length cV] (fun k => B ≤ k) (fun k => w3.heap.size ≤ k) rfl (by first | rfl | (simp [Act.eval]; done)) ?aP ?aK ?aF ?aO ?aB ?aS ?aL ?_; (case aP => exact rq_elem2 HSZ.out.2.1 HRV6.out); (case aK => exact fun k hk => ⟨Nat.le_trans HSZ.out.1 hk, fun e => by have := HLV.out k e.symm; omega⟩); (case aF => exact fun k hk => Nat.le_trans HS6.out.sz hk); (case aO => exact HS6.out.rw_); (case aB => exact HS6.out.be); (case aS => exact HS6.out.be.size); (case aL => have := HB0.out; (simp only [List.length_map]; omega)); intro vN wN ho hb hg hat; rw [show rqV acc ++ [(mk r.1, mk r.2.1, r.2.2.map mk)] = rqV (acc ++ [r]) from by simp [rqV]] at ho; have HS7 := Aside0.mk (HS6.out.app ho hg); clear ho hb hg hat) | ((with_reducible refine (HC0.out _ HS7.out.ex).mono ?_); rintro e w8 ⟨rfl, hp5, hk5⟩; have HS8 := Aside0.mk (HS7.out.move HRB.out hp5 hk5); clear hp5 hk5 HC0) | ((with_reducible refine (HL3.out _ HS8.out.ex).mono ?_); rintro e w9 ⟨rfl, hb⟩; have HS9 := Aside0.mk (HS8.out.below hb); clear hb HL3))
      go_roundg m
      case measure => omega
      case rel => exact ⟨i + 1, acc ++ [r], _, rfl, ⟨by rw [HD.out]; exact HRA2.out⟩, ⟨by rw [HD.out]; exact HL9.out, by rw [List.length_append]; simp only [List.length_cons, List.length_nil]; omega, by rw [HD.out]; simp⟩, HS9⟩
theorem RKey_calls (g : Nat) (s : ByteArray) (w : World) (h : w.cell? ⟨g, 0, none⟩ = some (.string s)) :
   Calls Tryz.prog 79 #[.pointer (some ⟨g, 0, none⟩)] w fun e w' => e = .returned (.string s) ∧ w' = w := by
 go_enter Tryz.func79, Tryz.ntmps79
 go_wp2
 go_ret
 exact ⟨rfl, rfl⟩
theorem ROp_calls (g : Nat) (s : ByteArray) (w : World) (h : w.cell? ⟨g, 1, none⟩ = some (.string s)) :
   Calls Tryz.prog 80 #[.pointer (some ⟨g, 0, none⟩)] w fun e w' => e = .returned (.string s) ∧ w' = w := by
 go_enter Tryz.func80, Tryz.ntmps80
 go_wp2
 go_ret
 exact ⟨rfl, rfl⟩
set_option maxHeartbeats 8000000 in
theorem ZzVals_calls (key op : ByteArray) (A : Option Addr) (c n : Nat) (vs : List ByteArray) (hn : vs.length = n) (hn2 : n ≤ 1000000) (w : World) (hC : Kd.C Kd.string w A n vs) :
   Calls Tryz.prog 81 #[.agg #[.string key, .string op, .slice A n c]] w fun e w' => ∃ v : Value, e = .returned v ∧ Kd.R Kd.string 9 w' w.heap.size (fun k => w.heap.size ≤ k) v vs ∧ Below w.heap.size w w' := by
 have hbk := heap_alloc_new w (.cells #[.string key, .string op, .slice A n c] 88)
 have hb1 := below_alloc (Below.refl w.heap.size w) (.cells #[.string key, .string op, .slice A n c] 88)
 obtain ⟨W1, hW1⟩ : ∃ W1, w.alloc (.cells #[.string key, .string op, .slice A n c] 88) = W1 := ⟨_, rfl⟩
 rw [hW1] at hbk hb1
 have c2 : W1.cell? ⟨w.heap.size, 2, none⟩ = some (.slice A n c) := (blk_cell hbk 2).trans rfl
 have hb2 := below_alloc hb1 (.cells #[] 9)
 have c2' : (W1.alloc (.cells #[] 9)).cell? ⟨w.heap.size, 2, none⟩ = some (.slice A n c) := ((below_alloc (Below.refl W1.heap.size W1) (.cells #[] 9)).cell (p := ⟨w.heap.size, 2, none⟩) (blk_lt hbk)).trans c2
 have HR0 := Aside0.mk (R_empty W1 w.heap.size hb1.size)
 have HB2 := Aside0.mk hb2
 have HC2 := Aside0.mk (Kd.C_below hC hb2)
 have HN := Aside0.mk hn
 clear hbk hb1 hb2 hC hn
 go_enter Tryz.func81, Tryz.ntmps81
 go_wp2_with (first | ((with_reducible refine gate_builtin (b := .append) (xs := #[.tmp 3, .tmp 5]) rfl ?_); (try (refine gate_guard (by rfl) ?_; dsimp only)); at_builtin; refine Kd.R_append_rows Kd.string (w0 := w) w.heap.size rfl (.tmp 3) (.tmp 5) 51 9 (.string ⟨#[]⟩) 16 rfl Tryz.underlying51 infoS rfl (by decide) (by decide) (.slice (some ⟨W1.heap.size, 0, none⟩) 0 0) [] vs A n c (fun _ => True) (fun _ => False) rfl rfl ?aO ?aR (fun _ _ h => h) (fun _ h => h.elim) ?aF ?aB ?aS ?aL ?_; (case aR => exact HC2.out); (case aB => exact HB2.out); (case aF => exact (fun _ _ => trivial)); (case aO => exact HR0.out); (case aS => exact below_size HB2.out); (case aL => have := HN.out; simp only [List.length_nil]; omega); intro v1 w1 ho hb hg hat; rw [List.nil_append] at ho; have HO := Aside0.mk ho; have HB := Aside0.mk hb; clear ho hb hg hat))
 go_ret
 exact ⟨_, rfl, Kd.R_mono (Kd.R_bound HO.out) (fun k hk => hk.2.1), HB.out⟩
theorem rq_elem3 {W : World} {B base n : Nat} {r : Rq} {A : Option Addr} {c : Nat} (hb : base ≤ B) (hn : r.2.2.length = n) (h : Kd.R Kd.string 9 W B (fun k => B ≤ k) (.slice A n c) (r.2.2.map mk)) :
   KQ.M W base (fun k => B ≤ k) (mk r.1, mk r.2.1, r.2.2.map mk) [.string (mk r.1), .string (mk r.2.1), .slice A n c] := by
 subst hn; exact rq_elem2 hb h
set_option maxHeartbeats 16000000 in
theorem Reqs_calls (l : List Rq) (n : Nat) (hn : l.length = n) (hn2 : n ≤ 900) (hg : ∀ r ∈ l, r.2.2.length ≤ 900) (A : Option Addr) (c : Nat) (w : World) (hC : KQ.C w A n (rqV l)) :
   Calls Tryz.prog 45 #[.iface 121 (.slice A n c)] w fun e w' => ∃ v, e = .returned v ∧ KQ.R 53 w' w.heap.size (fun _ => True) v (rqV l) ∧ Below w.heap.size w w' := by
 have HC := Aside0.mk hC
 have HLN := Aside0.mk hn
 have HG := Aside0.mk hg
 have HB := Aside0.mk (Below.refl w.heap.size w)
 have na1 : ∀ w : World, (nilAhead 390 121 (.slice A n c) "Requirements").run Tryz.prog w = .ok (some false) w := fun _ => by kernel_rfl
 have me1 : ∀ w : World, (method 390 121 (.slice A n c) "Requirements").run Tryz.prog w = .ok (247, .slice A n c) w := fun _ => by kernel_rfl
 have HRQ := Aside0.mk (show ∀ W : World, Calls Tryz.prog 247 #[.slice A n c] W fun e w' => e = .returned (.tuple #[.slice A n c, .bool true]) ∧ w' = W from fun W => by
  go_enter Tryz.func247, Tryz.ntmps247
  go_wp2
  go_ret2
  exact ⟨rfl, rfl⟩)
 clear hC hn hg
 go_enter Tryz.func45, Tryz.ntmps45
 go_wp2_with (first | ((with_reducible refine (HRQ.out _).mono ?_); rintro e w1 ⟨rfl, rfl⟩))
 go_loopg [5, 15] (n) (fun k v5 v15 w' => ∃ i : Nat, v15 = .int .i64 i ∧ Aside0 (k + i = n) ∧ Aside0 (KQ.R 53 w' w1.heap.size (fun _ => True) v5 (rqV (l.take i))) ∧ Aside0 (Below w1.heap.size w1 w'))
 case atStart => exact ⟨0, rfl, ⟨by omega⟩, ⟨Kd.R_nil _ _ _ _ _⟩, HB⟩
 case round =>
  clear HB
  obtain ⟨i, rfl, HI, HR, HB⟩ := hrel
  by_cases hil : i < n
  · obtain ⟨r, hr⟩ : ∃ r, l[i]? = some r := ⟨_, List.getElem?_eq_getElem (by rw [HLN.out]; exact hil)⟩
    obtain ⟨ad, B, cb, rfl, c0, c1, c2, hcb, hCC⟩ := kq_at2 (Kd.C_below HC.out HB.out) i hil r hr
    obtain ⟨nv, hnv⟩ : ∃ nv, r.2.2.length = nv := ⟨_, rfl⟩
    rw [hnv] at c2 hCC
    have hbk := heap_alloc_new wr (.cells #[.string (mk r.1), .string (mk r.2.1), .slice B nv cb] 88)
    have hb2 := below_alloc HB.out (.cells #[.string (mk r.1), .string (mk r.2.1), .slice B nv cb] 88)
    have hb3 := below_alloc (Below.refl wr.heap.size wr) (.cells #[.string (mk r.1), .string (mk r.2.1), .slice B nv cb] 88)
    obtain ⟨g7, hg7⟩ : ∃ g, wr.heap.size = g := ⟨_, rfl⟩
    have HLR := Aside0.mk (fun k (e : u5.ownBlock = some k) => Kd.R_lt HR.out k e)
    obtain ⟨w2, hw2⟩ : ∃ w2, wr.alloc (.cells #[.string (mk r.1), .string (mk r.2.1), .slice B nv cb] 88) = w2 := ⟨_, rfl⟩
    rw [hw2] at hbk hb2 hb3
    have HNEW : Aside0 (rqV (l.take i) ++ [(mk r.1, mk r.2.1, r.2.2.map mk)] = rqV (l.take (i + 1))) := ⟨by rw [List.take_add_one, hr]; simp [rqV]⟩
    have HLEN : Aside0 ((rqV (l.take i)).length ≤ 900) := ⟨by rw [List.length_map, List.length_take]; omega⟩
    have HNV : Aside0 (nv ≤ 900) := ⟨by rw [← hnv]; exact HG.out r (List.mem_of_getElem? hr)⟩
    have HNL := Aside0.mk hnv
    have HR2 := Aside0.mk (Kd.R_below HR.out hb3)
    have HB2 := Aside0.mk hb2
    have HCV := Aside0.mk (Kd.C_below hCC hb3)
    clear hr hcb hCC hnv hb2 hb3
    go_upto_region 6 with (fail)
    rw [hg7] at hbk
    obtain ⟨d0, d1, d2⟩ := blk3 hbk
    have HBK := Aside0.mk hbk
    have HLV : Aside0 (∀ k, u5.ownBlock = some k → k < g7) := ⟨fun k e => by rw [← hg7]; exact HLR.out k e⟩
    have HG7 : Aside0 (g7 < w2.heap.size) := ⟨blk_lt HBK.out⟩
    clear c0 c1 c2 hw2 hbk hg7 HB HR
    go_region_held3 (fun w' => w'.cell? ⟨g7, 0, none⟩ = some (.string (mk r.1)) ∧ w'.cell? ⟨g7, 1, none⟩ = some (.string (mk r.2.1)) ∧ w'.cell? ⟨g7, 2, none⟩ = some (.slice B nv cb)) (first | exact ⟨d0, d1, d2⟩ | exact ⟨f0, f1, f2⟩ | exact ⟨q0, q1, q2⟩ | go_keep) (first | (refine Kd.R_append_step KQ (w0 := w1) (w1.heap.size) (by rfl) (.tmp 19) (.tmp 25) 22 53 (.agg #[.string ⟨#[]⟩, .string ⟨#[]⟩, .slice none 0 0]) 56 rfl Tryz.underlying22 infoIR rfl (by decide) (by decide) u5 (rqV (l.take i)) (mk r.1, mk r.2.1, r.2.2.map mk) [.string (mk r.1), .string (mk r.2.1), .slice A4 nv c4] (fun _ => True) (fun k => w2.heap.size ≤ k) rfl (by first | rfl | (simp [Act.eval]; done)) ?aP ?aK ?aF ?aO ?aB ?aS ?aL ?_; (case aP => exact rq_elem3 HSZ.out.2 HNL.out HR4.out); (case aK => exact fun k hk => ⟨trivial, fun e => by have := HLV.out k e.symm; have := HG7.out; omega⟩); (case aF => exact fun _ _ => trivial); (case aO => exact HRW.out); (case aB => exact HB4.out); (case aS => exact HB4.out.size); (case aL => have := HLEN.out; omega); intro vN wN ho hb hg hat; rw [HNEW.out] at ho; have HR5 := Aside0.mk ho; have HB5 := Aside0.mk hb; have hbk5 := blk_grown HBK4.out hg (fun e => by have h1 := HLV.out _ e.symm; have h2 := HG7.out; omega); obtain ⟨q0, q1, q2⟩ := blk3 hbk5; clear ho hb hg hat hbk5) | (go_at_call 79; refine (RKey_calls g7 (mk r.1) _ ?hb).mono ?_; (case hb => exact d0); rintro e wk ⟨rfl, rfl⟩) | (go_at_call 80; refine (ROp_calls g7 (mk r.2.1) _ ?hb).mono ?_; (case hb => exact d1); rintro e wk ⟨rfl, rfl⟩) | (go_at_call 81; refine (ZzVals_calls (mk r.1) (mk r.2.1) B cb nv (r.2.2.map mk) (by rw [List.length_map]; exact HNL.out) (by have := HNV.out; omega) _ ?hc).mono ?_; (case hc => first | exact HCV.out | exact Kd.C_drew HCV.out | exact Kd.C_drewN HCV.out _); rintro e w4 ⟨v4, rfl, hr4_, hb_⟩; have hr4 : Kd.R Kd.string 9 w4 w2.heap.size (fun k => w2.heap.size ≤ k) v4 (r.2.2.map mk) := hr4_; have hb : Below w2.heap.size w2 w4 := (by first | exact hb_ | exact (below_drew1 (Below.refl _ _)).trans hb_ | exact (pw_below_drewN (Below.refl _ _) _).trans hb_); obtain ⟨A4, c4, e4⟩ := Kd.R_slice hr4; rw [List.length_map, HNL.out] at e4; subst e4; have HR4 := Aside0.mk hr4; have HRW := Aside0.mk (Kd.R_below HR2.out hb); have HB4 := Aside0.mk (below_step HB2.out hb); have HSZ : Aside0 (w2.heap.size ≤ w4.heap.size ∧ w1.heap.size ≤ w2.heap.size) := ⟨hb.size, HB2.out.size⟩; have hbk4 := (hb.block _ (blk_lt HBK.out)).trans HBK.out; obtain ⟨f0, f1, f2⟩ := blk3 hbk4; have HBK4 := Aside0.mk hbk4; clear hr4 hr4_ hb hb_ hbk4))
    all_goals go_wp2
    go_roundg (n - (i + 1))
    case measure => have := HI.out; omega
    case rel => exact ⟨i + 1, by go_num, ⟨by omega⟩, HR5, HB5⟩
  · have hie : i = n := by have := HI.out; omega
    have hr := HR.out
    rw [List.take_of_length_le (by rw [HLN.out, hie]; exact Nat.le_refl _)] at hr
    have HX := Aside0.mk hr
    clear hr HR hie
    go_wp2
    go_ret
    exact ⟨_, rfl, HX.out, HB.out⟩
end Go.Proofs.YthfjolafikgpoaaGreatDoor.Hand
