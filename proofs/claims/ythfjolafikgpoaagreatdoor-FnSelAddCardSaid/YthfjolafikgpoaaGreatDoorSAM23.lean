/- (internalSelector).Matches. -/
import Derived.Test.YthfjolafikgpoaaGreatDoorSAGParC
import Derived.Test.YthfjolafikgpoaaGreatDoorSAGLabC
import Derived.Test.YthfjolafikgpoaaGreatDoorSAGLabB
import Derived.Tactics
import Derived.Tactics2
import Derived.Defers
import Derived.Recover
import Derived.Laws.Pointers
import Derived.Deep.RegionHeld3
import Derived.Test.YthfjolafikgpoaaGreatDoorSALabNew
namespace Go.Proofs.YthfjolafikgpoaaGreatDoor.Hand
open Go.RowKit Go.Maps Go.Proofs.YthfjolafikgpoaaGreatDoorW.PrintWords Go.Proofs.YthfjolafikgpoaaGreatDoorW.PrintLast Go.Proofs.YthfjolafikgpoaaGreatDoorW.PrintMore Go.Proofs.YthfjolafikgpoaaGreatDoor.Base
set_option linter.unusedVariables false
set_option linter.unusedSimpArgs false
set_option maxRecDepth 100000
def rqSm (r : Rq) : Prop := r.1.length ≤ 100000000 ∧ r.2.2.length ≤ 1000000 ∧ ∀ v ∈ r.2.2, v.length ≤ 100000000
theorem kq_at {w : World} {A : Option Addr} {n : Nat} {l : List Rq} (h : KQ.C w A n (rqV l)) (i : Nat) (h1 : i < n) (r : Rq) (hr : l[i]? = some r) :
   ∃ (ad : Addr) (B : Option Addr) (c : Nat), A = some ad ∧ w.cell? (ad.add (i * 3)) = some (.string (mk r.1)) ∧ w.cell? ⟨(ad.add (i * 3)).block, (ad.add (i * 3)).off + 1, none⟩ = some (.string (mk r.2.1)) ∧ w.cell? ⟨(ad.add (i * 3)).block, (ad.add (i * 3)).off + 2, none⟩ = some (.slice B r.2.2.length c) ∧ Kd.C Kd.string w B r.2.2.length (r.2.2.map mk) := by
 obtain ⟨ad, c, e, hl, ⟨c0, c1, hc, k0, c2, c3, hc2, k2, B, cc, hc3, hcc, hC⟩, hat⟩ := Kd.C_get h (mk r.1, mk r.2.1, r.2.2.map mk) (i : Int) (by omega) (by omega)
 rw [Int.toNat_natCast] at k0 k2 hC hat hc3 hcc
 have hx : (rqV l).getD i (mk r.1, mk r.2.1, r.2.2.map mk) = (mk r.1, mk r.2.1, r.2.2.map mk) := by
  rw [List.getD_eq_getElem?_getD, rqV, List.getElem?_map, hr]; rfl
 rw [hx] at k0 k2 hC hc3 hcc
 have k0' : c0 = [.string (mk r.1)] := k0
 have k2' : c2 = [.string (mk r.2.1)] := k2
 simp only [List.length_map] at hC hc3 hcc
 subst k0' k2' hc3 hc2
 subst hc
 refine ⟨ad, B, cc, e, hat 0 _ rfl, ?_, ?_, hC⟩
 · show w.cell? ((ad.add (i * 3)).add 1) = _
   rw [add_add]; exact hat 1 _ rfl
 · show w.cell? ((ad.add (i * 3)).add 2) = _
   rw [add_add]; exact hat 2 _ rfl
theorem add_spot {ad : Addr} (h : ad.spot = none) (k : Nat) : ad.add k = ⟨ad.block, ad.off + k, none⟩ := by
 unfold Addr.add
 split
 · rename_i e
   subst e
   cases ad
   simp only at h
   subst h
   rfl
 · rfl
abbrev rqMeets (m : List (L × L)) (r : Rq) : Bool := meetsR r.2.1 r.2.2 (mget m r.1)
set_option maxHeartbeats 4000000 in
theorem SMatches_calls (l : List Rq) (n : Nat) (hn : l.length = n) (hl : n ≤ 1000) (hsm : ∀ r ∈ l, rqSm r) (A : Option Addr) (c : Nat) (bm N : Nat) (m : List (L × L)) (hmz : ∀ k v, mget m k = some v → v.length ≤ 100000000) (w : World) (hsp : ∀ ad, A = some ad → ad.spot = none) (hC : KQ.C w A n (rqV l)) (hM : IsLab w bm N m) (hT : TV w) :
   Calls Tryz.prog 246 #[.slice A n c, .iface 96 (.map (some bm))] w fun e w' => e = .returned (.bool (l.all (rqMeets m))) ∧ Below w.heap.size w w' := by
 have HC := Aside0.mk hC
 have HLN := Aside0.mk hn
 have HME := Aside0.mk (fun (r : Rq) (hr : r ∈ l) (b o : Nat) (B : Option Addr) (cb : Nat) (W : World) (hb : Below w.heap.size w W) c0 c1 c2 (hCC : Kd.C Kd.string W B r.2.2.length (r.2.2.map mk)) => Matches_calls (mk r.1) (mk r.2.1) (by rw [mk_size]; exact (hsm r hr).1) B cb r.2.2.length b o (r.2.2.map mk) (by rw [List.length_map]) (hsm r hr).2.1 (fun p hp => by
  obtain ⟨x, hx, rfl⟩ := List.mem_map.1 hp
  rw [mk_size]; exact (hsm r hr).2.2 x hx) bm N m (fun v hv => hmz _ v hv) W c0 c1 c2 hCC (hM.below hb) (hT.below hb))
 clear hC hn hM hT hsm
 go_enter Tryz.func246, Tryz.ntmps246
 go_wp2
 go_loopg [9] (n) (fun k v9 w' => ∃ i : Nat, v9 = .int .i64 i ∧ Aside0 (k + i = n) ∧ Aside0 ((l.take i).all (rqMeets m) = true) ∧ Aside0 (Below w.heap.size w w'))
 case atStart => exact ⟨0, rfl, ⟨by omega⟩, ⟨rfl⟩, ⟨Below.refl _ _⟩⟩
 case round =>
  obtain ⟨i, rfl, HI, HA, HB⟩ := hrel
  by_cases hil : i < n
  · obtain ⟨r, hr⟩ : ∃ r, l[i]? = some r := ⟨_, List.getElem?_eq_getElem (by rw [HLN.out]; exact hil)⟩
    obtain ⟨ad, B, cb, rfl, c0, c1, c2, hCC⟩ := kq_at (Kd.C_below HC.out HB.out) i hil r hr
    have ea : ad.add (i * 3) = ⟨ad.block, ad.off + i * 3, none⟩ := add_spot (hsp ad rfl) _
    have HM : Aside0 (Calls Tryz.prog 217 #[.pointer (some (ad.add (i * 3))), .iface 96 (.map (some bm))] wr fun e w' => e = .returned (.bool (meetsR r.2.1 r.2.2 (mget m r.1))) ∧ Below wr.heap.size wr w') := by
     rw [ea] at c0 c1 c2
     have h := HME.out r (List.mem_of_getElem? hr) ad.block (ad.off + i * 3) B cb wr HB.out c0 c1 c2 hCC
     rw [vL_mk] at h
     rw [ea]
     exact ⟨h⟩
    clear ea
    have HTK : Aside0 ((l.take (i + 1)).all (rqMeets m) = (meetsR r.2.1 r.2.2 (mget m r.1))) := ⟨by rw [List.take_add_one, hr, List.all_append, HA.out]; simp [rqMeets]⟩
    have HAL : Aside0 (meetsR r.2.1 r.2.2 (mget m r.1) = false → l.all (rqMeets m) = false) := ⟨fun h => by rw [List.all_eq_false]; exact ⟨r, List.mem_of_getElem? hr, by rw [show rqMeets m r = false from h]; simp⟩⟩
    clear hr c0 c1 c2 hCC HA
    cases hq : meetsR r.2.1 r.2.2 (mget m r.1) with
    | false =>
      rw [hq] at HM HAL
      have HX := Aside0.mk (HAL.out rfl)
      clear hq HAL HTK
      go_wp2_with (first | ((with_reducible refine (HM.out).mono ?_); rintro e w2 ⟨rfl, hb⟩; have HB2 := Aside0.mk (below_step HB.out hb); clear hb))
      go_ret
      exact ⟨by rw [HX.out]; rfl, HB2.out⟩
    | true =>
      rw [hq] at HM HTK
      clear hq HAL
      go_wp2_with (first | ((with_reducible refine (HM.out).mono ?_); rintro e w2 ⟨rfl, hb⟩; have HB2 := Aside0.mk (below_step HB.out hb); clear hb))
      go_roundg (n - (i + 1))
      case measure => have := HI.out; omega
      case rel => exact ⟨i + 1, by go_num, ⟨by omega⟩, HTK, HB2⟩
  · have hie : i = n := by have := HI.out; omega
    have HX : Aside0 (l.all (rqMeets m) = true) := ⟨by have := HA.out; rwa [List.take_of_length_le (by rw [HLN.out, hie]; exact Nat.le_refl _)] at this⟩
    subst hie
    go_wp2
    go_ret
    exact ⟨by rw [HX.out]; rfl, HB.out⟩
theorem mget_size {ls : List (ByteArray × ByteArray)} {M : Nat} (hz : ∀ p ∈ ls, p.1.size ≤ M ∧ p.2.size ≤ M) (k v : L) (h : mget (labRev ls) k = some v) : v.length ≤ M := by
 unfold mget at h
 cases e : (labRev ls).find? (fun p => p.1 == k) with
 | none => rw [e] at h; cases h
 | some p =>
   rw [e] at h
   have hm := List.mem_of_find?_eq_some e
   unfold labRev at hm
   rw [List.mem_reverse, List.mem_map] at hm
   obtain ⟨q, hq, rfl⟩ := hm
   simp only [Option.map_some, Option.some.injEq] at h
   subst h
   have := (hz q hq).2
   exact (show q.2.data.toList.length = q.2.size by rw [ByteArray.size, Array.length_toList]) ▸ this
theorem out2 {w1 : World} {p q : Nat} {b0 i0 : Value} (hpq : p ≠ q) (HP : w1.heap[p]? = some (.cells #[b0] 4 (0, 0))) (HQ : w1.heap[q]? = some (.cells #[i0] 3 (0, 0))) (v u : Value) :
   w1.cell? ⟨p, 0, none⟩ = some b0 ∧ w1.frozen? ⟨p, 0, none⟩ = false ∧ (w1.setCell ⟨p, 0, none⟩ v).cell? ⟨q, 0, none⟩ = some i0 ∧ (w1.setCell ⟨p, 0, none⟩ v).frozen? ⟨q, 0, none⟩ = false ∧ ((w1.setCell ⟨p, 0, none⟩ v).setCell ⟨q, 0, none⟩ u).cell? ⟨p, 0, none⟩ = some v ∧ ((w1.setCell ⟨p, 0, none⟩ v).setCell ⟨q, 0, none⟩ u).cell? ⟨q, 0, none⟩ = some u := by
 have hQ4 := blk_far HQ (p := ⟨p, 0, none⟩) (show q ≠ p by omega) v
 have hP4 := blk_put HP 0 v (cs' := #[v]) rfl
 have HP5 := blk_far hP4 (p := ⟨q, 0, none⟩) (show p ≠ q by omega) u
 have HQ5 := blk_put hQ4 0 u (cs' := #[u]) rfl
 exact ⟨(blk_cell HP 0).trans rfl, blk_frozen HP 0, (blk_cell hQ4 0).trans rfl, blk_frozen hQ4 0, (blk_cell HP5 0).trans rfl, (blk_cell HQ5 0).trans rfl⟩
theorem pReq_sm {T ts' : List Tk} {p : Nat} {r : Rq} (hE : EndsT T) (hT : T.length ≤ 900) (hz : ∀ t ∈ T, t.2.length ≤ 1000000) (h : pReq (T.drop p) = some (r, ts')) : rqSm r := by
 have mem : ∀ q, ∀ t ∈ T.drop q, t.2.length ≤ 1000000 := fun q t ht => hz t (List.mem_of_mem_drop ht)
 have len : ∀ q, (T.drop q).length ≤ 900 := fun q => by rw [List.length_drop]; omega
 unfold pReq at h
 split at h
 · cases h
 · rename_i key op ts1 e1
   have hk := (pKey_next hE hz e1).2
   obtain ⟨p1, _, q1⟩ := pKey_tail e1
   split at h
   · split at h
     · cases h
     · rename_i op2 ts2 e2
       obtain ⟨p2, _, q2⟩ := pOp_tail e2
       rw [q1, List.drop_drop, List.drop_drop] at q2
       split at h
       · cases h
       · rename_i ks ts3 e3
         have q3 : Sm ks ∧ ks.length ≤ 900 := by
          rw [q2] at e3
          split at e3
          · exact pVals_sm (mem _) (len _) e3
          · exact pOne_sm (mem _) e3
         split at h
         · simp only [Option.some.injEq, Prod.mk.injEq] at h
           rw [← h.1]
           refine ⟨by show key.length ≤ _; omega, by show (setL ks).length ≤ _; have := setL_len ks; omega, fun v hv => ?_⟩
           have := q3.1 v ((setL_mem ks v).1 hv); omega
         · cases h
   · split at h
     · simp only [Option.some.injEq, Prod.mk.injEq] at h
       rw [← h.1]
       exact ⟨by show key.length ≤ _; omega, Nat.zero_le _, fun v hv => by cases hv⟩
     · cases h
theorem pAll_sm {T : List Tk} (hE : EndsT T) (hT : T.length ≤ 900) (hz : ∀ t ∈ T, t.2.length ≤ 1000000) : ∀ (m p : Nat) (l : List Rq), pAll m (T.drop p) = some l → l.length ≤ m ∧ ∀ r ∈ l, rqSm r := by
 intro m
 induction m with
 | zero => intro p l h; cases h
 | succ m ih =>
   intro p l h
   cases e : T.drop p with
   | nil => rw [e] at h; cases h
   | cons t ts =>
     obtain ⟨k, s⟩ := t
     rw [e] at h
     unfold pAll at h
     split at h
     · rw [← e] at h
       cases hr : pReq (T.drop p) with
       | none => rw [hr] at h; cases h
       | some r2 =>
         obtain ⟨r, ts'⟩ := r2
         have hrs := pReq_sm hE hT hz hr
         obtain ⟨q, _, hq⟩ := pReq_tail hr
         rw [hr] at h
         cases ts' with
         | nil => cases h
         | cons t1 ts1 =>
           obtain ⟨k1, s1⟩ := t1
           simp only at h
           split at h
           · simp only [Option.some.injEq] at h
             subst h
             exact ⟨by simp, fun x hx => by obtain rfl : x = r := by simpa using hx
                                            exact hrs⟩
           · split at h
             · cases ts1 with
               | nil => cases h
               | cons t2 ts2 =>
                 simp only at h
                 split at h
                 · cases ha : pAll m (t2 :: ts2) with
                   | none => rw [ha] at h; cases h
                   | some l2 =>
                     rw [ha] at h
                     simp only [Option.map_some, Option.some.injEq] at h
                     have hd : T.drop (p + q + 1) = t2 :: ts2 := by
                      rw [List.drop_drop] at hq
                      exact drop_one hq.symm
                     rw [← hd] at ha
                     obtain ⟨h1, h2⟩ := ih _ _ ha
                     subst h
                     refine ⟨by simp; omega, fun x hx => ?_⟩
                     rcases List.mem_cons.1 hx with rfl | hx
                     · exact hrs
                     · exact h2 x hx
                 · cases h
             · cases h
     · split at h
       · simp only [Option.some.injEq] at h
         subst h
         exact ⟨Nat.zero_le _, fun x hx => by cases hx⟩
       · cases h
def selR (R : Option (List Rq)) (m : List (L × L)) : Bool := match R with | some l => l.all (rqMeets m) | none => false
theorem perm_all {l l' : List Rq} (h : l'.Perm l) (p : Rq → Bool) : l'.all p = l.all p := by
 rw [Bool.eq_iff_iff, List.all_eq_true, List.all_eq_true]
 exact ⟨fun a x hx => a x (h.mem_iff.2 hx), fun a x hx => a x (h.mem_iff.1 hx)⟩
theorem kq_slice {W : World} {base : Nat} {ok : Nat → Prop} {v : Value} {l : List Rq} (h : KQ.R 88 W base ok v (rqV l)) : ∃ (A : Option Addr) (c : Nat), v = .slice A l.length c ∧ (∀ ad, A = some ad → ad.spot = none) ∧ KQ.C W A l.length (rqV l) := by
 obtain ⟨A, c, e, hl, hC⟩ := Kd.R_reads h
 rw [List.length_map] at e hC
 refine ⟨A, c, e, fun ad ha => ?_, hC⟩
 obtain ⟨inner, ho⟩ := Kd.R_own h
 rcases ho.2 with ⟨hv, _⟩ | ⟨g, cap, cur, hv, _⟩
 · rw [e] at hv; injection hv with hv; rw [ha] at hv; cases hv
 · rw [e] at hv; injection hv with hv; rw [ha] at hv; cases hv; rfl
theorem SMS_idle (p q : Addr) (w : World) :
   CallsD Tryz.prog 66 #[.pointer (some p), .pointer (some q)] .returning w fun e u' w' => e = .returned (.tuple #[]) ∧ u' = .returning ∧ w' = w := by
 refine callsD_of_wpS Tryz.func66 rfl fun c₀ cs hu => ?_
 apply wpS_seq
 apply wpS_region
 simp [wpOpsS, go_sem, recoverD, hu, Tryz.ntmps66, Exit.thenS]
 refine wpS_cond (t := false) (by simp [Act.eval, Array.replicate]) ?_
 simp only [Bool.false_eq_true, if_false]
 refine wpS_of_wp (wp_skip ?_)
 cases c₀
 simp_all [bodyPostS, results, Tryz.results66]
set_option maxHeartbeats 8000000 in
theorem SMS_calls (x : L) (hx : x.length ≤ 2000) (h0 : ∀ b ∈ x, b ≠ 0) (T : List Tk) (hTx : tokensL x = T) (hT : T.length ≤ 900) (hS : ∀ l, pAll T.length T = some l → SortOK l)
   (AL : Option Addr) (cl nl : Nat) (ls : List (ByteArray × ByteArray)) (hnl : ls.length = nl) (hnl2 : nl ≤ 200) (hlz : ∀ p ∈ ls, p.1.size ≤ 100000 ∧ p.2.size ≤ 100000) (w : World) (hP : PK.C w AL nl ls) (hT0 : TV w) :
   Calls Tryz.prog 31 #[.string (mk x), .slice AL nl cl] w fun e w' => e = .returned (.tuple #[.bool (selR (pAll T.length T) (labRev ls)), .int .i64 (bif (pAll T.length T).isSome then 0 else 1)]) ∧ Below w.heap.size w w' := by
 have hmf : ∀ (fn : Fn) (first cap : Array Value) (w : World), (Instr.makeFunc fn first cap).run Tryz.prog w = .ok (.func fn first cap) w := fun _ _ _ _ => rfl
 have hE : EndsT T := by rw [← hTx]; exact tokens_ends x.length x (Nat.le_refl _)
 have hz : ∀ t ∈ T, t.2.length ≤ 1000000 := by rw [← hTx]; intro t ht; have := tokens_lit x.length x (Nat.le_refl _) t ht; omega
 have HPA := Aside0.mk (fun (W : World) (hb : Below w.heap.size w W) => Parse_calls x (by omega) h0 T hTx hT hS W (hT0.below hb))
 have HSO := Aside0.mk (fun (W : World) (hb : Below w.heap.size w W) => setOf_calls AL cl ls (by omega) (fun p hp => ⟨by have := (hlz p hp).1; omega, by have := (hlz p hp).2; omega⟩) W (by rw [hnl]; exact Kd.C_below hP hb))
 rw [hnl] at HSO
 have hlr : ∀ k v, mget (labRev ls) k = some v → v.length ≤ 100000000 := fun k v h => by have := mget_size (fun p hp => hlz p hp) k v h; omega
 have HME := Aside0.mk (fun (l l' : List Rq) (hr : pAll T.length T = some l) (hp : l'.Perm l) (A : Option Addr) (c bm : Nat) (W : World) (hb : Below w.heap.size w W) (hsp : ∀ ad, A = some ad → ad.spot = none) (hC : KQ.C W A l'.length (rqV l')) (hM : IsLab W bm nl (labRev ls)) => SMatches_calls l' l'.length rfl (by
  have h1 := (pAll_sm hE hT hz T.length 0 l (by rw [List.drop_zero]; exact hr)).1; rw [hp.length_eq]; omega) (fun r hm => (pAll_sm hE hT hz T.length 0 l (by rw [List.drop_zero]; exact hr)).2 r (hp.mem_iff.1 hm)) A c bm nl (labRev ls) hlr W hsp hC hM (hT0.below hb))
 have hxs : (((mk x).size : Nat) : Int) ≤ 2000 := by rw [mk_size]; omega
 have hns : ((nl : Nat) : Int) ≤ 200 := by omega
 have g1 : (2000 < (((mk x).size : Nat) : Int)) = False := eq_false (by omega)
 have g2 : (200 < ((nl : Nat) : Int)) = False := eq_false (by omega)
 obtain ⟨W3, hW3⟩ : ∃ W3, (w.alloc (.cells #[.bool false] 4)).alloc (.cells #[.int .i64 0] 3) = W3 := ⟨_, rfl⟩
 have HB3 : Aside0 (Below w.heap.size w W3) := ⟨by rw [← hW3]; exact below_alloc (below_alloc (Below.refl _ _) _) _⟩
 have HP3 : Aside0 (W3.heap[w.heap.size]? = some (.cells #[.bool false] 4 (0, 0))) := ⟨by
  have := blk_alloc (heap_alloc_new w (.cells #[.bool false] 4)) (.cells #[.int .i64 0] 3)
  rw [hW3] at this; exact this⟩
 have HQ3 : Aside0 (W3.heap[w.heap.size + 1]? = some (.cells #[.int .i64 0] 3 (0, 0))) := ⟨by
  have := heap_alloc_new (w.alloc (.cells #[.bool false] 4)) (.cells #[.int .i64 0] 3)
  rw [hW3] at this; simpa using this⟩
 have HS3 : Aside0 (W3.heap.size = w.heap.size + 2) := ⟨by rw [← hW3]; simp⟩
 obtain ⟨sv, hsv⟩ : ∃ sv, mk x = sv := ⟨_, rfl⟩
 rw [hsv] at HPA hxs g1 ⊢
 clear hT0 hP hnl hlz hx h0 hTx hS hlr hsv hE hz
 cases hR : pAll T.length T with
 | none =>
   rw [hR] at HPA
   clear HME HSO hR
   go_enter_defers Tryz.func31, Tryz.ntmps31
   go_upto_region 5 with (first | ((with_reducible refine (HPA.out _ HB3.out).mono ?_); rintro e w1 ⟨⟨v, rfl, gv, rfl⟩, hb⟩; have HB1 := Aside0.mk hb; clear hb HPA))
   have HB := below_step HB3.out HB1.out
   have HPE := (HB1.out.block w.heap.size (by rw [HS3.out]; omega)).trans HP3.out
   have HQE := (HB1.out.block (w.heap.size + 1) (by rw [HS3.out]; omega)).trans HQ3.out
   obtain ⟨o1, o2, o3, o4, o5, o6⟩ := out2 (by omega) HPE HQE (.bool false) (.int .i64 1)
   have HBE := Aside0.mk (below_set (below_set HB (show w.heap.size ≤ w.heap.size by omega) (j := 0) (v := .bool false)) (show w.heap.size ≤ w.heap.size + 1 by omega) (j := 0) (v := .int .i64 1))
   clear HPE HQE HB
   go_wp2
   refine leaves_cons (f := 66) (args := #[.pointer (some ⟨w.heap.size, 0, none⟩), .pointer (some ⟨w.heap.size + 1, 0, none⟩)]) (by simp) (by simp [go_sem]) ?_
   refine (SMS_idle ⟨w.heap.size, 0, none⟩ ⟨w.heap.size + 1, 0, none⟩ _).mono ?_
   rintro e u' w'' ⟨rfl, rfl, rfl⟩
   simp [Leaves, settle, results, Tryz.results31, go_sem, o5, o6, Result.andThen]
   exact ⟨rfl, HBE.out⟩
 | some l =>
   rw [hR] at HPA
   have HML := Aside0.mk (HME.out l · hR)
   clear hR HME
   go_enter_defers Tryz.func31, Tryz.ntmps31
   go_upto_region 7 with (first | ((with_reducible refine (HPA.out _ HB3.out).mono ?_); rintro e w1 ⟨⟨v, l', rfl, hp, ha, hR⟩, hb⟩; obtain ⟨A, c, rfl, hsp, hC⟩ := kq_slice hR; have HB1 := Aside0.mk hb; have HC := Aside0.mk hC; have HSP := Aside0.mk hsp; have HPM := Aside0.mk hp; clear hb hp ha hR hC hsp HPA))
   have HB := Aside0.mk (below_step HB3.out HB1.out)
   have HPE := Aside0.mk ((HB1.out.block w.heap.size (by rw [HS3.out]; omega)).trans HP3.out)
   have HQE := Aside0.mk ((HB1.out.block (w.heap.size + 1) (by rw [HS3.out]; omega)).trans HQ3.out)
   have HLP := Aside0.mk (blk_lt HPE.out)
   have HLQ := Aside0.mk (blk_lt HQE.out)
   obtain ⟨q, hq⟩ : ∃ q, l'.all (rqMeets (labRev ls)) = q := ⟨_, rfl⟩
   have HQQ : Aside0 (selR (some l) (labRev ls) = q) := ⟨by rw [← hq]; exact (perm_all HPM.out _).symm⟩
   have HM2 := Aside0.mk (HML.out l' HPM.out A c)
   rw [hq] at HM2
   clear hq HML HPM
   obtain ⟨n, hn⟩ : ∃ n, l'.length = n := ⟨_, rfl⟩
   rw [hn] at HC HM2 ⊢
   clear hn
   have na1 : ∀ w : World, (nilAhead 390 121 (.slice A n c) "Matches").run Tryz.prog w = .ok (some false) w := fun _ => by kernel_rfl
   have me1 : ∀ w : World, (method 390 121 (.slice A n c) "Matches").run Tryz.prog w = .ok (246, .slice A n c) w := fun _ => by kernel_rfl
   go_region_held3 (fun _ => True) (exact trivial) (first | (go_at_call 57; refine (HSO.out _ ?hb).mono ?_; (case hb => first | exact HB.out | exact below_drew1 HB.out | exact pw_below_drewN HB.out _); rintro e w2 ⟨rfl, hM, hb⟩; have HM := Aside0.mk hM; have HB2 := Aside0.mk (below_step (show Below w1.heap.size w1 _ from by first | exact Below.refl _ _ | exact below_drew1 (Below.refl _ _) | exact pw_below_drewN (Below.refl _ _) _) hb); clear hM hb) | (go_at_call 246; refine (HM2.out _ _ (below_step HB.out HB2.out) HSP.out (Kd.C_below HC.out HB2.out) HM.out).mono ?_; rintro e w4 ⟨rfl, hb⟩; have HB4 := Aside0.mk (below_step HB2.out hb); clear hb HM; obtain ⟨o1, o2, o3, o4, o5, o6⟩ := out2 (by omega) ((HB4.out.block _ HLP.out).trans HPE.out) ((HB4.out.block _ HLQ.out).trans HQE.out) (.bool q) (.int .i64 0); have HBE := Aside0.mk (below_set (below_set (below_step HB.out HB4.out) (show w.heap.size ≤ w.heap.size by omega) (j := 0) (v := .bool q)) (show w.heap.size ≤ w.heap.size + 1 by omega) (j := 0) (v := .int .i64 0))))
   all_goals
     go_wp2
     refine leaves_cons (f := 66) (args := #[.pointer (some ⟨w.heap.size, 0, none⟩), .pointer (some ⟨w.heap.size + 1, 0, none⟩)]) (by simp) (by simp [go_sem]) ?_
     refine (SMS_idle ⟨w.heap.size, 0, none⟩ ⟨w.heap.size + 1, 0, none⟩ _).mono ?_
     rintro e u' w'' ⟨rfl, rfl, rfl⟩
     simp [Leaves, settle, results, Tryz.results31, go_sem, o5, o6, Result.andThen]
     exact ⟨HQQ.out.symm, HBE.out⟩
theorem pk_lit1 (W : World) (a b : ByteArray) : PK.C (W.alloc (.cells #[.string a, .string b] 42)) (some ⟨W.heap.size, 0, none⟩) 1 [(a, b)] := by
 have hr : Reps (PK.M W 0 (fun _ => True)) 2 [(a, b)] [.string a, .string b] := Reps.c2 ⟨[_], [_], rfl, rfl, rfl⟩ (Reps.none _ _)
 have h := OwnRow.lit (e := 42) W 0 hr (Nat.zero_le _) (by simp)
 obtain ⟨A, c, e, hl, hrow⟩ := OwnRow.reads h
 simp only [Value.slice.injEq] at e
 obtain ⟨rfl, _, _⟩ := e
 exact hrow.imp_ (Below.refl _ _) (fun _ _ hp => PK.K_of_M (w := W.alloc (.cells #[.string a, .string b] 42)) (base := 0) (ok := fun _ => True) (by exact hp))
theorem tok_ab : tokensL [97, 61, 98] = [(8, [97]), (6, [61]), (8, [98]), (1, [])] := by
 rw [tokens_more (by decide), show (lexL [97, 61, 98]).1 = 8 by decide, show (lexL [97, 61, 98]).2.1 = [97] by decide, show List.drop (lexL [97, 61, 98]).2.2 ([97, 61, 98] : L) = [61, 98] by decide,
   tokens_more (by decide), show (lexL [61, 98]).1 = 6 by decide, show (lexL [61, 98]).2.1 = [61] by decide, show List.drop (lexL [61, 98]).2.2 ([61, 98] : L) = [98] by decide,
   tokens_more (by decide), show (lexL [98]).1 = 8 by decide, show (lexL [98]).2.1 = [98] by decide, show List.drop (lexL [98]).2.2 ([98] : L) = [] by decide,
   tokens_end (by decide)]
theorem all_ab : pAll [((8 : Nat), ([97] : L)), (6, [61]), (8, [98]), (1, [])].length [(8, [97]), (6, [61]), (8, [98]), (1, [])] = some [([97], [61], [[98]])] := by decide
set_option maxHeartbeats 4000000 in
theorem epSel_calls (w : World) (hT : TV w) :
   Calls Tryz.prog 16 #[] w fun e w' => e = .returned (.bool true) ∧ Below w.heap.size w w' := by
 have HB1 := Aside0.mk (below_alloc (Below.refl w.heap.size w) (.cells #[.string ⟨#[97]⟩, .string ⟨#[98]⟩] 42))
 have h := SMS_calls [97, 61, 98] (by decide) (by decide) _ tok_ab (by decide) (fun l hl => by rw [all_ab] at hl; injection hl with hl; subst hl; exact sortOK_12 _ (by decide)) (some ⟨w.heap.size, 0, none⟩) 1 1 [(⟨#[97]⟩, ⟨#[98]⟩)] rfl (by decide) (fun p hp => by rw [List.mem_singleton.1 hp]; decide) _ (pk_lit1 w ⟨#[97]⟩ ⟨#[98]⟩) (hT.below HB1.out)
 rw [all_ab, show selR (some [([97], [61], [[98]])]) (labRev [(⟨#[97]⟩, ⟨#[98]⟩)]) = true by decide, show (mk [97, 61, 98] : ByteArray) = ⟨#[97, 61, 98]⟩ from rfl] at h
 have HS := Aside0.mk h
 clear h
 go_enter Tryz.func16, Tryz.ntmps16
 go_wp2_with (first | ((with_reducible refine (HS.out).mono ?_); rintro e w1 ⟨rfl, hb⟩; have HB2 := Aside0.mk (below_step HB1.out hb); clear hb))
 go_ret
 exact ⟨rfl, HB2.out⟩
theorem all_snoc {α : Type} {f : α → Bool} {l : List α} {i : Nat} {p : α} (hp : l[i]? = some p) (h : (l.take i).all f = true) (h2 : f p = true) : (l.take (i + 1)).all f = true := by
 rw [List.take_add_one, hp]; simp only [List.all_append] at *; rw [h]; simp [h2]
theorem all_not {α : Type} {f : α → Bool} {l : List α} {i : Nat} {p : α} (hp : l[i]? = some p) (h2 : f p = false) : l.all f = false := by
 rw [List.all_eq_false]; exact ⟨p, List.mem_of_getElem? hp, by rw [h2]; simp⟩
def sz (M : Nat) (p : ByteArray) : Bool := decide (p.size ≤ M)
def fits5 (vs : List ByteArray) : Bool := decide (vs.length ≤ 2147483647) && vs.all (sz 2147483647)
def fits4 (key op : ByteArray) (vs : List ByteArray) : Bool := sz 2147483647 key && (sz 2147483647 op && fits5 vs)
theorem fits5_t {vs : List ByteArray} (h : fits5 vs = true) : vs.length ≤ 2147483647 ∧ ∀ p ∈ vs, p.size ≤ 2147483647 := by
 unfold fits5 sz at h; simp only [Bool.and_eq_true, decide_eq_true_eq, List.all_eq_true] at h; exact h
theorem fits4_t {key op : ByteArray} {vs : List ByteArray} (h : fits4 key op vs = true) : key.size ≤ 2147483647 ∧ op.size ≤ 2147483647 ∧ vs.length ≤ 2147483647 ∧ ∀ p ∈ vs, p.size ≤ 2147483647 := by
 unfold fits4 sz at h; simp only [Bool.and_eq_true, decide_eq_true_eq] at h; exact ⟨h.1, h.2.1, fits5_t h.2.2⟩
set_option maxHeartbeats 8000000 in
theorem Fits5_calls (A : Option Addr) (c n : Nat) (vs : List ByteArray) (hn : vs.length = n) (w : World) (hC : Kd.C Kd.string w A n vs) :
   Calls Tryz.prog 77 #[.slice A n c] w fun e w' => e = .returned (.bool (fits5 vs)) ∧ w = w' := by
 have HC := Aside0.mk hC
 have HLN := Aside0.mk hn
 have HW : Aside0 (fits5 vs = (decide (n ≤ 2147483647) && vs.all (sz 2147483647))) := ⟨by unfold fits5; rw [hn]⟩
 obtain ⟨q, hq⟩ : ∃ q, fits5 vs = q := ⟨_, rfl⟩
 rw [hq] at HW ⊢
 clear hC hn hq
 by_cases hb : n ≤ 2147483647
 rotate_left
 · have HX : Aside0 (q = false) := ⟨by rw [HW.out, show decide (n ≤ 2147483647) = false from decide_eq_false hb]; rfl⟩
   have b0 : decide ((2147483647 : Int) < (n : Int)) = true := decide_eq_true (by omega)
   have b1 : decide (2147483647 < n) = true := decide_eq_true (by omega)
   go_enter Tryz.func77, Tryz.ntmps77
   go_wp2
   go_ret
   exact ⟨by rw [HX.out]; try rfl, rfl⟩
 have HW2 : Aside0 (q = vs.all (sz 2147483647)) := ⟨by rw [HW.out, show decide (n ≤ 2147483647) = true from decide_eq_true hb]; rfl⟩
 have b0 : decide ((2147483647 : Int) < (n : Int)) = false := decide_eq_false (by omega)
 have b1 : decide (2147483647 < n) = false := decide_eq_false (by omega)
 go_enter Tryz.func77, Tryz.ntmps77
 go_wp2
 go_loopg [10] (n) (fun k v10 w' => ∃ i : Nat, v10 = .int .i64 i ∧ w = w' ∧ Aside0 (k + i = n) ∧ Aside0 ((vs.take i).all (sz 2147483647) = true))
 case atStart => exact ⟨0, rfl, rfl, ⟨by omega⟩, ⟨rfl⟩⟩
 case round =>
  obtain ⟨i, rfl, rfl, HI, HA⟩ := hrel
  by_cases hil : i < n
  · obtain ⟨ad, rfl, hk0⟩ := Kd.at_string HC.out (i : Int) (by omega) (by omega)
    rw [Int.toNat_natCast] at hk0
    obtain ⟨p, hp⟩ : ∃ p, vs[i]? = some p := ⟨_, List.getElem?_eq_getElem (by rw [HLN.out]; exact hil)⟩
    have hg : rdOf ByteArray.empty vs (i : Int) = p := by unfold rdOf; rw [Int.toNat_natCast, List.getD_eq_getElem?_getD, hp]; rfl
    rw [hg] at hk0
    by_cases hps : p.size ≤ 2147483647
    · have HA2 := Aside0.mk (all_snoc hp HA.out (show sz 2147483647 p = true from decide_eq_true hps))
      have p0 : decide ((2147483647 : Int) < (p.size : Int)) = false := decide_eq_false (by omega)
      have p1 : decide (2147483647 < p.size) = false := decide_eq_false (by omega)
      clear hp hg
      go_wp2
      go_roundg (n - (i + 1))
      case measure => have := HI.out; omega
      case rel => exact ⟨i + 1, by go_num, rfl, ⟨by omega⟩, HA2⟩
    · have HX : Aside0 (q = false) := ⟨by rw [HW2.out]; exact all_not hp (show sz 2147483647 p = false from decide_eq_false hps)⟩
      have p0 : decide ((2147483647 : Int) < (p.size : Int)) = true := decide_eq_true (by omega)
      have p1 : decide (2147483647 < p.size) = true := decide_eq_true (by omega)
      clear hp hg
      go_wp2
      go_ret
      exact ⟨by rw [HX.out]; try rfl, rfl⟩
  · have HX : Aside0 (q = true) := ⟨by have h1 := HI.out; have := HA.out; rw [List.take_of_length_le (by rw [HLN.out]; omega)] at this; rw [HW2.out]; exact this⟩
    go_wp2
    go_ret
    exact ⟨by rw [HX.out]; try rfl, rfl⟩
set_option maxHeartbeats 8000000 in
theorem Fits4_calls (key op : ByteArray) (A : Option Addr) (c n : Nat) (vs : List ByteArray) (hn : vs.length = n) (w : World) (hC : Kd.C Kd.string w A n vs) :
   Calls Tryz.prog 40 #[.agg #[.string key, .string op, .slice A n c]] w fun e w' => e = .returned (.bool (fits4 key op vs)) ∧ Below w.heap.size w w' := by
 have hbk := heap_alloc_new w (.cells #[.string key, .string op, .slice A n c] 53)
 have HBA := Aside0.mk (below_alloc (Below.refl w.heap.size w) (.cells #[.string key, .string op, .slice A n c] 53))
 obtain ⟨W1, hW1⟩ : ∃ W1, w.alloc (.cells #[.string key, .string op, .slice A n c] 53) = W1 := ⟨_, rfl⟩
 rw [hW1] at hbk HBA
 have c0 : W1.cell? ⟨w.heap.size, 0, none⟩ = some (.string key) := (blk_cell hbk 0).trans rfl
 have c1 : W1.cell? ⟨w.heap.size, 1, none⟩ = some (.string op) := (blk_cell hbk 1).trans rfl
 have c2 : W1.cell? ⟨w.heap.size, 2, none⟩ = some (.slice A n c) := (blk_cell hbk 2).trans rfl
 have H5 := Aside0.mk (Fits5_calls A c n vs hn W1 (Kd.C_below hC HBA.out))
 obtain ⟨q, hq⟩ : ∃ q, fits4 key op vs = q := ⟨_, rfl⟩
 have HW := Aside0.mk hq.symm
 unfold fits4 at HW
 rw [hq]
 obtain ⟨f, hf⟩ : ∃ f, fits5 vs = f := ⟨_, rfl⟩
 rw [hf] at H5 HW
 clear hbk hC hn hq hf
 by_cases hk : key.size ≤ 2147483647
 rotate_left
 · have HX : Aside0 (q = false) := ⟨by rw [HW.out, show sz 2147483647 key = false from decide_eq_false hk]; simp⟩
   have k0 : decide ((2147483647 : Int) < (key.size : Int)) = true := decide_eq_true (by omega)
   have k1 : decide (2147483647 < key.size) = true := decide_eq_true (by omega)
   go_enter Tryz.func40, Tryz.ntmps40
   go_wp2
   go_ret
   exact ⟨by rw [HX.out]; try rfl, HBA.out⟩
 have k0 : decide ((2147483647 : Int) < (key.size : Int)) = false := decide_eq_false (by omega)
 have k1 : decide (2147483647 < key.size) = false := decide_eq_false (by omega)
 by_cases ho : op.size ≤ 2147483647
 rotate_left
 · have HX : Aside0 (q = false) := ⟨by rw [HW.out, show sz 2147483647 op = false from decide_eq_false ho]; simp⟩
   have o0 : decide ((2147483647 : Int) < (op.size : Int)) = true := decide_eq_true (by omega)
   have o1 : decide (2147483647 < op.size) = true := decide_eq_true (by omega)
   go_enter Tryz.func40, Tryz.ntmps40
   go_wp2
   go_ret
   exact ⟨by rw [HX.out]; try rfl, HBA.out⟩
 have o0 : decide ((2147483647 : Int) < (op.size : Int)) = false := decide_eq_false (by omega)
 have o1 : decide (2147483647 < op.size) = false := decide_eq_false (by omega)
 have HX : Aside0 (q = f) := ⟨by rw [HW.out, show sz 2147483647 key = true from decide_eq_true hk, show sz 2147483647 op = true from decide_eq_true ho]; rfl⟩
 cases f
 · go_enter Tryz.func40, Tryz.ntmps40
   go_wp2_with (first | ((with_reducible refine (H5.out).mono ?_); rintro e w2 ⟨rfl, rfl⟩))
   go_ret
   exact ⟨by rw [HX.out]; try rfl, HBA.out⟩
 · go_enter Tryz.func40, Tryz.ntmps40
   go_wp2_with (first | ((with_reducible refine (H5.out).mono ?_); rintro e w2 ⟨rfl, rfl⟩))
   go_ret
   exact ⟨by rw [HX.out]; try rfl, HBA.out⟩
end Go.Proofs.YthfjolafikgpoaaGreatDoor.Hand
