/- laws.epText: a text that the laws speak of. -/
import Derived.Test.YthfjolafikgpoaaGreatDoorSDSelSpec
import Derived.Test.YthfjolafikgpoaaGreatDoorSDGParC
import Derived.BigQuiet
import Derived.Test.YthfjolafikgpoaaGreatDoorSDM35
import Derived.Test.YthfjolafikgpoaaGreatDoorSDM23
import Derived.Test.YthfjolafikgpoaaGreatDoorSDM28
import Derived.Test.YthfjolafikgpoaaGreatDoorSDWrAll
import Derived.Test.YthfjolafikgpoaaGreatDoorSDM18
import Derived.Laws.CopyOwn
import Derived.Below
import Derived.Test.YthfjolafikgpoaaGreatDoorSDM4
import Derived.Test.YthfjolafikgpoaaGreatDoorSDM10
import Derived.Test.YthfjolafikgpoaaGreatDoorSDLabSetOf
namespace Go.Proofs.YthfjolafikgpoaaGreatDoor.Hand
open Go.RowKit Go.Maps Go.Proofs.YthfjolafikgpoaaGreatDoor.PFnSelDecidesLabels Go.Proofs.YthfjolafikgpoaaGreatDoorW.PrintWords Go.Proofs.YthfjolafikgpoaaGreatDoorW.PrintLast Go.Proofs.YthfjolafikgpoaaGreatDoorW.PrintMore Go.Proofs.YthfjolafikgpoaaGreatDoor.Base
set_option linter.unusedVariables false
set_option linter.unusedSimpArgs false
set_option maxRecDepth 100000
def okB (c : UInt8) : Bool := !(c == 0) && decide (c.toNat ≤ 127)
def txtOk (y : L) : Bool := y.all okB && decide (y.length ≤ 300)
theorem txtOk_t {y : L} (h : txtOk y = true) : y.length ≤ 300 ∧ ∀ c ∈ y, c ≠ 0 := by
 unfold txtOk at h
 rw [Bool.and_eq_true, decide_eq_true_eq, List.all_eq_true] at h
 refine ⟨h.2, fun c hc e => ?_⟩
 have := h.1 c hc
 subst e
 exact absurd this (by decide)
theorem txt_bad {y : L} {m : Nat} {d : UInt8} (hm : y[m]? = some d) (h : okB d = false) : txtOk y = false := by
 unfold txtOk
 rw [show y.all okB = false from by rw [List.all_eq_false]; exact ⟨d, List.mem_of_getElem? hm, by simp [h]⟩]; rfl
set_option maxHeartbeats 8000000 in
theorem epText_calls (y : L) (hs : y.length ≤ 140737488351232) (w : World) :
   Calls Tryz.prog 28 #[.string (mk y)] w fun e w' => e = .returned (.bool (txtOk y)) ∧ Below w.heap.size w w' := by
 obtain ⟨s, hsv⟩ : ∃ s, mk y = s := ⟨_, rfl⟩
 have HSB : Aside0 (s = mk y) := ⟨hsv.symm⟩
 have HZ : Aside0 (s.size = y.length) := ⟨by rw [← hsv, mk_size]⟩
 rw [hsv]
 clear hsv
 have hss : s.size ≤ 140737488351232 := by rw [HZ.out]; exact hs
 clear hs
 go_enter Tryz.func28, Tryz.ntmps28
 go_wp2
 go_loopg [6] (s.size) (fun k v6 w' => ∃ m : Nat, v6 = .int .i64 m ∧ Aside0 (k + m = s.size) ∧ Aside0 ((y.take m).all okB = true) ∧ Aside0 (Below w.heap.size w w'))
 case atStart => exact ⟨0, rfl, ⟨by omega⟩, ⟨rfl⟩, ⟨Below.refl _ _⟩⟩
 case round =>
  obtain ⟨m, rfl, HM, HA, HB⟩ := hrel
  by_cases hml : m < s.size
  · obtain ⟨d, hd⟩ : ∃ d, y[m]? = some d := ⟨_, List.getElem?_eq_getElem (by have := HZ.out; omega)⟩
    have hbm : ∀ h : m < s.size, ((s[m]'h).toNat : Int) = (d.toNat : Int) := fun h => by
     have hb : bt s (m : Int) = ((y.getD m 0).toNat : Int) := by rw [HSB.out, bt_mk, Int.toNat_natCast]
     have h1 := bt_at s (m : Int) (by simpa using h)
     rw [hb, List.getD_eq_getElem?_getD, hd] at h1
     exact h1
    by_cases h1 : d = 0
    · have k1 : ((d.toNat : Int) == 0) = true := by rw [h1]; rfl
      have HR : Aside0 (txtOk y = false) := ⟨txt_bad hd (by rw [h1]; rfl)⟩
      clear hd h1
      go_wp2
      go_ret
      exact ⟨by rw [HR.out]; rfl, HB.out⟩
    · have k1 : ((d.toNat : Int) == 0) = false := by rw [beq_eq_false_iff_ne]; intro e; apply h1; apply UInt8.toNat_inj.1; show d.toNat = 0; omega
      by_cases h2 : 127 < (d.toNat : Int)
      · have HR : Aside0 (txtOk y = false) := ⟨txt_bad hd (by unfold okB; rw [show decide (d.toNat ≤ 127) = false from decide_eq_false (by omega)]; simp)⟩
        clear hd h1
        go_wp2
        go_ret
        exact ⟨by rw [HR.out]; rfl, HB.out⟩
      · have HA2 : Aside0 ((y.take (m + 1)).all okB = true) := ⟨by
         rw [List.take_add_one, hd, List.all_append, HA.out]
         simp [okB, h1]; omega⟩
        clear hd h1
        go_wp2
        go_roundg (gk - 1)
        case measure => have := HM.out; omega
        case rel => exact ⟨m + 1, by go_num, ⟨by have := HM.out; omega⟩, HA2, HB⟩
  · have HR : Aside0 (txtOk y = decide (y.length ≤ 300)) := ⟨by
     have h := HA.out
     rw [List.take_of_length_le (by have := HZ.out; omega)] at h
     unfold txtOk; rw [h]; rfl⟩
    have hmm : ((m : Int) < (s.size : Int)) = False := eq_false (by omega)
    clear HA
    by_cases h3 : s.size ≤ 300
    · have b3 : decide ((s.size : Int) ≤ 300) = true := decide_eq_true (by omega)
      have HR2 : Aside0 (txtOk y = true) := ⟨by rw [HR.out]; exact decide_eq_true (by have := HZ.out; omega)⟩
      clear HR
      go_wp2
      go_ret
      exact ⟨by rw [HR2.out]; try (first | rfl | simp_all), HB.out⟩
    · have b3 : decide ((s.size : Int) ≤ 300) = false := decide_eq_false (by omega)
      have HR2 : Aside0 (txtOk y = false) := ⟨by rw [HR.out]; exact decide_eq_false (by have := HZ.out; omega)⟩
      clear HR
      go_wp2
      go_ret
      exact ⟨by rw [HR2.out]; try (first | rfl | simp_all), HB.out⟩
theorem pReq_fair {ts ts' : List Tk} {r : Rq} (h : pReq ts = some (r, ts')) : fairR r.1 r.2.1 r.2.2 = true := by
 unfold pReq at h
 split at h
 · cases h
 · split at h
   · split at h
     · cases h
     · split at h
       · cases h
       · split at h
         · rename_i hf
           simp only [Option.some.injEq, Prod.mk.injEq] at h
           rw [← h.1]; exact hf
         · cases h
   · split at h
     · rename_i hf
       simp only [Option.some.injEq, Prod.mk.injEq] at h
       rw [← h.1]; exact hf
     · cases h
end Go.Proofs.YthfjolafikgpoaaGreatDoor.Hand
namespace Go.Proofs.YthfjolafikgpoaaGreatDoor.Hand
open Go.RowKit Go.Maps Go.Proofs.YthfjolafikgpoaaGreatDoorW.PrintWords Go.Proofs.YthfjolafikgpoaaGreatDoorW.PrintLast Go.Proofs.YthfjolafikgpoaaGreatDoorW.PrintMore Go.Proofs.YthfjolafikgpoaaGreatDoor.Base
set_option linter.unusedVariables false
set_option linter.unusedSimpArgs false
set_option maxRecDepth 100000
theorem pValue_lenS {x : L} (h : pValue x = true) : x.length ≤ 63 := by
 unfold pValue most at h
 rw [Bool.and_eq_true, decide_eq_true_eq] at h
 exact h.1
theorem fair_parts {key op : L} {vs : List L} (h : fairR key op vs = true) : key.length ≤ 400 ∧ ∀ v ∈ vs, v.length ≤ 63 := by
 unfold fairR at h
 rw [Bool.and_eq_true, Bool.and_eq_true, List.all_eq_true] at h
 exact ⟨pQ_len h.2.2, fun v hv => pValue_lenS (h.2.1 v hv)⟩
theorem pReq_g {ts ts' : List Tk} {r : Rq} (hm : ∀ t ∈ ts, t.2.length ≤ 1000000) (hl : ts.length ≤ 900) (h : pReq ts = some (r, ts')) : RqG r := by
 have hf := pReq_fair h
 obtain ⟨h1, h2⟩ := fair_parts hf
 have h3 : r.2.2.length ≤ 900 ∧ Up r.2.2 := by
  unfold pReq at h
  split at h
  · cases h
  · rename_i key op ts1 e1
    obtain ⟨p, _, q1⟩ := pKey_tail e1
    split at h
    · split at h
      · cases h
      · rename_i op2 ts2 e2
        obtain ⟨p2, _, q2⟩ := pOp_tail e2
        have hm2 : ∀ t ∈ ts2, t.2.length ≤ 1000000 := fun t ht => by
         rw [q2, q1, List.drop_drop] at ht
         exact hm t (List.mem_of_mem_drop ht)
        have hl2 : ts2.length ≤ 900 := by rw [q2, q1, List.drop_drop, List.length_drop]; omega
        split at h
        · cases h
        · rename_i ks ts3 e3
          have h4 : ks.length ≤ 900 := by
           split at e3
           · exact (pVals_sm hm2 hl2 e3).2
           · exact (pOne_sm hm2 e3).2
          split at h
          · simp only [Option.some.injEq, Prod.mk.injEq] at h
            rw [← h.1]
            exact ⟨Nat.le_trans (setL_len ks) h4, setL_up ks⟩
          · cases h
    · split at h
      · simp only [Option.some.injEq, Prod.mk.injEq] at h
        rw [← h.1]
        exact ⟨Nat.zero_le _, List.Pairwise.nil⟩
      · cases h
 exact ⟨h1, h3.1, h2, hf, h3.2⟩
theorem pAll_g : ∀ (m : Nat) (ts : List Tk) (l : List Rq), (∀ t ∈ ts, t.2.length ≤ 1000000) → ts.length ≤ 900 → pAll m ts = some l → ∀ r ∈ l, RqG r
 | 0, _, _, _, _, h => by cases h
 | m + 1, [], _, _, _, h => by cases h
 | m + 1, (k, s) :: ts, l, hm, hl, h => by
   unfold pAll at h
   split at h
   · cases hr : pReq ((k, s) :: ts) with
     | none => rw [hr] at h; cases h
     | some r2 =>
       obtain ⟨r, ts'⟩ := r2
       have hf := pReq_g hm hl hr
       obtain ⟨p, _, hp⟩ := pReq_tail hr
       rw [hr] at h
       cases ts' with
       | nil => cases h
       | cons t1 ts1 =>
         obtain ⟨k1, s1⟩ := t1
         have hm1 : ∀ t ∈ ts1, t.2.length ≤ 1000000 := fun t ht => hm t (List.mem_of_mem_drop (by rw [← hp]; exact List.mem_cons_of_mem _ ht))
         have hl1 : ts1.length ≤ 900 := by have := congrArg List.length hp; rw [List.length_drop, List.length_cons] at this; omega
         simp only at h
         split at h
         · simp only [Option.some.injEq] at h
           subst h
           intro x hx
           obtain rfl : x = r := by simpa using hx
           exact hf
         · split at h
           · cases ts1 with
             | nil => cases h
             | cons t2 ts2 =>
               simp only at h
               split at h
               · cases hq : pAll m (t2 :: ts2) with
                 | none => rw [hq] at h; cases h
                 | some l2 =>
                   rw [hq] at h
                   simp only [Option.map_some, Option.some.injEq] at h
                   subst h
                   intro x hx
                   rcases List.mem_cons.1 hx with rfl | hx
                   · exact hf
                   · exact pAll_g m _ _ hm1 hl1 hq x hx
               · cases h
           · cases h
   · split at h
     · simp only [Option.some.injEq] at h
       subst h
       intro x hx; cases hx
     · cases h
structure E3P (w W : World) (p : Nat) (v b i : Value) : Prop where
 be : Below w.heap.size w W
 hp : w.heap.size ≤ p
 b0 : W.heap[p]? = some (.cells #[v] 22 (0, 0))
 b1 : W.heap[p + 1]? = some (.cells #[b] 9 (0, 0))
 b2 : W.heap[p + 2]? = some (.cells #[i] 3 (0, 0))
section
variable {w W W' : World} {p : Nat} {v b i : Value}
theorem E3P.sv (h : E3P w W p v b i) (u : Value) : E3P w (W.setCell ⟨p, 0, none⟩ u) p u b i :=
 ⟨below_set h.be h.hp, h.hp, blk_put h.b0 0 u (cs' := #[u]) rfl, blk_far h.b1 (p := ⟨p, 0, none⟩) (show p + 1 ≠ p by omega) u, blk_far h.b2 (p := ⟨p, 0, none⟩) (show p + 2 ≠ p by omega) u⟩
theorem E3P.sb (h : E3P w W p v b i) (u : Value) : E3P w (W.setCell ⟨p + 1, 0, none⟩ u) p v u i :=
 ⟨below_set h.be (by have := h.hp; omega), h.hp, blk_far h.b0 (p := ⟨p + 1, 0, none⟩) (show p ≠ p + 1 by omega) u, blk_put h.b1 0 u (cs' := #[u]) rfl, blk_far h.b2 (p := ⟨p + 1, 0, none⟩) (show p + 2 ≠ p + 1 by omega) u⟩
theorem E3P.si (h : E3P w W p v b i) (u : Value) : E3P w (W.setCell ⟨p + 2, 0, none⟩ u) p v b u :=
 ⟨below_set h.be (by have := h.hp; omega), h.hp, blk_far h.b0 (p := ⟨p + 2, 0, none⟩) (show p ≠ p + 2 by omega) u, blk_far h.b1 (p := ⟨p + 2, 0, none⟩) (show p + 1 ≠ p + 2 by omega) u, blk_put h.b2 0 u (cs' := #[u]) rfl⟩
theorem E3P.mv (h : E3P w W p v b i) (hb : Below W.heap.size W W') : E3P w W' p v b i :=
 ⟨below_step h.be hb, h.hp, (hb.block _ (blk_lt h.b0)).trans h.b0, (hb.block _ (blk_lt h.b1)).trans h.b1, (hb.block _ (blk_lt h.b2)).trans h.b2⟩
theorem E3P.c0 (h : E3P w W p v b i) : W.cell? ⟨p, 0, none⟩ = some v := (blk_cell h.b0 0).trans rfl
theorem E3P.c1 (h : E3P w W p v b i) : W.cell? ⟨p + 1, 0, none⟩ = some b := (blk_cell h.b1 0).trans rfl
theorem E3P.c2 (h : E3P w W p v b i) : W.cell? ⟨p + 2, 0, none⟩ = some i := (blk_cell h.b2 0).trans rfl
theorem E3P.f0 (h : E3P w W p v b i) : W.frozen? ⟨p, 0, none⟩ = false := blk_frozen h.b0 0
theorem E3P.f1 (h : E3P w W p v b i) : W.frozen? ⟨p + 1, 0, none⟩ = false := blk_frozen h.b1 0
theorem E3P.f2 (h : E3P w W p v b i) : W.frozen? ⟨p + 2, 0, none⟩ = false := blk_frozen h.b2 0
end
theorem E3P.init (w : World) (v b i : Value) : E3P w (((w.alloc (.cells #[v] 22)).alloc (.cells #[b] 9)).alloc (.cells #[i] 3)) w.heap.size v b i := by
 have e1 : (w.alloc (.cells #[v] 22)).heap.size = w.heap.size + 1 := Array.size_push ..
 have e2 : ((w.alloc (.cells #[v] 22)).alloc (.cells #[b] 9)).heap.size = w.heap.size + 1 + 1 := by rw [← e1]; exact Array.size_push ..
 have h0 := blk_alloc (blk_alloc (heap_alloc_new w (.cells #[v] 22)) (.cells #[b] 9)) (.cells #[i] 3)
 have h1 := blk_alloc (heap_alloc_new (w.alloc (.cells #[v] 22)) (.cells #[b] 9)) (.cells #[i] 3)
 have h2 := heap_alloc_new ((w.alloc (.cells #[v] 22)).alloc (.cells #[b] 9)) (.cells #[i] 3)
 rw [e1] at h1
 rw [e2] at h2
 exact ⟨below_alloc (below_alloc (below_alloc (Below.refl _ _) _) _) _, Nat.le_refl _, h0, h1, h2⟩
theorem PSel_idle (p q r : Addr) (w : World) :
   CallsD Tryz.prog 43 #[.pointer (some p), .pointer (some q), .pointer (some r)] .returning w fun e u' w' => e = .returned (.tuple #[]) ∧ u' = .returning ∧ w' = w := by
 refine callsD_of_wpS Tryz.func43 rfl fun c₀ cs hu => ?_
 apply wpS_seq
 apply wpS_region
 simp [wpOpsS, go_sem, recoverD, hu, Tryz.ntmps43, Exit.thenS]
 refine wpS_cond (t := false) (by simp [Act.eval, Array.replicate]) ?_
 simp only [Bool.false_eq_true, if_false]
 refine wpS_of_wp (wp_skip ?_)
 cases c₀
 simp_all [bodyPostS, results, Tryz.results43]
def PsR (R : Option (List Rq)) (w0 : World) (e : Ending) (w' : World) : Prop := Below w0.heap.size w0 w' ∧ (match R with
 | some l => ∃ (v : Value) (l' : List Rq), l'.Perm l ∧ KAsc l' ∧ e = .returned (.tuple #[v, .string (joinB ⟨#[44]⟩ (l'.map txtV)), .int .i64 0]) ∧ KQ.R 53 w' w0.heap.size (fun _ => True) v (rqV l')
 | none => e = .returned (.tuple #[.slice none 0 0, .string ⟨#[]⟩, .int .i64 1]))
set_option maxHeartbeats 16000000 in
theorem PSel_calls (x : L) (hx : x.length ≤ 2000) (h0 : ∀ b ∈ x, b ≠ 0) (T : List Tk) (hTx : tokensL x = T) (hT : T.length ≤ 900) (hS : ∀ l, pAll T.length T = some l → SortOK l) (w : World) (hT0 : TV w) :
   Calls Tryz.prog 13 #[.string (mk x)] w fun e w' => PsR (pAll T.length T) w e w' := by
 have hmf : ∀ (fn : Fn) (first cap : Array Value) (w : World), (Instr.makeFunc fn first cap).run Tryz.prog w = .ok (.func fn first cap) w := fun _ _ _ _ => rfl
 have hE : EndsT T := by rw [← hTx]; exact tokens_ends x.length x (Nat.le_refl _)
 have hz : ∀ t ∈ T, t.2.length ≤ 1000000 := by rw [← hTx]; intro t ht; have := tokens_lit x.length x (Nat.le_refl _) t ht; omega
 have HPA := Aside0.mk (fun (W : World) (hb : Below w.heap.size w W) => Parse_calls x (by omega) h0 T hTx hT hS W (hT0.below hb))
 have HGG := Aside0.mk (fun (l l' : List Rq) (hr : pAll T.length T = some l) (hp : l'.Perm l) => (show l'.length ≤ 900 ∧ ∀ r ∈ l', RqG r from ⟨by
  have h1 := (pAll_sm hE hT hz T.length 0 l (by rw [List.drop_zero]; exact hr)).1; rw [hp.length_eq]; omega, fun r hm => pAll_g T.length T l hz hT hr r (hp.mem_iff.1 hm)⟩))
 have hxs : (((mk x).size : Nat) : Int) ≤ 2000 := by rw [mk_size]; omega
 have g1 : (2000 < (((mk x).size : Nat) : Int)) = False := eq_false (by omega)
 have HE0 := Aside0.mk (E3P.init w (.slice none 0 0) (.string ⟨#[]⟩) (.int .i64 0))
 obtain ⟨W3, hW3⟩ : ∃ W3, ((w.alloc (.cells #[.slice none 0 0] 22)).alloc (.cells #[.string ⟨#[]⟩] 9)).alloc (.cells #[.int .i64 0] 3) = W3 := ⟨_, rfl⟩
 rw [hW3] at HE0
 obtain ⟨sv, hsv⟩ : ∃ sv, mk x = sv := ⟨_, rfl⟩
 rw [hsv] at HPA hxs g1 ⊢
 clear hT0 hx h0 hTx hsv hE hz hS
 cases hR : pAll T.length T with
 | none =>
   rw [hR] at HPA
   clear HGG hR
   go_enter_defers Tryz.func13, Tryz.ntmps13
   go_upto_region 6 with (first | ((with_reducible refine (HPA.out _ HE0.out.be).mono ?_); rintro e w1 ⟨⟨v, rfl, gv, rfl⟩, hb⟩; have HE1 := Aside0.mk (HE0.out.mv hb); clear hb HPA))
   have HE2 := Aside0.mk (HE1.out.sv (.slice none 0 0))
   have HE3 := Aside0.mk (HE2.out.sb (.string ⟨#[]⟩))
   have HE4 := Aside0.mk (HE3.out.si (.int .i64 1))
   have a1 := HE1.out.c0
   have a2 := HE1.out.f0
   have a3 := HE2.out.c1
   have a4 := HE2.out.f1
   have a5 := HE3.out.c2
   have a6 := HE3.out.f2
   have a7 := HE4.out.c0
   have a8 := HE4.out.c1
   have a9 := HE4.out.c2
   go_wp2
   refine leaves_cons (f := 43) (args := #[.pointer (some ⟨w.heap.size, 0, none⟩), .pointer (some ⟨w.heap.size + 1, 0, none⟩), .pointer (some ⟨w.heap.size + 2, 0, none⟩)]) (by simp) (by simp [go_sem]) ?_
   refine (PSel_idle ⟨w.heap.size, 0, none⟩ ⟨w.heap.size + 1, 0, none⟩ ⟨w.heap.size + 2, 0, none⟩ _).mono ?_
   rintro e u' w'' ⟨rfl, rfl, rfl⟩
   simp [Leaves, settle, results, Tryz.results13, go_sem, a7, a8, a9, Result.andThen]
   exact ⟨HE4.out.be, rfl⟩
 | some l =>
   rw [hR] at HPA
   have HG2 := Aside0.mk (HGG.out l · hR)
   clear hR HGG
   go_enter_defers Tryz.func13, Tryz.ntmps13
   go_upto_region 7 with (first | ((with_reducible refine (HPA.out _ HE0.out.be).mono ?_); rintro e w1 ⟨⟨v, l', rfl, hp, ha, hR⟩, hb⟩; obtain ⟨A, c, rfl, hsp, hC⟩ := kq_slice hR; have HE5 := Aside0.mk (HE0.out.mv hb); have HC := Aside0.mk hC; have HSP := Aside0.mk hsp; have HPM := Aside0.mk hp; have HAS := Aside0.mk ha; clear hb hp ha hR hC hsp HPA))
   obtain ⟨hl9, hgg⟩ := HG2.out l' HPM.out
   have HRQ := Aside0.mk (Reqs_calls l' l'.length rfl hl9 (fun r hr => (hgg r hr).n) A c w1 HC.out)
   have HST := Aside0.mk (fun (W : World) (hb : Below w1.heap.size w1 W) => SelStr_calls l' l'.length rfl hl9 hgg A c W HSP.out (Kd.C_below HC.out hb))
   obtain ⟨tx, htx⟩ : ∃ tx, joinB ⟨#[44]⟩ (l'.map txtV) = tx := ⟨_, rfl⟩
   rw [htx] at HST
   have HTX := Aside0.mk htx
   have HP3 : Aside0 (w.heap.size + 2 < w1.heap.size) := ⟨blk_lt HE5.out.b2⟩
   obtain ⟨n, hn⟩ : ∃ n, l'.length = n := ⟨_, rfl⟩
   rw [hn] at HRQ HST ⊢
   clear hn hgg hl9 htx HG2
   have na1 : ∀ w : World, (nilAhead 390 121 (.slice A n c) "String").run Tryz.prog w = .ok (some false) w := fun _ => by kernel_rfl
   have me1 : ∀ w : World, (method 390 121 (.slice A n c) "String").run Tryz.prog w = .ok (249, .slice A n c) w := fun _ => by kernel_rfl
   go_wp2_with (first | ((with_reducible refine (HRQ.out).mono ?_); rintro e w2 ⟨v, rfl, hR2, hb⟩; have HE6 := Aside0.mk (HE5.out.mv hb); obtain ⟨AV, cV, eV⟩ := Kd.R_slice hR2; obtain ⟨nV, hnV⟩ : ∃ n, (rqV l').length = n := ⟨_, rfl⟩; rw [hnV] at eV; clear hnV; subst eV; have HR2 := Aside0.mk hR2; have HB2 := Aside0.mk hb; clear hR2 hb HRQ) | ((with_reducible refine (HST.out _ HB2.out).mono ?_); rintro e w3 ⟨rfl, hb⟩; have HE1 := Aside0.mk (HE6.out.mv hb); have HR3 := Aside0.mk (Kd.R_below HR2.out hb); clear hb HST HE6 HE5; have HE2 := Aside0.mk (HE1.out.sv (.slice AV nV cV)); have HE3 := Aside0.mk (HE2.out.sb (.string tx)); have HE4 := Aside0.mk (HE3.out.si (.int .i64 0)); have a1 := HE1.out.c0; have a2 := HE1.out.f0; have a3 := HE2.out.c1; have a4 := HE2.out.f1; have a5 := HE3.out.c2; have a6 := HE3.out.f2; have a7 := HE4.out.c0; have a8 := HE4.out.c1; have a9 := HE4.out.c2))
   refine leaves_cons (f := 43) (args := #[.pointer (some ⟨w.heap.size, 0, none⟩), .pointer (some ⟨w.heap.size + 1, 0, none⟩), .pointer (some ⟨w.heap.size + 2, 0, none⟩)]) (by simp) (by simp [go_sem]) ?_
   refine (PSel_idle ⟨w.heap.size, 0, none⟩ ⟨w.heap.size + 1, 0, none⟩ ⟨w.heap.size + 2, 0, none⟩ _).mono ?_
   rintro e u' w'' ⟨rfl, rfl, rfl⟩
   simp [Leaves, settle, results, Tryz.results13, go_sem, a7, a8, a9, Result.andThen]
   refine ⟨HE4.out.be, .slice AV nV cV, l', HPM.out, HAS.out, by rw [HTX.out], ?_⟩
   have h3 := Kd.R_mono (ok' := fun k => w1.heap.size ≤ k) (Kd.R_bound HR3.out) (fun k hk => hk.2.1)
   have h4 := Kd.R_far (p := ⟨w.heap.size, 0, none⟩) h3 (fun k hk e => by have := HP3.out; have h5 : k = w.heap.size := e; omega) (.slice AV nV cV)
   have h5 := Kd.R_far (p := ⟨w.heap.size + 1, 0, none⟩) h4 (fun k hk e => by have := HP3.out; have h5 : k = w.heap.size + 1 := e; omega) (.string tx)
   have h6 := Kd.R_far (p := ⟨w.heap.size + 2, 0, none⟩) h5 (fun k hk e => by have := HP3.out; have h5 : k = w.heap.size + 2 := e; omega) (.int .i64 0)
   exact Kd.R_mono (Kd.R_lower h6 (by have := HP3.out; omega)) (fun _ _ => trivial)
theorem setOf_n (A : Option Addr) (c n : Nat) (l : List L) (hn : l.length = n) (hl : n ≤ 1000) (w : World) (hr : Kd.C Kd.string w A n (l.map mk)) (hc : n ≤ c) :
   Calls Tryz.prog 42 #[.slice A n c] w fun e w' => ∃ (A' : Option Addr) (c' : Nat), e = .returned (.slice A' (setL l).length c') ∧ Kd.C Kd.string w' A' (setL l).length ((setL l).map mk) ∧ Below w.heap.size w w' := by
 subst hn
 exact (SetOf_calls A c l hl w hr hc).mono fun e w' ⟨v, h1, h2, h3⟩ => by
  obtain ⟨A', c', e', hc', hC⟩ := Kd.R_reads h2
  rw [List.length_map] at e' hC
  exact ⟨A', c', by rw [h1, e'], hC, h3⟩
def sameR (r q : Rq) : Prop := q.1 = r.1 ∧ q.2.1 = r.2.1 ∧ setL q.2.2 = setL r.2.2
def fewR (r : Rq) : Prop := r.2.2.length ≤ 900 ∧ ∀ v ∈ r.2.2, v.length ≤ 9000
set_option maxHeartbeats 32000000 in
theorem SameR_calls (la lb : List Rq) (n : Nat) (hla : la.length = n) (hlb : lb.length = n) (hn : n ≤ 900) (hs : ∀ (i : Nat) r q, la[i]? = some r → lb[i]? = some q → sameR r q) (hga : ∀ r ∈ la, fewR r) (hgb : ∀ r ∈ lb, fewR r)
   (A : Option Addr) (c : Nat) (A2 : Option Addr) (c2 : Nat) (w : World) (hA : KQ.C w A n (rqV la)) (hB : KQ.C w A2 n (rqV lb)) :
   Calls Tryz.prog 15 #[.slice A n c, .slice A2 n c2] w fun e w' => e = .returned (.bool true) ∧ Below w.heap.size w w' := by
 have HA := Aside0.mk hA
 have HB := Aside0.mk hB
 have HLA := Aside0.mk hla
 have HLB := Aside0.mk hlb
 have HS := Aside0.mk hs
 have HGA := Aside0.mk hga
 have HGB := Aside0.mk hgb
 clear hA hB hla hlb hs hga hgb
 go_enter Tryz.func15, Tryz.ntmps15
 go_wp2
 go_loopg [14] (n) (fun k v14 w' => ∃ i : Nat, v14 = .int .i64 i ∧ Aside0 (k + i = n) ∧ Aside0 (Below w.heap.size w w'))
 case atStart => exact ⟨0, rfl, ⟨by omega⟩, ⟨Below.refl _ _⟩⟩
 case round =>
  obtain ⟨i, rfl, HI, HBW⟩ := hrel
  by_cases hil : i < n
  · obtain ⟨r, hr⟩ : ∃ r, la[i]? = some r := ⟨_, List.getElem?_eq_getElem (by rw [HLA.out]; exact hil)⟩
    obtain ⟨q, hq⟩ : ∃ q, lb[i]? = some q := ⟨_, List.getElem?_eq_getElem (by rw [HLB.out]; exact hil)⟩
    obtain ⟨s1, s2, s3⟩ := HS.out i r q hr hq
    obtain ⟨ga1, ga2⟩ := HGA.out r (List.mem_of_getElem? hr)
    obtain ⟨gb1, gb2⟩ := HGB.out q (List.mem_of_getElem? hq)
    obtain ⟨ad, BA, cA, rfl, a0, a1, a2, hcA, hCA⟩ := kq_at2 (Kd.C_below HA.out HBW.out) i hil r hr
    obtain ⟨bd, BB, cB, rfl, b0, b1, b2, hcB, hCB⟩ := kq_at2 (Kd.C_below HB.out HBW.out) i hil q hq
    rw [s1] at b0
    rw [s2] at b1
    obtain ⟨na, hna⟩ : ∃ na, r.2.2.length = na := ⟨_, rfl⟩
    obtain ⟨nb, hnb⟩ : ∃ nb, q.2.2.length = nb := ⟨_, rfl⟩
    rw [hna] at a2 hcA hCA
    rw [hnb] at b2 hcB hCB
    obtain ⟨us, hus⟩ : ∃ us, setL r.2.2 = us := ⟨_, rfl⟩
    have hu9 : us.length ≤ 900 ∧ ∀ v ∈ us, v.length ≤ 9000 := by
     rw [← hus]; exact ⟨Nat.le_trans (setL_len _) ga1, fun v hv => ga2 v ((setL_mem _ _).1 hv)⟩
    obtain ⟨nu, hnu⟩ : ∃ nu, us.length = nu := ⟨_, rfl⟩
    have HSA := Aside0.mk (fun (W : World) (hC : Kd.C Kd.string W BA na (r.2.2.map mk)) => setOf_n BA cA na r.2.2 hna (by omega) W hC hcA)
    have HSB := Aside0.mk (fun (W : World) (hC : Kd.C Kd.string W BB nb (q.2.2.map mk)) => setOf_n BB cB nb q.2.2 hnb (by omega) W hC hcB)
    rw [hus, hnu] at HSA
    rw [s3, hus, hnu] at HSB
    have HJ := Aside0.mk (fun (AU : Option Addr) (cU : Nat) (W : World) (hC : Kd.C Kd.string W AU nu (us.map mk)) => joined_calls ⟨#[44]⟩ (by decide) AU cU nu (us.map mk) (by rw [List.length_map]; exact hnu) (by omega) (fun p hp => by obtain ⟨x, hx, rfl⟩ := List.mem_map.1 hp; rw [mk_size]; have := hu9.2 x hx; omega) W hC)
    obtain ⟨js, hjs⟩ : ∃ js, joinB ⟨#[44]⟩ (us.map mk) = js := ⟨_, rfl⟩
    rw [hjs] at HJ
    have hbk := heap_alloc_new wr (.cells #[.string (mk r.1), .string (mk r.2.1), .slice BA na cA] 53)
    have hb2 := below_alloc (Below.refl wr.heap.size wr) (.cells #[.string (mk r.1), .string (mk r.2.1), .slice BA na cA] 53)
    have HB1 := Aside0.mk (below_alloc HBW.out (.cells #[.string (mk r.1), .string (mk r.2.1), .slice BA na cA] 53))
    obtain ⟨g6, hg6⟩ : ∃ g, wr.heap.size = g := ⟨_, rfl⟩
    obtain ⟨w1, hw1⟩ : ∃ w1, wr.alloc (.cells #[.string (mk r.1), .string (mk r.2.1), .slice BA na cA] 53) = w1 := ⟨_, rfl⟩
    rw [hw1] at hbk hb2 HB1
    have HCA := Aside0.mk (Kd.C_below hCA hb2)
    have HCB := Aside0.mk (Kd.C_below hCB hb2)
    have HE0 := Aside0.mk ((hb2.cell (World.block_lt_of_cell? _ _ b0)).trans b0)
    have HE1 := Aside0.mk ((hb2.cell (World.block_lt_of_cell? _ _ b1)).trans b1)
    have HE2 := Aside0.mk ((hb2.cell (World.block_lt_of_cell? _ _ b2)).trans b2)
    clear hr hq s1 s2 s3 ga1 ga2 gb1 gb2 hna hnb hus hu9 hnu hjs hcA hcB hCA hCB hb2 b0 b1 b2
    go_upto_region 6 with (fail)
    rw [hg6] at hbk
    obtain ⟨d0, d1, d2⟩ := blk3 hbk
    have HBK := Aside0.mk hbk
    have e0 := HE0.out
    have e1 := HE1.out
    have e2 := HE2.out
    obtain ⟨sk, hsk⟩ : ∃ sk, mk r.1 = sk := ⟨_, rfl⟩
    obtain ⟨so, hso⟩ : ∃ so, mk r.2.1 = so := ⟨_, rfl⟩
    rw [hsk] at d0 e0 HBK HE0
    rw [hso] at d1 e1 HBK HE1
    clear a0 a1 a2 hw1 hbk hg6 hsk hso
    go_region_held3 (fun W => W.cell? ⟨g6, 0, none⟩ = some (.string sk) ∧ W.cell? ⟨g6, 1, none⟩ = some (.string so) ∧ W.cell? ⟨g6, 2, none⟩ = some (.slice BA na cA) ∧ W.cell? (bd.add (i * 3)) = some (.string sk) ∧ W.cell? ⟨(bd.add (i * 3)).block, (bd.add (i * 3)).off + 1, none⟩ = some (.string so) ∧ W.cell? ⟨(bd.add (i * 3)).block, (bd.add (i * 3)).off + 2, none⟩ = some (.slice BB nb cB)) (first | exact ⟨dB0, dB1, dB2, eB0, eB1, eB2⟩ | exact ⟨dA0, dA1, dA2, eA0, eA1, eA2⟩ | exact ⟨d0, d1, d2, e0, e1, e2⟩ | go_keep) (first | (go_at_call 48; with_reducible refine (HJ.out AV cV _ ?hc).mono ?_; (case hc => first | exact HCV.out | exact Kd.C_drew HCV.out | exact Kd.C_drewN HCV.out _); rintro e wJ ⟨rfl, rfl⟩) | (go_at_call 42; with_reducible refine (HSB.out _ ?hc).mono ?_; (case hc => first | exact Kd.C_below HCB.out HBA.out | exact Kd.C_drew (Kd.C_below HCB.out HBA.out) | exact Kd.C_drewN (Kd.C_below HCB.out HBA.out) _); rintro e wB ⟨AV, cV, rfl, hcv, hb_⟩; have hbB : Below w1.heap.size w1 wB := below_step HBA.out (below_step (show Below wA.heap.size wA _ from by first | exact Below.refl _ _ | exact below_drew1 (Below.refl _ _) | exact pw_below_drewN (Below.refl _ _) _) hb_); have HBB := Aside0.mk hbB; have HCV := Aside0.mk hcv; have xB := (hbB.block _ (blk_lt HBK.out)).trans HBK.out; obtain ⟨dB0, dB1, dB2⟩ := blk3 xB; have eB0 := (hbB.cell (World.block_lt_of_cell? _ _ HE0.out)).trans HE0.out; have eB1 := (hbB.cell (World.block_lt_of_cell? _ _ HE1.out)).trans HE1.out; have eB2 := (hbB.cell (World.block_lt_of_cell? _ _ HE2.out)).trans HE2.out; clear xB; clear hb_ hcv hbB) | (go_at_call 48; with_reducible refine (HJ.out AU cU _ ?hc).mono ?_; (case hc => first | exact HCU.out | exact Kd.C_drew HCU.out | exact Kd.C_drewN HCU.out _); rintro e wJ ⟨rfl, rfl⟩) | (go_at_call 42; with_reducible refine (HSA.out _ ?hc).mono ?_; (case hc => first | exact HCA.out | exact Kd.C_drew HCA.out | exact Kd.C_drewN HCA.out _); rintro e wA ⟨AU, cU, rfl, hcu, hb_⟩; have hbA : Below w1.heap.size w1 wA := below_step (show Below w1.heap.size w1 _ from by first | exact Below.refl _ _ | exact below_drew1 (Below.refl _ _) | exact pw_below_drewN (Below.refl _ _) _) hb_; have HBA := Aside0.mk hbA; have HCU := Aside0.mk hcu; have xA := (hbA.block _ (blk_lt HBK.out)).trans HBK.out; obtain ⟨dA0, dA1, dA2⟩ := blk3 xA; have eA0 := (hbA.cell (World.block_lt_of_cell? _ _ HE0.out)).trans HE0.out; have eA1 := (hbA.cell (World.block_lt_of_cell? _ _ HE1.out)).trans HE1.out; have eA2 := (hbA.cell (World.block_lt_of_cell? _ _ HE2.out)).trans HE2.out; clear xA; clear hb_ hcu hbA))
    all_goals go_wp2
    all_goals go_roundg (n - (i + 1))
    all_goals first
      | (case measure => have := HI.out; omega)
      | (case rel => exact ⟨i + 1, by go_num, ⟨by omega⟩, ⟨by first | exact below_step HB1.out HBB.out | exact below_drew1 (below_step HB1.out HBB.out) | exact pw_below_drewN (below_step HB1.out HBB.out) _⟩⟩)
  · go_wp2
    go_ret
    exact ⟨rfl, HBW.out⟩
end Go.Proofs.YthfjolafikgpoaaGreatDoor.Hand
namespace Go.Proofs.YthfjolafikgpoaaGreatDoor.Hand
open Go.RowKit Go.Maps Go.Proofs.YthfjolafikgpoaaGreatDoor.Base
open Go.Sort (ltStr)
set_option linter.unusedVariables false
set_option linter.unusedSimpArgs false
set_option maxRecDepth 100000
end Go.Proofs.YthfjolafikgpoaaGreatDoor.Hand
namespace Go.Proofs.YthfjolafikgpoaaGreatDoor.Hand
open Go.RowKit Go.Maps Go.Proofs.YthfjolafikgpoaaGreatDoorW.PrintWords Go.Proofs.YthfjolafikgpoaaGreatDoorW.PrintLast Go.Proofs.YthfjolafikgpoaaGreatDoorW.PrintMore Go.Proofs.YthfjolafikgpoaaGreatDoor.Base
set_option linter.unusedVariables false
set_option linter.unusedSimpArgs false
set_option maxRecDepth 100000
abbrev FE := ByteArray × ByteArray × (Option Addr × Nat × Nat)
def KSl : Kd (Option Addr × Nat × Nat) := Kd.scalar (fun t => .slice t.1 t.2.1 t.2.2) (fun _ => rfl)
def KF : Kd FE := Kd.pair Kd.string (Kd.pair Kd.string KSl)
theorem infoIQ : (Tryz.prog.info? 53).map (fun i => (i.zero, i.size, i.bytes)) = some (some (.agg #[.string ⟨#[]⟩, .string ⟨#[]⟩, .slice none 0 0]), 3, 56) := by kernel_rfl
abbrev feC (f : FE) : List Value := [.string f.1, .string f.2.1, .slice f.2.2.1 f.2.2.2.1 f.2.2.2.2]
theorem kf_cs {w : World} {f : FE} {cs : List Value} (h : KF.K w f cs) : cs = feC f := by
 obtain ⟨c0, c1, rfl, h0, c2, c3, rfl, h2, h3⟩ := h
 have e0 : c0 = [.string f.1] := h0
 have e2 : c2 = [.string f.2.1] := h2
 have e3 : c3 = [.slice f.2.2.1 f.2.2.2.1 f.2.2.2.2] := h3
 subst e0 e2 e3
 rfl
def FR (w : World) (p : FE × Rq) : Prop := p.1.1 = mk p.2.1 ∧ p.1.2.1 = mk p.2.2.1 ∧ p.1.2.2.2.1 = p.2.2.2.length ∧ p.2.2.2.length ≤ p.1.2.2.2.2 ∧ Kd.C Kd.string w p.1.2.2.1 p.2.2.2.length (p.2.2.2.map mk)
theorem kf_kq {w : World} {A : Option Addr} {n : Nat} {ps : List (FE × Rq)} (h : KF.C w A n (ps.map (·.1))) (hr : ∀ p ∈ ps, FR w p) : KQ.C w A n (rqV (ps.map (·.2))) := by
 obtain ⟨h1, h2, h3⟩ := h
 refine ⟨by simpa [rqV] using h1, h2, fun hn => ?_⟩
 obtain ⟨ad, rfl, hat⟩ := h3 hn
 refine ⟨ad, rfl, fun j q hq => ?_⟩
 rw [rqV, List.getElem?_map, List.getElem?_map] at hq
 obtain ⟨p, hp⟩ : ∃ p, ps[j]? = some p := by
  cases e : ps[j]? with
  | none => rw [e] at hq; cases hq
  | some p => exact ⟨p, rfl⟩
 rw [hp] at hq
 injection hq with hq
 subst hq
 obtain ⟨c, hc, hK, hcell⟩ := hat j p.1 (by rw [List.getElem?_map, hp]; rfl)
 obtain ⟨f0, f1, f2, f3, f4⟩ := hr p (List.mem_of_getElem? hp)
 have hcs := kf_cs hK
 subst hcs
 refine ⟨feC p.1, rfl, ?_, hcell⟩
 have e : feC p.1 = [.string (mk p.2.1), .string (mk p.2.2.1), .slice p.1.2.2.1 (p.2.2.2.map mk).length p.1.2.2.2.2] := by
  unfold feC
  rw [f0, f1, f2, List.length_map]
 rw [e]
 exact ⟨[_], [_, _], rfl, rfl, [_], [_], rfl, rfl, p.1.2.2.1, p.1.2.2.2.2, rfl, by rw [List.length_map]; exact f3, by rw [List.length_map]; exact f4⟩
end Go.Proofs.YthfjolafikgpoaaGreatDoor.Hand
namespace Go.Proofs.YthfjolafikgpoaaGreatDoor.Hand
open Go.RowKit
set_option linter.unusedVariables false
set_option linter.unusedSimpArgs false
end Go.Proofs.YthfjolafikgpoaaGreatDoor.Hand
namespace Go.Proofs.YthfjolafikgpoaaGreatDoor.Hand
open Go.RowKit Go.Maps Go.Proofs.YthfjolafikgpoaaGreatDoorW.PrintWords Go.Proofs.YthfjolafikgpoaaGreatDoorW.PrintLast Go.Proofs.YthfjolafikgpoaaGreatDoorW.PrintMore Go.Proofs.YthfjolafikgpoaaGreatDoor.Base
open Go.Sort (ltStr)
set_option linter.unusedVariables false
set_option linter.unusedSimpArgs false
set_option maxRecDepth 100000
end Go.Proofs.YthfjolafikgpoaaGreatDoor.Hand
