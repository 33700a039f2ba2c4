/- sort.order2, median, medianAdjacent, choosePivot over requirements. -/
import Derived.Test.YthfjolafikgpoaaGreatDoorSDPdqE
namespace Go.Proofs.YthfjolafikgpoaaGreatDoor.Hand
open Go.RowKit Go.Maps Go.Proofs.YthfjolafikgpoaaGreatDoorW.PrintWords Go.Proofs.YthfjolafikgpoaaGreatDoorW.PrintLast Go.Proofs.YthfjolafikgpoaaGreatDoorW.PrintMore Go.Proofs.YthfjolafikgpoaaGreatDoor.Base
set_option linter.unusedVariables false
set_option linter.unusedSimpArgs false
set_option maxRecDepth 100000
open Go.Sort (ltStr SWO PermIn SortedIn swp size_swp order2 median medianAdjacent choosePivot choosePivot_eq rawPivot hintOf hintCode medianAdjacent_mem medianAdjacent_count)
theorem less_qg {W0 : World} {base g cap N : Nat} {ok : Nat → Prop} {dk : Array Rq} (hN : dk.size = N) (i j : Nat) (I J : Int) (eI : I = (i : Int)) (eJ : J = (j : Int)) (hi : i < N) (hj : j < N) (v : Bool) (hv : klt dk[i]! dk[j]! = v) (W : World) (h : QK W0 W base g cap ok dk) :
   Calls Tryz.prog 254 #[.slice (some ⟨g, 0, none⟩) N cap, .int .i64 I, .int .i64 J] W fun e w' => e = .returned (.bool v) ∧ QK W0 w' base g cap ok dk ∧ W.grownBy w' (some g) := by
 refine (less_q (W0 := W) hN i j I J eI eJ hi hj v hv W ⟨h.1, World.grownBy.refl _ _⟩).mono ?_
 rintro e w' ⟨rfl, hq⟩
 exact ⟨rfl, ⟨hq.1, gb_trans h.2 hq.2⟩, hq.2⟩
def CQ (W0 W : World) (base g cap : Nat) (ok : Nat → Prop) (d : Array Rq) (cb s : Nat) : Prop := QK W0 W base g cap ok d ∧ W.heap[cb]? = some (.cells #[.int .i64 (s : Int)] 3 (0, 0))
set_option maxHeartbeats 2000000 in
set_option maxRecDepth 1000000 in
theorem order2_q (g cap N : Nat) (base : Nat) (ok : Nat → Prop) (d : Array Rq) (hN : d.size = N) (W0 : World) (cb : Nat) (hcb : W0.heap.size ≤ cb) (hok : ∀ k, ok k → k ≠ cb) (hgc : g ≠ cb) (a b s : Nat) (ha : a < N) (hb : b < N) (hs : s < 4611686018427387904) (W : World) (h : CQ W0 W base g cap ok d cb s) :
   Calls Tryz.prog 189 #[.iface 157 (.slice (some ⟨g, 0, none⟩) N cap), .int .i64 (a : Int), .int .i64 (b : Int), .pointer (some ⟨cb, 0, none⟩)] W fun e w' => e = .returned (.tuple #[.int .i64 ((order2 klt d a b s).1 : Int), .int .i64 ((order2 klt d a b s).2.1 : Int)]) ∧ CQ W0 w' base g cap ok d cb (order2 klt d a b s).2.2 := by
 have mL : ∀ w, Sem.run Tryz.prog (method 390 157 (.slice (some ⟨g, 0, none⟩) N cap) "Less") w = .ok (254, .slice (some ⟨g, 0, none⟩) N cap) w := fun _ => by kernel_rfl
 have HQ := Aside0.mk h
 cases hlv : klt d[b]! d[a]! with
 | true =>
   have hl := Aside0.mk (less_qg (W0 := W0) (base := base) (g := g) (cap := cap) (ok := ok) hN b a (b : Int) (a : Int) rfl rfl hb ha true hlv W h.1)
   have e2 : order2 klt d a b s = (b, a, s + 1) := by simp [order2, hlv]
   have E2 := Aside0.mk e2
   clear e2 hlv h
   go_enter Tryz.func189, Tryz.ntmps189
   go_wp2_with (first | ((with_reducible refine (hl.out).mono ?_); rintro e w2 ⟨rfl, hq, hgr⟩; have HQ2 := Aside0.mk hq; have HB2 := Aside0.mk (blk_grown HQ.out.2 hgr (fun e => hgc (Option.some.inj e).symm)); have hcl := (blk_cell HB2.out 0).trans rfl; have hfr := blk_frozen HB2.out 0; clear hq hgr hl))
   go_ret2
   rw [E2.out]
   refine ⟨rfl, qk_far HQ2.out cb hok hcb _, ?_⟩
   exact blk_put HB2.out 0 (.int .i64 ((s : Int) + 1)) (cs' := #[.int .i64 ((s + 1 : Nat) : Int)]) (by simp)
 | false =>
   have hl := Aside0.mk (less_qg (W0 := W0) (base := base) (g := g) (cap := cap) (ok := ok) hN b a (b : Int) (a : Int) rfl rfl hb ha false hlv W h.1)
   have e2 : order2 klt d a b s = (a, b, s) := by simp [order2, hlv]
   have E2 := Aside0.mk e2
   clear e2 hlv h
   go_enter Tryz.func189, Tryz.ntmps189
   go_wp2_with (first | ((with_reducible refine (hl.out).mono ?_); rintro e w2 ⟨rfl, hq, hgr⟩; have HQ2 := Aside0.mk hq; have HB2 := Aside0.mk (blk_grown HQ.out.2 hgr (fun e => hgc (Option.some.inj e).symm)); clear hq hgr hl))
   go_ret2
   rw [E2.out]
   exact ⟨rfl, HQ2.out, HB2.out⟩
set_option maxHeartbeats 2000000 in
set_option maxRecDepth 1000000 in
theorem median_q (g cap N : Nat) (base : Nat) (ok : Nat → Prop) (d : Array Rq) (hN : d.size = N) (W0 : World) (cb : Nat) (hcb : W0.heap.size ≤ cb) (hok : ∀ k, ok k → k ≠ cb) (hgc : g ≠ cb) (a b c s : Nat) (ha : a < N) (hb : b < N) (hc : c < N) (hs : s + 3 < 4611686018427387904) (W : World) (h : CQ W0 W base g cap ok d cb s) :
   Calls Tryz.prog 180 #[.iface 157 (.slice (some ⟨g, 0, none⟩) N cap), .int .i64 (a : Int), .int .i64 (b : Int), .int .i64 (c : Int), .pointer (some ⟨cb, 0, none⟩)] W fun e w' => e = .returned (.int .i64 ((median klt d a b c s).1 : Int)) ∧ CQ W0 w' base g cap ok d cb (median klt d a b c s).2 := by
 have step := order2_q g cap N base ok d hN W0 cb hcb hok hgc
 have l1 := order2_lt' klt d s ha hb
 have s1 := order2_swaps' klt d a b s
 have hA := step a b s ha hb (by omega) W h
 obtain ⟨a1, b1, t1, e1⟩ : ∃ a1 b1 t1, order2 klt d a b s = (a1, b1, t1) := ⟨_, _, _, rfl⟩
 rw [e1] at l1 s1 hA
 simp only [] at l1 s1 hA
 have l2 := order2_lt' klt d t1 l1.2 hc
 have s2 := order2_swaps' klt d b1 c t1
 have hB := fun W2 h2 => step b1 c t1 l1.2 hc (by omega) W2 h2
 obtain ⟨b2, c2, t2, e2⟩ : ∃ b2 c2 t2, order2 klt d b1 c t1 = (b2, c2, t2) := ⟨_, _, _, rfl⟩
 rw [e2] at l2 s2 hB
 simp only [] at l2 s2 hB
 have hC := fun W2 h2 => step a1 b2 t2 l1.1 l2.1 (by omega) W2 h2
 obtain ⟨a3, b3, t3, e3⟩ : ∃ a3 b3 t3, order2 klt d a1 b2 t2 = (a3, b3, t3) := ⟨_, _, _, rfl⟩
 rw [e3] at hC
 simp only [] at hC
 have em : median klt d a b c s = (b3, t3) := by simp only [median, e1, e2, e3]
 rw [em]
 have HA := Aside0.mk hA
 have HB := Aside0.mk hB
 have HC := Aside0.mk hC
 clear em e1 e2 e3 hA hB hC step l1 l2 s1 s2 h
 go_enter Tryz.func180, Tryz.ntmps180
 go_wp2_with (first | ((with_reducible refine (HA.out).mono ?_); rintro e w2 ⟨rfl, hq⟩; have HQ2 := Aside0.mk hq; clear hq HA) | ((with_reducible refine (HB.out _ HQ2.out).mono ?_); rintro e w3 ⟨rfl, hq⟩; have HQ3 := Aside0.mk hq; clear hq HB) | ((with_reducible refine (HC.out _ HQ3.out).mono ?_); rintro e w4 ⟨rfl, hq⟩; have HQ4 := Aside0.mk hq; clear hq HC))
 go_ret
 exact ⟨rfl, HQ4.out⟩
set_option maxHeartbeats 2000000 in
set_option maxRecDepth 1000000 in
theorem adj_q (g cap N : Nat) (base : Nat) (ok : Nat → Prop) (d : Array Rq) (hN : d.size = N) (W0 : World) (cb : Nat) (hcb : W0.heap.size ≤ cb) (hok : ∀ k, ok k → k ≠ cb) (hgc : g ≠ cb) (a s : Nat) (ha1 : 1 ≤ a) (ha2 : a + 1 < N) (hsz : N < 4611686018427387904) (hs : s + 3 < 4611686018427387904) (W : World) (h : CQ W0 W base g cap ok d cb s) :
   Calls Tryz.prog 179 #[.iface 157 (.slice (some ⟨g, 0, none⟩) N cap), .int .i64 (a : Int), .pointer (some ⟨cb, 0, none⟩)] W fun e w' => e = .returned (.int .i64 ((medianAdjacent klt d a s).1 : Int)) ∧ CQ W0 w' base g cap ok d cb (medianAdjacent klt d a s).2 := by
 have hm := median_q g cap N base ok d hN W0 cb hcb hok hgc (a - 1) a (a + 1) s (by omega) (by omega) ha2 hs W h
 rw [show ((a - 1 : Nat) : Int) = (a : Int) - 1 by omega, show ((a + 1 : Nat) : Int) = (a : Int) + 1 by omega] at hm
 have HM := Aside0.mk hm
 clear hm h
 go_enter Tryz.func179, Tryz.ntmps179
 go_wp2_with (first | ((with_reducible refine (HM.out).mono ?_); rintro e w2 ⟨rfl, hq⟩; have HQ2 := Aside0.mk hq; clear hq HM))
 go_ret
 exact ⟨rfl, HQ2.out⟩
set_option maxHeartbeats 4000000 in
set_option maxRecDepth 1000000 in
theorem piv_q (g cap a b N : Nat) (base : Nat) (ok : Nat → Prop) (d : Array Rq) (hN : d.size = N) (hab : a < b) (hb : b ≤ N) (hsz : N < 4611686018427387904) (W0 w : World) (h : QK W0 w base g cap ok d) :
   Calls Tryz.prog 153 #[.iface 157 (.slice (some ⟨g, 0, none⟩) N cap), .int .i64 a, .int .i64 b] w fun e w' => e = .returned (.tuple #[.int .i64 ((choosePivot klt d a b).1 : Int), .int .i64 (hintCode (choosePivot klt d a b).2)]) ∧ QK W0 w' base g cap ok d := by
 obtain ⟨W1, hW1⟩ : ∃ W1, w.alloc (.cells #[.int .i64 0] 3) = W1 := ⟨_, rfl⟩
 have hQ1 : QK W0 W1 base g cap (fun k => ok k ∧ base ≤ k ∧ k < w.heap.size) d := by
  rw [← hW1]
  exact QK.below ⟨Kd.R_mono (Kd.R_bound h.1) (fun k hk => ⟨hk.1, hk.2.1, hk.2.2.1⟩), h.2⟩ (below_alloc (Below.refl _ _) _)
 have hbk1 : W1.heap[w.heap.size]? = some (.cells #[.int .i64 ((0 : Nat) : Int)] 3 (0, 0)) := by rw [← hW1]; exact heap_alloc_new w _
 have hgl : g < w.heap.size := Kd.R_lt h.1 g (by simp [Value.ownBlock])
 have hle : W0.heap.size ≤ w.heap.size := h.2.size
 have h1 : CQ W0 W1 base g cap (fun k => ok k ∧ base ≤ k ∧ k < w.heap.size) d w.heap.size 0 := ⟨hQ1, hbk1⟩
 have MA := adj_q g cap N base (fun k => ok k ∧ base ≤ k ∧ k < w.heap.size) d hN W0 w.heap.size hle (fun k hk => by have := hk.2.2; omega) (by omega)
 have MD := median_q g cap N base (fun k => ok k ∧ base ≤ k ∧ k < w.heap.size) d hN W0 w.heap.size hle (fun k hk => by have := hk.2.2; omega) (by omega)
 have back : Aside0 (∀ W t, CQ W0 W base g cap (fun k => ok k ∧ base ≤ k ∧ k < w.heap.size) d w.heap.size t → QK W0 W base g cap ok d) := ⟨fun W t hc => ⟨Kd.R_mono hc.1.1 (fun k hk => hk.1), hc.1.2⟩⟩
 clear hQ1 hgl hle h
 rw [choosePivot_eq]
 obtain ⟨I, hI⟩ : ∃ I : Nat, I = a + (b - a) / 4 * 1 := ⟨_, rfl⟩
 obtain ⟨J, hJ⟩ : ∃ J : Nat, J = a + (b - a) / 4 * 2 := ⟨_, rfl⟩
 obtain ⟨K, hK⟩ : ∃ K : Nat, K = a + (b - a) / 4 * 3 := ⟨_, rfl⟩
 have eI : ((a : Int) + ((b : Int) - (a : Int)) / 4) = (I : Int) := by omega
 have eJ : ((a : Int) + ((b : Int) - (a : Int)) / 4 * 2) = (J : Int) := by omega
 have eK : ((a : Int) + ((b : Int) - (a : Int)) / 4 * 3) = (K : Int) := by omega
 by_cases h8 : b - a ≥ 8
 · by_cases h50 : b - a ≥ 50
   · obtain ⟨i1, s1, h1'⟩ : ∃ i1 s1, medianAdjacent klt d I 0 = (i1, s1) := ⟨_, _, rfl⟩
     obtain ⟨j1, s2, h2'⟩ : ∃ j1 s2, medianAdjacent klt d J s1 = (j1, s2) := ⟨_, _, rfl⟩
     obtain ⟨k1, s3, h3'⟩ : ∃ k1 s3, medianAdjacent klt d K s2 = (k1, s3) := ⟨_, _, rfl⟩
     obtain ⟨p, s, h4'⟩ : ∃ p s, median klt d i1 j1 k1 s3 = (p, s) := ⟨_, _, rfl⟩
     have hraw : rawPivot klt d a b = (p, s) := by simp only [rawPivot, if_pos h8, if_pos h50, ← hI, ← hJ, ← hK, h1', h2', h3', h4']
     have m1 := medianAdjacent_mem klt d I 0; rw [h1'] at m1
     have m2 := medianAdjacent_mem klt d J s1; rw [h2'] at m2
     have m3 := medianAdjacent_mem klt d K s2; rw [h3'] at m3
     have n1 := medianAdjacent_count klt d I 0; rw [h1'] at n1
     have n2 := medianAdjacent_count klt d J s1; rw [h2'] at n2
     have n3 := medianAdjacent_count klt d K s2; rw [h3'] at n3
     simp only [] at m1 m2 m3 n1 n2 n3
     have c1 := MA I 0 (by omega) (by omega) hsz (by omega) W1 h1
     rw [h1'] at c1
     have c2 := fun W h => MA J s1 (by omega) (by omega) hsz (by omega) W h
     rw [h2'] at c2
     have c3 := fun W h => MA K s2 (by omega) (by omega) hsz (by omega) W h
     rw [h3'] at c3
     have c4 := fun W h => MD i1 j1 k1 s3 (by omega) (by omega) (by omega) (by omega) W h
     rw [h4'] at c4
     simp only [] at c1 c2 c3 c4
     rw [hraw]
     obtain ⟨Hc, hHc⟩ : ∃ Hc : Int, Hc = hintCode (hintOf s) := ⟨_, rfl⟩
     have hh0 : s = 0 → Hc = 1 := fun h => by rw [hHc, h]; rfl
     have hh12 : s = 12 → Hc = 2 := fun h => by rw [hHc, h]; rfl
     have hhx : s ≠ 0 → s ≠ 12 → Hc = 0 := fun h1 h2 => by rw [hHc]; unfold hintOf; rw [if_neg h1, if_neg h2]; rfl
     show Calls Tryz.prog 153 _ w fun e w' => e = .returned (.tuple #[.int .i64 (p : Int), .int .i64 (hintCode (hintOf s))]) ∧ QK W0 w' base g cap ok d
     rw [← hHc]
     have C1 := Aside0.mk c1
     have C2 := Aside0.mk c2
     have C3 := Aside0.mk c3
     have C4 := Aside0.mk c4
     clear hHc hraw c1 c2 c3 c4 h1' h2' h3' h4' MA MD hI hJ hK m1 m2 m3 h1 hbk1
     go_enter Tryz.func153, Tryz.ntmps153
     go_wp2_with (first | ((with_reducible refine (C1.out).mono ?_); rintro e w2 ⟨rfl, hq⟩; have HQ2 := Aside0.mk hq; clear hq C1) | ((with_reducible refine (C2.out _ HQ2.out).mono ?_); rintro e w3 ⟨rfl, hq⟩; have HQ3 := Aside0.mk hq; clear hq C2) | ((with_reducible refine (C3.out _ HQ3.out).mono ?_); rintro e w4 ⟨rfl, hq⟩; have HQ4 := Aside0.mk hq; clear hq C3) | ((with_reducible refine (C4.out _ HQ4.out).mono ?_); rintro e w5 ⟨rfl, hq⟩; have HQ5 := Aside0.mk hq; have hcl := (blk_cell hq.2 0).trans rfl; clear hq C4))
     all_goals
       go_ret2
       refine ⟨?_, back.out _ _ HQ5.out⟩
       first
         | (have e0 : (s : Int) = 0 := of_beq_int (by assumption)
            rw [hh0 (by omega)] <;> rfl)
         | (have e1 : (s : Int) = 12 := of_beq_int (by assumption)
            rw [hh12 (by omega)] <;> rfl)
         | (have e0 : (s : Int) ≠ 0 := of_bne_int (by assumption)
            have e1 : (s : Int) ≠ 12 := of_bne_int (by assumption)
            rw [hhx (by omega) (by omega)] <;> rfl)
         | (rw [hh0 (by omega)] <;> rfl)
   · obtain ⟨p, s, h4'⟩ : ∃ p s, median klt d I J K 0 = (p, s) := ⟨_, _, rfl⟩
     have hraw : rawPivot klt d a b = (p, s) := by simp only [rawPivot, if_pos h8, if_neg h50, ← hI, ← hJ, ← hK, h4']
     have c4 := MD I J K 0 (by omega) (by omega) (by omega) (by omega) W1 h1
     rw [h4'] at c4
     simp only [] at c4
     rw [hraw]
     obtain ⟨Hc, hHc⟩ : ∃ Hc : Int, Hc = hintCode (hintOf s) := ⟨_, rfl⟩
     have hh0 : s = 0 → Hc = 1 := fun h => by rw [hHc, h]; rfl
     have hh12 : s = 12 → Hc = 2 := fun h => by rw [hHc, h]; rfl
     have hhx : s ≠ 0 → s ≠ 12 → Hc = 0 := fun h1 h2 => by rw [hHc]; unfold hintOf; rw [if_neg h1, if_neg h2]; rfl
     show Calls Tryz.prog 153 _ w fun e w' => e = .returned (.tuple #[.int .i64 (p : Int), .int .i64 (hintCode (hintOf s))]) ∧ QK W0 w' base g cap ok d
     rw [← hHc]
     have C4 := Aside0.mk c4
     clear hHc hraw c4 h4' MA MD hI hJ hK h1 hbk1
     go_enter Tryz.func153, Tryz.ntmps153
     go_wp2_with (first | ((with_reducible refine (C4.out).mono ?_); rintro e w5 ⟨rfl, hq⟩; have HQ5 := Aside0.mk hq; have hcl := (blk_cell hq.2 0).trans rfl; clear hq C4))
     all_goals
       go_ret2
       refine ⟨?_, back.out _ _ HQ5.out⟩
       first
         | (have e0 : (s : Int) = 0 := of_beq_int (by assumption)
            rw [hh0 (by omega)] <;> rfl)
         | (have e1 : (s : Int) = 12 := of_beq_int (by assumption)
            rw [hh12 (by omega)] <;> rfl)
         | (have e0 : (s : Int) ≠ 0 := of_bne_int (by assumption)
            have e1 : (s : Int) ≠ 12 := of_bne_int (by assumption)
            rw [hhx (by omega) (by omega)] <;> rfl)
         | (rw [hh0 (by omega)] <;> rfl)
 · obtain ⟨p, hp⟩ : ∃ p : Nat, p = J := ⟨_, rfl⟩
   obtain ⟨s, hs⟩ : ∃ s : Nat, s = 0 := ⟨_, rfl⟩
   have hraw : rawPivot klt d a b = (p, s) := by simp only [rawPivot, if_neg h8, ← hJ, hp, hs]
   rw [hraw]
   obtain ⟨Hc, hHc⟩ : ∃ Hc : Int, Hc = hintCode (hintOf s) := ⟨_, rfl⟩
   have hh0 : s = 0 → Hc = 1 := fun h => by rw [hHc, h]; rfl
   have hh12 : s = 12 → Hc = 2 := fun h => by rw [hHc, h]; rfl
   have hhx : s ≠ 0 → s ≠ 12 → Hc = 0 := fun h1 h2 => by rw [hHc]; unfold hintOf; rw [if_neg h1, if_neg h2]; rfl
   show Calls Tryz.prog 153 _ w fun e w' => e = .returned (.tuple #[.int .i64 (p : Int), .int .i64 (hintCode (hintOf s))]) ∧ QK W0 w' base g cap ok d
   rw [← hHc]
   rw [← hs] at h1
   have HQ5 := Aside0.mk h1
   have hcl : W1.cell? ⟨w.heap.size, 0, none⟩ = some (.int .i64 (s : Int)) := (blk_cell h1.2 0).trans rfl
   clear hHc hraw MA MD hI hJ hK h1 hbk1
   subst hp
   go_enter Tryz.func153, Tryz.ntmps153
   go_wp2
   all_goals
     go_ret2
     refine ⟨?_, back.out _ _ HQ5.out⟩
     first
       | (have e0 : (s : Int) = 0 := of_beq_int (by assumption)
          rw [hh0 (by omega)] <;> rfl)
       | (have e1 : (s : Int) = 12 := of_beq_int (by assumption)
          rw [hh12 (by omega)] <;> rfl)
       | (have e0 : (s : Int) ≠ 0 := of_bne_int (by assumption)
          have e1 : (s : Int) ≠ 12 := of_bne_int (by assumption)
          rw [hhx (by omega) (by omega)] <;> rfl)
       | (rw [hh0 (by omega)] <;> rfl)
end Go.Proofs.YthfjolafikgpoaaGreatDoor.Hand
namespace Go.Proofs.YthfjolafikgpoaaGreatDoor.Hand
open Go.RowKit Go.Maps Go.Proofs.YthfjolafikgpoaaGreatDoorW.PrintWords Go.Proofs.YthfjolafikgpoaaGreatDoorW.PrintLast Go.Proofs.YthfjolafikgpoaaGreatDoorW.PrintMore Go.Proofs.YthfjolafikgpoaaGreatDoor.Base
set_option linter.unusedVariables false
set_option linter.unusedSimpArgs false
set_option maxRecDepth 100000
open Go.Sort (ltStr SWO PermIn SortedIn swp size_swp insertionSort heapSort breakPatterns choosePivot reverseRange partialInsertionSort partition partitionEqual pdq rd hintCode Hint rd_facts rd_lim_le rd_dec rd_not rd_pi_yes rd_pi_no pdq_small pdq_heap pdq_done pdq_eq pdq_left pdq_right round_part round_eq partition_holds partitionEqual_holds partialInsertionSort_holds reverseRange_holds pdq_sorts)
theorem ins_q (g cap a b N : Nat) (base : Nat) (ok : Nat → Prop) (d : Array Rq) (hN : d.size = N) (hab : a ≤ b) (hb : b ≤ N) (hsz : N < 4611686018427387904) (W0 w : World) (h : QK W0 w base g cap ok d) :
   Calls Tryz.prog 150 #[.iface 157 (.slice (some ⟨g, 0, none⟩) N cap), .int .i64 a, .int .i64 b] w fun e w' => e = .returned (.tuple #[]) ∧ QK W0 w' base g cap ok (insertionSort klt d a b) := by
 subst hN
 exact (ins_sort g cap a b base ok d hab hb hsz W0 w h).mono fun e w' h => ⟨h.1, h.2.1⟩
set_option maxHeartbeats 16000000 in
set_option maxRecDepth 1000000 in
theorem pdq_q (g cap N : Nat) (base : Nat) (ok : Nat → Prop) (hsz : N < 4611686018427387904) (W0 : World) :
   ∀ (M a b limit : Nat) (d : Array Rq) (w : World), b - a < M → d.size = N → QK W0 w base g cap ok d → a ≤ b → b ≤ N → limit < 4611686018427387904 → Go.Sort.Below klt a b d →
   Calls Tryz.prog 119 #[.iface 157 (.slice (some ⟨g, 0, none⟩) N cap), .int .i64 a, .int .i64 b, .int .i64 limit] w fun e w' => e = .returned (.tuple #[]) ∧ QK W0 w' base g cap ok (pdq klt d a b limit true true) := by
 have mL : ∀ w, Sem.run Tryz.prog (method 390 157 (.slice (some ⟨g, 0, none⟩) N cap) "Less") w = .ok (254, .slice (some ⟨g, 0, none⟩) N cap) w := fun _ => by kernel_rfl
 have hO := klt_swo
 intro M
 induction M with
 | zero => intro _ _ _ _ _ h; exact absurd h (Nat.not_lt_zero _)
 | succ M ih =>
   intro a b limit d w hM hdN h hab hb hlimit hBel0
   have IH := Aside0.mk ih
   have HO := Aside0.mk hO
   clear ih hO
   go_enter Tryz.func119, Tryz.ntmps119
   go_wp2
   go_loopg [1, 2, 3, 8, 9] (b - a) (fun k s1 s2 s3 s8 s9 wr => ∃ (a' b' lim : Nat) (wb wp : Bool) (dk : Array Rq), s1 = .int .i64 a' ∧ s2 = .int .i64 b' ∧ s3 = .int .i64 lim ∧ s8 = .bool wb ∧ s9 = .bool wp ∧
     a' ≤ b' ∧ b' ≤ N ∧ b' - a' ≤ k ∧ k ≤ b - a ∧ lim ≤ limit ∧ dk.size = N ∧ Aside0 (Go.Sort.Below klt a' b' dk) ∧ Aside0 (QK W0 wr base g cap ok dk) ∧ Aside0 (pdq klt dk a' b' lim wb wp = pdq klt d a b limit true true))
   case atStart => exact ⟨a, b, limit, true, true, d, rfl, rfl, rfl, rfl, rfl, hab, hb, Nat.le_refl _, Nat.le_refl _, Nat.le_refl _, hdN, ⟨hBel0⟩, ⟨h⟩, ⟨rfl⟩⟩
   case round =>
    clear h hdN hBel0
    obtain ⟨a', b', lim, wb, wp, dk, rfl, rfl, rfl, rfl, rfl, hab', hb', hk, hkN, hlim, hds, HBel, HQ, A⟩ := hrel
    by_cases h12 : b' - a' ≤ 12
    · have h12z : (b' : Int) - (a' : Int) ≤ 12 := by omega
      have hc := Aside0.mk (ins_q g cap a' b' N base ok dk hds hab' hb' hsz W0 wr HQ.out)
      go_wp2_with (first | ((with_reducible refine (hc.out).mono ?_); rintro e w1 ⟨rfl, hq⟩; have HQ1 := Aside0.mk hq; clear hq hc))
      (try simp only [Exit.inBlock, Exit.then]); refine bodyPost_ret (results_none rfl _ _ _) rfl ?_
      refine ⟨rfl, ?_⟩
      rw [← A.out, pdq_small h12]
      exact HQ1.out
    · have h12z : ¬ ((b' : Int) - (a' : Int) ≤ 12) := by omega
      by_cases hl0 : lim = 0
      · subst hl0
        have hc := Aside0.mk (heap_q g cap a' b' N base ok dk hds hab' hb' hsz W0 wr HQ.out)
        go_wp2_with (first | ((with_reducible refine (hc.out).mono ?_); rintro e w1 ⟨rfl, hq⟩; have HQ1 := Aside0.mk hq; clear hq hc))
        (try simp only [Exit.inBlock, Exit.then]); refine bodyPost_ret (results_none rfl _ _ _) rfl ?_
        refine ⟨rfl, ?_⟩
        rw [← A.out, pdq_heap h12 rfl]
        exact HQ1.out
      · have hl0z : ¬ ((lim : Int) = 0) := by omega
        obtain ⟨s1, B1, hc1, s2, B2, hpv, s3, B3⟩ := rd_facts (lt := klt) (limit := lim) (wb := wb) (wp := wp) HO.out partialInsertionSort_holds reverseRange_holds (show a' < b' by omega) (show b' ≤ dk.size by omega) HBel.out
        have z1 : (rd klt dk a' b' lim wb wp).d1.size = N := s1.trans hds
        have z2 : (rd klt dk a' b' lim wb wp).d2.size = N := s2.trans hds
        have z3 : (rd klt dk a' b' lim wb wp).pi.1.size = N := s3.trans hds
        have HB3 := Aside0.mk B3
        clear s1 s2 s3 B1 B2 B3
        go_upto_if 35 with fail
        go_cut [3] from 19 (fun s3 wc => s3 = .int .i64 (rd klt dk a' b' lim wb wp).lim ∧ Aside0 (QK W0 wc base g cap ok (rd klt dk a' b' lim wb wp).d1))
        case first =>
         cases wb
         · have hc := Aside0.mk (brk_q g cap a' b' N base ok dk hds hab' hb' hsz W0 wr HQ.out)
           go_wp2_with (first | ((with_reducible refine (hc.out).mono ?_); rintro e w1 ⟨rfl, hq⟩; have HQ1 := Aside0.mk hq; clear hq hc))
           go_meet
           case rel =>
            refine ⟨?_, HQ1⟩
            show Value.int .i64 ((lim : Int) - 1) = Value.int .i64 ((lim - 1 : Nat) : Int)
            congr 1
            omega
         · go_wp2_with fail
           go_meet
           case rel => exact ⟨rfl, HQ⟩
        case rest =>
         clear HQ
         obtain ⟨rfl, HQ⟩ := hcut
         have hc17 := Aside0.mk (piv_q g cap a' b' N base ok (rd klt dk a' b' lim wb wp).d1 z1 (by omega) hb' hsz W0 wc HQ.out)
         have eC : (rd klt dk a' b' lim wb wp).c = choosePivot klt (rd klt dk a' b' lim wb wp).d1 a' b' := rfl
         rw [← eC] at hc17
         clear eC
         go_upto_if 50 with (first | ((with_reducible refine (hc17.out).mono ?_); rintro e w1 ⟨rfl, hq⟩; have HQ2 := Aside0.mk hq; clear hq hc17))
         go_cut [11, 12] from 19 (fun s11 s12 wc => s11 = .int .i64 (rd klt dk a' b' lim wb wp).pivot ∧ s12 = .int .i64 (hintCode (rd klt dk a' b' lim wb wp).hint) ∧ Aside0 (QK W0 wc base g cap ok (rd klt dk a' b' lim wb wp).d2))
         case first =>
          by_cases hh : (rd klt dk a' b' lim wb wp).c.2 = .decreasing
          · have hcode : hintCode (rd klt dk a' b' lim wb wp).c.2 = 2 := by rw [hh]; rfl
            obtain ⟨e2, epv, eht⟩ := rd_dec hh
            have hc18 := Aside0.mk (rev_q g cap a' b' N base ok (rd klt dk a' b' lim wb wp).d1 z1 hab' hb' hsz W0 w1 HQ2.out)
            go_wp2_with (first | ((with_reducible refine (hc18.out).mono ?_); rintro e w3 ⟨rfl, hq, hqs⟩; have HQ3 := Aside0.mk hq; clear hq hqs hc18))
            go_meet
            case rel =>
             refine ⟨?_, by rw [eht]; rfl, ⟨by rw [e2]; exact HQ3.out⟩⟩
             rw [epv]
             congr 1
             omega
          · have hcode : ¬ (hintCode (rd klt dk a' b' lim wb wp).c.2 = 2) := fun h => hh (hintCode_two h)
            obtain ⟨e2, epv, eht⟩ := rd_not hh
            go_wp2_with fail
            go_meet
            case rel => exact ⟨by rw [epv], by rw [eht], ⟨by rw [e2]; exact HQ2.out⟩⟩
         case rest =>
          clear HQ HQ2
          obtain ⟨rfl, rfl, HQ⟩ := hcut
          go_upto_region 15 with fail
          go_cut [12, 68] from 19 (fun s12 s68 wx => s12 = .int .i64 (hintCode (rd klt dk a' b' lim wb wp).hint) ∧ s68 = .bool (wb && wp && decide ((rd klt dk a' b' lim wb wp).hint = .increasing)) ∧ wx = wc)
          case first =>
           cases wb <;> cases wp <;> cases hh3 : (rd klt dk a' b' lim _ _).hint <;>
             (have hcode3 := congrArg hintCode hh3
              simp only [hintCode] at hcode3
              go_wp2_with fail
              go_meet
              exact ⟨by simp [hh3, hintCode], by simp [hh3, hintCode], rfl⟩)
          case rest =>
           obtain ⟨rfl, rfl, rfl⟩ := hcut
           go_upto_if 68 with fail
           go_cut [] from 19 (fun wx => (rd klt dk a' b' lim wb wp).pi.2 = false ∧ Aside0 (QK W0 wx base g cap ok (rd klt dk a' b' lim wb wp).pi.1))
           case first =>
            cases h68 : (wb && wp && decide ((rd klt dk a' b' lim wb wp).hint = .increasing))
            · have epi := rd_pi_no h68
              go_wp2_with fail
              go_meet
              case rel => exact ⟨by rw [epi], ⟨by rw [epi]; exact HQ.out⟩⟩
            · have epi := rd_pi_yes h68
              have hc19 := Aside0.mk (par_q g cap a' b' N base ok (rd klt dk a' b' lim wb wp).d2 z2 (by omega) hb' hsz W0 wc HQ.out)
              rw [← epi] at hc19
              go_wp2_with (first | ((with_reducible refine (hc19.out).mono ?_); rintro e w1 ⟨rfl, hq⟩; have HQ4 := Aside0.mk hq; clear hq hc19))
              all_goals first
                | (have hp2 : (rd klt dk a' b' lim wb wp).pi.2 = false := by rw [epi]; assumption
                   go_meet
                   exact ⟨hp2, HQ4⟩)
                | (have hp2 : (rd klt dk a' b' lim wb wp).pi.2 = true := by rw [epi]; assumption
                   (try simp only [Exit.inBlock, Exit.then]); refine bodyPost_ret (results_none rfl _ _ _) rfl ?_
                   refine ⟨rfl, ?_⟩
                   rw [← A.out, pdq_done h12 hl0 hp2]
                   exact HQ4.out)
                | (have hp2 : (rd klt dk a' b' lim wb wp).pi.2 = false := by assumption
                   go_meet
                   exact ⟨hp2, HQ4⟩)
                | (have hp2 : (rd klt dk a' b' lim wb wp).pi.2 = true := by assumption
                   (try simp only [Exit.inBlock, Exit.then]); refine bodyPost_ret (results_none rfl _ _ _) rfl ?_
                   refine ⟨rfl, ?_⟩
                   rw [← A.out, pdq_done h12 hl0 hp2]
                   exact HQ4.out)
           case rest =>
            clear HQ
            obtain ⟨hp2, HQ⟩ := hcut
            go_upto_region 17 with fail
            go_cut [82] from 19 (fun s82 wx => s82 = .bool (decide (a' > 0) && !klt (rd klt dk a' b' lim wb wp).pi.1[a' - 1]! (rd klt dk a' b' lim wb wp).pi.1[(rd klt dk a' b' lim wb wp).pivot]!) ∧ Aside0 (QK W0 wx base g cap ok (rd klt dk a' b' lim wb wp).pi.1))
            case first =>
             rcases Nat.eq_zero_or_pos a' with ha0 | ha0
             · have ha0z : decide ((a' : Int) > 0) = false := decide_eq_false (by omega)
               go_wp2_with fail
               go_meet
               case rel => exact ⟨by simp [ha0], HQ⟩
             · have ha0z : (a' : Int) > 0 := by omega
               cases hlv : klt (rd klt dk a' b' lim wb wp).pi.1[a' - 1]! (rd klt dk a' b' lim wb wp).pi.1[(rd klt dk a' b' lim wb wp).pivot]! <;>
                 (have hl := Aside0.mk (less_q (W0 := W0) (base := base) (g := g) (cap := cap) (ok := ok) z3 (a' - 1) (rd klt dk a' b' lim wb wp).pivot ((a' : Int) - 1) ((rd klt dk a' b' lim wb wp).pivot : Int) (by omega) rfl (by omega) (by omega) _ hlv wc HQ.out)
                  go_wp2_with (first | ((with_reducible refine (hl.out).mono ?_); rintro e w1 ⟨rfl, hq⟩; have HQ5 := Aside0.mk hq; clear hq hl))
                  go_meet
                  exact ⟨by simp [ha0, hlv], HQ5⟩)
            case rest =>
             clear HQ
             obtain ⟨rfl, HQ⟩ := hcut
             cases h87 : (decide (a' > 0) && !klt (rd klt dk a' b' lim wb wp).pi.1[a' - 1]! (rd klt dk a' b' lim wb wp).pi.1[(rd klt dk a' b' lim wb wp).pivot]!)
             · obtain ⟨mid, ap, d4, hx⟩ : ∃ mid ap d4, partition klt (rd klt dk a' b' lim wb wp).pi.1 a' b' (rd klt dk a' b' lim wb wp).pivot = (mid, ap, d4) := ⟨(partition klt (rd klt dk a' b' lim wb wp).pi.1 a' b' (rd klt dk a' b' lim wb wp).pivot).1, (partition klt (rd klt dk a' b' lim wb wp).pi.1 a' b' (rd klt dk a' b' lim wb wp).pivot).2.1, (partition klt (rd klt dk a' b' lim wb wp).pi.1 a' b' (rd klt dk a' b' lim wb wp).pivot).2.2, rfl⟩
               obtain ⟨r1, r2, r3, r4, r5, r6, r7⟩ := round_part HO.out (partition_holds klt) hpv.1 hpv.2 (show b' ≤ (rd klt dk a' b' lim wb wp).pi.1.size by omega) HB3.out hx
               have hc22 := Aside0.mk (part_q g cap a' b' (rd klt dk a' b' lim wb wp).pivot N base ok (rd klt dk a' b' lim wb wp).pi.1 z3 hpv.1 hpv.2 hb' hsz W0 wc HQ.out)
               rw [hx] at hc22
               have X : Aside0 (partition klt (rd klt dk a' b' lim wb wp).pi.1 a' b' (rd klt dk a' b' lim wb wp).pivot = (mid, ap, d4)) := ⟨hx⟩
               have R4 := Aside0.mk r4
               have R5 := Aside0.mk r5
               have R6 := Aside0.mk r6
               have R7 := Aside0.mk r7
               have hs4 : d4.size = N := r3.trans z3
               clear hx r4 r5 r6 r7
               go_upto_if 108 with (first | ((with_reducible refine (hc22.out).mono ?_); rintro e w1 ⟨rfl, hq⟩; have HQ7 := Aside0.mk hq; clear hq hc22))
               have hx := X.out
               by_cases h4 : mid - a' < b' - mid
               · have h4z : (mid : Int) - (a' : Int) < (b' : Int) - (mid : Int) := by omega
                 have hih := Aside0.mk (IH.out a' mid (rd klt dk a' b' lim wb wp).lim d4 w1 (by omega) hs4 HQ7.out (by omega) (by omega) (Nat.lt_of_le_of_lt (Nat.le_trans rd_lim_le hlim) hlimit) R4.out)
                 obtain ⟨pL, sL⟩ := pdq_sorts klt HO.out d4 a' mid (rd klt dk a' b' lim wb wp).lim true true (by omega) (by omega) R4.out
                 have PL := Aside0.mk (And.intro pL sL)
                 clear pL sL hx
                 go_wp2_with (first | ((with_reducible refine (hih.out).mono ?_); rintro e w8 ⟨rfl, hq⟩; have HQ8 := Aside0.mk hq; clear hq hih))
                 go_roundg (b' - (mid + 1))
                 case measure => omega
                 case rel =>
                  have hx := X.out
                  refine ⟨mid + 1, b', (rd klt dk a' b' lim wb wp).lim, decide (mid - a' ≥ (b' - a') / 8), ap, pdq klt d4 a' mid (rd klt dk a' b' lim wb wp).lim true true, by simp, rfl, rfl, ?_, rfl, by omega, by omega, Nat.le_refl _, by omega, Nat.le_trans rd_lim_le hlim, by rw [PL.out.1.1, hs4], ⟨(R6.out _ PL.out.1 PL.out.2).1⟩, HQ8, ⟨?_⟩⟩
                  · exact congrArg Value.bool (eighth (by omega) (by omega))
                  · rw [← A.out, pdq_left h12 hl0 hp2 h87 (by rw [hx]; exact ⟨r1, r2⟩) (by rw [hx]; exact h4), hx]
               · have h4z : ¬ ((mid : Int) - (a' : Int) < (b' : Int) - (mid : Int)) := by omega
                 have hih := Aside0.mk (IH.out (mid + 1) b' (rd klt dk a' b' lim wb wp).lim d4 w1 (by omega) hs4 HQ7.out (by omega) (by omega) (Nat.lt_of_le_of_lt (Nat.le_trans rd_lim_le hlim) hlimit) R5.out)
                 rw [show ((mid + 1 : Nat) : Int) = (mid : Int) + 1 by omega] at hih
                 obtain ⟨pL, sL⟩ := pdq_sorts klt HO.out d4 (mid + 1) b' (rd klt dk a' b' lim wb wp).lim true true (by omega) (by omega) R5.out
                 have PL := Aside0.mk (And.intro pL sL)
                 clear pL sL hx
                 go_wp2_with (first | ((with_reducible refine (hih.out).mono ?_); rintro e w8 ⟨rfl, hq⟩; have HQ8 := Aside0.mk hq; clear hq hih))
                 go_roundg (mid - a')
                 case measure => omega
                 case rel =>
                  have hx := X.out
                  refine ⟨a', mid, (rd klt dk a' b' lim wb wp).lim, decide (b' - mid ≥ (b' - a') / 8), ap, pdq klt d4 (mid + 1) b' (rd klt dk a' b' lim wb wp).lim true true, rfl, rfl, rfl, ?_, rfl, by omega, by omega, Nat.le_refl _, by omega, Nat.le_trans rd_lim_le hlim, by rw [PL.out.1.1, hs4], ⟨(R7.out _ PL.out.1 PL.out.2).1⟩, HQ8, ⟨?_⟩⟩
                  · exact congrArg Value.bool (eighth (by omega) (by omega))
                  · rw [← A.out, pdq_right h12 hl0 hp2 h87 (by rw [hx]; exact ⟨r1, r2⟩) (by rw [hx]; exact h4), hx]
             · have h87' := h87
               simp only [Bool.and_eq_true, decide_eq_true_eq, Bool.not_eq_true'] at h87'
               obtain ⟨mid, d4, hx⟩ : ∃ mid d4, partitionEqual klt (rd klt dk a' b' lim wb wp).pi.1 a' b' (rd klt dk a' b' lim wb wp).pivot = (mid, d4) := ⟨(partitionEqual klt (rd klt dk a' b' lim wb wp).pi.1 a' b' (rd klt dk a' b' lim wb wp).pivot).1, (partitionEqual klt (rd klt dk a' b' lim wb wp).pi.1 a' b' (rd klt dk a' b' lim wb wp).pivot).2, rfl⟩
               obtain ⟨r1, r2, r3, r4, _⟩ := round_eq HO.out (partitionEqual_holds klt) h87'.1 hpv.1 hpv.2 (show b' ≤ (rd klt dk a' b' lim wb wp).pi.1.size by omega) HB3.out h87'.2 hx
               have hc21 := Aside0.mk (peq_q g cap a' b' (rd klt dk a' b' lim wb wp).pivot N base ok (rd klt dk a' b' lim wb wp).pi.1 z3 hpv.1 hpv.2 hb' hsz W0 wc HQ.out)
               rw [hx] at hc21
               have X : Aside0 (partitionEqual klt (rd klt dk a' b' lim wb wp).pi.1 a' b' (rd klt dk a' b' lim wb wp).pivot = (mid, d4)) := ⟨hx⟩
               have R4 := Aside0.mk r4
               clear hx r4
               go_wp2_with (first | ((with_reducible refine (hc21.out).mono ?_); rintro e w1 ⟨rfl, hq⟩; have HQ7 := Aside0.mk hq; clear hq hc21))
               go_roundg (b' - mid)
               case measure => omega
               case rel =>
                have hx := X.out
                exact ⟨mid, b', (rd klt dk a' b' lim wb wp).lim, wb, wp, d4, rfl, rfl, rfl, rfl, rfl, r2, hb', Nat.le_refl _, by omega, Nat.le_trans rd_lim_le hlim, r3.trans z3, R4, HQ7, ⟨by rw [← A.out, pdq_eq h12 hl0 hp2 h87 (by rw [hx]; exact ⟨r1, r2⟩), hx]⟩⟩
end Go.Proofs.YthfjolafikgpoaaGreatDoor.Hand
