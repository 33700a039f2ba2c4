/- sort.breakPatterns over requirements. -/
import Derived.Test.YthfjolafikgpoaaGreatDoorLRM34
import Derived.Test.YthfjolafikgpoaaGreatDoorLRShelf
namespace Go.Proofs.YthfjolafikgpoaaGreatDoor.Hand
open Go.RowKit Go.Maps Go.Proofs.YthfjolafikgpoaaGreatDoorW.PrintWords Go.Proofs.YthfjolafikgpoaaGreatDoorW.PrintLast Go.Proofs.YthfjolafikgpoaaGreatDoorW.PrintMore Go.Proofs.YthfjolafikgpoaaGreatDoor.Base
set_option linter.unusedVariables false
set_option linter.unusedSimpArgs false
set_option maxRecDepth 100000
open Go.Sort (ltStr SWO PermIn SortedIn swp size_swp breakPatterns xorNextN xorNextN_lt xorNext xorNext_toNat bitsLen two_pow_bitsLen_le)
theorem swap_qg {W0 : World} {base g cap N : Nat} {ok : Nat → Prop} {dk : Array Rq} (hN : dk.size = N) (i j : Nat) (I J : Int) (eI : I = (i : Int)) (eJ : J = (j : Int)) (hi : i < N) (hj : j < N) (W : World) (h : QK W0 W base g cap ok dk) :
    Calls Tryz.prog 255 #[.slice (some ⟨g, 0, none⟩) N cap, .int .i64 I, .int .i64 J] W fun e w' => e = .returned (.tuple #[]) ∧ QK W0 w' base g cap ok (swp dk i j) ∧ W.grownBy w' (some g) := by
  refine (swap_q (W0 := W) hN i j I J eI eJ hi hj W ⟨h.1, World.grownBy.refl _ _⟩).mono ?_
  rintro e w' ⟨rfl, hq⟩
  exact ⟨rfl, ⟨hq.1, gb_trans h.2 hq.2⟩, hq.2⟩
theorem qk_far {W0 W : World} {base g cap : Nat} {ok : Nat → Prop} {d : Array Rq} (h : QK W0 W base g cap ok d) (p : Nat) (hp : ∀ k, ok k → k ≠ p) (hle : W0.heap.size ≤ p) (v : Value) : QK W0 (W.setCell ⟨p, 0, none⟩ v) base g cap ok d := by
  refine ⟨Kd.R_far h.1 (p := ⟨p, 0, none⟩) hp v, ?_⟩
  have hb : Below W0.heap.size W (W.setCell ⟨p, 0, none⟩ v) := (Below.refl _ _).setCell hle v
  exact ⟨hb.os.trans h.2.os, hb.tape.trans h.2.tape, hb.output.trans h.2.output, Nat.le_trans h.2.size hb.size, fun i hi hr => (hb.block i hi).trans (h.2.block i hi hr)⟩
set_option maxHeartbeats 8000000 in
set_option maxRecDepth 1000000 in
theorem brk_go (g cap a L N : Nat) (base : Nat) (ok : Nat → Prop) (d : Array Rq) (hN : d.size = N) (hb : a + L ≤ N) (hsz : N < 4611686018427387904) (h8 : 8 ≤ L) (W0 w : World) (h : QK W0 w base g cap ok d) :
    Calls Tryz.prog 152 #[.iface 157 (.slice (some ⟨g, 0, none⟩) N cap), .int .i64 a, .int .i64 ((a + L : Nat) : Int)] w fun e w' => e = .returned (.tuple #[]) ∧ QK W0 w' base g cap ok (breakPatterns d a (a + L)) := by
  have mS : ∀ w, Sem.run Tryz.prog (method 390 157 (.slice (some ⟨g, 0, none⟩) N cap) "Swap") w = .ok (255, .slice (some ⟨g, 0, none⟩) N cap) w := fun _ => by kernel_rfl
  rw [breakPatterns_eq d a L h8]
  obtain ⟨M, hM⟩ : ∃ M : Nat, M = 1 <<< bitsLen L := ⟨_, rfl⟩
  have hM1 : 1 ≤ M := by rw [hM, Nat.one_shiftLeft]; exact Nat.two_pow_pos _
  have hM2 : M ≤ 2 * L := by rw [hM, Nat.one_shiftLeft]; exact two_pow_bitsLen_le (by omega)
  have HNP : Aside0 (∀ w, Calls Tryz.prog 177 #[.int .i64 (L : Int)] w fun e w' => e = .returned (.int .u64 (M : Int)) ∧ w' = w) := ⟨by rw [hM]; exact fun w => Any.nextPowerOfTwo (LaysGt.n44.elder (P := Tryz.prog) (ρ := Tryz.laysGt11_ren) { Tryz.laysGt11 with }) L (by omega) w⟩
  rw [← hM]
  clear hM
  have hLz : ((a : Int) + (L : Int) - (a : Int)) = (L : Int) := by omega
  have h8z : (8 : Int) ≤ (L : Int) := by omega
  obtain ⟨W1, hW1⟩ : ∃ W1, w.alloc (.cells #[.int .u64 (L : Int)] 235) = W1 := ⟨_, rfl⟩
  have hQ1 : QK W0 W1 base g cap (fun k => ok k ∧ base ≤ k ∧ k < w.heap.size) d := by
    rw [← hW1]
    exact QK.below ⟨Kd.R_mono (Kd.R_bound h.1) (fun k hk => ⟨hk.1, hk.2.1, hk.2.2.1⟩), h.2⟩ (below_alloc (Below.refl _ _) _)
  have hbk1 : W1.heap[w.heap.size]? = some (.cells #[.int .u64 (L : Int)] 235 (0, 0)) := by rw [← hW1]; exact heap_alloc_new w _
  have hgl : g < w.heap.size := Kd.R_lt h.1 g (by simp [Value.ownBlock])
  have hle : W0.heap.size ≤ w.heap.size := h.2.size
  have HQ1 := Aside0.mk hQ1
  have HBK1 := Aside0.mk hbk1
  clear h hQ1 hbk1
  go_enter Tryz.func152, Tryz.ntmps152
  go_wp2_with (first | ((with_reducible refine (HNP.out _).mono ?_); rintro e w1 ⟨rfl, rfl⟩))
  go_loopg [9] 3 (fun g1 vi wr => ∃ (t : Nat) (r : UInt64) (dk : Array Rq), vi = .int .i64 ((a : Int) + (L : Int) / 4 * 2 - 1 + (t : Int)) ∧ Aside0 (t ≤ 3 ∧ 3 - t ≤ g1) ∧ Aside0 (dk.size = N) ∧ Aside0 (QK W0 wr base g cap (fun k => ok k ∧ base ≤ k ∧ k < w.heap.size) dk) ∧ Aside0 (wr.heap[w.heap.size]? = some (.cells #[.int .u64 (r.toNat : Int)] 235 (0, 0))) ∧
      Aside0 (bpRest a L M (a + L / 4 * 2 - 1) (3 - t) t (r, dk) = bpRest a L M (a + L / 4 * 2 - 1) 3 0 (UInt64.ofNat L, d)))
  case atStart => exact ⟨0, UInt64.ofNat L, d, by simp, ⟨by omega, by omega⟩, ⟨hN⟩, HQ1, ⟨by rw [show (UInt64.ofNat L).toNat = L from by simp; omega]; exact HBK1.out⟩, ⟨rfl⟩⟩
  case round =>
    clear HQ1 HBK1 hW1
    obtain ⟨t, r, dk, rfl, HT, HDS, HQ, HBK, HR⟩ := hrel
    obtain ⟨ht, hg1⟩ := HT.out
    by_cases ht3 : t < 3
    · have hle2 : (a : Int) + (L : Int) / 4 * 2 - 1 + (t : Int) ≤ (a : Int) + (L : Int) / 4 * 2 + 1 := by omega
      obtain ⟨R, hRr⟩ : ∃ R : Nat, R = r.toNat := ⟨_, rfl⟩
      have lR : R < 18446744073709551616 := by rw [hRr]; exact r.toNat_lt
      obtain ⟨R', hR'⟩ : ∃ R' : Nat, R' = xorNextN R := ⟨_, rfl⟩
      have lR' : R' < 18446744073709551616 := by rw [hR']; exact xorNextN_lt R lR
      obtain ⟨O, hO⟩ : ∃ O : Nat, O = R' &&& (M - 1) := ⟨_, rfl⟩
      have lO : O ≤ M - 1 := by rw [hO]; exact Nat.and_le_right
      have eAnd : bits .and .u64 (R' : Int) ((M : Int) - 1) = (O : Int) := by
        rw [show ((M : Int) - 1) = ((M - 1 : Nat) : Int) by omega, bits_and_u64_nat _ _ lR' (by omega), hO]
      have hbk := HBK.out
      rw [← hRr] at hbk
      have HNext : Aside0 (Calls Tryz.prog 178 #[.pointer (some ⟨w.heap.size, 0, none⟩)] wr fun e w' => e = .returned (.int .u64 (R' : Int)) ∧ w' = (wr.setCell ⟨w.heap.size, 0, none⟩ (.int .u64 (R' : Int))).drewN 3) := ⟨by
        rw [hR']; exact Any.xorshift_Next (LaysGt.n45.elder (P := Tryz.prog) (ρ := Tryz.laysGt11_ren) { Tryz.laysGt11 with }) _ _ R lR wr ((blk_cell hbk 0).trans rfl) (blk_frozen hbk 0)⟩
      have HN : Aside0 (R' = (xorNext r).toNat ∧ O = (xorNext r).toNat &&& (M - 1)) := ⟨by
        have e : R' = (xorNext r).toNat := by rw [hR', hRr, xorNext_toNat]
        exact ⟨e, by rw [hO, e]⟩⟩
      have hq2 : QK W0 ((wr.setCell ⟨w.heap.size, 0, none⟩ (.int .u64 (R' : Int))).drewN 3) base g cap (fun k => ok k ∧ base ≤ k ∧ k < w.heap.size) dk := QK.below (qk_far HQ.out w.heap.size (fun k hk => by have := hk.2.2; omega) hle _) (pw_below_drewN (Below.refl _ _) 3)
      have hbk2 : ((wr.setCell ⟨w.heap.size, 0, none⟩ (.int .u64 (R' : Int))).drewN 3).heap[w.heap.size]? = some (.cells #[.int .u64 (R' : Int)] 235 (0, 0)) := blk_put hbk 0 (.int .u64 (R' : Int)) (cs' := #[.int .u64 (R' : Int)]) rfl
      obtain ⟨w2, hw2⟩ : ∃ w2, (wr.setCell ⟨w.heap.size, 0, none⟩ (.int .u64 (R' : Int))).drewN 3 = w2 := ⟨_, rfl⟩
      rw [hw2] at hq2 hbk2 HNext
      have HQ2 := Aside0.mk hq2
      have HBK2 := Aside0.mk hbk2
      clear hRr hR' hO hbk hq2 hbk2 hw2 HQ HBK lR lR'
      by_cases hLO : L ≤ O
      · have hLOz : (L : Int) ≤ (O : Int) := by omega
        have HS := Aside0.mk (swap_qg (W0 := W0) (base := base) (g := g) (cap := cap) (ok := fun k => ok k ∧ base ≤ k ∧ k < w.heap.size) HDS.out (a + L / 4 * 2 - 1 + t) (a + (O - L)) ((a : Int) + (L : Int) / 4 * 2 - 1 + (t : Int)) ((a : Int) + ((O : Int) - (L : Int))) (by omega) (by omega) (by omega) (by omega) w2 HQ2.out)
        have HST : Aside0 (bpRest a L M (a + L / 4 * 2 - 1) (3 - (t + 1)) (t + 1) (xorNext r, swp dk (a + L / 4 * 2 - 1 + t) (a + (O - L))) = bpRest a L M (a + L / 4 * 2 - 1) 3 0 (UInt64.ofNat L, d)) := ⟨by rw [← HR.out, bp_step a L M _ t r dk (O - L) ht3 (by rw [← HN.out.2, if_pos (by omega)])]⟩
        go_wp2_with (first | ((with_reducible refine (HNext.out).mono ?_); rintro e w' ⟨rfl, rfl⟩; clear HNext) | ((with_reducible refine (HS.out).mono ?_); rintro e w3 ⟨rfl, hq, hgr⟩; have HQ3 := Aside0.mk hq; have HBK3 := Aside0.mk ((hgr.block _ (blk_lt HBK2.out) (fun e => by have := Option.some.inj e; omega)).trans HBK2.out); clear hq hgr HS))
        go_roundg (3 - (t + 1))
        case measure => omega
        case rel => exact ⟨t + 1, xorNext r, swp dk (a + L / 4 * 2 - 1 + t) (a + (O - L)), by congr 1; push_cast; omega, ⟨by omega, Nat.le_refl _⟩, ⟨by rw [size_swp]; exact HDS.out⟩, HQ3, ⟨by rw [← HN.out.1]; exact HBK3.out⟩, HST⟩
      · have hLOz : ¬ (L : Int) ≤ (O : Int) := by omega
        have HS := Aside0.mk (swap_qg (W0 := W0) (base := base) (g := g) (cap := cap) (ok := fun k => ok k ∧ base ≤ k ∧ k < w.heap.size) HDS.out (a + L / 4 * 2 - 1 + t) (a + O) ((a : Int) + (L : Int) / 4 * 2 - 1 + (t : Int)) ((a : Int) + (O : Int)) (by omega) (by omega) (by omega) (by omega) w2 HQ2.out)
        have HST : Aside0 (bpRest a L M (a + L / 4 * 2 - 1) (3 - (t + 1)) (t + 1) (xorNext r, swp dk (a + L / 4 * 2 - 1 + t) (a + O)) = bpRest a L M (a + L / 4 * 2 - 1) 3 0 (UInt64.ofNat L, d)) := ⟨by rw [← HR.out, bp_step a L M _ t r dk O ht3 (by rw [← HN.out.2, if_neg (by omega)])]⟩
        go_wp2_with (first | ((with_reducible refine (HNext.out).mono ?_); rintro e w' ⟨rfl, rfl⟩; clear HNext) | ((with_reducible refine (HS.out).mono ?_); rintro e w3 ⟨rfl, hq, hgr⟩; have HQ3 := Aside0.mk hq; have HBK3 := Aside0.mk ((hgr.block _ (blk_lt HBK2.out) (fun e => by have := Option.some.inj e; omega)).trans HBK2.out); clear hq hgr HS))
        go_roundg (3 - (t + 1))
        case measure => omega
        case rel => exact ⟨t + 1, xorNext r, swp dk (a + L / 4 * 2 - 1 + t) (a + O), by congr 1; push_cast; omega, ⟨by omega, Nat.le_refl _⟩, ⟨by rw [size_swp]; exact HDS.out⟩, HQ3, ⟨by rw [← HN.out.1]; exact HBK3.out⟩, HST⟩
    · obtain rfl : t = 3 := by omega
      have hle2 : ¬ ((a : Int) + (L : Int) / 4 * 2 - 1 + ((3 : Nat) : Int) ≤ (a : Int) + (L : Int) / 4 * 2 + 1) := by omega
      go_wp2
      go_end0
      refine ⟨rfl, ?_⟩
      rw [← HR.out]
      exact ⟨Kd.R_mono HQ.out.1 (fun k hk => hk.1), HQ.out.2⟩
theorem brk_q (g cap a b N : Nat) (base : Nat) (ok : Nat → Prop) (d : Array Rq) (hN : d.size = N) (hab : a ≤ b) (hb : b ≤ N) (hsz : N < 4611686018427387904) (W0 w : World) (h : QK W0 w base g cap ok d) :
    Calls Tryz.prog 152 #[.iface 157 (.slice (some ⟨g, 0, none⟩) N cap), .int .i64 a, .int .i64 b] w fun e w' => e = .returned (.tuple #[]) ∧ QK W0 w' base g cap ok (breakPatterns d a b) := by
  obtain ⟨L, rfl⟩ : ∃ L, b = a + L := ⟨b - a, by omega⟩
  by_cases h8 : 8 ≤ L
  · exact brk_go g cap a L N base ok d hN hb hsz h8 W0 w h
  · have hv : breakPatterns d a (a + L) = d := by unfold breakPatterns; simp only [Nat.add_sub_cancel_left]; rw [if_neg h8]
    rw [hv]
    have hLz : ((a : Int) + (L : Int) - (a : Int)) = (L : Int) := by omega
    have h8z : ¬ (8 : Int) ≤ (L : Int) := by omega
    have HQ := Aside0.mk h
    clear h hv
    go_enter Tryz.func152, Tryz.ntmps152
    go_wp2
    go_end0
    exact ⟨rfl, HQ.out⟩
end Go.Proofs.YthfjolafikgpoaaGreatDoor.Hand

/- sort.partialInsertionSort over requirements. -/
namespace Go.Proofs.YthfjolafikgpoaaGreatDoor.Hand
open Go.RowKit Go.Maps Go.Proofs.YthfjolafikgpoaaGreatDoorW.PrintWords Go.Proofs.YthfjolafikgpoaaGreatDoorW.PrintLast Go.Proofs.YthfjolafikgpoaaGreatDoorW.PrintMore Go.Proofs.YthfjolafikgpoaaGreatDoor.Base
set_option linter.unusedVariables false
set_option linter.unusedSimpArgs false
set_option maxRecDepth 100000
open Go.Sort (ltStr SWO PermIn SortedIn swp size_swp partialInsertionSort partialIns scanSorted shiftDown shiftUp fixDown fixUp)
set_option maxHeartbeats 16000000 in
set_option maxRecDepth 1000000 in
theorem par_q (g cap a b N : Nat) (base : Nat) (ok : Nat → Prop) (d : Array Rq) (hN : d.size = N) (hab : a < b) (hb : b ≤ N) (hsz : N < 4611686018427387904) (W0 w : World) (h : QK W0 w base g cap ok d) :
    Calls Tryz.prog 155 #[.iface 157 (.slice (some ⟨g, 0, none⟩) N cap), .int .i64 a, .int .i64 b] w fun e w' => e = .returned (.bool (partialInsertionSort klt d a b).2) ∧ QK W0 w' base g cap ok (partialInsertionSort klt d a b).1 := by
  have mL : ∀ w, Sem.run Tryz.prog (method 390 157 (.slice (some ⟨g, 0, none⟩) N cap) "Less") w = .ok (254, .slice (some ⟨g, 0, none⟩) N cap) w := fun _ => by kernel_rfl
  have mS : ∀ w, Sem.run Tryz.prog (method 390 157 (.slice (some ⟨g, 0, none⟩) N cap) "Swap") w = .ok (255, .slice (some ⟨g, 0, none⟩) N cap) w := fun _ => by kernel_rfl
  have HL : Aside0 (∀ (X : Array Rq) (j : Nat) (v : Bool), X.size = N → 1 ≤ j → j < N → klt X[j]! X[j - 1]! = v → ∀ W, QK W0 W base g cap ok X → Calls Tryz.prog 254 #[.slice (some ⟨g, 0, none⟩) N cap, .int .i64 (j : Int), .int .i64 ((j : Int) - 1)] W fun e w' => e = .returned (.bool v) ∧ QK W0 w' base g cap ok X) :=
    ⟨fun X j v hX h1 hj hv => less_q (W0 := W0) (base := base) (g := g) (cap := cap) (ok := ok) hX j (j - 1) (j : Int) ((j : Int) - 1) rfl (by omega) hj (by omega) v hv⟩
  have HS : Aside0 (∀ (X : Array Rq) (j : Nat), X.size = N → 1 ≤ j → j < N → ∀ W, QK W0 W base g cap ok X → Calls Tryz.prog 255 #[.slice (some ⟨g, 0, none⟩) N cap, .int .i64 (j : Int), .int .i64 ((j : Int) - 1)] W fun e w' => e = .returned (.tuple #[]) ∧ QK W0 w' base g cap ok (swp X j (j - 1))) :=
    ⟨fun X j hX h1 hj => swap_q (W0 := W0) (base := base) (g := g) (cap := cap) (ok := ok) hX j (j - 1) (j : Int) ((j : Int) - 1) rfl (by omega) hj (by omega)⟩
  go_enter Tryz.func155, Tryz.ntmps155
  go_wp2
  go_loopg [7, 8] 5 (fun g1 vi vs wr => ∃ (i s : Nat) (dk : Array Rq), vi = .int .i64 i ∧ vs = .int .i64 s ∧ s ≤ 5 ∧ 5 - s ≤ g1 ∧ a < i ∧ i ≤ b ∧ Aside0 (dk.size = N) ∧ Aside0 (QK W0 wr base g cap ok dk) ∧ Aside0 (partialIns klt a b (5 - s) i dk = partialIns klt a b 5 (a + 1) d))
  case atStart => exact ⟨a + 1, 0, d, by go_num, rfl, by omega, by omega, by omega, by omega, ⟨hN⟩, ⟨h⟩, ⟨rfl⟩⟩
  case round =>
    clear h hN
    obtain ⟨i, s, dk, rfl, rfl, hs5, hg1, hai, hib, HSK, HQ, HO⟩ := hrel
    by_cases hs : s < 5
    · have hsz5 : (s : Int) < 5 := by omega
      go_wp2
      go_loopg [7] (b - i) (fun g2 vi wr2 => ∃ (kx : Nat), vi = .int .i64 kx ∧ i ≤ kx ∧ kx ≤ b ∧ b - kx ≤ g2 ∧ Aside0 (QK W0 wr2 base g cap ok dk) ∧ Aside0 (scanSorted klt dk b kx = scanSorted klt dk b i))
      case atStart => exact ⟨i, rfl, Nat.le_refl _, hib, Nat.le_refl _, HQ, ⟨rfl⟩⟩
      case round =>
        obtain ⟨kx, rfl, hik, hkb, hg2, HQ, HSc⟩ := hrel
        by_cases hkb' : kx < b
        · have hkz : (kx : Int) < (b : Int) := by omega
          cases hlv : klt dk[kx]! dk[kx - 1]! with
          | false =>
            have hl := Aside0.mk (HL.out dk kx false HSK.out (by omega) (by omega) hlv)
            go_wp2_with (first | ((with_reducible refine (hl.out _ HQ.out).mono ?_); rintro e w2 ⟨rfl, hq⟩; have HQ2 := Aside0.mk hq; clear hq hl))
            go_roundg (b - (kx + 1))
            case measure => omega
            case rel => exact ⟨kx + 1, by go_num, by omega, by omega, Nat.le_refl _, HQ2, ⟨by rw [← HSc.out, scanSorted_go klt dk b kx hkb' hlv] <;> rfl⟩⟩
          | true =>
            have hl := Aside0.mk (HL.out dk kx true HSK.out (by omega) (by omega) hlv)
            have HK : Aside0 (scanSorted klt dk b i = kx) := ⟨by rw [← HSc.out, scanSorted_stop klt dk b kx (Or.inr hlv)]⟩
            have hkne : ((kx : Int) == (b : Int)) = false := beq_eq_false_iff_ne.2 (by omega)
            by_cases h50 : b - a < 50
            · have h50z : (b : Int) - (a : Int) < 50 := by omega
              go_wp2_with (first | ((with_reducible refine (hl.out _ HQ.out).mono ?_); rintro e w2 ⟨rfl, hq⟩; have HQ2 := Aside0.mk hq; clear hq hl))
              have hv : partialInsertionSort klt d a b = (dk, false) := by
                unfold partialInsertionSort
                rw [← HO.out, pi_short klt a b s i dk hs (by rw [HK.out]; omega) h50]
              rw [hv]
              go_ret
              exact ⟨rfl, HQ2.out⟩
            · have h50z : ¬ ((b : Int) - (a : Int) < 50) := by omega
              have hs1 := Aside0.mk (HS.out dk kx HSK.out (by omega) (by omega))
              have hX1 : (swp dk kx (kx - 1)).size = N := by rw [size_swp]; exact HSK.out
              by_cases hka : kx - a ≥ 2
              · -- i - a >= 2: the smaller one goes down
                have hkaz : (2 : Int) ≤ (kx : Int) - (a : Int) := by omega
                go_wp2_with (first | ((with_reducible refine (hl.out _ HQ.out).mono ?_); rintro e w2 ⟨rfl, hq⟩; have HQ2 := Aside0.mk hq; clear hq hl) | ((with_reducible refine (hs1.out _ HQ2.out).mono ?_); rintro e w3 ⟨rfl, hq⟩; have HQ3 := Aside0.mk hq; clear hq hs1))
                go_loopg [9] (kx - 1) (fun g3 vj wr3 => ∃ (j : Nat) (dj : Array Rq), vj = .int .i64 j ∧ j ≤ kx - 1 ∧ j ≤ g3 ∧ Aside0 (dj.size = N) ∧ Aside0 (QK W0 wr3 base g cap ok dj) ∧ Aside0 (shiftDown klt j dj = shiftDown klt (kx - 1) (swp dk kx (kx - 1))))
                case atStart => exact ⟨kx - 1, (swp dk kx (kx - 1)), by congr 1; omega, Nat.le_refl _, Nat.le_refl _, ⟨hX1⟩, HQ3, ⟨rfl⟩⟩
                case round =>
                  obtain ⟨j, dj, rfl, hjk, hg3, HSJ, HQ, HDn⟩ := hrel
                  by_cases hj1 : 1 ≤ j
                  · have hj1z : (1 : Int) ≤ (j : Int) := by omega
                    cases hlv2 : klt dj[j]! dj[j - 1]! with
                    | true =>
                      have hl2 := Aside0.mk (HL.out dj j true HSJ.out hj1 (by omega) hlv2)
                      have hs2 := Aside0.mk (HS.out dj j HSJ.out hj1 (by omega))
                      go_wp2_with (first | ((with_reducible refine (hl2.out _ HQ.out).mono ?_); rintro e w2 ⟨rfl, hq⟩; have HQ2 := Aside0.mk hq; clear hq hl2) | ((with_reducible refine (hs2.out _ HQ2.out).mono ?_); rintro e w3 ⟨rfl, hq⟩; have HQ3 := Aside0.mk hq; clear hq hs2))
                      go_roundg (j - 1)
                      case measure => omega
                      case rel => exact ⟨j - 1, swp dj j (j - 1), by congr 1; omega, by omega, Nat.le_refl _, ⟨by rw [size_swp]; exact HSJ.out⟩, HQ3, ⟨by rw [← HDn.out, shiftDown_go klt j dj hj1 hlv2] <;> rfl⟩⟩
                    | false =>
                      have hl2 := Aside0.mk (HL.out dj j false HSJ.out hj1 (by omega) hlv2)
                      have HD : Aside0 (fixDown klt a kx (swp dk kx (kx - 1)) = dj) := ⟨by unfold fixDown; rw [if_pos hka, ← HDn.out, shiftDown_stop klt j dj (Or.inr hlv2)]⟩
                      by_cases hbk : b - kx ≥ 2
                      · -- b - i >= 2: the greater one goes up
                        have hbkz : (2 : Int) ≤ (b : Int) - (kx : Int) := by omega
                        go_wp2_with (first | ((with_reducible refine (hl2.out _ HQ.out).mono ?_); rintro e w2 ⟨rfl, hq⟩; have HQ2 := Aside0.mk hq; clear hq hl2))
                        go_loopg [10] (b - (kx + 1)) (fun g4 vj wr4 => ∃ (ju : Nat) (du : Array Rq), vj = .int .i64 ju ∧ kx + 1 ≤ ju ∧ ju ≤ b ∧ b - ju ≤ g4 ∧ Aside0 (du.size = N) ∧ Aside0 (QK W0 wr4 base g cap ok du) ∧ Aside0 (shiftUp klt b ju du = shiftUp klt b (kx + 1) dj))
                        case atStart => exact ⟨kx + 1, dj, by go_num, Nat.le_refl _, by omega, Nat.le_refl _, HSJ, HQ2, ⟨rfl⟩⟩
                        case round =>
                          obtain ⟨ju, du, rfl, hkj, hjb, hg4, HSU, HQ, HU⟩ := hrel
                          by_cases hjb' : ju < b
                          · have hjz : (ju : Int) < (b : Int) := by omega
                            cases hlv3 : klt du[ju]! du[ju - 1]! with
                            | true =>
                              have hl3 := Aside0.mk (HL.out du ju true HSU.out (by omega) (by omega) hlv3)
                              have hs3 := Aside0.mk (HS.out du ju HSU.out (by omega) (by omega))
                              go_wp2_with (first | ((with_reducible refine (hl3.out _ HQ.out).mono ?_); rintro e w2 ⟨rfl, hq⟩; have HQ2 := Aside0.mk hq; clear hq hl3) | ((with_reducible refine (hs3.out _ HQ2.out).mono ?_); rintro e w3 ⟨rfl, hq⟩; have HQ3 := Aside0.mk hq; clear hq hs3))
                              go_roundg (b - (ju + 1))
                              case measure => omega
                              case rel => exact ⟨ju + 1, swp du ju (ju - 1), by go_num, by omega, by omega, Nat.le_refl _, ⟨by rw [size_swp]; exact HSU.out⟩, HQ3, ⟨by rw [← HU.out, shiftUp_go klt b ju du hjb' hlv3] <;> rfl⟩⟩
                            | false =>
                              have hl3 := Aside0.mk (HL.out du ju false HSU.out (by omega) (by omega) hlv3)
                              go_wp2_with (first | ((with_reducible refine (hl3.out _ HQ.out).mono ?_); rintro e w2 ⟨rfl, hq⟩; have HQ2 := Aside0.mk hq; clear hq hl3))
                              go_roundg (5 - (s + 1))
                              case measure => omega
                              case rel => exact ⟨kx, s + 1, du, rfl, by go_num, by omega, Nat.le_refl _, by omega, by omega, HSU, HQ2, ⟨by rw [← HO.out, pi_go klt a b s i kx dk hs HK.out (by omega) h50, HD.out, show fixUp klt b kx dj = du from by unfold fixUp; rw [if_pos hbk, ← HU.out, shiftUp_stop klt b ju du (Or.inr hlv3)]] <;> rfl⟩⟩
                          · have hjz : ¬ (ju : Int) < (b : Int) := by omega
                            go_wp2
                            go_roundg (5 - (s + 1))
                            case measure => omega
                            case rel => exact ⟨kx, s + 1, du, rfl, by go_num, by omega, Nat.le_refl _, by omega, by omega, HSU, HQ, ⟨by rw [← HO.out, pi_go klt a b s i kx dk hs HK.out (by omega) h50, HD.out, show fixUp klt b kx dj = du from by unfold fixUp; rw [if_pos hbk, ← HU.out, shiftUp_stop klt b ju du (Or.inl hjb')]] <;> rfl⟩⟩
                      · have hbkz : ¬ (2 : Int) ≤ (b : Int) - (kx : Int) := by omega
                        go_wp2_with (first | ((with_reducible refine (hl2.out _ HQ.out).mono ?_); rintro e w2 ⟨rfl, hq⟩; have HQ2 := Aside0.mk hq; clear hq hl2))
                        go_roundg (5 - (s + 1))
                        case measure => omega
                        case rel => exact ⟨kx, s + 1, dj, rfl, by go_num, by omega, Nat.le_refl _, by omega, by omega, HSJ, HQ2, ⟨by rw [← HO.out, pi_go klt a b s i kx dk hs HK.out (by omega) h50, HD.out, show fixUp klt b kx dj = dj from by unfold fixUp; rw [if_neg hbk]] <;> rfl⟩⟩
                  · have hj1z : ¬ (1 : Int) ≤ (j : Int) := by omega
                    have HD : Aside0 (fixDown klt a kx (swp dk kx (kx - 1)) = dj) := ⟨by unfold fixDown; rw [if_pos hka, ← HDn.out, shiftDown_stop klt j dj (Or.inl (by omega))]⟩
                    by_cases hbk : b - kx ≥ 2
                    · -- b - i >= 2: the greater one goes up
                      have hbkz : (2 : Int) ≤ (b : Int) - (kx : Int) := by omega
                      go_wp2
                      go_loopg [10] (b - (kx + 1)) (fun g4 vj wr4 => ∃ (ju : Nat) (du : Array Rq), vj = .int .i64 ju ∧ kx + 1 ≤ ju ∧ ju ≤ b ∧ b - ju ≤ g4 ∧ Aside0 (du.size = N) ∧ Aside0 (QK W0 wr4 base g cap ok du) ∧ Aside0 (shiftUp klt b ju du = shiftUp klt b (kx + 1) dj))
                      case atStart => exact ⟨kx + 1, dj, by go_num, Nat.le_refl _, by omega, Nat.le_refl _, HSJ, HQ, ⟨rfl⟩⟩
                      case round =>
                        obtain ⟨ju, du, rfl, hkj, hjb, hg4, HSU, HQ, HU⟩ := hrel
                        by_cases hjb' : ju < b
                        · have hjz : (ju : Int) < (b : Int) := by omega
                          cases hlv3 : klt du[ju]! du[ju - 1]! with
                          | true =>
                            have hl3 := Aside0.mk (HL.out du ju true HSU.out (by omega) (by omega) hlv3)
                            have hs3 := Aside0.mk (HS.out du ju HSU.out (by omega) (by omega))
                            go_wp2_with (first | ((with_reducible refine (hl3.out _ HQ.out).mono ?_); rintro e w2 ⟨rfl, hq⟩; have HQ2 := Aside0.mk hq; clear hq hl3) | ((with_reducible refine (hs3.out _ HQ2.out).mono ?_); rintro e w3 ⟨rfl, hq⟩; have HQ3 := Aside0.mk hq; clear hq hs3))
                            go_roundg (b - (ju + 1))
                            case measure => omega
                            case rel => exact ⟨ju + 1, swp du ju (ju - 1), by go_num, by omega, by omega, Nat.le_refl _, ⟨by rw [size_swp]; exact HSU.out⟩, HQ3, ⟨by rw [← HU.out, shiftUp_go klt b ju du hjb' hlv3] <;> rfl⟩⟩
                          | false =>
                            have hl3 := Aside0.mk (HL.out du ju false HSU.out (by omega) (by omega) hlv3)
                            go_wp2_with (first | ((with_reducible refine (hl3.out _ HQ.out).mono ?_); rintro e w2 ⟨rfl, hq⟩; have HQ2 := Aside0.mk hq; clear hq hl3))
                            go_roundg (5 - (s + 1))
                            case measure => omega
                            case rel => exact ⟨kx, s + 1, du, rfl, by go_num, by omega, Nat.le_refl _, by omega, by omega, HSU, HQ2, ⟨by rw [← HO.out, pi_go klt a b s i kx dk hs HK.out (by omega) h50, HD.out, show fixUp klt b kx dj = du from by unfold fixUp; rw [if_pos hbk, ← HU.out, shiftUp_stop klt b ju du (Or.inr hlv3)]] <;> rfl⟩⟩
                        · have hjz : ¬ (ju : Int) < (b : Int) := by omega
                          go_wp2
                          go_roundg (5 - (s + 1))
                          case measure => omega
                          case rel => exact ⟨kx, s + 1, du, rfl, by go_num, by omega, Nat.le_refl _, by omega, by omega, HSU, HQ, ⟨by rw [← HO.out, pi_go klt a b s i kx dk hs HK.out (by omega) h50, HD.out, show fixUp klt b kx dj = du from by unfold fixUp; rw [if_pos hbk, ← HU.out, shiftUp_stop klt b ju du (Or.inl hjb')]] <;> rfl⟩⟩
                    · have hbkz : ¬ (2 : Int) ≤ (b : Int) - (kx : Int) := by omega
                      go_wp2
                      go_roundg (5 - (s + 1))
                      case measure => omega
                      case rel => exact ⟨kx, s + 1, dj, rfl, by go_num, by omega, Nat.le_refl _, by omega, by omega, HSJ, HQ, ⟨by rw [← HO.out, pi_go klt a b s i kx dk hs HK.out (by omega) h50, HD.out, show fixUp klt b kx dj = dj from by unfold fixUp; rw [if_neg hbk]] <;> rfl⟩⟩
              · have hkaz : ¬ (2 : Int) ≤ (kx : Int) - (a : Int) := by omega
                have HD : Aside0 (fixDown klt a kx (swp dk kx (kx - 1)) = (swp dk kx (kx - 1))) := ⟨by unfold fixDown; rw [if_neg hka]⟩
                by_cases hbk : b - kx ≥ 2
                · -- b - i >= 2: the greater one goes up
                  have hbkz : (2 : Int) ≤ (b : Int) - (kx : Int) := by omega
                  go_wp2_with (first | ((with_reducible refine (hl.out _ HQ.out).mono ?_); rintro e w2 ⟨rfl, hq⟩; have HQ2 := Aside0.mk hq; clear hq hl) | ((with_reducible refine (hs1.out _ HQ2.out).mono ?_); rintro e w3 ⟨rfl, hq⟩; have HQ3 := Aside0.mk hq; clear hq hs1))
                  go_loopg [10] (b - (kx + 1)) (fun g4 vj wr4 => ∃ (ju : Nat) (du : Array Rq), vj = .int .i64 ju ∧ kx + 1 ≤ ju ∧ ju ≤ b ∧ b - ju ≤ g4 ∧ Aside0 (du.size = N) ∧ Aside0 (QK W0 wr4 base g cap ok du) ∧ Aside0 (shiftUp klt b ju du = shiftUp klt b (kx + 1) (swp dk kx (kx - 1))))
                  case atStart => exact ⟨kx + 1, (swp dk kx (kx - 1)), by go_num, Nat.le_refl _, by omega, Nat.le_refl _, ⟨hX1⟩, HQ3, ⟨rfl⟩⟩
                  case round =>
                    obtain ⟨ju, du, rfl, hkj, hjb, hg4, HSU, HQ, HU⟩ := hrel
                    by_cases hjb' : ju < b
                    · have hjz : (ju : Int) < (b : Int) := by omega
                      cases hlv3 : klt du[ju]! du[ju - 1]! with
                      | true =>
                        have hl3 := Aside0.mk (HL.out du ju true HSU.out (by omega) (by omega) hlv3)
                        have hs3 := Aside0.mk (HS.out du ju HSU.out (by omega) (by omega))
                        go_wp2_with (first | ((with_reducible refine (hl3.out _ HQ.out).mono ?_); rintro e w2 ⟨rfl, hq⟩; have HQ2 := Aside0.mk hq; clear hq hl3) | ((with_reducible refine (hs3.out _ HQ2.out).mono ?_); rintro e w3 ⟨rfl, hq⟩; have HQ3 := Aside0.mk hq; clear hq hs3))
                        go_roundg (b - (ju + 1))
                        case measure => omega
                        case rel => exact ⟨ju + 1, swp du ju (ju - 1), by go_num, by omega, by omega, Nat.le_refl _, ⟨by rw [size_swp]; exact HSU.out⟩, HQ3, ⟨by rw [← HU.out, shiftUp_go klt b ju du hjb' hlv3] <;> rfl⟩⟩
                      | false =>
                        have hl3 := Aside0.mk (HL.out du ju false HSU.out (by omega) (by omega) hlv3)
                        go_wp2_with (first | ((with_reducible refine (hl3.out _ HQ.out).mono ?_); rintro e w2 ⟨rfl, hq⟩; have HQ2 := Aside0.mk hq; clear hq hl3))
                        go_roundg (5 - (s + 1))
                        case measure => omega
                        case rel => exact ⟨kx, s + 1, du, rfl, by go_num, by omega, Nat.le_refl _, by omega, by omega, HSU, HQ2, ⟨by rw [← HO.out, pi_go klt a b s i kx dk hs HK.out (by omega) h50, HD.out, show fixUp klt b kx (swp dk kx (kx - 1)) = du from by unfold fixUp; rw [if_pos hbk, ← HU.out, shiftUp_stop klt b ju du (Or.inr hlv3)]] <;> rfl⟩⟩
                    · have hjz : ¬ (ju : Int) < (b : Int) := by omega
                      go_wp2
                      go_roundg (5 - (s + 1))
                      case measure => omega
                      case rel => exact ⟨kx, s + 1, du, rfl, by go_num, by omega, Nat.le_refl _, by omega, by omega, HSU, HQ, ⟨by rw [← HO.out, pi_go klt a b s i kx dk hs HK.out (by omega) h50, HD.out, show fixUp klt b kx (swp dk kx (kx - 1)) = du from by unfold fixUp; rw [if_pos hbk, ← HU.out, shiftUp_stop klt b ju du (Or.inl hjb')]] <;> rfl⟩⟩
                · -- (i - a < 2 and b - i < 2, though b - a >= 50: there is no such way)
                  exfalso; omega
        · -- the scan has come to b: true
          obtain rfl : kx = b := by omega
          have hkz : ¬ (kx : Int) < (kx : Int) := by omega
          go_wp2
          have hv : partialInsertionSort klt d a kx = (dk, true) := by
            unfold partialInsertionSort
            rw [← HO.out, pi_true klt a kx s i dk hs (by rw [← HSc.out, scanSorted_stop klt dk kx kx (Or.inl (by omega))])]
          rw [hv]
          go_ret
          exact ⟨rfl, HQ.out⟩
    · -- five steps are done: false
      obtain rfl : s = 5 := by omega
      go_wp2
      have hv : partialInsertionSort klt d a b = (dk, false) := by
        unfold partialInsertionSort
        rw [← HO.out, pi_end]
      rw [hv]
      go_ret
      exact ⟨rfl, HQ.out⟩
end Go.Proofs.YthfjolafikgpoaaGreatDoor.Hand
