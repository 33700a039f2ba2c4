/- sort.Sort over requirements at any length: what Less and Swap do, sort.siftDown, sort.heapSort. (After the kit's one-cell walks of the interface family.) -/
import Derived.Test.YthfjolafikgpoaaGreatDoorSDGParC
import Derived.Shelf.GgSortMore.SortSort
import Derived.Test.YthfjolafikgpoaaGreatDoorSDShelf
namespace Go.Proofs.YthfjolafikgpoaaGreatDoor.Hand
open Go.RowKit Go.Maps Go.Proofs.YthfjolafikgpoaaGreatDoorW.PrintWords Go.Proofs.YthfjolafikgpoaaGreatDoorW.PrintLast Go.Proofs.YthfjolafikgpoaaGreatDoorW.PrintMore Go.Proofs.YthfjolafikgpoaaGreatDoor.Base
set_option linter.unusedVariables false
set_option linter.unusedSimpArgs false
set_option maxRecDepth 100000
open Go.Sort (ltStr SWO PermIn SortedIn swp size_swp siftDown heapSort sd_end sd_right_go sd_right_stop sd_left_go sd_left_stop)
set_option maxHeartbeats 4000000 in
theorem byk_swap1 (g n c : Nat) (W : World) (x0 x1 : ByteArray) (X : Option Addr) (xl xc : Nat) (i : Nat) (hi : i < n)
   (ci0 : W.cell? ⟨g, i * 3, none⟩ = some (.string x0)) (ci1 : W.cell? ⟨g, i * 3 + 1, none⟩ = some (.string x1)) (ci2 : W.cell? ⟨g, i * 3 + 2, none⟩ = some (.slice X xl xc))
   (fr : ∀ o, W.frozen? ⟨g, o, none⟩ = false) :
   Calls Tryz.prog 255 #[.slice (some ⟨g, 0, none⟩) n c, .int .i64 i, .int .i64 i] W fun e w' => e = .returned (.tuple #[]) ∧ ∃ q, w' = ((W.setCells g (i * 3) [.string x0, .string x1, .slice X xl xc]).setCells g (i * 3) [.string x0, .string x1, .slice X xl xc]).drewN q := by
 go_enter Tryz.func255, Tryz.ntmps255
 go_wp2
 go_region
 all_goals (try go_wp2)
 all_goals go_end0
 all_goals exact ⟨rfl, 1, rfl⟩
theorem byk_swapE {W0 W : World} {base g cap : Nat} {ok : Nat → Prop} {d : Array Rq} (h : QK W0 W base g cap ok d) (i : Nat) (hi : i < d.size) :
   Calls Tryz.prog 255 #[.slice (some ⟨g, 0, none⟩) d.size cap, .int .i64 i, .int .i64 i] W fun e w' => e = .returned (.tuple #[]) ∧ QK W0 w' base g cap ok (swp d i i) := by
 obtain ⟨vi, mi, ci0, ci1, ci2, fr⟩ := q_elem h.1 i hi (rq1 default)
 rw [rqV_getD d i hi] at ci0 ci1 mi
 have sl : ∀ {x v}, KQ.M W base (fun k => ok k ∧ k ≠ g) x [.string x.1, .string x.2.1, v] → ∃ A l c, v = .slice A l c := by
  rintro x v ⟨c0, c1, e, h0, c2, c3, rfl, h2, u, h3, hr⟩
  have e0 : c0 = [.string x.1] := h0
  have e2 : c2 = [.string x.2.1] := h2
  subst e0 e2 h3
  simp only [List.singleton_append, List.cons.injEq, and_true, true_and] at e
  subst e
  obtain ⟨A, c, e⟩ := Kd.R_slice hr
  exact ⟨A, _, c, e⟩
 obtain ⟨X, xl, xc, rfl⟩ := sl mi
 have hfr : ∀ o, W.frozen? ⟨g, o, none⟩ = false := by
  obtain ⟨cells, hc⟩ := own_typed (Kd.R_own h.1).choose_spec g (by simp [Value.ownBlock])
  exact fun o => blk_frozen hc o
 refine (byk_swap1 g d.size cap W _ _ X xl xc i hi ci0 ci1 ci2 hfr).mono ?_
 rintro e w' ⟨rfl, q, rfl⟩
 obtain ⟨h1, h2⟩ := row_swap h.1 hi hi mi mi rfl rfl
 refine ⟨rfl, ?_⟩
 rw [← rqV_swp d i i hi hi] at h1
 exact QK.below ⟨by rw [swp_size']; exact h1, gb_trans h.2 h2⟩ (pw_below_drewN (Below.refl _ _) q)
theorem less_q {W0 : World} {base g cap N : Nat} {ok : Nat → Prop} {dk : Array Rq} (hN : dk.size = N) (i j : Nat) (I J : Int) (eI : I = (i : Int)) (eJ : J = (j : Int)) (hi : i < N) (hj : j < N) (v : Bool) (hv : klt dk[i]! dk[j]! = v) (W : World) (h : QK W0 W base g cap ok dk) :
   Calls Tryz.prog 254 #[.slice (some ⟨g, 0, none⟩) N cap, .int .i64 I, .int .i64 J] W fun e w' => e = .returned (.bool v) ∧ QK W0 w' base g cap ok dk := by
 subst eI eJ hN hv
 exact byk_less h i j hi hj
theorem swap_q {W0 : World} {base g cap N : Nat} {ok : Nat → Prop} {dk : Array Rq} (hN : dk.size = N) (i j : Nat) (I J : Int) (eI : I = (i : Int)) (eJ : J = (j : Int)) (hi : i < N) (hj : j < N) (W : World) (h : QK W0 W base g cap ok dk) :
   Calls Tryz.prog 255 #[.slice (some ⟨g, 0, none⟩) N cap, .int .i64 I, .int .i64 J] W fun e w' => e = .returned (.tuple #[]) ∧ QK W0 w' base g cap ok (swp dk i j) := by
 subst eI eJ hN
 by_cases hne : i = j
 · subst hne; exact byk_swapE h i hi
 · exact byk_swap h i j hi hj hne
set_option maxHeartbeats 4000000 in
set_option maxRecDepth 1000000 in
theorem sift_q (g cap lo hi first N : Nat) (base : Nat) (ok : Nat → Prop) (d : Array Rq) (hN : d.size = N) (hlo : lo ≤ hi) (hb : first + hi ≤ N) (hsz : N < 4611686018427387904) (W0 w : World) (h : QK W0 w base g cap ok d) :
   Calls Tryz.prog 176 #[.iface 157 (.slice (some ⟨g, 0, none⟩) N cap), .int .i64 lo, .int .i64 hi, .int .i64 first] w fun e w' => e = .returned (.tuple #[]) ∧ QK W0 w' base g cap ok (siftDown klt hi first lo d) := by
 have mL : ∀ w, Sem.run Tryz.prog (method 390 157 (.slice (some ⟨g, 0, none⟩) N cap) "Less") w = .ok (254, .slice (some ⟨g, 0, none⟩) N cap) w := fun _ => by kernel_rfl
 have mS : ∀ w, Sem.run Tryz.prog (method 390 157 (.slice (some ⟨g, 0, none⟩) N cap) "Swap") w = .ok (255, .slice (some ⟨g, 0, none⟩) N cap) w := fun _ => by kernel_rfl
 go_enter Tryz.func176, Tryz.ntmps176
 go_wp2
 go_loopg [8] (hi - lo) (fun kx s8 wr => ∃ (root : Nat) (dk : Array Rq), s8 = .int .i64 root ∧ Aside0 (root ≤ hi ∧ hi - root ≤ kx) ∧ Aside0 (dk.size = N) ∧ Aside0 (QK W0 wr base g cap ok dk) ∧ Aside0 (siftDown klt hi first root dk = siftDown klt hi first lo d))
 case atStart => exact ⟨lo, d, rfl, ⟨hlo, Nat.le_refl _⟩, ⟨hN⟩, ⟨h⟩, ⟨rfl⟩⟩
 case round =>
  obtain ⟨root, dk, rfl, HRT, HDS, HQ, HE⟩ := hrel
  obtain ⟨hr, hkx⟩ := HRT.out
  have hds := HDS.out
  clear h hN
  by_cases h0 : hi ≤ 2 * root + 1
  · have h0z : (hi : Int) ≤ 2 * (root : Int) + 1 := by omega
    clear hds
    go_wp2
    go_end0
    refine ⟨rfl, ?_⟩
    rw [← HE.out, sd_end klt dk h0]
    exact HQ.out
  · have h0z : ¬ ((hi : Int) ≤ 2 * (root : Int) + 1) := by omega
    by_cases h1 : 2 * root + 2 < hi
    · have h1z : 2 * (root : Int) + 1 + 1 < (hi : Int) := by omega
      cases hL : klt dk[first + (2 * root + 1)]! dk[first + (2 * root + 2)]! with
      | true =>
        have HL1 := Aside0.mk (less_q (W0 := W0) (base := base) (g := g) (cap := cap) (ok := ok) hds (first + (2 * root + 1)) (first + (2 * root + 2)) ((first : Int) + (2 * (root : Int) + 1)) ((first : Int) + (2 * (root : Int) + 1) + 1) (by omega) (by omega) (by omega) (by omega) true hL)
        cases hG : klt dk[first + root]! dk[first + (2 * root + 2)]! with
        | true =>
          have HL2 := Aside0.mk (less_q (W0 := W0) (base := base) (g := g) (cap := cap) (ok := ok) hds (first + root) (first + (2 * root + 2)) ((first : Int) + (root : Int)) ((first : Int) + (2 * (root : Int) + 1 + 1)) (by omega) (by omega) (by omega) (by omega) true hG)
          have HS := Aside0.mk (swap_q (W0 := W0) (base := base) (g := g) (cap := cap) (ok := ok) hds (first + root) (first + (2 * root + 2)) ((first : Int) + (root : Int)) ((first : Int) + (2 * (root : Int) + 1 + 1)) (by omega) (by omega) (by omega) (by omega))
          have HE2 : Aside0 (siftDown klt hi first (2 * root + 2) (swp dk (first + root) (first + (2 * root + 2))) = siftDown klt hi first lo d) := ⟨by rw [← HE.out, sd_right_go klt dk h1 hL hG]⟩
          clear hL hG hds
          go_wp2_with (first | ((with_reducible refine (HL1.out _ HQ.out).mono ?_); rintro e w2 ⟨rfl, hq⟩; have HQ2 := Aside0.mk hq; clear hq HL1) | ((with_reducible refine (HL2.out _ HQ2.out).mono ?_); rintro e w3 ⟨rfl, hq⟩; have HQ3 := Aside0.mk hq; clear hq HL2) | ((with_reducible refine (HS.out _ HQ3.out).mono ?_); rintro e w4 ⟨rfl, hq⟩; have HQ4 := Aside0.mk hq; clear hq HS))
          go_roundg (hi - (2 * root + 2))
          case measure => omega
          case rel => exact ⟨2 * root + 2, swp dk (first + root) (first + (2 * root + 2)), by go_num, ⟨by omega, Nat.le_refl _⟩, ⟨by rw [size_swp]; exact HDS.out⟩, HQ4, HE2⟩
        | false =>
          have HL2 := Aside0.mk (less_q (W0 := W0) (base := base) (g := g) (cap := cap) (ok := ok) hds (first + root) (first + (2 * root + 2)) ((first : Int) + (root : Int)) ((first : Int) + (2 * (root : Int) + 1 + 1)) (by omega) (by omega) (by omega) (by omega) false hG)
          have HE2 : Aside0 (dk = siftDown klt hi first lo d) := ⟨by rw [← HE.out, sd_right_stop klt dk h1 hL hG]⟩
          clear hL hG hds
          go_wp2_with (first | ((with_reducible refine (HL1.out _ HQ.out).mono ?_); rintro e w2 ⟨rfl, hq⟩; have HQ2 := Aside0.mk hq; clear hq HL1) | ((with_reducible refine (HL2.out _ HQ2.out).mono ?_); rintro e w3 ⟨rfl, hq⟩; have HQ3 := Aside0.mk hq; clear hq HL2))
          (try simp only [Exit.inBlock, Exit.then]); refine bodyPost_ret (results_none rfl _ _ _) rfl ?_
          exact ⟨rfl, by rw [← HE2.out]; exact HQ3.out⟩
      | false =>
        have HL1 := Aside0.mk (less_q (W0 := W0) (base := base) (g := g) (cap := cap) (ok := ok) hds (first + (2 * root + 1)) (first + (2 * root + 2)) ((first : Int) + (2 * (root : Int) + 1)) ((first : Int) + (2 * (root : Int) + 1) + 1) (by omega) (by omega) (by omega) (by omega) false hL)
        cases hG : klt dk[first + root]! dk[first + (2 * root + 1)]! with
        | true =>
          have HL2 := Aside0.mk (less_q (W0 := W0) (base := base) (g := g) (cap := cap) (ok := ok) hds (first + root) (first + (2 * root + 1)) ((first : Int) + (root : Int)) ((first : Int) + (2 * (root : Int) + 1)) (by omega) (by omega) (by omega) (by omega) true hG)
          have HS := Aside0.mk (swap_q (W0 := W0) (base := base) (g := g) (cap := cap) (ok := ok) hds (first + root) (first + (2 * root + 1)) ((first : Int) + (root : Int)) ((first : Int) + (2 * (root : Int) + 1)) (by omega) (by omega) (by omega) (by omega))
          have HE2 : Aside0 (siftDown klt hi first (2 * root + 1) (swp dk (first + root) (first + (2 * root + 1))) = siftDown klt hi first lo d) := ⟨by rw [← HE.out, sd_left_go klt dk (by omega) (fun _ => hL) hG]⟩
          clear hL hG hds
          go_wp2_with (first | ((with_reducible refine (HL1.out _ HQ.out).mono ?_); rintro e w2 ⟨rfl, hq⟩; have HQ2 := Aside0.mk hq; clear hq HL1) | ((with_reducible refine (HL2.out _ HQ2.out).mono ?_); rintro e w3 ⟨rfl, hq⟩; have HQ3 := Aside0.mk hq; clear hq HL2) | ((with_reducible refine (HS.out _ HQ3.out).mono ?_); rintro e w4 ⟨rfl, hq⟩; have HQ4 := Aside0.mk hq; clear hq HS))
          go_roundg (hi - (2 * root + 1))
          case measure => omega
          case rel => exact ⟨2 * root + 1, swp dk (first + root) (first + (2 * root + 1)), by go_num, ⟨by omega, Nat.le_refl _⟩, ⟨by rw [size_swp]; exact HDS.out⟩, HQ4, HE2⟩
        | false =>
          have HL2 := Aside0.mk (less_q (W0 := W0) (base := base) (g := g) (cap := cap) (ok := ok) hds (first + root) (first + (2 * root + 1)) ((first : Int) + (root : Int)) ((first : Int) + (2 * (root : Int) + 1)) (by omega) (by omega) (by omega) (by omega) false hG)
          have HE2 : Aside0 (dk = siftDown klt hi first lo d) := ⟨by rw [← HE.out, sd_left_stop klt dk (by omega) (fun _ => hL) hG]⟩
          clear hL hG hds
          go_wp2_with (first | ((with_reducible refine (HL1.out _ HQ.out).mono ?_); rintro e w2 ⟨rfl, hq⟩; have HQ2 := Aside0.mk hq; clear hq HL1) | ((with_reducible refine (HL2.out _ HQ2.out).mono ?_); rintro e w3 ⟨rfl, hq⟩; have HQ3 := Aside0.mk hq; clear hq HL2))
          (try simp only [Exit.inBlock, Exit.then]); refine bodyPost_ret (results_none rfl _ _ _) rfl ?_
          exact ⟨rfl, by rw [← HE2.out]; exact HQ3.out⟩
    · have h1z : ¬ (2 * (root : Int) + 1 + 1 < (hi : Int)) := by omega
      cases hG : klt dk[first + root]! dk[first + (2 * root + 1)]! with
      | true =>
        have HL2 := Aside0.mk (less_q (W0 := W0) (base := base) (g := g) (cap := cap) (ok := ok) hds (first + root) (first + (2 * root + 1)) ((first : Int) + (root : Int)) ((first : Int) + (2 * (root : Int) + 1)) (by omega) (by omega) (by omega) (by omega) true hG)
        have HS := Aside0.mk (swap_q (W0 := W0) (base := base) (g := g) (cap := cap) (ok := ok) hds (first + root) (first + (2 * root + 1)) ((first : Int) + (root : Int)) ((first : Int) + (2 * (root : Int) + 1)) (by omega) (by omega) (by omega) (by omega))
        have HE2 : Aside0 (siftDown klt hi first (2 * root + 1) (swp dk (first + root) (first + (2 * root + 1))) = siftDown klt hi first lo d) := ⟨by rw [← HE.out, sd_left_go klt dk (by omega) (fun h => absurd h h1) hG]⟩
        clear hG hds
        go_wp2_with (first | ((with_reducible refine (HL2.out _ HQ.out).mono ?_); rintro e w3 ⟨rfl, hq⟩; have HQ3 := Aside0.mk hq; clear hq HL2) | ((with_reducible refine (HS.out _ HQ3.out).mono ?_); rintro e w4 ⟨rfl, hq⟩; have HQ4 := Aside0.mk hq; clear hq HS))
        go_roundg (hi - (2 * root + 1))
        case measure => omega
        case rel => exact ⟨2 * root + 1, swp dk (first + root) (first + (2 * root + 1)), by go_num, ⟨by omega, Nat.le_refl _⟩, ⟨by rw [size_swp]; exact HDS.out⟩, HQ4, HE2⟩
      | false =>
        have HL2 := Aside0.mk (less_q (W0 := W0) (base := base) (g := g) (cap := cap) (ok := ok) hds (first + root) (first + (2 * root + 1)) ((first : Int) + (root : Int)) ((first : Int) + (2 * (root : Int) + 1)) (by omega) (by omega) (by omega) (by omega) false hG)
        have HE2 : Aside0 (dk = siftDown klt hi first lo d) := ⟨by rw [← HE.out, sd_left_stop klt dk (by omega) (fun h => absurd h h1) hG]⟩
        clear hG hds
        go_wp2_with (first | ((with_reducible refine (HL2.out _ HQ.out).mono ?_); rintro e w3 ⟨rfl, hq⟩; have HQ3 := Aside0.mk hq; clear hq HL2))
        (try simp only [Exit.inBlock, Exit.then]); refine bodyPost_ret (results_none rfl _ _ _) rfl ?_
        exact ⟨rfl, by rw [← HE2.out]; exact HQ3.out⟩
end Go.Proofs.YthfjolafikgpoaaGreatDoor.Hand
namespace Go.Proofs.YthfjolafikgpoaaGreatDoor.Hand
open Go.RowKit Go.Maps Go.Proofs.YthfjolafikgpoaaGreatDoorW.PrintWords Go.Proofs.YthfjolafikgpoaaGreatDoorW.PrintLast Go.Proofs.YthfjolafikgpoaaGreatDoorW.PrintMore Go.Proofs.YthfjolafikgpoaaGreatDoor.Base
set_option linter.unusedVariables false
set_option linter.unusedSimpArgs false
set_option maxRecDepth 100000
open Go.Sort (ltStr SWO PermIn SortedIn swp size_swp siftDown heapSort heapBuild heapPop size_siftDown reverseRange reverseLoop)
set_option maxHeartbeats 4000000 in
set_option maxRecDepth 1000000 in
theorem heap_q (g cap a b N : Nat) (base : Nat) (ok : Nat → Prop) (d : Array Rq) (hN : d.size = N) (hab : a ≤ b) (hb : b ≤ N) (hsz : N < 4611686018427387904) (W0 w : World) (h : QK W0 w base g cap ok d) :
   Calls Tryz.prog 151 #[.iface 157 (.slice (some ⟨g, 0, none⟩) N cap), .int .i64 a, .int .i64 b] w fun e w' => e = .returned (.tuple #[]) ∧ QK W0 w' base g cap ok (heapSort klt d a b) := by
 have mS : ∀ w, Sem.run Tryz.prog (method 390 157 (.slice (some ⟨g, 0, none⟩) N cap) "Swap") w = .ok (255, .slice (some ⟨g, 0, none⟩) N cap) w := fun _ => by kernel_rfl
 have ecast : ((b - a : Nat) : Int) = (b : Int) - (a : Int) := by omega
 go_enter Tryz.func151, Tryz.ntmps151
 go_wp2
 go_loopg [9] ((b - a - 1) / 2 + 1) (fun kx s9 wr => s9 = .int .i64 ((kx : Int) - 1) ∧ Aside0 (kx ≤ (b - a - 1) / 2 + 1) ∧ ∃ (dk : Array Rq), Aside0 (dk.size = N) ∧ Aside0 (QK W0 wr base g cap ok dk) ∧ Aside0 (heapBuild klt (b - a) a kx dk = heapBuild klt (b - a) a ((b - a - 1) / 2 + 1) d))
 case atStart => exact ⟨by rw [half_start hab], ⟨Nat.le_refl _⟩, d, ⟨hN⟩, ⟨h⟩, ⟨rfl⟩⟩
 case round =>
  clear h
  obtain ⟨rfl, HKK, dk, HDS, HQ, HE⟩ := hrel
  have hkk := HKK.out
  cases gk with
  | zero =>
    have HBD : Aside0 (dk = heapBuild klt (b - a) a ((b - a - 1) / 2 + 1) d) := ⟨HE.out⟩
    clear HE hkk HKK
    go_wp2
    go_loopg [10] (b - a) (fun kx s10 wr2 => s10 = .int .i64 ((kx : Int) - 1) ∧ Aside0 (kx ≤ b - a) ∧ ∃ (dj : Array Rq), Aside0 (dj.size = N) ∧ Aside0 (QK W0 wr2 base g cap ok dj) ∧ Aside0 (heapPop klt a kx dj = heapPop klt a (b - a) dk))
    case atStart => exact ⟨by rw [ecast], ⟨Nat.le_refl _⟩, dk, HDS, HQ, ⟨rfl⟩⟩
    case round =>
     clear HQ
     obtain ⟨rfl, HKK, dj, HDJ, HQ, HE2⟩ := hrel
     have hkk := HKK.out
     cases gk with
     | zero =>
       have HEQ : Aside0 (dj = heapSort klt d a b) := ⟨by rw [heapSort, ← HBD.out, ← HE2.out]; rfl⟩
       go_wp2
       go_end0
       exact ⟨rfl, by rw [← HEQ.out]; exact HQ.out⟩
     | succ kx =>
       have HS := Aside0.mk (swap_q (W0 := W0) (base := base) (g := g) (cap := cap) (ok := ok) HDJ.out a (a + kx) (a : Int) ((a : Int) + (kx : Int)) rfl (by omega) (by omega) (by omega))
       have hd2 : (swp dj a (a + kx)).size = N := by rw [size_swp]; exact HDJ.out
       have HC := Aside0.mk (fun (W : World) (hq : QK W0 W base g cap ok (swp dj a (a + kx))) => sift_q g cap 0 kx a N base ok (swp dj a (a + kx)) hd2 (Nat.zero_le _) (by omega) hsz W0 W hq)
       rw [show ((0 : Nat) : Int) = 0 from rfl] at HC
       have HSS : Aside0 ((siftDown klt kx a 0 (swp dj a (a + kx))).size = N) := ⟨by rw [size_siftDown klt _ _ _ _ _ (Nat.le_refl _), hd2]⟩
       clear hd2
       go_wp2_with (first | ((with_reducible refine (HS.out _ HQ.out).mono ?_); rintro e w2 ⟨rfl, hq⟩; have HQ2 := Aside0.mk hq; clear hq HS) | ((with_reducible refine (HC.out _ HQ2.out).mono ?_); rintro e w3 ⟨rfl, hq⟩; have HQ3 := Aside0.mk hq; clear hq HC))
       go_roundg kx
       case measure => omega
       case rel => exact ⟨by simp, ⟨by omega⟩, siftDown klt kx a 0 (swp dj a (a + kx)), HSS, HQ3, HE2⟩
  | succ kx =>
    have HC := Aside0.mk (sift_q g cap kx (b - a) a N base ok dk HDS.out (by omega) (by omega) hsz W0 wr HQ.out)
    rw [ecast] at HC
    have HSS : Aside0 ((siftDown klt (b - a) a kx dk).size = N) := ⟨by rw [size_siftDown klt _ _ _ _ _ (Nat.le_refl _)]; exact HDS.out⟩
    go_wp2_with (first | ((with_reducible refine (HC.out).mono ?_); rintro e w3 ⟨rfl, hq⟩; have HQ3 := Aside0.mk hq; clear hq HC))
    go_roundg kx
    case measure => omega
    case rel => exact ⟨by simp, ⟨by omega⟩, siftDown klt (b - a) a kx dk, HSS, HQ3, HE⟩
set_option maxHeartbeats 4000000 in
theorem rev_q (g cap a b N : Nat) (base : Nat) (ok : Nat → Prop) (d : Array Rq) (hN : d.size = N) (hab : a ≤ b) (hb : b ≤ N) (hsz : N < 4611686018427387904) (W0 w : World) (h : QK W0 w base g cap ok d) :
   Calls Tryz.prog 154 #[.iface 157 (.slice (some ⟨g, 0, none⟩) N cap), .int .i64 a, .int .i64 b] w fun e w' => e = .returned (.tuple #[]) ∧ QK W0 w' base g cap ok (reverseRange d a b) ∧ (reverseRange d a b).size = N := by
 have mS : ∀ w, Sem.run Tryz.prog (method 390 157 (.slice (some ⟨g, 0, none⟩) N cap) "Swap") w = .ok (255, .slice (some ⟨g, 0, none⟩) N cap) w := fun _ => by kernel_rfl
 go_enter Tryz.func154, Tryz.ntmps154
 go_wp2
 go_loopg [6, 7] (b - a) (fun k s6 s7 wr => ∃ (i jn : Nat) (jz : Int) (dk : Array Rq), s6 = .int .i64 i ∧ s7 = .int .i64 jz ∧ Aside0 (((i : Int) < jz → jz = jn ∧ jn < N) ∧ (¬ (i : Int) < jz → ¬ i < jn) ∧ jn - i ≤ k) ∧ Aside0 (dk.size = N) ∧ Aside0 (QK W0 wr base g cap ok dk) ∧ Aside0 (reverseLoop i jn dk = reverseLoop a (b - 1) d))
 case atStart => exact ⟨a, b - 1, (b : Int) - 1, d, rfl, rfl, ⟨fun h => ⟨by omega, by omega⟩, fun h => by omega, by omega⟩, ⟨hN⟩, ⟨h⟩, ⟨rfl⟩⟩
 case round =>
  clear h
  obtain ⟨i, jn, jz, dk, rfl, rfl, H1, HDS, HQ, HE⟩ := hrel
  by_cases hlt : (i : Int) < jz
  · obtain ⟨rfl, hjn⟩ := H1.out.1 hlt
    have hij : i < jn := by omega
    have HS := Aside0.mk (swap_q (W0 := W0) (base := base) (g := g) (cap := cap) (ok := ok) HDS.out i jn (i : Int) (jn : Int) rfl rfl (by omega) hjn)
    have HE2 : Aside0 (reverseLoop (i + 1) (jn - 1) (swp dk i jn) = reverseLoop a (b - 1) d) := ⟨by have e := HE.out; rw [reverseLoop, if_pos hij] at e; exact e⟩
    go_wp2_with (first | ((with_reducible refine (HS.out _ HQ.out).mono ?_); rintro e w2 ⟨rfl, hq⟩; have HQ2 := Aside0.mk hq; clear hq HS))
    go_roundg (jn - 1 - (i + 1))
    case measure => have := H1.out.2.2; omega
    case rel => exact ⟨i + 1, jn - 1, (jn : Int) - 1, swp dk i jn, by simp, rfl, ⟨fun h => ⟨by omega, by omega⟩, fun h => by omega, Nat.le_refl _⟩, ⟨by rw [size_swp]; exact HDS.out⟩, HQ2, HE2⟩
  · have hnot := H1.out.2.1 hlt
    have HEQ : Aside0 (dk = reverseRange d a b) := ⟨by have e := HE.out; rw [reverseLoop, if_neg hnot] at e; rw [reverseRange, ← e]⟩
    clear hnot
    go_wp2
    go_end0
    exact ⟨rfl, by rw [← HEQ.out]; exact HQ.out, by rw [← HEQ.out]; exact HDS.out⟩
end Go.Proofs.YthfjolafikgpoaaGreatDoor.Hand
namespace Go.Proofs.YthfjolafikgpoaaGreatDoor.Hand
open Go.RowKit Go.Maps Go.Proofs.YthfjolafikgpoaaGreatDoorW.PrintWords Go.Proofs.YthfjolafikgpoaaGreatDoorW.PrintLast Go.Proofs.YthfjolafikgpoaaGreatDoorW.PrintMore Go.Proofs.YthfjolafikgpoaaGreatDoor.Base
set_option linter.unusedVariables false
set_option linter.unusedSimpArgs false
set_option maxRecDepth 100000
open Go.Sort (ltStr SWO PermIn SortedIn swp size_swp breakPatterns xorNextN xorNextN_lt xorNext xorNext_toNat bitsLen two_pow_bitsLen_le)
theorem swap_qg {W0 : World} {base g cap N : Nat} {ok : Nat → Prop} {dk : Array Rq} (hN : dk.size = N) (i j : Nat) (I J : Int) (eI : I = (i : Int)) (eJ : J = (j : Int)) (hi : i < N) (hj : j < N) (W : World) (h : QK W0 W base g cap ok dk) :
   Calls Tryz.prog 255 #[.slice (some ⟨g, 0, none⟩) N cap, .int .i64 I, .int .i64 J] W fun e w' => e = .returned (.tuple #[]) ∧ QK W0 w' base g cap ok (swp dk i j) ∧ W.grownBy w' (some g) := by
 refine (swap_q (W0 := W) hN i j I J eI eJ hi hj W ⟨h.1, World.grownBy.refl _ _⟩).mono ?_
 rintro e w' ⟨rfl, hq⟩
 exact ⟨rfl, ⟨hq.1, gb_trans h.2 hq.2⟩, hq.2⟩
theorem qk_far {W0 W : World} {base g cap : Nat} {ok : Nat → Prop} {d : Array Rq} (h : QK W0 W base g cap ok d) (p : Nat) (hp : ∀ k, ok k → k ≠ p) (hle : W0.heap.size ≤ p) (v : Value) : QK W0 (W.setCell ⟨p, 0, none⟩ v) base g cap ok d := by
 refine ⟨Kd.R_far h.1 (p := ⟨p, 0, none⟩) hp v, ?_⟩
 have hb : Below W0.heap.size W (W.setCell ⟨p, 0, none⟩ v) := (Below.refl _ _).setCell hle v
 exact ⟨hb.os.trans h.2.os, hb.tape.trans h.2.tape, hb.output.trans h.2.output, Nat.le_trans h.2.size hb.size, fun i hi hr => (hb.block i hi).trans (h.2.block i hi hr)⟩
set_option maxHeartbeats 8000000 in
set_option maxRecDepth 1000000 in
theorem brk_go (g cap a L N : Nat) (base : Nat) (ok : Nat → Prop) (d : Array Rq) (hN : d.size = N) (hb : a + L ≤ N) (hsz : N < 4611686018427387904) (h8 : 8 ≤ L) (W0 w : World) (h : QK W0 w base g cap ok d) :
   Calls Tryz.prog 152 #[.iface 157 (.slice (some ⟨g, 0, none⟩) N cap), .int .i64 a, .int .i64 ((a + L : Nat) : Int)] w fun e w' => e = .returned (.tuple #[]) ∧ QK W0 w' base g cap ok (breakPatterns d a (a + L)) := by
 have mS : ∀ w, Sem.run Tryz.prog (method 390 157 (.slice (some ⟨g, 0, none⟩) N cap) "Swap") w = .ok (255, .slice (some ⟨g, 0, none⟩) N cap) w := fun _ => by kernel_rfl
 rw [breakPatterns_eq d a L h8]
 obtain ⟨M, hM⟩ : ∃ M : Nat, M = 1 <<< bitsLen L := ⟨_, rfl⟩
 have hM1 : 1 ≤ M := by rw [hM, Nat.one_shiftLeft]; exact Nat.two_pow_pos _
 have hM2 : M ≤ 2 * L := by rw [hM, Nat.one_shiftLeft]; exact two_pow_bitsLen_le (by omega)
 have HNP : Aside0 (∀ w, Calls Tryz.prog 177 #[.int .i64 (L : Int)] w fun e w' => e = .returned (.int .u64 (M : Int)) ∧ w' = w) := ⟨by rw [hM]; exact fun w => Any.nextPowerOfTwo (LaysGt.n44.elder (P := Tryz.prog) (ρ := Tryz.laysGt11_ren) { Tryz.laysGt11 with }) L (by omega) w⟩
 rw [← hM]
 clear hM
 have hLz : ((a : Int) + (L : Int) - (a : Int)) = (L : Int) := by omega
 have h8z : (8 : Int) ≤ (L : Int) := by omega
 obtain ⟨W1, hW1⟩ : ∃ W1, w.alloc (.cells #[.int .u64 (L : Int)] 235) = W1 := ⟨_, rfl⟩
 have hQ1 : QK W0 W1 base g cap (fun k => ok k ∧ base ≤ k ∧ k < w.heap.size) d := by
  rw [← hW1]
  exact QK.below ⟨Kd.R_mono (Kd.R_bound h.1) (fun k hk => ⟨hk.1, hk.2.1, hk.2.2.1⟩), h.2⟩ (below_alloc (Below.refl _ _) _)
 have hbk1 : W1.heap[w.heap.size]? = some (.cells #[.int .u64 (L : Int)] 235 (0, 0)) := by rw [← hW1]; exact heap_alloc_new w _
 have hgl : g < w.heap.size := Kd.R_lt h.1 g (by simp [Value.ownBlock])
 have hle : W0.heap.size ≤ w.heap.size := h.2.size
 have HQ1 := Aside0.mk hQ1
 have HBK1 := Aside0.mk hbk1
 clear h hQ1 hbk1
 go_enter Tryz.func152, Tryz.ntmps152
 go_wp2_with (first | ((with_reducible refine (HNP.out _).mono ?_); rintro e w1 ⟨rfl, rfl⟩))
 go_loopg [9] 3 (fun g1 vi wr => ∃ (t : Nat) (r : UInt64) (dk : Array Rq), vi = .int .i64 ((a : Int) + (L : Int) / 4 * 2 - 1 + (t : Int)) ∧ Aside0 (t ≤ 3 ∧ 3 - t ≤ g1) ∧ Aside0 (dk.size = N) ∧ Aside0 (QK W0 wr base g cap (fun k => ok k ∧ base ≤ k ∧ k < w.heap.size) dk) ∧ Aside0 (wr.heap[w.heap.size]? = some (.cells #[.int .u64 (r.toNat : Int)] 235 (0, 0))) ∧
     Aside0 (bpRest a L M (a + L / 4 * 2 - 1) (3 - t) t (r, dk) = bpRest a L M (a + L / 4 * 2 - 1) 3 0 (UInt64.ofNat L, d)))
 case atStart => exact ⟨0, UInt64.ofNat L, d, by simp, ⟨by omega, by omega⟩, ⟨hN⟩, HQ1, ⟨by rw [show (UInt64.ofNat L).toNat = L from by simp; omega]; exact HBK1.out⟩, ⟨rfl⟩⟩
 case round =>
  clear HQ1 HBK1 hW1
  obtain ⟨t, r, dk, rfl, HT, HDS, HQ, HBK, HR⟩ := hrel
  obtain ⟨ht, hg1⟩ := HT.out
  by_cases ht3 : t < 3
  · have hle2 : (a : Int) + (L : Int) / 4 * 2 - 1 + (t : Int) ≤ (a : Int) + (L : Int) / 4 * 2 + 1 := by omega
    obtain ⟨R, hRr⟩ : ∃ R : Nat, R = r.toNat := ⟨_, rfl⟩
    have lR : R < 18446744073709551616 := by rw [hRr]; exact r.toNat_lt
    obtain ⟨R', hR'⟩ : ∃ R' : Nat, R' = xorNextN R := ⟨_, rfl⟩
    have lR' : R' < 18446744073709551616 := by rw [hR']; exact xorNextN_lt R lR
    obtain ⟨O, hO⟩ : ∃ O : Nat, O = R' &&& (M - 1) := ⟨_, rfl⟩
    have lO : O ≤ M - 1 := by rw [hO]; exact Nat.and_le_right
    have eAnd : bits .and .u64 (R' : Int) ((M : Int) - 1) = (O : Int) := by
     rw [show ((M : Int) - 1) = ((M - 1 : Nat) : Int) by omega, bits_and_u64_nat _ _ lR' (by omega), hO]
    have hbk := HBK.out
    rw [← hRr] at hbk
    have HNext : Aside0 (Calls Tryz.prog 178 #[.pointer (some ⟨w.heap.size, 0, none⟩)] wr fun e w' => e = .returned (.int .u64 (R' : Int)) ∧ w' = (wr.setCell ⟨w.heap.size, 0, none⟩ (.int .u64 (R' : Int))).drewN 3) := ⟨by
     rw [hR']; exact Any.xorshift_Next (LaysGt.n45.elder (P := Tryz.prog) (ρ := Tryz.laysGt11_ren) { Tryz.laysGt11 with }) _ _ R lR wr ((blk_cell hbk 0).trans rfl) (blk_frozen hbk 0)⟩
    have HN : Aside0 (R' = (xorNext r).toNat ∧ O = (xorNext r).toNat &&& (M - 1)) := ⟨by
     have e : R' = (xorNext r).toNat := by rw [hR', hRr, xorNext_toNat]
     exact ⟨e, by rw [hO, e]⟩⟩
    have hq2 : QK W0 ((wr.setCell ⟨w.heap.size, 0, none⟩ (.int .u64 (R' : Int))).drewN 3) base g cap (fun k => ok k ∧ base ≤ k ∧ k < w.heap.size) dk := QK.below (qk_far HQ.out w.heap.size (fun k hk => by have := hk.2.2; omega) hle _) (pw_below_drewN (Below.refl _ _) 3)
    have hbk2 : ((wr.setCell ⟨w.heap.size, 0, none⟩ (.int .u64 (R' : Int))).drewN 3).heap[w.heap.size]? = some (.cells #[.int .u64 (R' : Int)] 235 (0, 0)) := blk_put hbk 0 (.int .u64 (R' : Int)) (cs' := #[.int .u64 (R' : Int)]) rfl
    obtain ⟨w2, hw2⟩ : ∃ w2, (wr.setCell ⟨w.heap.size, 0, none⟩ (.int .u64 (R' : Int))).drewN 3 = w2 := ⟨_, rfl⟩
    rw [hw2] at hq2 hbk2 HNext
    have HQ2 := Aside0.mk hq2
    have HBK2 := Aside0.mk hbk2
    clear hRr hR' hO hbk hq2 hbk2 hw2 HQ HBK lR lR'
    by_cases hLO : L ≤ O
    · have hLOz : (L : Int) ≤ (O : Int) := by omega
      have HS := Aside0.mk (swap_qg (W0 := W0) (base := base) (g := g) (cap := cap) (ok := fun k => ok k ∧ base ≤ k ∧ k < w.heap.size) HDS.out (a + L / 4 * 2 - 1 + t) (a + (O - L)) ((a : Int) + (L : Int) / 4 * 2 - 1 + (t : Int)) ((a : Int) + ((O : Int) - (L : Int))) (by omega) (by omega) (by omega) (by omega) w2 HQ2.out)
      have HST : Aside0 (bpRest a L M (a + L / 4 * 2 - 1) (3 - (t + 1)) (t + 1) (xorNext r, swp dk (a + L / 4 * 2 - 1 + t) (a + (O - L))) = bpRest a L M (a + L / 4 * 2 - 1) 3 0 (UInt64.ofNat L, d)) := ⟨by rw [← HR.out, bp_step a L M _ t r dk (O - L) ht3 (by rw [← HN.out.2, if_pos (by omega)])]⟩
      go_wp2_with (first | ((with_reducible refine (HNext.out).mono ?_); rintro e w' ⟨rfl, rfl⟩; clear HNext) | ((with_reducible refine (HS.out).mono ?_); rintro e w3 ⟨rfl, hq, hgr⟩; have HQ3 := Aside0.mk hq; have HBK3 := Aside0.mk ((hgr.block _ (blk_lt HBK2.out) (fun e => by have := Option.some.inj e; omega)).trans HBK2.out); clear hq hgr HS))
      go_roundg (3 - (t + 1))
      case measure => omega
      case rel => exact ⟨t + 1, xorNext r, swp dk (a + L / 4 * 2 - 1 + t) (a + (O - L)), by congr 1; push_cast; omega, ⟨by omega, Nat.le_refl _⟩, ⟨by rw [size_swp]; exact HDS.out⟩, HQ3, ⟨by rw [← HN.out.1]; exact HBK3.out⟩, HST⟩
    · have hLOz : ¬ (L : Int) ≤ (O : Int) := by omega
      have HS := Aside0.mk (swap_qg (W0 := W0) (base := base) (g := g) (cap := cap) (ok := fun k => ok k ∧ base ≤ k ∧ k < w.heap.size) HDS.out (a + L / 4 * 2 - 1 + t) (a + O) ((a : Int) + (L : Int) / 4 * 2 - 1 + (t : Int)) ((a : Int) + (O : Int)) (by omega) (by omega) (by omega) (by omega) w2 HQ2.out)
      have HST : Aside0 (bpRest a L M (a + L / 4 * 2 - 1) (3 - (t + 1)) (t + 1) (xorNext r, swp dk (a + L / 4 * 2 - 1 + t) (a + O)) = bpRest a L M (a + L / 4 * 2 - 1) 3 0 (UInt64.ofNat L, d)) := ⟨by rw [← HR.out, bp_step a L M _ t r dk O ht3 (by rw [← HN.out.2, if_neg (by omega)])]⟩
      go_wp2_with (first | ((with_reducible refine (HNext.out).mono ?_); rintro e w' ⟨rfl, rfl⟩; clear HNext) | ((with_reducible refine (HS.out).mono ?_); rintro e w3 ⟨rfl, hq, hgr⟩; have HQ3 := Aside0.mk hq; have HBK3 := Aside0.mk ((hgr.block _ (blk_lt HBK2.out) (fun e => by have := Option.some.inj e; omega)).trans HBK2.out); clear hq hgr HS))
      go_roundg (3 - (t + 1))
      case measure => omega
      case rel => exact ⟨t + 1, xorNext r, swp dk (a + L / 4 * 2 - 1 + t) (a + O), by congr 1; push_cast; omega, ⟨by omega, Nat.le_refl _⟩, ⟨by rw [size_swp]; exact HDS.out⟩, HQ3, ⟨by rw [← HN.out.1]; exact HBK3.out⟩, HST⟩
  · obtain rfl : t = 3 := by omega
    have hle2 : ¬ ((a : Int) + (L : Int) / 4 * 2 - 1 + ((3 : Nat) : Int) ≤ (a : Int) + (L : Int) / 4 * 2 + 1) := by omega
    go_wp2
    go_end0
    refine ⟨rfl, ?_⟩
    rw [← HR.out]
    exact ⟨Kd.R_mono HQ.out.1 (fun k hk => hk.1), HQ.out.2⟩
theorem brk_q (g cap a b N : Nat) (base : Nat) (ok : Nat → Prop) (d : Array Rq) (hN : d.size = N) (hab : a ≤ b) (hb : b ≤ N) (hsz : N < 4611686018427387904) (W0 w : World) (h : QK W0 w base g cap ok d) :
   Calls Tryz.prog 152 #[.iface 157 (.slice (some ⟨g, 0, none⟩) N cap), .int .i64 a, .int .i64 b] w fun e w' => e = .returned (.tuple #[]) ∧ QK W0 w' base g cap ok (breakPatterns d a b) := by
 obtain ⟨L, rfl⟩ : ∃ L, b = a + L := ⟨b - a, by omega⟩
 by_cases h8 : 8 ≤ L
 · exact brk_go g cap a L N base ok d hN hb hsz h8 W0 w h
 · have hv : breakPatterns d a (a + L) = d := by unfold breakPatterns; simp only [Nat.add_sub_cancel_left]; rw [if_neg h8]
   rw [hv]
   have hLz : ((a : Int) + (L : Int) - (a : Int)) = (L : Int) := by omega
   have h8z : ¬ (8 : Int) ≤ (L : Int) := by omega
   have HQ := Aside0.mk h
   clear h hv
   go_enter Tryz.func152, Tryz.ntmps152
   go_wp2
   go_end0
   exact ⟨rfl, HQ.out⟩
end Go.Proofs.YthfjolafikgpoaaGreatDoor.Hand
