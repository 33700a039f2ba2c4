/- sort.StringSlice's Sort over an owned row of texts. -/
import Derived.Test.YthfjolafikgpoaaGreatDoorLRGSetA
namespace Go.Proofs.YthfjolafikgpoaaGreatDoor.Hand
open Go.RowKit Go.Proofs.YthfjolafikgpoaaGreatDoorW.PrintWords Go.Proofs.YthfjolafikgpoaaGreatDoorW.PrintLast Go.Proofs.YthfjolafikgpoaaGreatDoorW.PrintMore Go.Proofs.YthfjolafikgpoaaGreatDoor.Base
open Go.Sort (Holds PermIn SortedIn putRow)
set_option linter.unusedVariables false
set_option linter.unusedSimpArgs false
set_option maxRecDepth 100000
theorem sts_len (p : Option Addr) (n c : Nat) (W : World) : LenM Tryz.prog 250 (.slice p n c) n W := by
  unfold LenM
  go_enter Tryz.func250, Tryz.ntmps250
  go_wp2
  go_ret
  exact ⟨rfl, 0, rfl⟩
set_option maxHeartbeats 2000000 in
theorem sts_less (blk off c size : Nat) (W : World) (G : Nat → L) (hc : ∀ t, t < size → W.cell? ⟨blk, off + t, none⟩ = some (encT (G t))) (i j : Nat) (hi : i < size) (hj : j < size) (_hsz : size < 4611686018427387904) :
    Calls Tryz.prog 251 #[.slice (some ⟨blk, off, none⟩) size c, .int .i64 i, .int .i64 j] W fun e w' => e = .returned (.bool (Sort.ltStr (G i) (G j))) ∧ ∃ q, w' = W.drewN q := by
  have ci := hc i hi
  have cj := hc j hj
  obtain ⟨a, ha⟩ : ∃ a, mk (G i) = a := ⟨_, rfl⟩
  obtain ⟨b, hb⟩ : ∃ b, mk (G j) = b := ⟨_, rfl⟩
  have HP : Aside0 (Sort.ltStr (G i) (G j) = Op.bytesLess a.toList b.toList) := ⟨by rw [← ha, ← hb, mk_toList, mk_toList]; simp [Sort.ltStr, bytesLess_eq]⟩
  unfold encT at ci cj
  rw [ha] at ci; rw [hb] at cj
  rw [HP.out]
  clear ha hb HP hc
  go_enter Tryz.func251, Tryz.ntmps251
  go_wp2
  go_quiet (fail)
  go_wp2
  go_ret
  exact ⟨rfl, nq, rfl⟩
set_option maxHeartbeats 2000000 in
theorem sts_swap (blk off c size : Nat) (W : World) (x y : L) (i j : Nat) (hi : i < size) (hj : j < size) (_hsz : size < 4611686018427387904)
    (ci : W.cell? ⟨blk, off + i, none⟩ = some (encT x)) (cj : W.cell? ⟨blk, off + j, none⟩ = some (encT y)) (fi : W.frozen? ⟨blk, off + i, none⟩ = false) (fj : W.frozen? ⟨blk, off + j, none⟩ = false) :
    Calls Tryz.prog 252 #[.slice (some ⟨blk, off, none⟩) size c, .int .i64 i, .int .i64 j] W fun e w' => e = .returned (.tuple #[]) ∧ ∃ q, w' = ((W.setCell ⟨blk, off + i, none⟩ (encT y)).setCell ⟨blk, off + j, none⟩ (encT x)).drewN q := by
  obtain ⟨v', hy'⟩ := cell?_setCell_some (w := W) (p := ⟨blk, off + i, none⟩) (x := encT y) (q := ⟨blk, off + j, none⟩) cj
  go_enter Tryz.func252, Tryz.ntmps252
  go_wp2
  go_region
  all_goals (try go_wp2)
  all_goals go_end0
  all_goals exact ⟨rfl, 1, rfl⟩
theorem sts_lenR (p : Option Addr) (n c : Nat) : Reaches Tryz.prog 140 (.slice p n c) "Len" 250 := ⟨fun _ => by kernel_rfl, enters_of Tryz.func250 (by kernel_rfl) rfl⟩
theorem sts_lessR (p : Option Addr) (n c : Nat) : Reaches Tryz.prog 140 (.slice p n c) "Less" 251 := ⟨fun _ => by kernel_rfl, enters_of Tryz.func251 (by kernel_rfl) rfl⟩
theorem sts_swapR (p : Option Addr) (n c : Nat) : Reaches Tryz.prog 140 (.slice p n c) "Swap" 252 := ⟨fun _ => by kernel_rfl, enters_of Tryz.func252 (by kernel_rfl) rfl⟩

theorem sts_row (g cap : Nat) (d : Array L) (h2 : 2 ≤ d.size) (hsz : d.size < 4611686018427387904) (w : World) (hH : Holds encT w g 0 d) (hblk : g < w.heap.size) :
    Calls Tryz.prog 100 #[.iface 140 (.slice (some ⟨g, 0, none⟩) d.size cap)] w fun e w' =>
      e = .returned (.tuple #[]) ∧ ∃ d' n os, PermIn 0 d.size d d' ∧ SortedIn Sort.ltStr 0 d.size d' ∧ w' = Sort.grow (putRow encT (Sort.ahead w n) g 0 d') os := by
  exact Tryz.sort_Sort_sorted 140 (.slice (some ⟨g, 0, none⟩) d.size cap) 250 251 252 (sts_lenR _ _ _) (sts_lessR _ _ _) (sts_swapR _ _ _) encT Sort.ltStr Sort.swo_ltStr
    g 0 d h2 hsz w (sts_len _ _ _ _) (fun m os dk hs i j hi hj => sts_less g 0 cap d.size _ (fun t => dk[t]!) (fun t ht => ((holds_sortWorld encT w g 0 m d dk os hblk hH hs) t (by omega)).1) i j hi hj hsz)
    (fun W dk hH hs i j hi hj => sts_swap g 0 cap d.size W dk[i]! dk[j]! i j hi hj hsz (hH i (by omega)).1 (hH j (by omega)).1 (hH i (by omega)).2 (hH j (by omega)).2) hH hblk

theorem StsSort_calls (l : List L) (W : World) (base : Nat) (v : Value) (hR : Kd.R Kd.string 9 W base (fun _ => True) v (l.map mk)) (hn : l.length ≤ 1000000) :
    Calls Tryz.prog 100 #[.iface 140 v] W fun e w' => e = .returned (.tuple #[]) ∧ ∃ l' : List L, l'.Perm l ∧ Asc l' ∧ Kd.R Kd.string 9 w' base (fun _ => True) v (l'.map mk) ∧ W.grownBy w' v.ownBlock := by
  by_cases h2 : 2 ≤ l.length
  · obtain ⟨g, cap, rfl, hbg, hlt, _⟩ := Kd.R_form hR (by rw [List.length_map]; omega)
    rw [List.length_map] at hR ⊢
    refine (sts_row g cap l.toArray (by simpa using h2) (by simp; omega) W (own_holds hR) hlt).mono ?_
    rintro e w' ⟨rfl, d', n, os, hP, hS, rfl⟩
    have hsz : d'.size = l.length := by have := hP.1; simpa using this
    have hp := hP.2.2
    obtain ⟨r1, r2⟩ := row_put hR d' hsz n os
    refine ⟨rfl, d'.toList, ?_, asc_of (by rw [hsz]; simpa using hS), r1, r2⟩
    have e1 : (d'.extract 0 l.toArray.size).toList = d'.toList := by
      rw [show l.toArray.size = d'.size by rw [hsz]; simp, Array.extract_size]
    have e2 : (l.toArray.extract 0 l.toArray.size).toList = l := by rw [Array.extract_size]
    rw [e1, e2] at hp
    exact hp
  · obtain ⟨A, c, rfl⟩ := Kd.R_slice hR
    refine (Tryz.sort_Sort_tiny (α := L) 140 _ 250 (sts_lenR _ _ _) _ (by rw [List.length_map]; omega) W (sts_len _ _ _ _)).mono ?_
    rintro e w' ⟨rfl, q, rfl⟩
    refine ⟨rfl, l, List.Perm.refl _, ?_, Kd.R_drewN hR q, ⟨rfl, rfl, rfl, Nat.le_refl _, fun _ _ _ => rfl⟩⟩
    match l, h2 with
    | [], _ => exact List.Pairwise.nil
    | [x], _ => exact List.pairwise_singleton _ _
    | x :: y :: r, h2 => exact absurd (by simp) h2
set_option maxHeartbeats 2000000 in
theorem SSort_calls (l : List L) (W : World) (base : Nat) (v : Value) (hR : Kd.R Kd.string 9 W base (fun _ => True) v (l.map mk)) (hn : l.length ≤ 1000000) :
    Calls Tryz.prog 89 #[v] W fun e w' => e = .returned (.tuple #[]) ∧ ∃ l' : List L, l'.Perm l ∧ Asc l' ∧ Kd.R Kd.string 9 w' base (fun _ => True) v (l'.map mk) ∧ W.grownBy w' v.ownBlock := by
  obtain ⟨A, c, rfl⟩ := Kd.R_slice hR
  rw [List.length_map] at hR ⊢
  have H := Aside0.mk (StsSort_calls l W base _ hR hn)
  clear hR
  go_enter Tryz.func89, Tryz.ntmps89
  go_wp2_with (first | ((with_reducible refine (H.out).mono ?_); rintro e w1 ⟨rfl, l', h1, h2, h3, h4⟩; have H1 := Aside0.mk h1; have H2 := Aside0.mk h2; have H3 := Aside0.mk h3; have H4 := Aside0.mk h4; clear h1 h2 h3 h4 H))
  first | refine bodyPost_ret (results_none rfl _ _ _) rfl ?_ | go_end0
  exact ⟨rfl, l', H1.out, H2.out, H3.out, H4.out⟩
end Go.Proofs.YthfjolafikgpoaaGreatDoor.Hand
