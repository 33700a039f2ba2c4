/- sort.StringSlice's Sort over an owned row of texts. -/
import Derived.Test.YteigfmchnblkgaaGreatDoorMTGSetA
import Derived.Test.YteigfmchnblkgaaGreatDoorMTLabNew
namespace Go.Proofs.YteigfmchnblkgaaGreatDoor.Hand
open Go.RowKit Go.Proofs.YteigfmchnblkgaaGreatDoorW.PrintWords Go.Proofs.YteigfmchnblkgaaGreatDoorW.PrintLast Go.Proofs.YteigfmchnblkgaaGreatDoorW.PrintMore Go.Proofs.YteigfmchnblkgaaGreatDoor.Base
open Go.Sort (Holds PermIn SortedIn putRow)
set_option linter.unusedVariables false
set_option linter.unusedSimpArgs false
set_option maxRecDepth 100000
theorem sts_len (p : Option Addr) (n c : Nat) (W : World) : LenM Tryz.prog 242 (.slice p n c) n W := by
  unfold LenM
  go_enter Tryz.func242, Tryz.ntmps242
  go_wp2
  go_ret
  exact ⟨rfl, 0, rfl⟩
set_option maxHeartbeats 2000000 in
theorem sts_less (blk off c size : Nat) (W : World) (G : Nat → L) (hc : ∀ t, t < size → W.cell? ⟨blk, off + t, none⟩ = some (encT (G t))) (i j : Nat) (hi : i < size) (hj : j < size) (_hsz : size < 4611686018427387904) :
    Calls Tryz.prog 243 #[.slice (some ⟨blk, off, none⟩) size c, .int .i64 i, .int .i64 j] W fun e w' => e = .returned (.bool (Sort.ltStr (G i) (G j))) ∧ ∃ q, w' = W.drewN q := by
  have ci := hc i hi
  have cj := hc j hj
  obtain ⟨a, ha⟩ : ∃ a, mk (G i) = a := ⟨_, rfl⟩
  obtain ⟨b, hb⟩ : ∃ b, mk (G j) = b := ⟨_, rfl⟩
  have HP : Aside0 (Sort.ltStr (G i) (G j) = Op.bytesLess a.toList b.toList) := ⟨by rw [← ha, ← hb, mk_toList, mk_toList]; simp [Sort.ltStr, bytesLess_eq]⟩
  unfold encT at ci cj
  rw [ha] at ci; rw [hb] at cj
  rw [HP.out]
  clear ha hb HP hc
  go_enter Tryz.func243, Tryz.ntmps243
  go_wp2
  go_quiet (fail)
  go_wp2
  go_ret
  exact ⟨rfl, nq, rfl⟩
set_option maxHeartbeats 2000000 in
theorem sts_swap (blk off c size : Nat) (W : World) (x y : L) (i j : Nat) (hi : i < size) (hj : j < size) (_hsz : size < 4611686018427387904)
    (ci : W.cell? ⟨blk, off + i, none⟩ = some (encT x)) (cj : W.cell? ⟨blk, off + j, none⟩ = some (encT y)) (fi : W.frozen? ⟨blk, off + i, none⟩ = false) (fj : W.frozen? ⟨blk, off + j, none⟩ = false) :
    Calls Tryz.prog 244 #[.slice (some ⟨blk, off, none⟩) size c, .int .i64 i, .int .i64 j] W fun e w' => e = .returned (.tuple #[]) ∧ ∃ q, w' = ((W.setCell ⟨blk, off + i, none⟩ (encT y)).setCell ⟨blk, off + j, none⟩ (encT x)).drewN q := by
  obtain ⟨v', hy'⟩ := cell?_setCell_some (w := W) (p := ⟨blk, off + i, none⟩) (x := encT y) (q := ⟨blk, off + j, none⟩) cj
  go_enter Tryz.func244, Tryz.ntmps244
  go_wp2
  go_region
  all_goals (try go_wp2)
  all_goals go_end0
  all_goals exact ⟨rfl, 1, rfl⟩
theorem sts_lenR (p : Option Addr) (n c : Nat) : Reaches Tryz.prog 130 (.slice p n c) "Len" 242 := ⟨fun _ => by kernel_rfl, enters_of Tryz.func242 (by kernel_rfl) rfl⟩
theorem sts_lessR (p : Option Addr) (n c : Nat) : Reaches Tryz.prog 130 (.slice p n c) "Less" 243 := ⟨fun _ => by kernel_rfl, enters_of Tryz.func243 (by kernel_rfl) rfl⟩
theorem sts_swapR (p : Option Addr) (n c : Nat) : Reaches Tryz.prog 130 (.slice p n c) "Swap" 244 := ⟨fun _ => by kernel_rfl, enters_of Tryz.func244 (by kernel_rfl) rfl⟩

theorem sts_row (g cap : Nat) (d : Array L) (h2 : 2 ≤ d.size) (hsz : d.size < 4611686018427387904) (w : World) (hH : Holds encT w g 0 d) (hblk : g < w.heap.size) :
    Calls Tryz.prog 103 #[.iface 130 (.slice (some ⟨g, 0, none⟩) d.size cap)] w fun e w' =>
      e = .returned (.tuple #[]) ∧ ∃ d' n os, PermIn 0 d.size d d' ∧ SortedIn Sort.ltStr 0 d.size d' ∧ w' = Sort.grow (putRow encT (Sort.ahead w n) g 0 d') os := by
  exact Tryz.sort_Sort_sorted 130 (.slice (some ⟨g, 0, none⟩) d.size cap) 242 243 244 (sts_lenR _ _ _) (sts_lessR _ _ _) (sts_swapR _ _ _) encT Sort.ltStr Sort.swo_ltStr
    g 0 d h2 hsz w (sts_len _ _ _ _) (fun m os dk hs i j hi hj => sts_less g 0 cap d.size _ (fun t => dk[t]!) (fun t ht => ((holds_sortWorld encT w g 0 m d dk os hblk hH hs) t (by omega)).1) i j hi hj hsz)
    (fun W dk hH hs i j hi hj => sts_swap g 0 cap d.size W dk[i]! dk[j]! i j hi hj hsz (hH i (by omega)).1 (hH j (by omega)).1 (hH i (by omega)).2 (hH j (by omega)).2) hH hblk

theorem StsSort_calls (l : List L) (W : World) (base : Nat) (v : Value) (hR : Kd.R Kd.string 9 W base (fun _ => True) v (l.map mk)) (hn : l.length ≤ 1000000) :
    Calls Tryz.prog 103 #[.iface 130 v] W fun e w' => e = .returned (.tuple #[]) ∧ ∃ l' : List L, l'.Perm l ∧ Asc l' ∧ Kd.R Kd.string 9 w' base (fun _ => True) v (l'.map mk) ∧ W.grownBy w' v.ownBlock := by
  by_cases h2 : 2 ≤ l.length
  · obtain ⟨g, cap, rfl, hbg, hlt, _⟩ := Kd.R_form hR (by rw [List.length_map]; omega)
    rw [List.length_map] at hR ⊢
    refine (sts_row g cap l.toArray (by simpa using h2) (by simp; omega) W (own_holds hR) hlt).mono ?_
    rintro e w' ⟨rfl, d', n, os, hP, hS, rfl⟩
    have hsz : d'.size = l.length := by have := hP.1; simpa using this
    have hp := hP.2.2
    obtain ⟨r1, r2⟩ := row_put hR d' hsz n os
    refine ⟨rfl, d'.toList, ?_, asc_of (by rw [hsz]; simpa using hS), r1, r2⟩
    have e1 : (d'.extract 0 l.toArray.size).toList = d'.toList := by
      rw [show l.toArray.size = d'.size by rw [hsz]; simp, Array.extract_size]
    have e2 : (l.toArray.extract 0 l.toArray.size).toList = l := by rw [Array.extract_size]
    rw [e1, e2] at hp
    exact hp
  · obtain ⟨A, c, rfl⟩ := Kd.R_slice hR
    refine (Tryz.sort_Sort_tiny (α := L) 130 _ 242 (sts_lenR _ _ _) _ (by rw [List.length_map]; omega) W (sts_len _ _ _ _)).mono ?_
    rintro e w' ⟨rfl, q, rfl⟩
    refine ⟨rfl, l, List.Perm.refl _, ?_, Kd.R_drewN hR q, ⟨rfl, rfl, rfl, Nat.le_refl _, fun _ _ _ => rfl⟩⟩
    match l, h2 with
    | [], _ => exact List.Pairwise.nil
    | [x], _ => exact List.pairwise_singleton _ _
    | x :: y :: r, h2 => exact absurd (by simp) h2
set_option maxHeartbeats 2000000 in
theorem SSort_calls (l : List L) (W : World) (base : Nat) (v : Value) (hR : Kd.R Kd.string 9 W base (fun _ => True) v (l.map mk)) (hn : l.length ≤ 1000000) :
    Calls Tryz.prog 83 #[v] W fun e w' => e = .returned (.tuple #[]) ∧ ∃ l' : List L, l'.Perm l ∧ Asc l' ∧ Kd.R Kd.string 9 w' base (fun _ => True) v (l'.map mk) ∧ W.grownBy w' v.ownBlock := by
  obtain ⟨A, c, rfl⟩ := Kd.R_slice hR
  rw [List.length_map] at hR ⊢
  have H := Aside0.mk (StsSort_calls l W base _ hR hn)
  clear hR
  go_enter Tryz.func83, Tryz.ntmps83
  go_wp2_with (first | ((with_reducible refine (H.out).mono ?_); rintro e w1 ⟨rfl, l', h1, h2, h3, h4⟩; have H1 := Aside0.mk h1; have H2 := Aside0.mk h2; have H3 := Aside0.mk h3; have H4 := Aside0.mk h4; clear h1 h2 h3 h4 H))
  first | refine bodyPost_ret (results_none rfl _ _ _) rfl ?_ | go_end0
  exact ⟨rfl, l', H1.out, H2.out, H3.out, H4.out⟩
end Go.Proofs.YteigfmchnblkgaaGreatDoor.Hand

/- Texts out of texts: spec.joined, labels.zzJoin, the buffer, sort.StringsAreSorted. -/
namespace Go.Proofs.YteigfmchnblkgaaGreatDoor.Hand
open Go.RowKit Go.Maps Go.Proofs.YteigfmchnblkgaaGreatDoorW.PrintWords Go.Proofs.YteigfmchnblkgaaGreatDoorW.PrintLast Go.Proofs.YteigfmchnblkgaaGreatDoorW.PrintMore Go.Proofs.YteigfmchnblkgaaGreatDoor.Base
set_option linter.unusedVariables false
set_option linter.unusedSimpArgs false
set_option maxRecDepth 100000
/-- The texts one after the other, the sign between them. -/
def joinB (sg : ByteArray) : List ByteArray → ByteArray
  | [] => ByteArray.empty
  | v :: r => r.foldl (fun a s => a ++ sg ++ s) (ByteArray.empty ++ v)
theorem joinB_snoc (sg p : ByteArray) (l : List ByteArray) (h : l ≠ []) : joinB sg (l ++ [p]) = joinB sg l ++ sg ++ p := by
  cases l with
  | nil => exact absurd rfl h
  | cons v r => simp [joinB, List.foldl_append]
theorem joinB_first {vs : List ByteArray} {p : ByteArray} (sg : ByteArray) (hp : vs[0]? = some p) : joinB sg (vs.take 1) = ByteArray.empty ++ p := by
  cases vs with
  | nil => cases hp
  | cons v r => simp only [List.getElem?_cons_zero, Option.some.injEq] at hp; subst hp; rfl
theorem joinB_next {vs : List ByteArray} {p : ByteArray} {i : Nat} (sg : ByteArray) (h0 : i ≠ 0) (hp : vs[i]? = some p) : joinB sg (vs.take (i + 1)) = joinB sg (vs.take i) ++ sg ++ p := by
  rw [List.take_add_one, hp]
  refine joinB_snoc sg p _ fun e => ?_
  have h1 : i < vs.length := (List.getElem?_eq_some_iff.1 hp).1
  have h2 := congrArg List.length e
  rw [List.length_take] at h2
  simp only [List.length_nil] at h2
  omega
theorem joinB_size (sg : ByteArray) (M : Nat) : ∀ (vs : List ByteArray), (∀ p ∈ vs, p.size ≤ M) → (joinB sg vs).size ≤ vs.length * (M + sg.size) := by
  have h : ∀ (r : List ByteArray) (a : ByteArray), (∀ p ∈ r, p.size ≤ M) → (r.foldl (fun a s => a ++ sg ++ s) a).size ≤ a.size + r.length * (M + sg.size) := by
    intro r
    induction r with
    | nil => intro a _; simp
    | cons v r ih =>
      intro a hz
      have h1 := ih (a ++ sg ++ v) (fun p hp => hz p (List.mem_cons_of_mem _ hp))
      have h2 := hz v (List.mem_cons_self ..)
      simp only [ByteArray.size_append] at h1
      simp only [List.foldl_cons, List.length_cons]
      rw [Nat.add_mul, Nat.one_mul]
      omega
  intro vs hz
  cases vs with
  | nil => simp [joinB]
  | cons v r =>
    have h1 := h r (ByteArray.empty ++ v) (fun p hp => hz p (List.mem_cons_of_mem _ hp))
    have h2 := hz v (List.mem_cons_self ..)
    simp only [ByteArray.size_append] at h1
    have h3 : ByteArray.empty.size = 0 := rfl
    unfold joinB
    simp only [List.length_cons]
    rw [Nat.add_mul, Nat.one_mul]
    omega
/-- What the walk asks of two texts that are put together. -/
theorem small_sum {a b : ByteArray} (h : a.size + b.size ≤ 1000000000) : (9223372036854775807 < a.size + b.size) = False ∧ ((9223372036854775807 : Int) < (a.size : Int) + (b.size : Int)) = False ∧ decide (9223372036854775807 < a.size + b.size) = false :=
  ⟨eq_false (by omega), eq_false (by omega), decide_eq_false (by omega)⟩
set_option maxHeartbeats 8000000 in
theorem joined_calls (sg : ByteArray) (hs : sg.size ≤ 10) (A : Option Addr) (c n : Nat) (vs : List ByteArray) (hn : vs.length = n) (hn2 : n ≤ 1000) (hz : ∀ p ∈ vs, p.size ≤ 10000) (w : World) (hC : Kd.C Kd.string w A n vs) :
    Calls Tryz.prog 60 #[.slice A n c, .string sg] w fun e w' => e = .returned (.string (joinB sg vs)) ∧ w = w' := by
  have HC := Aside0.mk hC
  have HZ := Aside0.mk hz
  have HLN := Aside0.mk hn
  clear hC hz
  go_enter Tryz.func60, Tryz.ntmps60
  go_wp2
  go_loopg [5, 10] (n) (fun k v5 v10 w' => ∃ i : Nat, v10 = .int .i64 i ∧ v5 = .string (joinB sg (vs.take i)) ∧ w = w' ∧ Aside0 (k + i = n))
  case atStart => exact ⟨0, rfl, rfl, rfl, ⟨by omega⟩⟩
  case round =>
    obtain ⟨i, rfl, rfl, rfl, HI⟩ := hrel
    by_cases hil : i < n
    · obtain ⟨ad, rfl, hk0⟩ := Kd.at_string HC.out (i : Int) (by omega) (by omega)
      rw [Int.toNat_natCast] at hk0
      obtain ⟨p, hp⟩ : ∃ p, vs[i]? = some p := ⟨_, List.getElem?_eq_getElem (by rw [HLN.out]; exact hil)⟩
      have hg : rdOf ByteArray.empty vs (i : Int) = p := by unfold rdOf; rw [Int.toNat_natCast, List.getD_eq_getElem?_getD, hp]; rfl
      rw [hg] at hk0
      have hj : (joinB sg (vs.take i)).size ≤ 1000 * 10010 := by
        have h1 := joinB_size sg 10000 (vs.take i) (fun p hp => HZ.out p (List.mem_of_mem_take hp))
        refine Nat.le_trans h1 (Nat.mul_le_mul ?_ (by omega))
        rw [List.length_take]; omega
      have hps := HZ.out p (List.mem_of_getElem? hp)
      by_cases h0 : i = 0
      · have b0 : decide ((0 : Int) < (i : Int)) = false := decide_eq_false (by omega)
        have b1 : decide (0 < i) = false := decide_eq_false (by omega)
        have HX : Aside0 (joinB sg (vs.take (i + 1)) = joinB sg (vs.take i) ++ p) := ⟨by subst h0; exact joinB_first sg hp⟩
        obtain ⟨z1, z2, z3⟩ := small_sum (a := joinB sg (vs.take i)) (b := p) (by omega)
        clear hp hg h0 hj hps
        go_wp2
        go_roundg (n - (i + 1))
        case measure => have := HI.out; omega
        case rel => exact ⟨i + 1, by go_num, by rw [HX.out]; try rfl, rfl, ⟨by omega⟩⟩
      · have b0 : decide ((0 : Int) < (i : Int)) = true := decide_eq_true (by omega)
        have b1 : decide (0 < i) = true := decide_eq_true (by omega)
        have HX : Aside0 (joinB sg (vs.take (i + 1)) = joinB sg (vs.take i) ++ sg ++ p) := ⟨joinB_next sg h0 hp⟩
        obtain ⟨z1, z2, z3⟩ := small_sum (a := joinB sg (vs.take i)) (b := sg) (by omega)
        have z4 : (9223372036854775807 < (joinB sg (vs.take i)).size + sg.size + p.size) = False := eq_false (by omega)
        have z5 : ((9223372036854775807 : Int) < ((joinB sg (vs.take i)).size : Int) + (sg.size : Int) + (p.size : Int)) = False := eq_false (by omega)
        have z6 : decide (9223372036854775807 < (joinB sg (vs.take i)).size + sg.size + p.size) = false := decide_eq_false (by omega)
        clear hp hg h0 hj hps
        go_wp2
        go_roundg (n - (i + 1))
        case measure => have := HI.out; omega
        case rel => exact ⟨i + 1, by go_num, by rw [HX.out]; try rfl, rfl, ⟨by omega⟩⟩
    · have hje : i = n := by have := HI.out; omega
      have HX : Aside0 (joinB sg (vs.take i) = joinB sg vs) := ⟨by rw [List.take_of_length_le (by rw [HLN.out, hje]; exact Nat.le_refl _)]⟩
      go_wp2
      go_ret
      exact ⟨by rw [HX.out]; try rfl, rfl⟩
set_option maxHeartbeats 8000000 in
theorem zzJoin_calls (sg : ByteArray) (hs : sg.size ≤ 10) (A : Option Addr) (c n : Nat) (vs : List ByteArray) (hn : vs.length = n) (hn2 : n ≤ 1000) (hz : ∀ p ∈ vs, p.size ≤ 10000) (w : World) (hC : Kd.C Kd.string w A n vs) :
    Calls Tryz.prog 84 #[.slice A n c, .string sg] w fun e w' => e = .returned (.string (joinB sg vs)) ∧ w = w' := by
  have HC := Aside0.mk hC
  have HZ := Aside0.mk hz
  have HLN := Aside0.mk hn
  clear hC hz
  go_enter Tryz.func84, Tryz.ntmps84
  go_wp2
  go_loopg [5, 10] (n) (fun k v5 v10 w' => ∃ i : Nat, v10 = .int .i64 i ∧ v5 = .string (joinB sg (vs.take i)) ∧ w = w' ∧ Aside0 (k + i = n))
  case atStart => exact ⟨0, rfl, rfl, rfl, ⟨by omega⟩⟩
  case round =>
    obtain ⟨i, rfl, rfl, rfl, HI⟩ := hrel
    by_cases hil : i < n
    · obtain ⟨ad, rfl, hk0⟩ := Kd.at_string HC.out (i : Int) (by omega) (by omega)
      rw [Int.toNat_natCast] at hk0
      obtain ⟨p, hp⟩ : ∃ p, vs[i]? = some p := ⟨_, List.getElem?_eq_getElem (by rw [HLN.out]; exact hil)⟩
      have hg : rdOf ByteArray.empty vs (i : Int) = p := by unfold rdOf; rw [Int.toNat_natCast, List.getD_eq_getElem?_getD, hp]; rfl
      rw [hg] at hk0
      have hj : (joinB sg (vs.take i)).size ≤ 1000 * 10010 := by
        have h1 := joinB_size sg 10000 (vs.take i) (fun p hp => HZ.out p (List.mem_of_mem_take hp))
        refine Nat.le_trans h1 (Nat.mul_le_mul ?_ (by omega))
        rw [List.length_take]; omega
      have hps := HZ.out p (List.mem_of_getElem? hp)
      by_cases h0 : i = 0
      · have b0 : decide ((0 : Int) < (i : Int)) = false := decide_eq_false (by omega)
        have b1 : decide (0 < i) = false := decide_eq_false (by omega)
        have HX : Aside0 (joinB sg (vs.take (i + 1)) = joinB sg (vs.take i) ++ p) := ⟨by subst h0; exact joinB_first sg hp⟩
        obtain ⟨z1, z2, z3⟩ := small_sum (a := joinB sg (vs.take i)) (b := p) (by omega)
        clear hp hg h0 hj hps
        go_wp2
        go_roundg (n - (i + 1))
        case measure => have := HI.out; omega
        case rel => exact ⟨i + 1, by go_num, by rw [HX.out]; try rfl, rfl, ⟨by omega⟩⟩
      · have b0 : decide ((0 : Int) < (i : Int)) = true := decide_eq_true (by omega)
        have b1 : decide (0 < i) = true := decide_eq_true (by omega)
        have HX : Aside0 (joinB sg (vs.take (i + 1)) = joinB sg (vs.take i) ++ sg ++ p) := ⟨joinB_next sg h0 hp⟩
        obtain ⟨z1, z2, z3⟩ := small_sum (a := joinB sg (vs.take i)) (b := sg) (by omega)
        have z4 : (9223372036854775807 < (joinB sg (vs.take i)).size + sg.size + p.size) = False := eq_false (by omega)
        have z5 : ((9223372036854775807 : Int) < ((joinB sg (vs.take i)).size : Int) + (sg.size : Int) + (p.size : Int)) = False := eq_false (by omega)
        have z6 : decide (9223372036854775807 < (joinB sg (vs.take i)).size + sg.size + p.size) = false := decide_eq_false (by omega)
        clear hp hg h0 hj hps
        go_wp2
        go_roundg (n - (i + 1))
        case measure => have := HI.out; omega
        case rel => exact ⟨i + 1, by go_num, by rw [HX.out]; try rfl, rfl, ⟨by omega⟩⟩
    · have hje : i = n := by have := HI.out; omega
      have HX : Aside0 (joinB sg (vs.take i) = joinB sg vs) := ⟨by rw [List.take_of_length_le (by rw [HLN.out, hje]; exact Nat.le_refl _)]⟩
      go_wp2
      go_ret
      exact ⟨by rw [HX.out]; try rfl, rfl⟩

end Go.Proofs.YteigfmchnblkgaaGreatDoor.Hand
