/- What labels are written by, read again: pure. -/
import Derived.Test.YthfjolafikgpoaaGreatDoorLRM27
import Derived.Test.YthfjolafikgpoaaGreatDoorLRM32
import Derived.Test.YthfjolafikgpoaaGreatDoorLRWrAll
import Derived.Test.YthfjolafikgpoaaGreatDoorLRGParC
import Derived.Shelf.GgSortMore.SortSort
namespace Go.Proofs.YthfjolafikgpoaaGreatDoor.Hand
open Go.RowKit Go.Maps Go.Proofs.YthfjolafikgpoaaGreatDoor.Base
set_option linter.unusedVariables false
set_option linter.unusedSimpArgs false
set_option maxRecDepth 100000
theorem perm_map_inv {α β : Type} {f : α → β} {T M : List β} (h : T.Perm M) : ∀ l : List α, M = l.map f → ∃ l' : List α, l'.Perm l ∧ T = l'.map f := by
  induction h with
  | nil => intro l e; exact ⟨[], by rw [List.map_eq_nil_iff.1 e.symm], rfl⟩
  | cons x h ih =>
    intro l e
    cases l with
    | nil => cases e
    | cons a l =>
      rw [List.map_cons] at e
      injection e with e1 e2
      obtain ⟨l', hp, ht⟩ := ih l e2
      exact ⟨a :: l', hp.cons a, by rw [List.map_cons, ← ht, ← e1]⟩
  | swap x y l0 =>
    intro l e
    cases l with
    | nil => cases e
    | cons a l =>
      cases l with
      | nil => rw [List.map_cons] at e; injection e with e1 e2; cases e2
      | cons b l =>
        rw [List.map_cons, List.map_cons] at e
        injection e with e1 e2
        injection e2 with e2 e3
        exact ⟨b :: a :: l, List.Perm.swap a b l, by rw [List.map_cons, List.map_cons, ← e1, ← e2, ← e3]⟩
  | trans h1 h2 ih1 ih2 =>
    intro l e
    obtain ⟨l2, p2, t2⟩ := ih2 l e
    obtain ⟨l1, p1, t1⟩ := ih1 l2 t2
    exact ⟨l1, p1.trans p2, t1⟩
theorem mget_nodup : ∀ {xs : List LP}, (xs.map (·.1)).Nodup → ∀ k v, mget xs k = some v ↔ (k, v) ∈ xs
  | [], _, k, v => by simp [mget]
  | (a, b) :: xs, h, k, v => by
    rw [List.map_cons, List.nodup_cons] at h
    rw [mget_cons]
    by_cases e : a = k
    · subst e
      rw [if_pos rfl]
      constructor
      · intro e2; injection e2 with e2; subst e2; exact List.mem_cons_self
      · intro hm
        rcases List.mem_cons.1 hm with e2 | hm
        · injection e2 with _ e2; rw [e2]
        · exact absurd (List.mem_map.2 ⟨(a, v), hm, rfl⟩) h.1
    · rw [if_neg e, mget_nodup h.2 k v]
      constructor
      · exact fun hm => List.mem_cons_of_mem _ hm
      · intro hm
        rcases List.mem_cons.1 hm with e2 | hm
        · injection e2 with e2 _; exact absurd e2.symm e
        · exact hm
/-- A list with the labels of another one's keys makes the same keyed list. -/
theorem keyL_of_perm {P qs : List LP} (hp : P.Perm (keyL qs)) : keyL P = keyL qs := by
  have hn : ((P.reverse).map (·.1)).Nodup := (((List.reverse_perm P).trans hp).map (·.1)).nodup_iff.2 (sk_keys (keyL_mem qs).1)
  refine sk_ext (keyL_mem P).1 (keyL_mem qs).1 (fun q => ?_)
  obtain ⟨k, v⟩ := q
  rw [(keyL_mem P).2, mget_nodup hn, List.mem_reverse, hp.mem_iff]
theorem keyL_twice (qs : List LP) : keyL (qs ++ qs) = keyL qs := by
  refine sk_ext (keyL_mem _).1 (keyL_mem qs).1 (fun q => ?_)
  obtain ⟨k, v⟩ := q
  rw [(keyL_mem _).2, (keyL_mem qs).2, List.reverse_append, mget_app]
  cases mget qs.reverse k <;> rfl
theorem lbB_insK (out : List LP) (p : LP) : lbB (insK out p) ≤ lbB out + (p.1.length + p.2.length + 2) := by
  unfold insK
  obtain ⟨i, hi⟩ : ∃ i, posK out p.1 = i := ⟨_, rfl⟩
  have hle := posK_le out p.1
  rw [hi] at hle ⊢
  have key : ∀ (l : List LP) (i : Nat), lbB (l.set i p) ≤ lbB l + (p.1.length + p.2.length + 2) := by
    intro l
    induction l with
    | nil => intro i; simp [lbB]
    | cons a l ih =>
      intro i
      cases i with
      | zero => simp only [List.set_cons_zero, lbB, List.map_cons, List.sum_cons]; omega
      | succ i => have := ih i; simp only [List.set_cons_succ, lbB, List.map_cons, List.sum_cons] at this ⊢; omega
  split
  · exact key out i
  · have e : lbB out = lbB (out.take i) + lbB (out.drop i) := by
      conv => lhs; rw [← List.take_append_drop i out]
      simp only [lbB, List.map_append, List.sum_append_nat]
    rw [e]
    simp only [lbB, List.map_append, List.map_cons, List.sum_append_nat, List.sum_cons]
    omega
theorem lbB_fold : ∀ (l out : List LP), lbB (l.foldl insK out) ≤ lbB out + lbB l
  | [], out => by simp [lbB]
  | p :: l, out => by
    rw [List.foldl_cons]
    have h1 := lbB_fold l (insK out p)
    have h2 := lbB_insK out p
    simp only [lbB, List.map_cons, List.sum_cons] at h1 h2 ⊢
    omega
theorem lbB_keyL (l : List LP) : lbB (keyL l) ≤ lbB l := by have := lbB_fold l []; simpa [lbB, keyL] using this
theorem lbB_perm {a b : List LP} (h : a.Perm b) : lbB a = lbB b := (h.map _).sum_nat
/-- The text of labels. -/
def lbTxt (P : List LP) : L := outL (pcwAll (P.map rqE)) []
theorem txt_cons (p : LP) (P : List LP) : lbTxt (p :: P) = kv p ++ P.flatMap (fun q => 44 :: kv q) := by
  have h1 : ∀ (q : LP) (ps : List Pc), outL (pcwR q.1 [61] [q.2] ++ ps) [] = kv q ++ outL ps [] := fun q ps => by
    rw [show pcwR q.1 [61] [q.2] = [.str q.1, .str [61], .str q.2] from by unfold pcwR oIn; simp]
    show q.1 ++ ([61] ++ (q.2 ++ outL ps [])) = _
    unfold kv; simp
  have h2 : ∀ P : List LP, outL ((P.map rqE).flatMap pcwF) [] = P.flatMap (fun q => 44 :: kv q) := by
    intro P
    induction P with
    | nil => rfl
    | cons q P ih =>
      rw [List.map_cons, List.flatMap_cons, List.flatMap_cons]
      show [44] ++ outL (pcwR q.1 [61] [q.2] ++ (P.map rqE).flatMap pcwF) [] = _
      rw [h1, ih]; simp
  unfold lbTxt
  rw [List.map_cons]
  show outL (pcwR p.1 [61] [p.2] ++ (P.map rqE).flatMap pcwF) [] = _
  rw [h1, h2]
def eqnE (p : LP) : Eqn := ⟨[], p.1, [], [], p.2, []⟩
theorem eqnE_text (p : LP) : (eqnE p).text = kv p := by simp [eqnE, Eqn.text, Eqn.left, Eqn.right, kv]
theorem eqnE_ok {p : LP} (hp : FairP p) (hs : p.1.length + p.2.length ≤ 10000) : (eqnE p).Ok :=
  ⟨rfl, rfl, rfl, rfl, hp.1, hp.2.1, hp.2.2, by simp [eqnE, Eqn.left, Eqn.right]; omega⟩
theorem txt_pieces : ∀ (P : List LP) (p : LP), (∀ q ∈ p :: P, (44 : UInt8) ∉ kv q) → pieces 44 (kv p ++ P.flatMap (fun q => 44 :: kv q)) = (p :: P).map kv
  | [], p, h => by
    rw [List.flatMap_nil, List.append_nil, pc_none (h p List.mem_cons_self)]; rfl
  | q :: P, p, h => by
    rw [List.flatMap_cons, List.cons_append, pc_app _ (h p List.mem_cons_self), txt_pieces P q (fun x hx => h x (List.mem_cons_of_mem _ hx))]; rfl
theorem txt_len (p : LP) (P : List LP) : (lbTxt (p :: P)).length + 1 ≤ lbB (p :: P) := by
  rw [txt_cons]
  have h : ∀ P : List LP, (P.flatMap (fun q => 44 :: kv q)).length = lbB P := by
    intro P
    induction P with
    | nil => rfl
    | cons q P ih => rw [List.flatMap_cons, List.length_append, ih]; simp only [lbB, List.map_cons, List.sum_cons, kv, List.length_cons, List.length_append]; omega
  rw [List.length_append, h]
  simp only [lbB, List.map_cons, List.sum_cons, kv, List.length_cons, List.length_append]
  omega
theorem fairP_fair {p : LP} (h : FairP p) : fairR p.1 [61] [p.2] = true := by
  unfold fairR
  simp [opOk, h.1, h.2.1]
/-- What the text is: joined, without zeros, its tokens, what the parser makes of them. -/
theorem txt_facts {P : List LP} (hp : ∀ p ∈ P, FairP p) :
    joinB ⟨#[44]⟩ ((P.map kv).map mk) = mk (lbTxt P) ∧ (∀ b ∈ lbTxt P, b ≠ 0) ∧ tokensL (lbTxt P) = toksAll (P.map rqE) ++ [(1, [])] ∧ (toksAll (P.map rqE) ++ [(1, [])]).length ≤ 15 * P.length + 1 ∧
      (P.length + 1 ≤ (toksAll (P.map rqE) ++ [(1, [])]).length) ∧ pAll (toksAll (P.map rqE) ++ [(1, [])]).length (toksAll (P.map rqE) ++ [(1, [])]) = some (P.map rqE) := by
  have hw : ∀ r ∈ P.map rqE, FairW r := fun r hr => by
    obtain ⟨p, hm, rfl⟩ := List.mem_map.1 hr
    exact ⟨(fair_word (hp p hm)).1, fairP_fair (hp p hm)⟩
  have hset : (P.map rqE).map setR = P.map rqE := by rw [List.map_map]; rfl
  have hn : ∀ r ∈ P.map rqE, nz r.1 = true ∧ nz r.2.1 = true ∧ ∀ v ∈ r.2.2, nz v = true := fun r hr => by
    obtain ⟨p, hm, rfl⟩ := List.mem_map.1 hr
    obtain ⟨h1, h2, h3⟩ := fair_words (fairP_fair (hp p hm)) (fun v hv => by rw [List.mem_singleton.1 hv]; exact (hp p hm).2.2)
    exact ⟨h2, (by decide : nz [61] = true), h3⟩
  obtain ⟨k1, k2⟩ := okAllw_pcs (P.map rqE) (fun r hr => (hw r hr).1)
  have hl : P.length ≤ (toksAll (P.map rqE)).length := by have := toks_len (P.map rqE) (fun r hr => (hw r hr).1); rwa [List.length_map] at this
  refine ⟨?_, out_nz _ _ (nz_all (P.map rqE) hn).2, by unfold lbTxt; rw [tokens_pcs _ _ k1, k2], ?_, ?_, ?_⟩
  · have h1 := join_all (P.map rqE) (fun r hr => (hw r hr).1)
    rw [hset] at h1
    rw [← show joinB ⟨#[44]⟩ ((P.map rqE).map txtW) = mk (lbTxt P) from h1]
    congr 1
    rw [List.map_map, List.map_map]
    refine List.map_congr_left (fun p hm => ?_)
    show mk (kv p) = textM [61] (mk p.1) (joinB ⟨#[44]⟩ ((setL [p.2]).map mk))
    rw [setL_one, List.map_singleton, join_one]
    have := kv_app (mk p.1) (mk p.2)
    rw [show textM [61] (mk p.1) (mk p.2) = mk p.1 ++ ⟨#[61]⟩ ++ mk p.2 from rfl, this]; rfl
  · have := toksAll_len (P.map rqE) (fun r hr => by obtain ⟨p, _, rfl⟩ := List.mem_map.1 hr; show 1 ≤ 5; omega)
    rw [List.length_map] at this
    rw [List.length_append]; simp only [List.length_cons, List.length_nil]; omega
  · rw [List.length_append]; simp only [List.length_cons, List.length_nil]; omega
  · rw [pAll_toks (P.map rqE) _ hw (by rw [List.length_append, List.length_map]; simp only [List.length_cons, List.length_nil]; omega), hset]
theorem both_self (ls : List (ByteArray × ByteArray)) : bothV ls ((keyL (ls.map unP)).map mkP) = .tuple #[.bool false, .bool true, .bool true] := by
  rw [both_eq]
  have e0 : ((keyL (ls.map unP)).map mkP).map unP = keyL (ls.map unP) := by
    rw [List.map_map]; exact (List.map_congr_left (g := id) (fun p _ => unP_mkP p)).trans (List.map_id _)
  have e1 : keyL (keyL (ls.map unP)) = keyL (ls.map unP) := keyL_of_perm (List.Perm.refl _)
  have hg : ∀ p ∈ (keyL (ls.map unP)).map mkP, mget (labRev ((keyL (ls.map unP)).map mkP)) p.1.data.toList = some p.2.data.toList := by
    intro p hm
    obtain ⟨q, hq, rfl⟩ := List.mem_map.1 hm
    rw [labRev_key, labRev_un]
    exact ((keyL_mem (ls.map unP)).2 q.1 q.2).1 hq
  rw [show ((keyL (ls.map unP)).map mkP).any (FB (labRev ((keyL (ls.map unP)).map mkP))) = false from by
    rw [List.any_eq_false]; intro p hm; unfold FB; rw [hg p hm]; simp [cfV]]
  rw [e0, e1, show ((keyL (ls.map unP)).map mkP).all (GB (labRev ((keyL (ls.map unP)).map mkP))) = true from by
    rw [List.all_eq_true]; intro p hm; unfold GB; rw [hg p hm]; simp]
  simp
end Go.Proofs.YthfjolafikgpoaaGreatDoor.Hand

/- sort.Sort over requirements at any length: what Less and Swap do, sort.siftDown, sort.heapSort. (After the kit's one-cell walks of the interface family.) -/
namespace Go.Proofs.YthfjolafikgpoaaGreatDoor.Hand
open Go.RowKit Go.Maps Go.Proofs.YthfjolafikgpoaaGreatDoorW.PrintWords Go.Proofs.YthfjolafikgpoaaGreatDoorW.PrintLast Go.Proofs.YthfjolafikgpoaaGreatDoorW.PrintMore Go.Proofs.YthfjolafikgpoaaGreatDoor.Base
set_option linter.unusedVariables false
set_option linter.unusedSimpArgs false
set_option maxRecDepth 100000
open Go.Sort (ltStr SWO PermIn SortedIn swp size_swp siftDown heapSort sd_end sd_right_go sd_right_stop sd_left_go sd_left_stop)
set_option maxHeartbeats 4000000 in
theorem byk_swap1 (g n c : Nat) (W : World) (x0 x1 : ByteArray) (X : Option Addr) (xl xc : Nat) (i : Nat) (hi : i < n)
    (ci0 : W.cell? ⟨g, i * 3, none⟩ = some (.string x0)) (ci1 : W.cell? ⟨g, i * 3 + 1, none⟩ = some (.string x1)) (ci2 : W.cell? ⟨g, i * 3 + 2, none⟩ = some (.slice X xl xc))
    (fr : ∀ o, W.frozen? ⟨g, o, none⟩ = false) :
    Calls Tryz.prog 255 #[.slice (some ⟨g, 0, none⟩) n c, .int .i64 i, .int .i64 i] W fun e w' => e = .returned (.tuple #[]) ∧ ∃ q, w' = ((W.setCells g (i * 3) [.string x0, .string x1, .slice X xl xc]).setCells g (i * 3) [.string x0, .string x1, .slice X xl xc]).drewN q := by
  go_enter Tryz.func255, Tryz.ntmps255
  go_wp2
  go_region
  all_goals (try go_wp2)
  all_goals go_end0
  all_goals exact ⟨rfl, 1, rfl⟩
theorem byk_swapE {W0 W : World} {base g cap : Nat} {ok : Nat → Prop} {d : Array Rq} (h : QK W0 W base g cap ok d) (i : Nat) (hi : i < d.size) :
    Calls Tryz.prog 255 #[.slice (some ⟨g, 0, none⟩) d.size cap, .int .i64 i, .int .i64 i] W fun e w' => e = .returned (.tuple #[]) ∧ QK W0 w' base g cap ok (swp d i i) := by
  obtain ⟨vi, mi, ci0, ci1, ci2, fr⟩ := q_elem h.1 i hi (rq1 default)
  rw [rqV_getD d i hi] at ci0 ci1 mi
  have sl : ∀ {x v}, KQ.M W base (fun k => ok k ∧ k ≠ g) x [.string x.1, .string x.2.1, v] → ∃ A l c, v = .slice A l c := by
    rintro x v ⟨c0, c1, e, h0, c2, c3, rfl, h2, u, h3, hr⟩
    have e0 : c0 = [.string x.1] := h0
    have e2 : c2 = [.string x.2.1] := h2
    subst e0 e2 h3
    simp only [List.singleton_append, List.cons.injEq, and_true, true_and] at e
    subst e
    obtain ⟨A, c, e⟩ := Kd.R_slice hr
    exact ⟨A, _, c, e⟩
  obtain ⟨X, xl, xc, rfl⟩ := sl mi
  have hfr : ∀ o, W.frozen? ⟨g, o, none⟩ = false := by
    obtain ⟨cells, hc⟩ := own_typed (Kd.R_own h.1).choose_spec g (by simp [Value.ownBlock])
    exact fun o => blk_frozen hc o
  refine (byk_swap1 g d.size cap W _ _ X xl xc i hi ci0 ci1 ci2 hfr).mono ?_
  rintro e w' ⟨rfl, q, rfl⟩
  obtain ⟨h1, h2⟩ := row_swap h.1 hi hi mi mi rfl rfl
  refine ⟨rfl, ?_⟩
  rw [← rqV_swp d i i hi hi] at h1
  exact QK.below ⟨by rw [swp_size']; exact h1, gb_trans h.2 h2⟩ (pw_below_drewN (Below.refl _ _) q)
theorem less_q {W0 : World} {base g cap N : Nat} {ok : Nat → Prop} {dk : Array Rq} (hN : dk.size = N) (i j : Nat) (I J : Int) (eI : I = (i : Int)) (eJ : J = (j : Int)) (hi : i < N) (hj : j < N) (v : Bool) (hv : klt dk[i]! dk[j]! = v) (W : World) (h : QK W0 W base g cap ok dk) :
    Calls Tryz.prog 254 #[.slice (some ⟨g, 0, none⟩) N cap, .int .i64 I, .int .i64 J] W fun e w' => e = .returned (.bool v) ∧ QK W0 w' base g cap ok dk := by
  subst eI eJ hN hv
  exact byk_less h i j hi hj
theorem swap_q {W0 : World} {base g cap N : Nat} {ok : Nat → Prop} {dk : Array Rq} (hN : dk.size = N) (i j : Nat) (I J : Int) (eI : I = (i : Int)) (eJ : J = (j : Int)) (hi : i < N) (hj : j < N) (W : World) (h : QK W0 W base g cap ok dk) :
    Calls Tryz.prog 255 #[.slice (some ⟨g, 0, none⟩) N cap, .int .i64 I, .int .i64 J] W fun e w' => e = .returned (.tuple #[]) ∧ QK W0 w' base g cap ok (swp dk i j) := by
  subst eI eJ hN
  by_cases hne : i = j
  · subst hne; exact byk_swapE h i hi
  · exact byk_swap h i j hi hj hne
set_option maxHeartbeats 4000000 in
set_option maxRecDepth 1000000 in
theorem sift_q (g cap lo hi first N : Nat) (base : Nat) (ok : Nat → Prop) (d : Array Rq) (hN : d.size = N) (hlo : lo ≤ hi) (hb : first + hi ≤ N) (hsz : N < 4611686018427387904) (W0 w : World) (h : QK W0 w base g cap ok d) :
    Calls Tryz.prog 176 #[.iface 157 (.slice (some ⟨g, 0, none⟩) N cap), .int .i64 lo, .int .i64 hi, .int .i64 first] w fun e w' => e = .returned (.tuple #[]) ∧ QK W0 w' base g cap ok (siftDown klt hi first lo d) := by
  have mL : ∀ w, Sem.run Tryz.prog (method 390 157 (.slice (some ⟨g, 0, none⟩) N cap) "Less") w = .ok (254, .slice (some ⟨g, 0, none⟩) N cap) w := fun _ => by kernel_rfl
  have mS : ∀ w, Sem.run Tryz.prog (method 390 157 (.slice (some ⟨g, 0, none⟩) N cap) "Swap") w = .ok (255, .slice (some ⟨g, 0, none⟩) N cap) w := fun _ => by kernel_rfl
  go_enter Tryz.func176, Tryz.ntmps176
  go_wp2
  go_loopg [8] (hi - lo) (fun kx s8 wr => ∃ (root : Nat) (dk : Array Rq), s8 = .int .i64 root ∧ Aside0 (root ≤ hi ∧ hi - root ≤ kx) ∧ Aside0 (dk.size = N) ∧ Aside0 (QK W0 wr base g cap ok dk) ∧ Aside0 (siftDown klt hi first root dk = siftDown klt hi first lo d))
  case atStart => exact ⟨lo, d, rfl, ⟨hlo, Nat.le_refl _⟩, ⟨hN⟩, ⟨h⟩, ⟨rfl⟩⟩
  case round =>
    obtain ⟨root, dk, rfl, HRT, HDS, HQ, HE⟩ := hrel
    obtain ⟨hr, hkx⟩ := HRT.out
    have hds := HDS.out
    clear h hN
    by_cases h0 : hi ≤ 2 * root + 1
    · have h0z : (hi : Int) ≤ 2 * (root : Int) + 1 := by omega
      clear hds
      go_wp2
      go_end0
      refine ⟨rfl, ?_⟩
      rw [← HE.out, sd_end klt dk h0]
      exact HQ.out
    · have h0z : ¬ ((hi : Int) ≤ 2 * (root : Int) + 1) := by omega
      by_cases h1 : 2 * root + 2 < hi
      · have h1z : 2 * (root : Int) + 1 + 1 < (hi : Int) := by omega
        cases hL : klt dk[first + (2 * root + 1)]! dk[first + (2 * root + 2)]! with
        | true =>
          have HL1 := Aside0.mk (less_q (W0 := W0) (base := base) (g := g) (cap := cap) (ok := ok) hds (first + (2 * root + 1)) (first + (2 * root + 2)) ((first : Int) + (2 * (root : Int) + 1)) ((first : Int) + (2 * (root : Int) + 1) + 1) (by omega) (by omega) (by omega) (by omega) true hL)
          cases hG : klt dk[first + root]! dk[first + (2 * root + 2)]! with
          | true =>
            have HL2 := Aside0.mk (less_q (W0 := W0) (base := base) (g := g) (cap := cap) (ok := ok) hds (first + root) (first + (2 * root + 2)) ((first : Int) + (root : Int)) ((first : Int) + (2 * (root : Int) + 1 + 1)) (by omega) (by omega) (by omega) (by omega) true hG)
            have HS := Aside0.mk (swap_q (W0 := W0) (base := base) (g := g) (cap := cap) (ok := ok) hds (first + root) (first + (2 * root + 2)) ((first : Int) + (root : Int)) ((first : Int) + (2 * (root : Int) + 1 + 1)) (by omega) (by omega) (by omega) (by omega))
            have HE2 : Aside0 (siftDown klt hi first (2 * root + 2) (swp dk (first + root) (first + (2 * root + 2))) = siftDown klt hi first lo d) := ⟨by rw [← HE.out, sd_right_go klt dk h1 hL hG]⟩
            clear hL hG hds
            go_wp2_with (first | ((with_reducible refine (HL1.out _ HQ.out).mono ?_); rintro e w2 ⟨rfl, hq⟩; have HQ2 := Aside0.mk hq; clear hq HL1) | ((with_reducible refine (HL2.out _ HQ2.out).mono ?_); rintro e w3 ⟨rfl, hq⟩; have HQ3 := Aside0.mk hq; clear hq HL2) | ((with_reducible refine (HS.out _ HQ3.out).mono ?_); rintro e w4 ⟨rfl, hq⟩; have HQ4 := Aside0.mk hq; clear hq HS))
            go_roundg (hi - (2 * root + 2))
            case measure => omega
            case rel => exact ⟨2 * root + 2, swp dk (first + root) (first + (2 * root + 2)), by go_num, ⟨by omega, Nat.le_refl _⟩, ⟨by rw [size_swp]; exact HDS.out⟩, HQ4, HE2⟩
          | false =>
            have HL2 := Aside0.mk (less_q (W0 := W0) (base := base) (g := g) (cap := cap) (ok := ok) hds (first + root) (first + (2 * root + 2)) ((first : Int) + (root : Int)) ((first : Int) + (2 * (root : Int) + 1 + 1)) (by omega) (by omega) (by omega) (by omega) false hG)
            have HE2 : Aside0 (dk = siftDown klt hi first lo d) := ⟨by rw [← HE.out, sd_right_stop klt dk h1 hL hG]⟩
            clear hL hG hds
            go_wp2_with (first | ((with_reducible refine (HL1.out _ HQ.out).mono ?_); rintro e w2 ⟨rfl, hq⟩; have HQ2 := Aside0.mk hq; clear hq HL1) | ((with_reducible refine (HL2.out _ HQ2.out).mono ?_); rintro e w3 ⟨rfl, hq⟩; have HQ3 := Aside0.mk hq; clear hq HL2))
            (try simp only [Exit.inBlock, Exit.then]); refine bodyPost_ret (results_none rfl _ _ _) rfl ?_
            exact ⟨rfl, by rw [← HE2.out]; exact HQ3.out⟩
        | false =>
          have HL1 := Aside0.mk (less_q (W0 := W0) (base := base) (g := g) (cap := cap) (ok := ok) hds (first + (2 * root + 1)) (first + (2 * root + 2)) ((first : Int) + (2 * (root : Int) + 1)) ((first : Int) + (2 * (root : Int) + 1) + 1) (by omega) (by omega) (by omega) (by omega) false hL)
          cases hG : klt dk[first + root]! dk[first + (2 * root + 1)]! with
          | true =>
            have HL2 := Aside0.mk (less_q (W0 := W0) (base := base) (g := g) (cap := cap) (ok := ok) hds (first + root) (first + (2 * root + 1)) ((first : Int) + (root : Int)) ((first : Int) + (2 * (root : Int) + 1)) (by omega) (by omega) (by omega) (by omega) true hG)
            have HS := Aside0.mk (swap_q (W0 := W0) (base := base) (g := g) (cap := cap) (ok := ok) hds (first + root) (first + (2 * root + 1)) ((first : Int) + (root : Int)) ((first : Int) + (2 * (root : Int) + 1)) (by omega) (by omega) (by omega) (by omega))
            have HE2 : Aside0 (siftDown klt hi first (2 * root + 1) (swp dk (first + root) (first + (2 * root + 1))) = siftDown klt hi first lo d) := ⟨by rw [← HE.out, sd_left_go klt dk (by omega) (fun _ => hL) hG]⟩
            clear hL hG hds
            go_wp2_with (first | ((with_reducible refine (HL1.out _ HQ.out).mono ?_); rintro e w2 ⟨rfl, hq⟩; have HQ2 := Aside0.mk hq; clear hq HL1) | ((with_reducible refine (HL2.out _ HQ2.out).mono ?_); rintro e w3 ⟨rfl, hq⟩; have HQ3 := Aside0.mk hq; clear hq HL2) | ((with_reducible refine (HS.out _ HQ3.out).mono ?_); rintro e w4 ⟨rfl, hq⟩; have HQ4 := Aside0.mk hq; clear hq HS))
            go_roundg (hi - (2 * root + 1))
            case measure => omega
            case rel => exact ⟨2 * root + 1, swp dk (first + root) (first + (2 * root + 1)), by go_num, ⟨by omega, Nat.le_refl _⟩, ⟨by rw [size_swp]; exact HDS.out⟩, HQ4, HE2⟩
          | false =>
            have HL2 := Aside0.mk (less_q (W0 := W0) (base := base) (g := g) (cap := cap) (ok := ok) hds (first + root) (first + (2 * root + 1)) ((first : Int) + (root : Int)) ((first : Int) + (2 * (root : Int) + 1)) (by omega) (by omega) (by omega) (by omega) false hG)
            have HE2 : Aside0 (dk = siftDown klt hi first lo d) := ⟨by rw [← HE.out, sd_left_stop klt dk (by omega) (fun _ => hL) hG]⟩
            clear hL hG hds
            go_wp2_with (first | ((with_reducible refine (HL1.out _ HQ.out).mono ?_); rintro e w2 ⟨rfl, hq⟩; have HQ2 := Aside0.mk hq; clear hq HL1) | ((with_reducible refine (HL2.out _ HQ2.out).mono ?_); rintro e w3 ⟨rfl, hq⟩; have HQ3 := Aside0.mk hq; clear hq HL2))
            (try simp only [Exit.inBlock, Exit.then]); refine bodyPost_ret (results_none rfl _ _ _) rfl ?_
            exact ⟨rfl, by rw [← HE2.out]; exact HQ3.out⟩
      · have h1z : ¬ (2 * (root : Int) + 1 + 1 < (hi : Int)) := by omega
        cases hG : klt dk[first + root]! dk[first + (2 * root + 1)]! with
        | true =>
          have HL2 := Aside0.mk (less_q (W0 := W0) (base := base) (g := g) (cap := cap) (ok := ok) hds (first + root) (first + (2 * root + 1)) ((first : Int) + (root : Int)) ((first : Int) + (2 * (root : Int) + 1)) (by omega) (by omega) (by omega) (by omega) true hG)
          have HS := Aside0.mk (swap_q (W0 := W0) (base := base) (g := g) (cap := cap) (ok := ok) hds (first + root) (first + (2 * root + 1)) ((first : Int) + (root : Int)) ((first : Int) + (2 * (root : Int) + 1)) (by omega) (by omega) (by omega) (by omega))
          have HE2 : Aside0 (siftDown klt hi first (2 * root + 1) (swp dk (first + root) (first + (2 * root + 1))) = siftDown klt hi first lo d) := ⟨by rw [← HE.out, sd_left_go klt dk (by omega) (fun h => absurd h h1) hG]⟩
          clear hG hds
          go_wp2_with (first | ((with_reducible refine (HL2.out _ HQ.out).mono ?_); rintro e w3 ⟨rfl, hq⟩; have HQ3 := Aside0.mk hq; clear hq HL2) | ((with_reducible refine (HS.out _ HQ3.out).mono ?_); rintro e w4 ⟨rfl, hq⟩; have HQ4 := Aside0.mk hq; clear hq HS))
          go_roundg (hi - (2 * root + 1))
          case measure => omega
          case rel => exact ⟨2 * root + 1, swp dk (first + root) (first + (2 * root + 1)), by go_num, ⟨by omega, Nat.le_refl _⟩, ⟨by rw [size_swp]; exact HDS.out⟩, HQ4, HE2⟩
        | false =>
          have HL2 := Aside0.mk (less_q (W0 := W0) (base := base) (g := g) (cap := cap) (ok := ok) hds (first + root) (first + (2 * root + 1)) ((first : Int) + (root : Int)) ((first : Int) + (2 * (root : Int) + 1)) (by omega) (by omega) (by omega) (by omega) false hG)
          have HE2 : Aside0 (dk = siftDown klt hi first lo d) := ⟨by rw [← HE.out, sd_left_stop klt dk (by omega) (fun h => absurd h h1) hG]⟩
          clear hG hds
          go_wp2_with (first | ((with_reducible refine (HL2.out _ HQ.out).mono ?_); rintro e w3 ⟨rfl, hq⟩; have HQ3 := Aside0.mk hq; clear hq HL2))
          (try simp only [Exit.inBlock, Exit.then]); refine bodyPost_ret (results_none rfl _ _ _) rfl ?_
          exact ⟨rfl, by rw [← HE2.out]; exact HQ3.out⟩
end Go.Proofs.YthfjolafikgpoaaGreatDoor.Hand

/- sort.heapSort, sort.reverseRange over requirements. -/
namespace Go.Proofs.YthfjolafikgpoaaGreatDoor.Hand
open Go.RowKit Go.Maps Go.Proofs.YthfjolafikgpoaaGreatDoorW.PrintWords Go.Proofs.YthfjolafikgpoaaGreatDoorW.PrintLast Go.Proofs.YthfjolafikgpoaaGreatDoorW.PrintMore Go.Proofs.YthfjolafikgpoaaGreatDoor.Base
set_option linter.unusedVariables false
set_option linter.unusedSimpArgs false
set_option maxRecDepth 100000
open Go.Sort (ltStr SWO PermIn SortedIn swp size_swp siftDown heapSort heapBuild heapPop size_siftDown reverseRange reverseLoop)
set_option maxHeartbeats 4000000 in
set_option maxRecDepth 1000000 in
theorem heap_q (g cap a b N : Nat) (base : Nat) (ok : Nat → Prop) (d : Array Rq) (hN : d.size = N) (hab : a ≤ b) (hb : b ≤ N) (hsz : N < 4611686018427387904) (W0 w : World) (h : QK W0 w base g cap ok d) :
    Calls Tryz.prog 151 #[.iface 157 (.slice (some ⟨g, 0, none⟩) N cap), .int .i64 a, .int .i64 b] w fun e w' => e = .returned (.tuple #[]) ∧ QK W0 w' base g cap ok (heapSort klt d a b) := by
  have mS : ∀ w, Sem.run Tryz.prog (method 390 157 (.slice (some ⟨g, 0, none⟩) N cap) "Swap") w = .ok (255, .slice (some ⟨g, 0, none⟩) N cap) w := fun _ => by kernel_rfl
  have ecast : ((b - a : Nat) : Int) = (b : Int) - (a : Int) := by omega
  go_enter Tryz.func151, Tryz.ntmps151
  go_wp2
  go_loopg [9] ((b - a - 1) / 2 + 1) (fun kx s9 wr => s9 = .int .i64 ((kx : Int) - 1) ∧ Aside0 (kx ≤ (b - a - 1) / 2 + 1) ∧ ∃ (dk : Array Rq), Aside0 (dk.size = N) ∧ Aside0 (QK W0 wr base g cap ok dk) ∧ Aside0 (heapBuild klt (b - a) a kx dk = heapBuild klt (b - a) a ((b - a - 1) / 2 + 1) d))
  case atStart => exact ⟨by rw [half_start hab], ⟨Nat.le_refl _⟩, d, ⟨hN⟩, ⟨h⟩, ⟨rfl⟩⟩
  case round =>
    clear h
    obtain ⟨rfl, HKK, dk, HDS, HQ, HE⟩ := hrel
    have hkk := HKK.out
    cases gk with
    | zero =>
      have HBD : Aside0 (dk = heapBuild klt (b - a) a ((b - a - 1) / 2 + 1) d) := ⟨HE.out⟩
      clear HE hkk HKK
      go_wp2
      go_loopg [10] (b - a) (fun kx s10 wr2 => s10 = .int .i64 ((kx : Int) - 1) ∧ Aside0 (kx ≤ b - a) ∧ ∃ (dj : Array Rq), Aside0 (dj.size = N) ∧ Aside0 (QK W0 wr2 base g cap ok dj) ∧ Aside0 (heapPop klt a kx dj = heapPop klt a (b - a) dk))
      case atStart => exact ⟨by rw [ecast], ⟨Nat.le_refl _⟩, dk, HDS, HQ, ⟨rfl⟩⟩
      case round =>
        clear HQ
        obtain ⟨rfl, HKK, dj, HDJ, HQ, HE2⟩ := hrel
        have hkk := HKK.out
        cases gk with
        | zero =>
          have HEQ : Aside0 (dj = heapSort klt d a b) := ⟨by rw [heapSort, ← HBD.out, ← HE2.out]; rfl⟩
          go_wp2
          go_end0
          exact ⟨rfl, by rw [← HEQ.out]; exact HQ.out⟩
        | succ kx =>
          have HS := Aside0.mk (swap_q (W0 := W0) (base := base) (g := g) (cap := cap) (ok := ok) HDJ.out a (a + kx) (a : Int) ((a : Int) + (kx : Int)) rfl (by omega) (by omega) (by omega))
          have hd2 : (swp dj a (a + kx)).size = N := by rw [size_swp]; exact HDJ.out
          have HC := Aside0.mk (fun (W : World) (hq : QK W0 W base g cap ok (swp dj a (a + kx))) => sift_q g cap 0 kx a N base ok (swp dj a (a + kx)) hd2 (Nat.zero_le _) (by omega) hsz W0 W hq)
          rw [show ((0 : Nat) : Int) = 0 from rfl] at HC
          have HSS : Aside0 ((siftDown klt kx a 0 (swp dj a (a + kx))).size = N) := ⟨by rw [size_siftDown klt _ _ _ _ _ (Nat.le_refl _), hd2]⟩
          clear hd2
          go_wp2_with (first | ((with_reducible refine (HS.out _ HQ.out).mono ?_); rintro e w2 ⟨rfl, hq⟩; have HQ2 := Aside0.mk hq; clear hq HS) | ((with_reducible refine (HC.out _ HQ2.out).mono ?_); rintro e w3 ⟨rfl, hq⟩; have HQ3 := Aside0.mk hq; clear hq HC))
          go_roundg kx
          case measure => omega
          case rel => exact ⟨by simp, ⟨by omega⟩, siftDown klt kx a 0 (swp dj a (a + kx)), HSS, HQ3, HE2⟩
    | succ kx =>
      have HC := Aside0.mk (sift_q g cap kx (b - a) a N base ok dk HDS.out (by omega) (by omega) hsz W0 wr HQ.out)
      rw [ecast] at HC
      have HSS : Aside0 ((siftDown klt (b - a) a kx dk).size = N) := ⟨by rw [size_siftDown klt _ _ _ _ _ (Nat.le_refl _)]; exact HDS.out⟩
      go_wp2_with (first | ((with_reducible refine (HC.out).mono ?_); rintro e w3 ⟨rfl, hq⟩; have HQ3 := Aside0.mk hq; clear hq HC))
      go_roundg kx
      case measure => omega
      case rel => exact ⟨by simp, ⟨by omega⟩, siftDown klt (b - a) a kx dk, HSS, HQ3, HE⟩
set_option maxHeartbeats 4000000 in
theorem rev_q (g cap a b N : Nat) (base : Nat) (ok : Nat → Prop) (d : Array Rq) (hN : d.size = N) (hab : a ≤ b) (hb : b ≤ N) (hsz : N < 4611686018427387904) (W0 w : World) (h : QK W0 w base g cap ok d) :
    Calls Tryz.prog 154 #[.iface 157 (.slice (some ⟨g, 0, none⟩) N cap), .int .i64 a, .int .i64 b] w fun e w' => e = .returned (.tuple #[]) ∧ QK W0 w' base g cap ok (reverseRange d a b) ∧ (reverseRange d a b).size = N := by
  have mS : ∀ w, Sem.run Tryz.prog (method 390 157 (.slice (some ⟨g, 0, none⟩) N cap) "Swap") w = .ok (255, .slice (some ⟨g, 0, none⟩) N cap) w := fun _ => by kernel_rfl
  go_enter Tryz.func154, Tryz.ntmps154
  go_wp2
  go_loopg [6, 7] (b - a) (fun k s6 s7 wr => ∃ (i jn : Nat) (jz : Int) (dk : Array Rq), s6 = .int .i64 i ∧ s7 = .int .i64 jz ∧ Aside0 (((i : Int) < jz → jz = jn ∧ jn < N) ∧ (¬ (i : Int) < jz → ¬ i < jn) ∧ jn - i ≤ k) ∧ Aside0 (dk.size = N) ∧ Aside0 (QK W0 wr base g cap ok dk) ∧ Aside0 (reverseLoop i jn dk = reverseLoop a (b - 1) d))
  case atStart => exact ⟨a, b - 1, (b : Int) - 1, d, rfl, rfl, ⟨fun h => ⟨by omega, by omega⟩, fun h => by omega, by omega⟩, ⟨hN⟩, ⟨h⟩, ⟨rfl⟩⟩
  case round =>
    clear h
    obtain ⟨i, jn, jz, dk, rfl, rfl, H1, HDS, HQ, HE⟩ := hrel
    by_cases hlt : (i : Int) < jz
    · obtain ⟨rfl, hjn⟩ := H1.out.1 hlt
      have hij : i < jn := by omega
      have HS := Aside0.mk (swap_q (W0 := W0) (base := base) (g := g) (cap := cap) (ok := ok) HDS.out i jn (i : Int) (jn : Int) rfl rfl (by omega) hjn)
      have HE2 : Aside0 (reverseLoop (i + 1) (jn - 1) (swp dk i jn) = reverseLoop a (b - 1) d) := ⟨by have e := HE.out; rw [reverseLoop, if_pos hij] at e; exact e⟩
      go_wp2_with (first | ((with_reducible refine (HS.out _ HQ.out).mono ?_); rintro e w2 ⟨rfl, hq⟩; have HQ2 := Aside0.mk hq; clear hq HS))
      go_roundg (jn - 1 - (i + 1))
      case measure => have := H1.out.2.2; omega
      case rel => exact ⟨i + 1, jn - 1, (jn : Int) - 1, swp dk i jn, by simp, rfl, ⟨fun h => ⟨by omega, by omega⟩, fun h => by omega, Nat.le_refl _⟩, ⟨by rw [size_swp]; exact HDS.out⟩, HQ2, HE2⟩
    · have hnot := H1.out.2.1 hlt
      have HEQ : Aside0 (dk = reverseRange d a b) := ⟨by have e := HE.out; rw [reverseLoop, if_neg hnot] at e; rw [reverseRange, ← e]⟩
      clear hnot
      go_wp2
      go_end0
      exact ⟨rfl, by rw [← HEQ.out]; exact HQ.out, by rw [← HEQ.out]; exact HDS.out⟩
end Go.Proofs.YthfjolafikgpoaaGreatDoor.Hand
