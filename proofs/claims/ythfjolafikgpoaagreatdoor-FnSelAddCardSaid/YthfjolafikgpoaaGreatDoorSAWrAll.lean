/- spec.WrittenAll: requirements as the text of a selector. -/
import Derived.Test.YthfjolafikgpoaaGreatDoorSAM29
import Derived.Test.YthfjolafikgpoaaGreatDoorSAM30
import Derived.Test.YthfjolafikgpoaaGreatDoorSALabSetOf
namespace Go.Proofs.YthfjolafikgpoaaGreatDoor.Hand
open Go.RowKit Go.Maps Go.Proofs.YthfjolafikgpoaaGreatDoorW.PrintWords Go.Proofs.YthfjolafikgpoaaGreatDoorW.PrintLast Go.Proofs.YthfjolafikgpoaaGreatDoorW.PrintMore Go.Proofs.YthfjolafikgpoaaGreatDoor.Base
set_option linter.unusedVariables false
set_option linter.unusedSimpArgs false
set_option maxRecDepth 100000
theorem mk_app_ (a b : L) : mk (a ++ b) = mk a ++ mk b := by apply ByteArray.ext; simp [mk, ByteArray.data_append]
def txtW (r : Rq) : ByteArray := textM r.2.1 (mk r.1) (joinB ⟨#[44]⟩ ((setL r.2.2).map mk))
theorem join_pcw (vs : List L) (cs : L) : joinB ⟨#[44]⟩ (vs.map mk) = mk (outL (pcwV vs) cs) := by
 cases vs with
 | nil => rfl
 | cons v r =>
   have h : ∀ (r : List L) (a : L), (r.map mk).foldl (fun x s => x ++ ⟨#[44]⟩ ++ s) (mk a) = mk (a ++ outL (r.flatMap fun s => [.str [44], .str s]) cs) := by
    intro r
    induction r with
    | nil => intro a; simp [outL]
    | cons s r ih =>
      intro a
      have e : mk a ++ (⟨#[44]⟩ : ByteArray) ++ mk s = mk (a ++ [44] ++ s) := by rw [mk_app_, mk_app_]; rfl
      show (r.map mk).foldl _ (mk a ++ ⟨#[44]⟩ ++ mk s) = _
      rw [e, ih]
      congr 1
      rw [List.flatMap_cons]
      show _ = a ++ ([44] ++ (s ++ outL (r.flatMap fun s => [.str [44], .str s]) cs))
      simp only [List.append_assoc]
   show (r.map mk).foldl _ (ByteArray.empty ++ mk v) = mk (v ++ outL (r.flatMap fun s => [.str [44], .str s]) cs)
   rw [ByteArray.empty_append, h]
theorem txtW_out {r : Rq} (hw : WordR r.1 r.2.1 (setL r.2.2)) (cs : L) : txtW r = mk (outL (pcwR r.1 r.2.1 (setL r.2.2)) cs) := by
 unfold txtW
 rw [join_pcw _ cs]
 rcases hw.o with e | e | e | e
 · rw [e]; show mk [33] ++ mk r.1 = mk ([33] ++ (r.1 ++ [])); rw [List.append_nil, mk_app_]
 · rw [e]; show mk r.1 = mk (r.1 ++ []); rw [List.append_nil]
 · rcases e with e | e
   · rw [e]
     have e2 : outL (pcwR r.1 [105, 110] (setL r.2.2)) cs = r.1 ++ ([32] ++ ([105, 110] ++ ([32] ++ ([40] ++ [])))) ++ (outL (pcwV (setL r.2.2)) cs ++ ([41] ++ [])) := by
      unfold pcwR
      rw [if_neg (by decide), if_neg (by decide), if_pos (.inl rfl), outL_app, outL_app]
      rfl
     rw [e2]
     show mk r.1 ++ mk [32, 105, 110, 32] ++ mk [40] ++ mk (outL (pcwV (setL r.2.2)) cs) ++ mk [41] = _
     rw [← mk_app_, ← mk_app_, ← mk_app_, ← mk_app_]
     simp
   · rw [e]
     have e2 : outL (pcwR r.1 [110, 111, 116, 105, 110] (setL r.2.2)) cs = r.1 ++ ([32] ++ ([110, 111, 116, 105, 110] ++ ([32] ++ ([40] ++ [])))) ++ (outL (pcwV (setL r.2.2)) cs ++ ([41] ++ [])) := by
      unfold pcwR
      rw [if_neg (by decide), if_neg (by decide), if_pos (.inr rfl), outL_app, outL_app]
      rfl
     rw [e2]
     show mk r.1 ++ mk [32, 110, 111, 116, 105, 110, 32] ++ mk [40] ++ mk (outL (pcwV (setL r.2.2)) cs) ++ mk [41] = _
     rw [← mk_app_, ← mk_app_, ← mk_app_, ← mk_app_]
     simp
 · obtain ⟨x, hx⟩ := hw.n e
   rw [hx]
   have e3 : outL (pcwV [x]) cs = x := by show x ++ [] = x; rw [List.append_nil]
   rw [e3]
   rcases e with e | e | e | e | e
   · rw [e]; show mk r.1 ++ mk [62] ++ mk x = mk (r.1 ++ ([62] ++ (x ++ []))); rw [← mk_app_, ← mk_app_]; simp
   · rw [e]; show mk r.1 ++ mk [60] ++ mk x = mk (r.1 ++ ([60] ++ (x ++ []))); rw [← mk_app_, ← mk_app_]; simp
   · rw [e]; show mk r.1 ++ mk [61] ++ mk x = mk (r.1 ++ ([61] ++ (x ++ []))); rw [← mk_app_, ← mk_app_]; simp
   · rw [e]; show mk r.1 ++ mk [61, 61] ++ mk x = mk (r.1 ++ ([61, 61] ++ (x ++ []))); rw [← mk_app_, ← mk_app_]; simp
   · rw [e]; show mk r.1 ++ mk [33, 61] ++ mk x = mk (r.1 ++ ([33, 61] ++ (x ++ []))); rw [← mk_app_, ← mk_app_]; simp
theorem word_set {key op : L} {vs : List L} (h : WordR key op vs) : WordR key op (setL vs) := by
 refine ⟨h.k, fun x hx => h.v x ((setL_mem vs x).1 hx), h.o, fun e => ?_, fun e e2 => ?_⟩
 · obtain ⟨x, rfl⟩ := h.n e; exact ⟨x, rfl⟩
 · have := setL_isEmpty vs
   rw [e2] at this
   exact h.m e (by simpa using this.symm)
theorem join_all (l : List Rq) (hw : ∀ r ∈ l, WordR r.1 r.2.1 r.2.2) : joinB ⟨#[44]⟩ (l.map txtW) = mk (outL (pcwAll (l.map setR)) []) := by
 cases l with
 | nil => rfl
 | cons r0 l =>
   have hg : ∀ (ps : List Pc) (cs : L), restL ps cs = cs ∨ True := fun _ _ => .inr trivial
   have h : ∀ (l : List Rq) (a : L) (cs : L), (∀ r ∈ l, WordR r.1 r.2.1 r.2.2) → (l.map txtW).foldl (fun x s => x ++ ⟨#[44]⟩ ++ s) (mk a) = mk (a ++ outL ((l.map setR).flatMap pcwF) cs) := by
    intro l
    induction l with
    | nil => intro a cs _; simp [outL]
    | cons s l ih =>
      intro a cs hw
      have hs := txtW_out (word_set (hw s (List.mem_cons_self ..))) cs
      have e : mk a ++ (⟨#[44]⟩ : ByteArray) ++ txtW s = mk (a ++ [44] ++ outL (pcwR s.1 s.2.1 (setL s.2.2)) cs) := by rw [mk_app_, mk_app_, hs]; rfl
      show (l.map txtW).foldl _ (mk a ++ ⟨#[44]⟩ ++ txtW s) = _
      rw [e, ih _ (restL (pcwF (setR s)) cs) (fun x hx => hw x (List.mem_cons_of_mem _ hx))]
      congr 1
      rw [List.map_cons, List.flatMap_cons, outL_app]
      show _ = a ++ (([44] ++ outL (pcwR s.1 s.2.1 (setL s.2.2)) cs) ++ _)
      simp only [List.append_assoc]
   have h0 := txtW_out (word_set (hw r0 (List.mem_cons_self ..))) []
   show (l.map txtW).foldl _ (ByteArray.empty ++ txtW r0) = mk (outL (pcwR r0.1 r0.2.1 (setL r0.2.2) ++ (l.map setR).flatMap pcwF) [])
   rw [ByteArray.empty_append, h0, h l _ (restL (pcwR r0.1 r0.2.1 (setL r0.2.2)) []) (fun x hx => hw x (List.mem_cons_of_mem _ hx)), outL_app]
theorem totL_bound (M : Nat) : ∀ (vs : List L), (∀ v ∈ vs, v.length ≤ M) → totL vs ≤ M * vs.length
 | [], _ => Nat.le_refl _
 | v :: vs, h => by
   have h1 := totL_bound M vs fun x hx => h x (List.mem_cons_of_mem _ hx)
   have h2 := h v (List.mem_cons_self ..)
   show v.length + totL vs ≤ M * (vs.length + 1)
   rw [Nat.mul_add]; omega
theorem txtW_size {r : Rq} (hw : WordR r.1 r.2.1 r.2.2) (hk : r.1.length ≤ 700) (h5 : r.2.2.length ≤ 5) (hv : ∀ v ∈ r.2.2, v.length ≤ 700) : (txtW r).size ≤ 10000 := by
 have hs := word_set hw
 rw [txtW_out hs []]
 have h1 := out_sz (pcwR r.1 r.2.1 (setL r.2.2)) []
 have h2 := sz_reqw hs
 have h3 := setL_len r.2.2
 have h4 := totL_bound 700 (setL r.2.2) fun v h => hv v ((setL_mem _ _).1 h)
 have h6 : 700 * (setL r.2.2).length ≤ 700 * 5 := Nat.mul_le_mul (Nat.le_refl _) (by omega)
 show (outL (pcwR r.1 r.2.1 (setL r.2.2)) []).length ≤ _
 omega
set_option maxHeartbeats 8000000 in
theorem WrittenAll_calls (l : List Rq) (N : Nat) (hN : l.length = N) (hN2 : N ≤ 200) (hw : ∀ r ∈ l, FairW r) (hz : ∀ r ∈ l, r.1.length ≤ 700 ∧ r.2.2.length ≤ 5 ∧ ∀ v ∈ r.2.2, v.length ≤ 700) (AQ : Option Addr) (cq : Nat) (w : World) (hQ : KQ.C w AQ N (rqV l)) :
   Calls Tryz.prog 18 #[.slice AQ N cq] w fun e w' => e = .returned (.string (mk (outL (pcwAll (l.map setR)) []))) ∧ Below w.heap.size w w' := by
 have HQ := Aside0.mk hQ
 have HN := Aside0.mk hN
 have HB0 := Aside0.mk (Below.refl w.heap.size w)
 have HWR : Aside0 (∀ r ∈ l, ∀ (AV : Option Addr) (cv nv : Nat), r.2.2.length = nv → nv ≤ cv → ∀ W, Kd.C Kd.string W AV nv (r.2.2.map mk) → Calls Tryz.prog 51 #[.agg #[.string (mk r.1), .string (mk r.2.1), .slice AV nv cv]] W fun e w' => e = .returned (.string (txtW r)) ∧ Below W.heap.size W w') := ⟨fun r hr AV cv nv hnv hnc W hC => by
  obtain ⟨z1, z2, z3⟩ := hz r hr
  have hf := (hw r hr).2
  unfold fairR at hf
  simp only [Bool.and_eq_true] at hf
  have := Written_calls (mk r.1) (mk r.2.1) (by rw [mk_size]; omega) cv nv (r.2.2.map mk) (by rw [List.length_map, hnv]) (by omega) hnc (fun v hv => by
   obtain ⟨x, hx, rfl⟩ := List.mem_map.1 hv
   rw [mk_size]; have := z3 x hx; omega) AV W hC (by rw [vL_mk]; exact hf.1)
  rw [vL_mk] at this
  exact this⟩
 have HJO : Aside0 (∀ (A' : Option Addr) (c' : Nat) W, Kd.C Kd.string W A' N (l.map txtW) → Calls Tryz.prog 48 #[.slice A' N c', .string ⟨#[44]⟩] W fun e w' => e = .returned (.string (mk (outL (pcwAll (l.map setR)) []))) ∧ W = w') := ⟨fun A' c' W h => by
  have := joined_calls ⟨#[44]⟩ (by decide) A' c' N (l.map txtW) (by rw [List.length_map, hN]) (by omega) (fun p hp => by
   obtain ⟨r, hr, rfl⟩ := List.mem_map.1 hp
   obtain ⟨z1, z2, z3⟩ := hz r hr
   exact txtW_size (hw r hr).1 z1 z2 z3) W h
  rwa [join_all l fun r hr => (hw r hr).1] at this⟩
 clear hQ hN hw hz
 go_enter Tryz.func18, Tryz.ntmps18
 go_wp2
 go_loopg [3, 8] (N) (fun k v3 v8 w' => ∃ j : Nat, v8 = .int .i64 j ∧ Aside0 (k + j = N) ∧ Aside0 (Kd.R Kd.string 9 w' w.heap.size (fun _ => True) v3 ((l.take j).map txtW)) ∧ Aside0 (Below w.heap.size w w'))
 case atStart => exact ⟨0, rfl, ⟨by omega⟩, ⟨Kd.R_nil ..⟩, HB0⟩
 case round =>
  obtain ⟨j, rfl, HJ, HR, HB⟩ := hrel
  by_cases hjn : j < N
  · obtain ⟨r, hr⟩ : ∃ r, l[j]? = some r := ⟨_, List.getElem?_eq_getElem (by rw [HN.out]; exact hjn)⟩
    obtain ⟨aq, AV, cv, rfl, r0, r1, r2, hnc, hCV⟩ := kq_at2 (Kd.C_below HQ.out HB.out) j hjn r hr
    obtain ⟨nv, hnv⟩ : ∃ nv, r.2.2.length = nv := ⟨_, rfl⟩
    rw [hnv] at r2 hCV hnc
    have hbk := heap_alloc_new wr (.cells #[.string (mk r.1), .string (mk r.2.1), .slice AV nv cv] 53)
    have hBA := below_alloc (Below.refl wr.heap.size wr) (.cells #[.string (mk r.1), .string (mk r.2.1), .slice AV nv cv] 53)
    have d0 := (blk_cell hbk 0).trans (show _ = some (Value.string (mk r.1)) from rfl)
    have d1 := (blk_cell hbk 1).trans (show _ = some (Value.string (mk r.2.1)) from rfl)
    have d2 := (blk_cell hbk 2).trans (show _ = some (Value.slice AV nv cv) from rfl)
    have HW := Aside0.mk (HWR.out r (List.mem_of_getElem? hr) AV cv nv hnv hnc _ (Kd.C_below hCV hBA))
    have HNEW : Aside0 ((l.take j).map txtW ++ [txtW r] = (l.take (j + 1)).map txtW) := ⟨by rw [List.take_add_one, hr]; simp⟩
    have HLEN : Aside0 (((l.take j).map txtW).length ≤ 200) := ⟨by rw [List.length_map, List.length_take]; omega⟩
    obtain ⟨xs, hxs⟩ : ∃ xs, (l.take j).map txtW = xs := ⟨_, rfl⟩
    obtain ⟨p, hp⟩ : ∃ p, txtW r = p := ⟨_, rfl⟩
    rw [hp] at HW HNEW
    rw [hxs] at HR HNEW HLEN
    have HB1 := Aside0.mk (below_alloc HB.out (.cells #[.string (mk r.1), .string (mk r.2.1), .slice AV nv cv] 53))
    clear hr hbk hBA hCV hnc hnv hxs hp HB
    have HB := HB1
    clear HB1
    obtain ⟨nr, hnr⟩ : ∃ nr, nr = HR := ⟨_, rfl⟩
    clear hnr nr
    go_wp2_with (first | ((with_reducible refine (HW.out).mono ?_); rintro e w2 ⟨rfl, hb⟩; have nr_ := Aside0.mk (Kd.R_below (Kd.R_alloc HR.out _) hb); clear HR; have HR := nr_; have nb_ := Aside0.mk (below_step HB.out hb); clear HB; have HB := nb_; clear nr_ nb_ hb HW) | ((with_reducible refine gate_builtin (b := .append) (xs := #[.tmp 12, .tmp 15]) rfl ?_); (try (refine gate_guard (by rfl) ?_; dsimp only)); at_builtin; refine Kd.R_append Kd.string (w0 := w) w.heap.size rfl (.tmp 12) (.tmp 15) 51 9 (.string ⟨#[]⟩) 16 rfl Tryz.underlying51 infoS rfl (by decide) (by omega) u3 (xs) (p) [.string (p)] (fun _ => True) (fun _ => False) rfl rfl ?aP (fun _ hk => hk.elim) ?aF ?aO ?aB ?aS ?aL ?_; (case aP => exact rfl); (case aB => exact (by repeat (first | (with_reducible first | exact HB.out | apply below_alloc | apply pw_below_drewN | apply below_drew1) | exact HB.out))); (case aF => exact (fun _ _ => trivial)); (case aO => exact (by (with_reducible repeat (first | apply Kd.R_alloc | apply Kd.R_drewN | apply Kd.R_drew)); exact HR.out)); (case aS => exact (below_size (by repeat (first | (with_reducible first | exact HB.out | apply below_alloc | apply pw_below_drewN | apply below_drew1) | exact HB.out)))); (case aL => have := HLEN.out; (try simp only [List.length_map, List.length_nil] at *); omega); intro vN wN ho hb hg hat; rw [HNEW.out] at ho; clear HB; clear HR; have HB := Aside0.mk hb; have HR := Aside0.mk ho; clear ho hb hg hat))
    go_roundg (N - (j + 1))
    case measure => have := HJ.out; omega
    case rel => exact ⟨j + 1, by go_num, ⟨by omega⟩, HR, HB⟩
  · have hje : j = N := by have := HJ.out; omega
    have hR := HR.out
    rw [List.take_of_length_le (by rw [HN.out, hje]; exact Nat.le_refl _)] at hR
    obtain ⟨A', c', e'⟩ := Kd.R_slice hR
    rw [List.length_map, HN.out] at e'
    subst e'
    have HC := Aside0.mk (Kd.R_reads' hR).2.2
    rw [List.length_map, HN.out] at HC
    clear hR HR hje
    go_wp2_with (first | ((with_reducible refine (HJO.out _ _ _ HC.out).mono ?_); rintro e w2 ⟨rfl, rfl⟩))
    go_ret
    exact ⟨rfl, HB.out⟩
end Go.Proofs.YthfjolafikgpoaaGreatDoor.Hand
