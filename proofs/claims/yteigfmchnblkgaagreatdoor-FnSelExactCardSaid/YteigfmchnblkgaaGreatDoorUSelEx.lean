/- impl.SelectorExact. -/
import Derived.Test.YteigfmchnblkgaaGreatDoorUSelX
namespace Go.Proofs.YteigfmchnblkgaaGreatDoor.Hand
open Go.RowKit Go.Maps Go.Proofs.YteigfmchnblkgaaGreatDoorW.PrintWords Go.Proofs.YteigfmchnblkgaaGreatDoorW.PrintLast Go.Proofs.YteigfmchnblkgaaGreatDoorW.PrintMore Go.Proofs.YteigfmchnblkgaaGreatDoor.Base
set_option linter.unusedVariables false
set_option linter.unusedSimpArgs false
set_option maxRecDepth 100000
/-- Three results in blocks p, p + 1, p + 2, from the world w on. -/
structure E3 (w W : World) (p : Nat) (v b i : Value) : Prop where
  be : Below w.heap.size w W
  hp : w.heap.size ≤ p
  b0 : W.heap[p]? = some (.cells #[v] 9 (0, 0))
  b1 : W.heap[p + 1]? = some (.cells #[b] 4 (0, 0))
  b2 : W.heap[p + 2]? = some (.cells #[i] 3 (0, 0))
section
variable {w W W' : World} {p : Nat} {v b i : Value}
theorem E3.sv (h : E3 w W p v b i) (u : Value) : E3 w (W.setCell ⟨p, 0, none⟩ u) p u b i :=
  ⟨below_set h.be h.hp, h.hp, blk_put h.b0 0 u (cs' := #[u]) rfl, blk_far h.b1 (p := ⟨p, 0, none⟩) (show p + 1 ≠ p by omega) u, blk_far h.b2 (p := ⟨p, 0, none⟩) (show p + 2 ≠ p by omega) u⟩
theorem E3.sb (h : E3 w W p v b i) (u : Value) : E3 w (W.setCell ⟨p + 1, 0, none⟩ u) p v u i :=
  ⟨below_set h.be (by have := h.hp; omega), h.hp, blk_far h.b0 (p := ⟨p + 1, 0, none⟩) (show p ≠ p + 1 by omega) u, blk_put h.b1 0 u (cs' := #[u]) rfl, blk_far h.b2 (p := ⟨p + 1, 0, none⟩) (show p + 2 ≠ p + 1 by omega) u⟩
theorem E3.si (h : E3 w W p v b i) (u : Value) : E3 w (W.setCell ⟨p + 2, 0, none⟩ u) p v b u :=
  ⟨below_set h.be (by have := h.hp; omega), h.hp, blk_far h.b0 (p := ⟨p + 2, 0, none⟩) (show p ≠ p + 2 by omega) u, blk_far h.b1 (p := ⟨p + 2, 0, none⟩) (show p + 1 ≠ p + 2 by omega) u, blk_put h.b2 0 u (cs' := #[u]) rfl⟩
theorem E3.drew (h : E3 w W p v b i) : E3 w W.drew p v b i := ⟨below_drew1 h.be, h.hp, blk_drew h.b0, blk_drew h.b1, blk_drew h.b2⟩
theorem E3.mv (h : E3 w W p v b i) (hb : Below W.heap.size W W') : E3 w W' p v b i :=
  ⟨below_step h.be hb, h.hp, (hb.block _ (blk_lt h.b0)).trans h.b0, (hb.block _ (blk_lt h.b1)).trans h.b1, (hb.block _ (blk_lt h.b2)).trans h.b2⟩
theorem E3.c0 (h : E3 w W p v b i) : W.cell? ⟨p, 0, none⟩ = some v := (blk_cell h.b0 0).trans rfl
theorem E3.c1 (h : E3 w W p v b i) : W.cell? ⟨p + 1, 0, none⟩ = some b := (blk_cell h.b1 0).trans rfl
theorem E3.c2 (h : E3 w W p v b i) : W.cell? ⟨p + 2, 0, none⟩ = some i := (blk_cell h.b2 0).trans rfl
theorem E3.f0 (h : E3 w W p v b i) : W.frozen? ⟨p, 0, none⟩ = false := blk_frozen h.b0 0
theorem E3.f1 (h : E3 w W p v b i) : W.frozen? ⟨p + 1, 0, none⟩ = false := blk_frozen h.b1 0
theorem E3.f2 (h : E3 w W p v b i) : W.frozen? ⟨p + 2, 0, none⟩ = false := blk_frozen h.b2 0
theorem E3.all (h : E3 w W p v b i) : (W.cell? ⟨p, 0, none⟩ = some v ∧ W.cell? ⟨p + 1, 0, none⟩ = some b ∧ W.cell? ⟨p + 2, 0, none⟩ = some i ∧ W.frozen? ⟨p, 0, none⟩ = false ∧ W.frozen? ⟨p + 1, 0, none⟩ = false ∧ W.frozen? ⟨p + 2, 0, none⟩ = false) ∧ E3 w W p v b i :=
  ⟨⟨h.c0, h.c1, h.c2, h.f0, h.f1, h.f2⟩, h⟩
end
theorem E3.init (w : World) (v b i : Value) : E3 w (((w.alloc (.cells #[v] 9)).alloc (.cells #[b] 4)).alloc (.cells #[i] 3)) w.heap.size v b i := by
  have e1 : (w.alloc (.cells #[v] 9)).heap.size = w.heap.size + 1 := Array.size_push ..
  have e2 : ((w.alloc (.cells #[v] 9)).alloc (.cells #[b] 4)).heap.size = w.heap.size + 1 + 1 := by rw [← e1]; exact Array.size_push ..
  have h0 := blk_alloc (blk_alloc (heap_alloc_new w (.cells #[v] 9)) (.cells #[b] 4)) (.cells #[i] 3)
  have h1 := blk_alloc (heap_alloc_new (w.alloc (.cells #[v] 9)) (.cells #[b] 4)) (.cells #[i] 3)
  have h2 := heap_alloc_new ((w.alloc (.cells #[v] 9)).alloc (.cells #[b] 4)) (.cells #[i] 3)
  rw [e1] at h1
  rw [e2] at h2
  exact ⟨below_alloc (below_alloc (below_alloc (Below.refl _ _) _) _) _, Nat.le_refl _, h0, h1, h2⟩
theorem SEx_idle (p q r : Addr) (w : World) :
    CallsD Tryz.prog 63 #[.pointer (some p), .pointer (some q), .pointer (some r)] .returning w fun e u' w' => e = .returned (.tuple #[]) ∧ u' = .returning ∧ w' = w := by
  refine callsD_of_wpS Tryz.func63 rfl fun c₀ cs hu => ?_
  apply wpS_seq
  apply wpS_region
  simp [wpOpsS, go_sem, recoverD, hu, Tryz.ntmps63, Exit.thenS]
  refine wpS_cond (t := false) (by simp [Act.eval, Array.replicate]) ?_
  simp only [Bool.false_eq_true, if_false]
  refine wpS_of_wp (wp_skip ?_)
  cases c₀
  simp_all [bodyPostS, results, Tryz.results63]
def exB (r : Option L) : ByteArray × Bool := match r with | some v => (mk v, true) | none => (⟨#[]⟩, false)
theorem exV_eq (r : Option L) : exV r = .tuple #[.string (exB r).1, .bool (exB r).2] := by cases r <;> rfl
def exS (R : Option (List Rq)) (k : L) : ByteArray × Bool × Int := match R with | some l => ((exB (exactR l k)).1, (exB (exactR l k)).2, 0) | none => (⟨#[]⟩, false, 1)
set_option maxHeartbeats 8000000 in
theorem SEx_calls (x : L) (hx : x.length ≤ 2000) (h0 : ∀ b ∈ x, b ≠ 0) (T : List Tk) (hTx : tokensL x = T) (hT : T.length ≤ 900) (hS : ∀ l, pAll T.length T = some l → SortOK l)
    (lab : ByteArray) (hperm : ∀ l l', pAll T.length T = some l → l'.Perm l → exactR l' lab.data.toList = exactR l lab.data.toList) (w : World) (hT0 : TV w) :
    Calls Tryz.prog 31 #[.string (mk x), .string lab] w fun e w' => e = .returned (.tuple #[.string (exS (pAll T.length T) lab.data.toList).1, .bool (exS (pAll T.length T) lab.data.toList).2.1, .int .i64 (exS (pAll T.length T) lab.data.toList).2.2]) ∧ Below w.heap.size w w' := by
  have hmf : ∀ (fn : Fn) (first cap : Array Value) (w : World), (Instr.makeFunc fn first cap).run Tryz.prog w = .ok (.func fn first cap) w := fun _ _ _ _ => rfl
  have hE : EndsT T := by rw [← hTx]; exact tokens_ends x.length x (Nat.le_refl _)
  have hz : ∀ t ∈ T, t.2.length ≤ 1000000 := by rw [← hTx]; intro t ht; have := tokens_lit x.length x (Nat.le_refl _) t ht; omega
  have HPA := Aside0.mk (fun (W : World) (hb : Below w.heap.size w W) => Parse_calls x (by omega) h0 T hTx hT hS W (hT0.below hb))
  have HME := Aside0.mk (fun (l l' : List Rq) (hr : pAll T.length T = some l) (hp : l'.Perm l) (A : Option Addr) (c : Nat) (W : World) (hsp : ∀ ad, A = some ad → ad.spot = none) (hC : KQ.C W A l'.length (rqV l')) => ReqX_calls l' l'.length rfl (by
      have h1 := (pAll_sm hE hT hz T.length 0 l (by rw [List.drop_zero]; exact hr)).1; rw [hp.length_eq]; omega) lab A c W hsp hC)
  have hxs : (((mk x).size : Nat) : Int) ≤ 2000 := by rw [mk_size]; omega
  have g1 : (2000 < (((mk x).size : Nat) : Int)) = False := eq_false (by omega)
  have HE0 := Aside0.mk (E3.init w (.string ⟨#[]⟩) (.bool false) (.int .i64 0))
  obtain ⟨W3, hW3⟩ : ∃ W3, ((w.alloc (.cells #[.string ⟨#[]⟩] 9)).alloc (.cells #[.bool false] 4)).alloc (.cells #[.int .i64 0] 3) = W3 := ⟨_, rfl⟩
  rw [hW3] at HE0
  obtain ⟨sv, hsv⟩ : ∃ sv, mk x = sv := ⟨_, rfl⟩
  rw [hsv] at HPA hxs g1 ⊢
  clear hT0 hx h0 hTx hS hsv hE hz
  cases hR : pAll T.length T with
  | none =>
    rw [hR] at HPA
    clear HME hR hperm
    go_enter_defers Tryz.func31, Tryz.ntmps31
    go_upto_region 6 with (first | ((with_reducible refine (HPA.out _ HE0.out.be).mono ?_); rintro e w1 ⟨⟨v, rfl, gv, rfl⟩, hb⟩; have HE1 := Aside0.mk (HE0.out.mv hb); clear hb HPA))
    have HE2 := Aside0.mk (HE1.out.sv (.string ⟨#[]⟩))
    have HE3 := Aside0.mk (HE2.out.sb (.bool false))
    have HE4 := Aside0.mk (HE3.out.si (.int .i64 1))
    have a1 := HE1.out.c0
    have a2 := HE1.out.f0
    have a3 := HE2.out.c1
    have a4 := HE2.out.f1
    have a5 := HE3.out.c2
    have a6 := HE3.out.f2
    have a7 := HE4.out.c0
    have a8 := HE4.out.c1
    have a9 := HE4.out.c2
    go_wp2
    refine leaves_cons (f := 63) (args := #[.pointer (some ⟨w.heap.size, 0, none⟩), .pointer (some ⟨w.heap.size + 1, 0, none⟩), .pointer (some ⟨w.heap.size + 2, 0, none⟩)]) (by simp) (by simp [go_sem]) ?_
    refine (SEx_idle ⟨w.heap.size, 0, none⟩ ⟨w.heap.size + 1, 0, none⟩ ⟨w.heap.size + 2, 0, none⟩ _).mono ?_
    rintro e u' w'' ⟨rfl, rfl, rfl⟩
    simp [Leaves, settle, results, Tryz.results31, go_sem, a7, a8, a9, Result.andThen]
    exact ⟨⟨rfl, rfl, rfl⟩, HE4.out.be⟩
  | some l =>
    rw [hR] at HPA
    have HML := Aside0.mk (HME.out l · hR)
    have HPE := Aside0.mk (hperm l · hR)
    clear hR HME hperm
    go_enter_defers Tryz.func31, Tryz.ntmps31
    go_upto_region 7 with (first | ((with_reducible refine (HPA.out _ HE0.out.be).mono ?_); rintro e w1 ⟨⟨v, l', rfl, hp, ha, hR⟩, hb⟩; obtain ⟨A, c, rfl, hsp, hC⟩ := kq_slice hR; have HE1 := Aside0.mk (HE0.out.mv hb); have HC := Aside0.mk hC; have HSP := Aside0.mk hsp; have HPM := Aside0.mk hp; clear hb hp ha hR hC hsp HPA))
    have HM2 := Aside0.mk (HML.out l' HPM.out A c _ HSP.out HC.out)
    rw [HPE.out l' HPM.out, exV_eq] at HM2
    obtain ⟨u, hu⟩ : ∃ u, (exB (exactR l lab.data.toList)).1 = u := ⟨_, rfl⟩
    obtain ⟨t, ht⟩ : ∃ t, (exB (exactR l lab.data.toList)).2 = t := ⟨_, rfl⟩
    rw [hu, ht] at HM2
    have HRS : Aside0 (exS (some l) lab.data.toList = (u, t, 0)) := ⟨by rw [← hu, ← ht]; rfl⟩
    clear hu ht HML HPE HPM
    obtain ⟨n, hn⟩ : ∃ n, l'.length = n := ⟨_, rfl⟩
    rw [hn] at HM2 ⊢
    clear hn
    have na1 : ∀ w : World, (nilAhead 380 119 (.slice A n c) "RequiresExactMatch").run Tryz.prog w = .ok (some false) w := fun _ => by kernel_rfl
    have me1 : ∀ w : World, (method 380 119 (.slice A n c) "RequiresExactMatch").run Tryz.prog w = .ok (240, .slice A n c) w := fun _ => by kernel_rfl
    have HE2 := Aside0.mk (HE1.out.sv (.string u))
    have HE3 := Aside0.mk (HE2.out.sb (.bool t))
    have a1 := HE1.out.c0
    have a2 := HE1.out.f0
    have a3 := HE2.out.c1
    have a4 := HE2.out.f1
    go_upto_region 8 with (first | ((with_reducible refine (HM2.out).mono ?_); rintro e w2 ⟨rfl, rfl⟩))
    obtain ⟨W7, hW7⟩ : ∃ W7, (w1.setCell ⟨w.heap.size, 0, none⟩ (.string u)).setCell ⟨w.heap.size + 1, 0, none⟩ (.bool t) = W7 := ⟨_, rfl⟩
    rw [hW7] at HE3 ⊢
    clear hW7 a1 a2 a3 a4
    have HA7 := Aside0.mk HE3.out.all
    go_region_held3 (fun W => (W.cell? ⟨w.heap.size, 0, none⟩ = some (.string u) ∧ W.cell? ⟨w.heap.size + 1, 0, none⟩ = some (.bool t) ∧ W.cell? ⟨w.heap.size + 2, 0, none⟩ = some (.int .i64 0) ∧ W.frozen? ⟨w.heap.size, 0, none⟩ = false ∧ W.frozen? ⟨w.heap.size + 1, 0, none⟩ = false ∧ W.frozen? ⟨w.heap.size + 2, 0, none⟩ = false) ∧ E3 w W w.heap.size (.string u) (.bool t) (.int .i64 0)) ((refine E3.all ?_; repeat (first | exact HE3.out | refine E3.drew ?_ | refine E3.sv (v := .string u) ?_ (.string u) | refine E3.sb (b := .bool t) ?_ (.bool t) | refine E3.si (i := .int .i64 0) ?_ (.int .i64 0)))) (fail)
    have HEF := Aside0.mk ((((HE3.out.sv (.string u)).sb (.bool t)).si (.int .i64 0)).drew)
    go_wp2
    refine leaves_cons (f := 63) (args := #[.pointer (some ⟨w.heap.size, 0, none⟩), .pointer (some ⟨w.heap.size + 1, 0, none⟩), .pointer (some ⟨w.heap.size + 2, 0, none⟩)]) (by simp) (by simp [go_sem]) ?_
    refine (SEx_idle ⟨w.heap.size, 0, none⟩ ⟨w.heap.size + 1, 0, none⟩ ⟨w.heap.size + 2, 0, none⟩ _).mono ?_
    rintro e u' w'' ⟨rfl, rfl, rfl⟩
    have a7 := HEF.out.c0
    have a8 := HEF.out.c1
    have a9 := HEF.out.c2
    have a10 : ((((W7.setCell ⟨w.heap.size, 0, none⟩ (.string u)).setCell ⟨w.heap.size + 1, 0, none⟩ (.bool t)).setCell ⟨w.heap.size + 1 + 1, 0, none⟩ (.int .i64 0)).drew).cell? ⟨w.heap.size + 1 + 1, 0, none⟩ = some (.int .i64 0) := a9
    rw [HRS.out]
    simp [Leaves, settle, results, Tryz.results31, go_sem, a7, a8, a9, a10, Result.andThen]
    exact HEF.out.be
end Go.Proofs.YteigfmchnblkgaaGreatDoor.Hand
