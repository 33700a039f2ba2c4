/- impl.SelectorAdd; a selector's text of requirements whose values differ. (Printed by selad.py.) -/
import Derived.Test.YthfjolafikgpoaaGreatDoorSAM32
import Derived.Test.YthfjolafikgpoaaGreatDoorSAM29
import Derived.Test.YthfjolafikgpoaaGreatDoorSAGParC
import Derived.BigQuiet
import Derived.Test.YthfjolafikgpoaaGreatDoorSAM23
import Derived.Test.YthfjolafikgpoaaGreatDoorSAM30
import Derived.Test.YthfjolafikgpoaaGreatDoorSAWrAll
namespace Go.Proofs.YthfjolafikgpoaaGreatDoor.Hand
open Go.RowKit Go.Maps Go.Proofs.YthfjolafikgpoaaGreatDoorW.PrintWords Go.Proofs.YthfjolafikgpoaaGreatDoorW.PrintLast Go.Proofs.YthfjolafikgpoaaGreatDoorW.PrintMore Go.Proofs.YthfjolafikgpoaaGreatDoor.Base
set_option linter.unusedVariables false
set_option linter.unusedSimpArgs false
set_option maxRecDepth 100000
structure RqW (r : Rq) : Prop where
 k : r.1.length ≤ 400
 n : r.2.2.length ≤ 900
 v : ∀ v ∈ r.2.2, v.length ≤ 63
 f : fairR r.1 r.2.1 r.2.2 = true
 d : (setL r.2.2).length = r.2.2.length
theorem RqW.o {r : Rq} (h : RqW r) : opOk r.2.1 r.2.2 = true := by
 have := h.f
 unfold fairR at this
 rw [Bool.and_eq_true] at this
 exact this.1
theorem txtW_sizeW {r : Rq} (h : RqW r) : (txtW r).size ≤ 100000 := by
 have h1 := joinB_size ⟨#[44]⟩ 63 ((setL r.2.2).map mk) (fun p hp => by obtain ⟨x, hx, rfl⟩ := List.mem_map.1 hp; rw [mk_size]; exact h.v x ((setL_mem _ _).1 hx))
 have h2 : r.2.1.length ≤ 10 := by
  rcases fair_op h.f with e | e | e | e | e | e | e | e | e <;> rw [e] <;> decide
 have h3 := textM_size r.2.1 (mk r.1) (joinB ⟨#[44]⟩ ((setL r.2.2).map mk)) h2
 have h4 := h.k
 have h5 := h.n
 have h7 := h.d
 rw [List.length_map] at h1
 have h6 : (setL r.2.2).length * (63 + (⟨#[44]⟩ : ByteArray).size) ≤ 900 * 64 := Nat.mul_le_mul (by omega) (by decide)
 rw [mk_size] at h3
 show (textM _ _ _).size ≤ _
 omega
structure E3 (w W : World) (p : Nat) (v b i : Value) : Prop where
 be : Below w.heap.size w W
 hp : w.heap.size ≤ p
 b0 : W.heap[p]? = some (.cells #[v] 9 (0, 0))
 b1 : W.heap[p + 1]? = some (.cells #[b] 4 (0, 0))
 b2 : W.heap[p + 2]? = some (.cells #[i] 3 (0, 0))
section
variable {w W W' : World} {p : Nat} {v b i : Value}
theorem E3.sv (h : E3 w W p v b i) (u : Value) : E3 w (W.setCell ⟨p, 0, none⟩ u) p u b i :=
 ⟨below_set h.be h.hp, h.hp, blk_put h.b0 0 u (cs' := #[u]) rfl, blk_far h.b1 (p := ⟨p, 0, none⟩) (show p + 1 ≠ p by omega) u, blk_far h.b2 (p := ⟨p, 0, none⟩) (show p + 2 ≠ p by omega) u⟩
theorem E3.sb (h : E3 w W p v b i) (u : Value) : E3 w (W.setCell ⟨p + 1, 0, none⟩ u) p v u i :=
 ⟨below_set h.be (by have := h.hp; omega), h.hp, blk_far h.b0 (p := ⟨p + 1, 0, none⟩) (show p ≠ p + 1 by omega) u, blk_put h.b1 0 u (cs' := #[u]) rfl, blk_far h.b2 (p := ⟨p + 1, 0, none⟩) (show p + 2 ≠ p + 1 by omega) u⟩
theorem E3.si (h : E3 w W p v b i) (u : Value) : E3 w (W.setCell ⟨p + 2, 0, none⟩ u) p v b u :=
 ⟨below_set h.be (by have := h.hp; omega), h.hp, blk_far h.b0 (p := ⟨p + 2, 0, none⟩) (show p ≠ p + 2 by omega) u, blk_far h.b1 (p := ⟨p + 2, 0, none⟩) (show p + 1 ≠ p + 2 by omega) u, blk_put h.b2 0 u (cs' := #[u]) rfl⟩
theorem E3.mv (h : E3 w W p v b i) (hb : Below W.heap.size W W') : E3 w W' p v b i :=
 ⟨below_step h.be hb, h.hp, (hb.block _ (blk_lt h.b0)).trans h.b0, (hb.block _ (blk_lt h.b1)).trans h.b1, (hb.block _ (blk_lt h.b2)).trans h.b2⟩
theorem E3.c0 (h : E3 w W p v b i) : W.cell? ⟨p, 0, none⟩ = some v := (blk_cell h.b0 0).trans rfl
theorem E3.c1 (h : E3 w W p v b i) : W.cell? ⟨p + 1, 0, none⟩ = some b := (blk_cell h.b1 0).trans rfl
theorem E3.c2 (h : E3 w W p v b i) : W.cell? ⟨p + 2, 0, none⟩ = some i := (blk_cell h.b2 0).trans rfl
theorem E3.f0 (h : E3 w W p v b i) : W.frozen? ⟨p, 0, none⟩ = false := blk_frozen h.b0 0
theorem E3.f1 (h : E3 w W p v b i) : W.frozen? ⟨p + 1, 0, none⟩ = false := blk_frozen h.b1 0
theorem E3.f2 (h : E3 w W p v b i) : W.frozen? ⟨p + 2, 0, none⟩ = false := blk_frozen h.b2 0
end
theorem E3.init (w : World) (v b i : Value) : E3 w (((w.alloc (.cells #[v] 9)).alloc (.cells #[b] 4)).alloc (.cells #[i] 3)) w.heap.size v b i := by
 have e1 : (w.alloc (.cells #[v] 9)).heap.size = w.heap.size + 1 := Array.size_push ..
 have e2 : ((w.alloc (.cells #[v] 9)).alloc (.cells #[b] 4)).heap.size = w.heap.size + 1 + 1 := by rw [← e1]; exact Array.size_push ..
 have h0 := blk_alloc (blk_alloc (heap_alloc_new w (.cells #[v] 9)) (.cells #[b] 4)) (.cells #[i] 3)
 have h1 := blk_alloc (heap_alloc_new (w.alloc (.cells #[v] 9)) (.cells #[b] 4)) (.cells #[i] 3)
 have h2 := heap_alloc_new ((w.alloc (.cells #[v] 9)).alloc (.cells #[b] 4)) (.cells #[i] 3)
 rw [e1] at h1
 rw [e2] at h2
 exact ⟨below_alloc (below_alloc (below_alloc (Below.refl _ _) _) _) _, Nat.le_refl _, h0, h1, h2⟩
set_option maxHeartbeats 8000000 in
theorem SelStrW_calls (l : List Rq) (n : Nat) (hn : l.length = n) (hn2 : n ≤ 900) (hg : ∀ r ∈ l, RqW r) (A : Option Addr) (c : Nat) (w : World) (hsp : ∀ ad, A = some ad → ad.spot = none) (hC : KQ.C w A n (rqV l)) :
   Calls Tryz.prog 249 #[.slice A n c] w fun e w' => e = .returned (.string (joinB ⟨#[44]⟩ (l.map txtW))) ∧ Below w.heap.size w w' := by
 have HC := Aside0.mk hC
 have HLN := Aside0.mk hn
 have HG := Aside0.mk hg
 have HB := Aside0.mk (Below.refl w.heap.size w)
 have HST := Aside0.mk (fun (r : Rq) (hr : r ∈ l) (b o : Nat) (B : Option Addr) (cb : Nat) (W : World) (hcb : r.2.2.length ≤ cb) (hq : RqC W b o (.string (mk r.1)) (.string (mk r.2.1)) (.slice B r.2.2.length cb)) (hCC : Kd.C Kd.string W B r.2.2.length (r.2.2.map mk)) => show Calls Tryz.prog 218 #[.pointer (some ⟨b, o, none⟩)] W fun e w' => e = .returned (.string (txtW r)) ∧ Below W.heap.size W w' from
   (StrO_calls (mk r.1) (mk r.2.1) (by rw [mk_size]; have := (hg r hr).k; omega) b o cb r.2.2.length (r.2.2.map mk) (by rw [List.length_map]) (by have := (hg r hr).n; omega) hcb (fun p hp => by obtain ⟨x, hx, rfl⟩ := List.mem_map.1 hp; rw [mk_size]; have := (hg r hr).v x hx; omega) B W hq hCC (by rw [vL_mk]; exact (hg r hr).o)).mono fun e w' ⟨us, h1, h2, h3, h4⟩ => ⟨by
    rw [vL_mk] at h1
    rw [h3, setL_of_asc (hg r hr).d h1 h2]; rfl, h4⟩)
 clear hC hn hg
 go_enter Tryz.func249, Tryz.ntmps249
 go_wp2
 go_loopg [3, 7] (n) (fun k v3 v7 w' => ∃ i : Nat, v7 = .int .i64 i ∧ Aside0 (k + i = n) ∧ Aside0 (Kd.R Kd.string 9 w' w.heap.size (fun _ => True) v3 ((l.take i).map txtW)) ∧ Aside0 (Below w.heap.size w w'))
 case atStart => exact ⟨0, rfl, ⟨by omega⟩, ⟨Kd.R_nil _ _ _ _ _⟩, HB⟩
 case round =>
  clear HB
  obtain ⟨i, rfl, HI, HR, HB⟩ := hrel
  by_cases hil : i < n
  · obtain ⟨r, hr⟩ : ∃ r, l[i]? = some r := ⟨_, List.getElem?_eq_getElem (by rw [HLN.out]; exact hil)⟩
    obtain ⟨ad, B, cb, rfl, c0, c1, c2, hcb, hCC⟩ := kq_at2 (Kd.C_below HC.out HB.out) i hil r hr
    have ea : ad.add (i * 3) = ⟨ad.block, ad.off + i * 3, none⟩ := add_spot (hsp ad rfl) _
    have HM : Aside0 (Calls Tryz.prog 218 #[.pointer (some (ad.add (i * 3)))] wr fun e w' => e = .returned (.string (txtW r)) ∧ Below wr.heap.size wr w') := by
     rw [ea] at c0 c1 c2
     have h := HST.out r (List.mem_of_getElem? hr) ad.block (ad.off + i * 3) B cb wr hcb ⟨c0, c1, c2, World.block_lt_of_cell? wr ⟨ad.block, ad.off + i * 3, none⟩ c0⟩ hCC
     rw [ea]
     exact ⟨h⟩
    have HNEW : Aside0 ((l.take i).map txtW ++ [txtW r] = (l.take (i + 1)).map txtW) := ⟨by rw [List.take_add_one, hr]; simp⟩
    have HLEN : Aside0 ((l.take i).length ≤ 900) := ⟨by rw [List.length_take]; omega⟩
    obtain ⟨tv, htv⟩ : ∃ tv, txtW r = tv := ⟨_, rfl⟩
    rw [htv] at HM HNEW
    clear ea hr c0 c1 c2 hcb hCC htv
    go_wp2_with (first | ((with_reducible refine (HM.out).mono ?_); rintro e w2 ⟨rfl, hb⟩; have nb_ := Aside0.mk (below_step HB.out hb); have nr_ := Aside0.mk (Kd.R_below HR.out hb); clear HB HR hb HM; have HB := nb_; have HR := nr_; clear nb_ nr_) | ((with_reducible refine gate_builtin (b := .append) (xs := #[.tmp 10, .tmp 15]) rfl ?_); (try (refine gate_guard (by rfl) ?_; dsimp only)); at_builtin; refine Kd.R_append Kd.string (w0 := w) w.heap.size rfl (.tmp 10) (.tmp 15) 51 9 (.string ⟨#[]⟩) 16 rfl Tryz.underlying51 infoS rfl (by decide) (by omega) u3 ((l.take i).map txtW) (tv) [.string (tv)] (fun _ => True) (fun _ => False) rfl rfl ?aP (fun _ hk => hk.elim) ?aF ?aO ?aB ?aS ?aL ?_; (case aP => exact rfl); (case aB => exact (by repeat (first | (with_reducible first | exact HB.out | apply below_alloc | apply pw_below_drewN | apply below_drew1) | exact HB.out))); (case aF => exact (fun _ _ => trivial)); (case aO => exact (by (with_reducible repeat (first | apply Kd.R_alloc | apply Kd.R_drewN | apply Kd.R_drew)); exact HR.out)); (case aS => exact (below_size (by repeat (first | (with_reducible first | exact HB.out | apply below_alloc | apply pw_below_drewN | apply below_drew1) | exact HB.out)))); (case aL => have := HLEN.out; (try simp only [List.length_map, List.length_nil] at *); omega); intro vN wN ho hb hg hat; rw [HNEW.out] at ho; clear HB; clear HR; have HB := Aside0.mk hb; have HR := Aside0.mk ho; clear ho hb hg hat))
    go_roundg (n - (i + 1))
    case measure => have := HI.out; omega
    case rel => exact ⟨i + 1, by go_num, ⟨by omega⟩, HR, HB⟩
  · have hie : i = n := by have := HI.out; omega
    have HX : Aside0 ((l.take i).map txtW = l.map txtW) := ⟨by rw [List.take_of_length_le (by rw [HLN.out, hie]; exact Nat.le_refl _)]⟩
    have hr3 := HR.out
    rw [HX.out] at hr3
    obtain ⟨A3, c3, e3, hc3, hC3⟩ := Kd.R_reads hr3
    rw [List.length_map, HLN.out] at e3 hC3
    subst e3
    have HJ := Aside0.mk (zzJoinL_calls ⟨#[44]⟩ (by decide) A3 c3 n (l.map txtW) (by rw [List.length_map, HLN.out]) (by omega) (fun p hp => by obtain ⟨r, hr, rfl⟩ := List.mem_map.1 hp; exact txtW_sizeW (HG.out r hr)) wr hC3)
    clear HX hr3 hc3 hC3 HR hie
    go_wp2_with (first | ((with_reducible refine (HJ.out).mono ?_); rintro e w2 ⟨rfl, rfl⟩; clear HJ))
    go_ret
    exact ⟨rfl, HB.out⟩
theorem SAd_idle (p q r : Addr) (w : World) :
   CallsD Tryz.prog 49 #[.pointer (some p), .pointer (some q), .pointer (some r)] .returning w fun e u' w' => e = .returned (.tuple #[]) ∧ u' = .returning ∧ w' = w := by
 refine callsD_of_wpS Tryz.func49 rfl fun c₀ cs hu => ?_
 apply wpS_seq
 apply wpS_region
 simp [wpOpsS, go_sem, recoverD, hu, Tryz.ntmps49, Exit.thenS]
 refine wpS_cond (t := false) (by simp [Act.eval, Array.replicate]) ?_
 simp only [Bool.false_eq_true, if_false]
 refine wpS_of_wp (wp_skip ?_)
 cases c₀
 simp_all [bodyPostS, results, Tryz.results49]
theorem kq_nil {w : World} {base n c e : Nat} {ok : Nat → Prop} {A : Option Addr} {l : List Rq} (hR : KQ.R e w base ok (.slice A n c) (rqV l)) : (A = none ∧ n = 0 ∧ c = 0) ∨ A ≠ none := by
 obtain ⟨inner, ho⟩ := Kd.R_own hR
 rcases ho.2 with ⟨hv, _⟩ | ⟨g, cap, cur, hv, _⟩
 · injection hv with h1 h2 h3; exact .inl ⟨h1, h2, h3⟩
 · injection hv with h1 h2 h3; exact .inr (by rw [h1]; simp)
set_option maxHeartbeats 16000000 in
theorem SAd_calls (x : L) (hx : x.length ≤ 2000) (h0 : ∀ b ∈ x, b ≠ 0) (T : List Tk) (hTx : tokensL x = T) (hT : T.length ≤ 900) (p : List Rq) (hpa : pAll T.length T = some p) (hSp : SortOK p) (AQ : Option Addr) (cq N : Nat) (rs : List Rq) (hN : rs.length = N) (hN2 : N ≤ 200) (hpl : p.length + N ≤ 900) (hgp : ∀ r ∈ p, RqW r) (hgr : ∀ r ∈ rs, RqW r ∧ r.2.2.length ≤ 200)
   (hS : ∀ l1 : List Rq, l1.Perm p → SortOK (l1 ++ rs)) (w : World) (hC : KQ.C w AQ N (rqV rs)) (hT0 : TV w) :
   Calls Tryz.prog 17 #[.string (mk x), .slice AQ N cq] w fun e w' => ∃ l2 : List Rq, l2.Perm (p ++ rs) ∧ KAsc l2 ∧ e = .returned (.tuple #[.string (joinB ⟨#[44]⟩ (l2.map txtW)), .bool (l2.length == 0), .int .i64 0]) ∧ Below w.heap.size w w' := by
 have hmf : ∀ (fn : Fn) (first cap : Array Value) (w : World), (Instr.makeFunc fn first cap).run Tryz.prog w = .ok (.func fn first cap) w := fun _ _ _ _ => rfl
 have HPA := Aside0.mk (fun (W : World) (hb : Below w.heap.size w W) => Parse_calls x (by omega) h0 T hTx hT (fun l h => by rw [hpa] at h; injection h with h; subst h; exact hSp) W (hT0.below hb))
 rw [hpa] at HPA
 have hxs : (((mk x).size : Nat) : Int) ≤ 2000 := by rw [mk_size]; omega
 have g1 : (2000 < (((mk x).size : Nat) : Int)) = False := eq_false (by omega)
 have g2 : ((N : Int) ≤ 200) = True := eq_true (by omega)
 have g3 : (200 < (N : Int)) = False := eq_false (by omega)
 have HE0 := Aside0.mk (E3.init w (.string ⟨#[]⟩) (.bool false) (.int .i64 0))
 obtain ⟨W3, hW3⟩ : ∃ W3, ((w.alloc (.cells #[.string ⟨#[]⟩] 9)).alloc (.cells #[.bool false] 4)).alloc (.cells #[.int .i64 0] 3) = W3 := ⟨_, rfl⟩
 rw [hW3] at HE0
 obtain ⟨sv, hsv⟩ : ∃ sv, mk x = sv := ⟨_, rfl⟩
 rw [hsv] at HPA hxs g1 ⊢
 have HQ := Aside0.mk hC
 have HTV := Aside0.mk hT0
 have HLN := Aside0.mk hN
 have HG := Aside0.mk hgr
 have HSS := Aside0.mk hS
 have HGA : Aside0 (∀ (l1 : List Rq), l1.Perm p → ∀ r ∈ l1 ++ rs, RqW r) := ⟨fun l1 hp r hr => by
  rcases List.mem_append.1 hr with h | h
  · exact hgp r (hp.mem_iff.1 h)
  · exact (hgr r h).1⟩
 have HPL : Aside0 (p.length + N ≤ 900) := ⟨hpl⟩
 clear hT0 hx h0 hTx hS hsv hC hN hgp hgr hpl hSp
 go_enter_defers Tryz.func17, Tryz.ntmps17
 go_upto_region 7 with (first | ((with_reducible refine (HPA.out _ HE0.out.be).mono ?_); rintro e w1 ⟨⟨v, l1, rfl, hp, ha, hR⟩, hb⟩; obtain ⟨A, c, rfl, hsp, hC⟩ := kq_slice hR; have HEP := Aside0.mk (HE0.out.mv hb); have HRP := Aside0.mk hR; have HPM := Aside0.mk hp; clear hb hp ha hR hC hsp HPA))
 have HPL2 : Aside0 (l1.length + N ≤ 900) := ⟨by rw [HPM.out.length_eq]; exact HPL.out⟩
 have HL9 : Aside0 ((l1 ++ rs).length ≤ 900) := ⟨by rw [List.length_append, HLN.out]; exact HPL2.out⟩
 have HGA := Aside0.mk (HGA.out l1 HPM.out)
 have HSS := Aside0.mk (HSS.out l1 HPM.out)
 obtain ⟨n1, hn1⟩ : ∃ n, l1.length = n := ⟨_, rfl⟩
 have HL1 := Aside0.mk hn1
 have HB1 := Aside0.mk (HEP.out.be)
 rw [hn1] at HRP ⊢
 clear hn1
 go_wp2
 go_loopg [9, 11, 12, 13, 32] (N) (fun k s9 v11 v12 v13 v32 w' => ∃ (i : Nat) (v9 : Value), v9 = s9 ∧ v32 = .int .i64 i ∧ Aside0 (k + i = N) ∧ Aside0 (KQ.R 88 w' w.heap.size (fun _ => True) v9 (rqV (rs.take i))) ∧ Aside0 (Below w.heap.size w w') ∧ Aside0 (Below w1.heap.size w1 w') ∧ Aside0 (∀ k, v9.ownBlock = some k → w1.heap.size ≤ k))
 case atStart => exact ⟨0, _, rfl, rfl, ⟨by omega⟩, ⟨Kd.R_nil _ _ _ _ _⟩, HB1, ⟨Below.refl _ _⟩, ⟨fun k e => by simp [Value.ownBlock] at e⟩⟩
 case round =>
  clear HB1
  obtain ⟨i, v9, rfl, rfl, HI, HR, HB, HBB, HV⟩ := hrel
  by_cases hil : i < N
  · obtain ⟨r, hr⟩ : ∃ r, rs[i]? = some r := ⟨_, List.getElem?_eq_getElem (by rw [HLN.out]; exact hil)⟩
    obtain ⟨aq, AV, cv, rfl, r0, r1, r2, hnc, hCV⟩ := kq_at2 (Kd.C_below HQ.out HB.out) i hil r hr
    obtain ⟨nv, hnv⟩ : ∃ nv, r.2.2.length = nv := ⟨_, rfl⟩
    rw [hnv] at r2 hCV
    have hw := (HG.out r (List.mem_of_getElem? hr)).1
    have hw2 := (HG.out r (List.mem_of_getElem? hr)).2
    have hbk := heap_alloc_new wr (.cells #[.string (mk r.1), .string (mk r.2.1), .slice AV nv cv] 53)
    have HB2 := Aside0.mk (below_alloc HB.out (.cells #[.string (mk r.1), .string (mk r.2.1), .slice AV nv cv] 53))
    have HBB2 := Aside0.mk (below_alloc HBB.out (.cells #[.string (mk r.1), .string (mk r.2.1), .slice AV nv cv] 53))
    have HR2 := Aside0.mk (Kd.R_alloc HR.out (.cells #[.string (mk r.1), .string (mk r.2.1), .slice AV nv cv] 53))
    have hsz : wr.heap.size < (wr.alloc (.cells #[.string (mk r.1), .string (mk r.2.1), .slice AV nv cv] 53)).heap.size := blk_lt hbk
    have HLV := Aside0.mk (fun (k : Nat) (e : v9.ownBlock = some k) => Nat.lt_trans (Kd.R_lt HR.out k e) hsz)
    have hCV2 := Kd.C_below hCV (below_alloc (Below.refl wr.heap.size wr) (.cells #[.string (mk r.1), .string (mk r.2.1), .slice AV nv cv] 53))
    obtain ⟨q0, q1, q2⟩ := blk3 hbk
    obtain ⟨w2, hw2_⟩ : ∃ W, wr.alloc (.cells #[.string (mk r.1), .string (mk r.2.1), .slice AV nv cv] 53) = W := ⟨_, rfl⟩
    rw [hw2_] at HB2 HBB2 HR2 HLV hCV2 q0 q1 q2
    have HM := Aside0.mk (requirement3_calls (mk r.1) (mk r.2.1) (by rw [mk_size]; have := hw.k; omega) AV cv nv (r.2.2.map mk) (by rw [List.length_map, hnv]) (by omega) (fun p hp => by obtain ⟨y, hy, rfl⟩ := List.mem_map.1 hp; rw [mk_size]; have := hw.v y hy; omega) w2 hCV2 (HTV.out.below HB2.out) (by rw [vL_mk]; exact hw.f))
    have HSZ : Aside0 (w.heap.size ≤ w2.heap.size) := ⟨HB2.out.size⟩
    have HNL := Aside0.mk hnv
    have HNEW : Aside0 (rqV (rs.take i) ++ [rq1 r] = rqV (rs.take (i + 1))) := ⟨by rw [List.take_add_one, hr]; simp [rqV]⟩
    have HLEN : Aside0 ((rqV (rs.take i)).length ≤ 900) := ⟨by rw [List.length_map, List.length_take]; omega⟩
    clear hr hnc hCV hw hw2 hbk hsz hCV2 HR HB HBB hnv
    go_wp2_with (first | ((with_reducible refine (HM.out).mono ?_); rintro e w3 ⟨b, c3, A3, rfl, hbk, hr3, hb⟩; have HR3 := Aside0.mk (Kd.R_below HR2.out hb); have HB3 := Aside0.mk (below_step HB2.out hb); have HBB3 := Aside0.mk (below_step HBB2.out hb); have HS3 := Aside0.mk hb.size; have HME := Aside0.mk (rq_elem3 HSZ.out HNL.out hr3); obtain ⟨f0, f1, f2⟩ := blk3 hbk; clear hbk hr3 hb HM) | ((with_reducible refine gate_builtin (b := .append) (xs := #[.tmp 44, .tmp 48]) rfl ?_); (try (refine gate_guard (by rfl) ?_; dsimp only)); at_builtin; refine Kd.R_append KQ (w0 := w) w.heap.size rfl (.tmp 44) (.tmp 48) 82 88 (.agg #[.string ⟨#[]⟩, .string ⟨#[]⟩, .slice none 0 0]) 56 rfl Tryz.underlying82 infoRQ rfl (by decide) (by decide) v9 (rqV (rs.take i)) (rq1 r) [.string (mk r.1), .string (mk r.2.1), .slice A3 nv c3] (fun _ => True) (fun k => w2.heap.size ≤ k) rfl (by first | rfl | (simp [Act.eval]; done)) ?aP ?aK ?aF ?aO ?aB ?aS ?aL ?_; (case aP => exact HME.out); (case aK => exact fun k hk => ⟨trivial, fun e => by have := HLV.out k e.symm; omega⟩); (case aF => exact fun _ _ => trivial); (case aO => exact HR3.out); (case aB => exact HB3.out); (case aS => exact HB3.out.size); (case aL => have := HLEN.out; omega); intro vN wN ho hb hg hat; rw [HNEW.out] at ho; have HR5 := Aside0.mk ho; have HB5 := Aside0.mk hb; have HBB5 := Aside0.mk (pw_below_grown HBB3.out v9.ownBlock HBB3.out.size hg (fun k e => HV.out k e)); have HV5 := Aside0.mk (fun (k : Nat) (e : vN.ownBlock = some k) => own_new HV.out HBB3.out.size hat k e); clear ho hb hg hat))
    go_roundg (N - (i + 1))
    case measure => have := HI.out; omega
    case rel => exact ⟨i + 1, _, rfl, by go_num, ⟨by omega⟩, HR5, HB5, HBB5, HV5⟩
  · have hie : i = N := by have := HI.out; omega
    have hr := HR.out
    rw [List.take_of_length_le (by rw [HLN.out, hie]; exact Nat.le_refl _)] at hr
    obtain ⟨A2, c2, e2⟩ := Kd.R_slice hr
    rw [List.length_map, HLN.out] at e2
    subst e2
    have HAD := Aside0.mk (Add_calls A A2 c c2 n1 N l1 rs HL1.out HLN.out (by have := HPL2.out; have := HL1.out; omega) HSS.out wr w.heap.size HB.out.size _ _ (Kd.R_lower (Kd.R_below HRP.out HBB.out) (by have := HEP.out.be.size; have := HE0.out.be.size; omega)) hr)
    have na1 : ∀ w : World, (nilAhead 390 121 (.slice A n1 c) "Add").run Tryz.prog w = .ok (some false) w := fun _ => by kernel_rfl
    have me1 : ∀ w : World, (method 390 121 (.slice A n1 c) "Add").run Tryz.prog w = .ok (243, .slice A n1 c) w := fun _ => by kernel_rfl
    clear hr hie HR HRP HSS
    go_wp2_with (first | ((with_reducible refine (HAD.out).mono ?_); rintro e w3 ⟨v3, l2, rfl, hp, ha, hr, hb⟩; obtain ⟨A3, c3, rfl, hsp, hC⟩ := kq_slice hr; have hkn := kq_nil hr; have hgg : ∀ r ∈ l2, RqW r := (fun r hr => HGA.out r (hp.mem_iff.1 hr)); have hl2 : l2.length ≤ 900 := (by rw [hp.length_eq]; exact HL9.out); have HST := Aside0.mk (SelStrW_calls l2 l2.length rfl hl2 hgg A3 c3 w3 hsp hC); have HEM := Aside0.mk (fun (W : World) => SelEmpty_calls A3 c3 l2.length hkn W); obtain ⟨tx, htx⟩ : ∃ t, joinB ⟨#[44]⟩ (l2.map txtW) = t := ⟨_, rfl⟩; rw [htx] at HST; have HTX := Aside0.mk htx; obtain ⟨em, hem⟩ : ∃ b, (l2.length == 0) = b := ⟨_, rfl⟩; rw [hem] at HEM; have HEMB := Aside0.mk hem; obtain ⟨n3, hn3⟩ : ∃ n, l2.length = n := ⟨_, rfl⟩; rw [hn3] at HST HEM ⊢; have HPF := Aside0.mk hp; have HAF := Aside0.mk ha; have HBX := Aside0.mk (below_step HBB.out hb); have na2 : ∀ w : World, (nilAhead 390 121 (.slice A3 n3 c3) "String").run Tryz.prog w = .ok (some false) w := (fun _ => by kernel_rfl); have me2 : ∀ w : World, (method 390 121 (.slice A3 n3 c3) "String").run Tryz.prog w = .ok (249, .slice A3 n3 c3) w := (fun _ => by kernel_rfl); have na3 : ∀ w : World, (nilAhead 390 121 (.slice A3 n3 c3) "Empty").run Tryz.prog w = .ok (some false) w := (fun _ => by kernel_rfl); have me3 : ∀ w : World, (method 390 121 (.slice A3 n3 c3) "Empty").run Tryz.prog w = .ok (245, .slice A3 n3 c3) w := (fun _ => by kernel_rfl); clear hp ha hr hb hsp hC hkn hgg hl2 htx hem hn3 HAD na1 me1) | ((with_reducible refine (HST.out).mono ?_); rintro e w4 ⟨rfl, hb⟩; have HE1 := Aside0.mk (HEP.out.mv (below_step HBX.out hb)); have HE2 := Aside0.mk (HE1.out.sv (.string tx)); have HE3 := Aside0.mk (HE2.out.sb (.bool em)); have HE4 := Aside0.mk (HE3.out.si (.int .i64 0)); have a1 := HE1.out.c0; have a2 := HE1.out.f0; have a3 := HE2.out.c1; have a4 := HE2.out.f1; have a5 := HE3.out.c2; have a6 := HE3.out.f2; have a7 := HE4.out.c0; have a8 := HE4.out.c1; have a9 := HE4.out.c2; clear hb HST) | ((with_reducible refine (HEM.out _).mono ?_); rintro e w5 ⟨rfl, rfl⟩; clear HEM))
    refine leaves_cons (f := 49) (args := #[.pointer (some ⟨w.heap.size, 0, none⟩), .pointer (some ⟨w.heap.size + 1, 0, none⟩), .pointer (some ⟨w.heap.size + 2, 0, none⟩)]) (by simp) (by simp [go_sem]) ?_
    refine (SAd_idle ⟨w.heap.size, 0, none⟩ ⟨w.heap.size + 1, 0, none⟩ ⟨w.heap.size + 2, 0, none⟩ _).mono ?_
    rintro e u' w'' ⟨rfl, rfl, rfl⟩
    simp [Leaves, settle, results, Tryz.results17, go_sem, a7, a8, a9, Result.andThen]
    exact ⟨l2, HPF.out.trans (HPM.out.append_right rs), HAF.out, ⟨HTX.out.symm, HEMB.out.symm⟩, HE4.out.be⟩
end Go.Proofs.YthfjolafikgpoaaGreatDoor.Hand
namespace Go.Proofs.YthfjolafikgpoaaGreatDoor.Hand
open Go.RowKit Go.Maps Go.Proofs.YthfjolafikgpoaaGreatDoor.PFnSelDecidesLabels Go.Proofs.YthfjolafikgpoaaGreatDoorW.PrintWords Go.Proofs.YthfjolafikgpoaaGreatDoorW.PrintLast Go.Proofs.YthfjolafikgpoaaGreatDoorW.PrintMore Go.Proofs.YthfjolafikgpoaaGreatDoor.Base
set_option linter.unusedVariables false
set_option linter.unusedSimpArgs false
set_option maxRecDepth 100000
end Go.Proofs.YthfjolafikgpoaaGreatDoor.Hand
namespace Go.Proofs.YthfjolafikgpoaaGreatDoor.Hand
open Go.RowKit Go.Maps Go.Proofs.YthfjolafikgpoaaGreatDoorW.PrintWords Go.Proofs.YthfjolafikgpoaaGreatDoorW.PrintLast Go.Proofs.YthfjolafikgpoaaGreatDoorW.PrintMore Go.Proofs.YthfjolafikgpoaaGreatDoor.Base
set_option linter.unusedVariables false
set_option linter.unusedSimpArgs false
set_option maxRecDepth 100000
theorem pValue_lenS {x : L} (h : pValue x = true) : x.length ≤ 63 := by
 unfold pValue most at h
 rw [Bool.and_eq_true, decide_eq_true_eq] at h
 exact h.1
theorem fair_parts {key op : L} {vs : List L} (h : fairR key op vs = true) : key.length ≤ 400 ∧ ∀ v ∈ vs, v.length ≤ 63 := by
 unfold fairR at h
 rw [Bool.and_eq_true, Bool.and_eq_true, List.all_eq_true] at h
 exact ⟨pQ_len h.2.2, fun v hv => pValue_lenS (h.2.1 v hv)⟩
section
variable {w W W' : World} {p : Nat} {v b i : Value}
end
end Go.Proofs.YthfjolafikgpoaaGreatDoor.Hand
namespace Go.Proofs.YthfjolafikgpoaaGreatDoor.Hand
open Go.RowKit Go.Maps Go.Proofs.YthfjolafikgpoaaGreatDoor.Base
open Go.Sort (ltStr)
set_option linter.unusedVariables false
set_option linter.unusedSimpArgs false
set_option maxRecDepth 100000
theorem kasc_cons {x : Rq} {l : List Rq} (h : KAsc (x :: l)) : KAsc l ∧ ∀ y ∈ l, ltStr y.1 x.1 = false := by
 unfold KAsc at *
 rw [List.pairwise_cons] at h
 exact ⟨h.2, h.1⟩
theorem kasc_uniq : ∀ {a b : List Rq}, a.Perm b → KAsc a → KAsc b → (a.map (·.1)).Nodup → a = b
 | [], b, hp, _, _, _ => (List.Perm.nil_eq hp)
 | x :: a, [], hp, _, _, _ => absurd hp.length_eq (by simp)
 | x :: a, y :: b, hp, ha, hb, hn => by
   obtain ⟨ha1, ha2⟩ := kasc_cons ha
   obtain ⟨hb1, hb2⟩ := kasc_cons hb
   rw [List.map_cons, List.nodup_cons] at hn
   have e : x = y := by
    by_cases e : x = y
    · exact e
    · have h1 : y ∈ a := by
       rcases List.mem_cons.1 (hp.mem_iff.2 List.mem_cons_self) with h | h
       · exact absurd h.symm e
       · exact h
      have h2 : x ∈ b := by
       rcases List.mem_cons.1 (hp.mem_iff.1 List.mem_cons_self) with h | h
       · exact absurd h e
       · exact h
      have h3 : x.1 = y.1 := lt_tot (hb2 x h2) (ha2 y h1)
      exact absurd (List.mem_map.2 ⟨y, h1, h3.symm⟩) hn.1
   subst e
   rw [kasc_uniq (List.perm_cons x |>.1 hp) ha1 hb1 hn.2]
theorem words_keys {l : List Rq} {m : Nat} (h : wordsN l m = true) : (l.map (·.1)).Nodup := by
 unfold wordsN at h
 simp only [Bool.and_eq_true] at h
 have h1 := h.1
 rw [List.nodup_iff_pairwise_ne, List.pairwise_iff_getElem]
 intro i j hi hj hij
 rw [List.length_map] at hi hj
 rw [List.getElem_map, List.getElem_map]
 have h2 := (okTo_get h1 hj (List.getElem?_eq_getElem hj)).2
 unfold newK at h2
 rw [List.all_eq_true] at h2
 have h3 := h2 l[i] (List.mem_take_iff_getElem.2 ⟨i, by omega, rfl⟩)
 intro e
 rw [e] at h3
 simp at h3
theorem totL_insS (out : List L) (s : L) : totL (insS out s) ≤ totL out + s.length := by
 unfold insS
 split
 · omega
 · obtain ⟨i, hi⟩ : ∃ i, posOf out s = i := ⟨_, rfl⟩
   rw [hi]
   have e : totL out = totL (out.take i) + totL (out.drop i) := by
    conv => lhs; rw [← List.take_append_drop i out]
    simp only [totL, List.map_append, List.sum_append_nat]
   rw [e]
   simp only [totL, List.map_append, List.map_cons, List.sum_append_nat, List.sum_cons]
   omega
theorem totL_fold : ∀ (l out : List L), totL (l.foldl insS out) ≤ totL out + totL l
 | [], out => by simp [totL]
 | s :: l, out => by
   rw [List.foldl_cons]
   have h1 := totL_fold l (insS out s)
   have h2 := totL_insS out s
   simp only [totL, List.map_cons, List.sum_cons] at h1 h2 ⊢
   omega
theorem totL_setL (l : List L) : totL (setL l) ≤ totL l := by have := totL_fold l []; simpa [totL, setL] using this
theorem written_again {l l' : List Rq} (hw : ∀ r ∈ l, FairW r) (hz : ∀ r ∈ l, nz r.1 = true ∧ nz r.2.1 = true ∧ ∀ v ∈ r.2.2, nz v = true) (h5 : ∀ r ∈ l, r.2.2.length ≤ 5) (hp : l'.Perm (l.map setR)) :
   (∀ r ∈ l', FairW r ∧ Up r.2.2 ∧ r.2.2.length ≤ 5) ∧ joinB ⟨#[44]⟩ (l'.map txtV) = mk (outL (pcwAll l') []) ∧ (∀ b ∈ outL (pcwAll l') [], b ≠ 0) ∧ tokensL (outL (pcwAll l') []) = toksAll l' ++ [(1, [])] ∧ (toksAll l' ++ [(1, [])]).length ≤ 15 * l.length + 1 ∧ pAll (toksAll l' ++ [(1, [])]).length (toksAll l' ++ [(1, [])]) = some l' ∧ (outL (pcwAll l') []).length ≤ totR l + 16 * l.length := by
 have hall : ∀ r ∈ l', FairW r ∧ Up r.2.2 ∧ r.2.2.length ≤ 5 ∧ nz r.1 = true ∧ nz r.2.1 = true ∧ ∀ v ∈ r.2.2, nz v = true := fun r hr => by
  obtain ⟨q, hq, rfl⟩ := List.mem_map.1 (hp.mem_iff.1 hr)
  exact ⟨⟨word_set (hw q hq).1, fair_setL (hw q hq).2⟩, setL_up _, Nat.le_trans (setL_len _) (h5 q hq), (hz q hq).1, (hz q hq).2.1, fun v hv => (hz q hq).2.2 v ((setL_mem _ _).1 hv)⟩
 have hset : l'.map setR = l' := (List.map_congr_left (g := id) (fun r hr => by
  show (r.1, r.2.1, setL r.2.2) = r
  rw [setL_id (hall r hr).2.1])).trans (List.map_id _)
 have hwr : ∀ r ∈ l', WordR r.1 r.2.1 r.2.2 := fun r hr => (hall r hr).1.1
 obtain ⟨k1, k2⟩ := okAllw_pcs l' hwr
 have hln : l'.length = l.length := by rw [hp.length_eq, List.length_map]
 have hl : l'.length ≤ (toksAll l').length := toks_len l' hwr
 refine ⟨fun r hr => ⟨(hall r hr).1, (hall r hr).2.1, (hall r hr).2.2.1⟩, ?_, out_nz _ _ (nz_all l' (fun r hr => (hall r hr).2.2.2)).2, by rw [tokens_pcs _ _ k1, k2], ?_, ?_, ?_⟩
 · have h1 := join_all l' hwr
   rw [hset] at h1
   rw [← h1]
   congr 1
   exact List.map_congr_left (fun r hr => txtV_W (hall r hr).2.1)
 · have := toksAll_len l' (fun r hr => (hall r hr).2.2.1)
   rw [List.length_append]; simp only [List.length_cons, List.length_nil]; omega
 · rw [pAll_toks l' _ (fun r hr => (hall r hr).1) (by rw [List.length_append]; simp only [List.length_cons, List.length_nil]; omega), hset]
 · have h1 := out_sz (pcwAll l') []
   have h2 := sz_allw l' hwr (fun r hr => (hall r hr).2.2.1)
   have h3 : totR l' ≤ totR l := by
    have e1 : totR l' = totR (l.map setR) := (hp.map _).sum_nat
    rw [e1]
    unfold totR
    rw [List.map_map]
    have : ∀ l : List Rq, (l.map ((fun r : Rq => r.1.length + totL r.2.2) ∘ setR)).sum ≤ (l.map fun r => r.1.length + totL r.2.2).sum := by
     intro l
     induction l with
     | nil => exact Nat.le_refl _
     | cons r l ih =>
       rw [List.map_cons, List.map_cons, List.sum_cons, List.sum_cons]
       have h : totL (setL r.2.2) ≤ totL r.2.2 := totL_setL r.2.2
       show (r.1.length + totL (setL r.2.2)) + _ ≤ _
       omega
    exact this l
   omega
end Go.Proofs.YthfjolafikgpoaaGreatDoor.Hand
namespace Go.Proofs.YthfjolafikgpoaaGreatDoor.Hand
open Go.RowKit Go.Maps Go.Proofs.YthfjolafikgpoaaGreatDoorW.PrintWords Go.Proofs.YthfjolafikgpoaaGreatDoorW.PrintLast Go.Proofs.YthfjolafikgpoaaGreatDoorW.PrintMore Go.Proofs.YthfjolafikgpoaaGreatDoor.Base
set_option linter.unusedVariables false
set_option linter.unusedSimpArgs false
set_option maxRecDepth 100000
theorem setR_twice (r : Rq) : setR (setR r) = setR r := by show (r.1, r.2.1, setL (setL r.2.2)) = _; rw [setL_id (setL_up _)]
theorem txtW_set (r : Rq) : txtW (setR r) = txtW r := by unfold txtW; rw [setL_id (setL_up r.2.2)]
theorem reqW_d {r : Rq} (h : reqW r = true) : (setL r.2.2).length = r.2.2.length := by
 unfold reqW reqB at h
 simp only [Bool.and_eq_true, decide_eq_true_eq] at h
 obtain ⟨_, _, _, _, h5, _⟩ := h
 rw [vL_mk, List.length_map] at h5
 exact h5
theorem reqW_w {r : Rq} (h : reqW r = true) : RqW r := by
 obtain ⟨h1, h2, _⟩ := reqW_t h
 obtain ⟨a, b⟩ := fair_parts h1
 exact ⟨a, by omega, b, h1, reqW_d h⟩
theorem rqW_set {r : Rq} (h : RqW r) : RqW (setR r) := ⟨h.k, Nat.le_trans (setL_len _) h.n, fun v hv => h.v v ((setL_mem _ _).1 hv), fair_setL h.f, by
 show (setL (setL r.2.2)).length = (setL r.2.2).length
 rw [setL_id (setL_up _)]⟩
theorem map_setR_twice (l : List Rq) : (l.map setR).map setR = l.map setR := by
 rw [List.map_map]; exact List.map_congr_left fun r _ => setR_twice r
theorem map_txt_set (l : List Rq) : (l.map setR).map txtW = l.map txtW := by
 rw [List.map_map]; exact List.map_congr_left fun r _ => txtW_set r
theorem add_same {l l2 l3 : List Rq} {k : Nat} (hk : (l.map (·.1)).Nodup) (h2 : l2.Perm ((l.take k).map setR ++ l.drop k)) (a2 : KAsc l2) (h3 : l3.Perm l) (a3 : KAsc l3) : l2.map txtW = l3.map txtW := by
 have e2 : (l2.map setR).Perm (l.map setR) := by
  have h := h2.map setR
  rw [List.map_append, map_setR_twice, ← List.map_append, List.take_append_drop] at h
  exact h
 have e3 : (l3.map setR).Perm (l.map setR) := h3.map setR
 have ks : ∀ {l : List Rq}, KAsc l → KAsc (l.map setR) := fun h => by unfold KAsc at *; rw [List.pairwise_map]; exact h
 have e : l2.map setR = l3.map setR := kasc_uniq (e2.trans e3.symm) (ks a2) (ks a3) (by
  have h := (e2.map (·.1)).nodup_iff.2 (by rw [List.map_map]; exact hk)
  exact h)
 rw [← map_txt_set l2, e, map_txt_set]
theorem totR_take (l : List Rq) (k : Nat) : totR (l.take k) ≤ totR l := by
 have : totR l = totR (l.take k) + totR (l.drop k) := by
  conv => lhs; rw [← List.take_append_drop k l]
  unfold totR; rw [List.map_append, List.sum_append_nat]
 omega
theorem kq_take {w : World} {A : Option Addr} {n : Nat} {l : List Rq} (h : KQ.C w A n (rqV l)) (hn : l.length = n) (k : Nat) (hk : k ≤ n) : KQ.C w A k (rqV (l.take k)) := by
 subst hn
 have h1 := Kd.C_take (m := k) (show KQ.C w A (rqV l).length (rqV l) by rw [List.length_map]; exact h) (by rw [List.length_map]; exact hk)
 have e : (rqV l).take k = rqV (l.take k) := by unfold rqV; rw [List.map_take]
 rw [e, List.length_map, List.length_take, Nat.min_eq_left hk] at h1
 exact h1
theorem kq_drop {w : World} {A : Option Addr} {n c : Nat} {l : List Rq} (h : KQ.C w A n (rqV l)) (hn : l.length = n) (hc : n ≤ c) (k : Nat) (hk : k ≤ n) : KQ.C w (if c = k then A else A.map (·.add (k * 3))) (n - k) (rqV (l.drop k)) := by
 subst hn
 have h1 := Kd.C_drop (m := k) (c := c) (show KQ.C w A (rqV l).length (rqV l) by rw [List.length_map]; exact h) (by rw [List.length_map]; exact hk) (by rw [List.length_map]; exact hc)
 have e : (rqV l).drop k = rqV (l.drop k) := by unfold rqV; rw [List.map_drop]
 rw [e, List.length_map, List.length_drop] at h1
 exact h1
end Go.Proofs.YthfjolafikgpoaaGreatDoor.Hand
