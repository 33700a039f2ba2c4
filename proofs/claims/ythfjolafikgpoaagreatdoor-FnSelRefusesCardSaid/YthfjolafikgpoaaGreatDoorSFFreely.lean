/- spec.Freely: requirements as text, with blanks by choices. (Printed by freely.py.) -/
import Derived.Test.YthfjolafikgpoaaGreatDoorSFM18
import Derived.Test.YthfjolafikgpoaaGreatDoorSFM29
import Derived.Test.YthfjolafikgpoaaGreatDoorSFSpWords
import Derived.Test.YthfjolafikgpoaaGreatDoorSFM23
import Derived.Deep.RegionHeldLaw
namespace Go.Proofs.YthfjolafikgpoaaGreatDoor.Hand
open Go.RowKit Go.Maps Go.Proofs.YthfjolafikgpoaaGreatDoorW.PrintWords Go.Proofs.YthfjolafikgpoaaGreatDoorW.PrintLast Go.Proofs.YthfjolafikgpoaaGreatDoorW.PrintMore Go.Proofs.YthfjolafikgpoaaGreatDoor.Base
set_option linter.unusedVariables false
set_option linter.unusedSimpArgs false
set_option maxRecDepth 100000
theorem GapS.mv {w W W' : World} {A : Option Addr} {n c : Nat} {cs rs : L} (h : GapS w W A n c cs rs) (hb : Below W.heap.size W W') : GapS w W' A n c cs rs := by
 obtain ⟨a, h1, h2, h3⟩ := h.at_
 exact ⟨h.be.trans (hb.mono h.be.size), (hb.block _ (blk_lt h.bx)).trans h.bx, h.bt, a, h1, h2, (hb.block _ (blk_lt h3)).trans h3⟩
theorem GapS.lt {w W : World} {A : Option Addr} {n c : Nat} {cs rs : L} (h : GapS w W A n c cs rs) : w.heap.size + 1 < W.heap.size := by
 obtain ⟨a, h1, h2, h3⟩ := h.at_; exact blk_lt h3
theorem GapS.init (w : World) (A : Option Addr) (n c : Nat) (cs : L) (h : Bts w A n cs) : GapS w ((w.alloc (.cells #[.slice A n c] 23)).alloc (.cells #[.int .i64 0] 3)) A n c cs cs := by
 have h1 := heap_alloc_new w (.cells #[.slice A n c] 23)
 have h2 := heap_alloc_new (w.alloc (.cells #[.slice A n c] 23)) (.cells #[.int .i64 0] 3)
 have e : (w.alloc (.cells #[.slice A n c] 23)).heap.size = w.heap.size + 1 := Array.size_push ..
 rw [e] at h2
 have hb := below_alloc (Below.refl (w.alloc (.cells #[.slice A n c] 23)).heap.size (w.alloc (.cells #[.slice A n c] 23))) (.cells #[.int .i64 0] 3)
 exact ⟨below_step (below_alloc (Below.refl _ _) _) hb, (hb.block _ (blk_lt h1)).trans h1, h, 0, rfl, Nat.zero_le _, h2⟩
theorem Gap_calls (w W : World) (A : Option Addr) (n c : Nat) (cs rs : L) (h : GapS w W A n c cs rs) :
   Calls Tryz.prog 46 #[.pointer (some ⟨w.heap.size, 0, none⟩), .pointer (some ⟨w.heap.size + 1, 0, none⟩)] W fun e W' => e = .returned (.string (mk (gapL rs))) ∧ GapS w W' A n c cs rs.tail ∧ Kb W W' (w.heap.size + 1) := by
 have HS := Aside0.mk (Spaced_calls w W A n c cs rs h)
 have k0 : W.cell? ⟨w.heap.size, 0, none⟩ = some (.slice A n c) := (blk_cell h.bx 0).trans rfl
 clear h
 go_enter Tryz.func46, Tryz.ntmps46
 go_wp2_with (first | ((with_reducible refine (HS.out).mono ?_); rintro e w2 ⟨rfl, hg, hk⟩; have HG := Aside0.mk hg; have HK := Aside0.mk hk; clear hg hk HS))
 go_ret
 exact ⟨rfl, HG.out, HK.out⟩
structure FrS (w W : World) (A : Option Addr) (n c : Nat) (cs : L) (bo : Nat) (key op : ByteArray) (AV : Option Addr) (nv cv : Nat) (rs : L) : Prop where
 gs : GapS w W A n c cs rs
 bk : W.heap[bo]? = some (.cells #[.string key, .string op, .slice AV nv cv] 53 (0, 0))
 hb : w.heap.size + 1 < bo
section
variable {w W W' : World} {A : Option Addr} {n c : Nat} {cs : L} {bo : Nat} {key op : ByteArray} {AV : Option Addr} {nv cv : Nat} {rs : L}
theorem FrS.mv (h : FrS w W A n c cs bo key op AV nv cv rs) (hb : Below W.heap.size W W') : FrS w W' A n c cs bo key op AV nv cv rs :=
 ⟨h.gs.mv hb, (hb.block _ (blk_lt h.bk)).trans h.bk, h.hb⟩
theorem FrS.c0 (h : FrS w W A n c cs bo key op AV nv cv rs) : W.cell? ⟨bo, 0, none⟩ = some (.string key) := (blk_cell h.bk 0).trans rfl
theorem FrS.c1 (h : FrS w W A n c cs bo key op AV nv cv rs) : W.cell? ⟨bo, 1, none⟩ = some (.string op) := (blk_cell h.bk 1).trans rfl
theorem FrS.c2 (h : FrS w W A n c cs bo key op AV nv cv rs) : W.cell? ⟨bo, 2, none⟩ = some (.slice AV nv cv) := (blk_cell h.bk 2).trans rfl
theorem FrS.old (h : FrS w W A n c cs bo key op AV nv cv rs) {ad : Addr} {v : Value} (hc : w.cell? ad = some v) : W.cell? ad = some v := (h.gs.be.cell (World.block_lt_of_cell? _ _ hc)).trans hc
theorem FrS.gap (h : FrS w W A n c cs bo key op AV nv cv rs) :
   Calls Tryz.prog 46 #[.pointer (some ⟨w.heap.size, 0, none⟩), .pointer (some ⟨w.heap.size + 1, 0, none⟩)] W fun e W' => ∃ g : ByteArray, e = .returned (.string g) ∧ g = Base.mk (gapL rs) ∧ g.size ≤ 2 ∧ FrS w W' A n c cs bo key op AV nv cv rs.tail := by
 refine (Gap_calls w W A n c cs rs h.gs).mono ?_
 rintro e W' ⟨rfl, hg, hk⟩
 exact ⟨_, rfl, rfl, by rw [mk_size]; exact gapL_len rs, hg, (hk.ke.2 _ (blk_lt h.bk) (by have := h.hb; omega) (by simp)).trans h.bk, h.hb⟩
end
theorem mk_app (a b : L) : mk (a ++ b) = mk a ++ mk b := by apply ByteArray.ext; simp [mk, ByteArray.data_append]
def sepP (j : Nat) : List Pc := if j = 0 then [] else [.str [44], .gap]
theorem pcs_snoc {l : List Rq} {j : Nat} {r : Rq} (h : l[j]? = some r) : pcsAll (l.take (j + 1)) = pcsAll (l.take j) ++ (sepP j ++ (pcsR r.1 r.2.1 r.2.2 ++ [.gap])) := by
 cases l with
 | nil => cases h
 | cons r0 l =>
   cases j with
   | zero =>
     injection h with h; subst h
     show pcsR r0.1 r0.2.1 r0.2.2 ++ .gap :: [] = _
     rfl
   | succ j =>
     have hr : l[j]? = some r := h
     show pcsR r0.1 r0.2.1 r0.2.2 ++ .gap :: ((l.take (j + 1)).flatMap pcF) = (pcsR r0.1 r0.2.1 r0.2.2 ++ .gap :: ((l.take j).flatMap pcF)) ++ _
     rw [List.take_add_one, hr, List.flatMap_append]
     simp [sepP, pcF]
def txtF (l : List Rq) (cs : L) (j : Nat) : L := outL (.gap :: pcsAll (l.take j)) cs
def lftF (l : List Rq) (cs : L) (j : Nat) : L := restL (.gap :: pcsAll (l.take j)) cs
theorem txt_snoc {l : List Rq} {cs : L} {j : Nat} {r : Rq} (h : l[j]? = some r) :
   txtF l cs (j + 1) = (txtF l cs j ++ outL (sepP j) (lftF l cs j)) ++ outL (pcsR r.1 r.2.1 r.2.2) (restL (sepP j) (lftF l cs j)) ++ gapL (restL (pcsR r.1 r.2.1 r.2.2) (restL (sepP j) (lftF l cs j))) ∧
   lftF l cs (j + 1) = (restL (pcsR r.1 r.2.1 r.2.2) (restL (sepP j) (lftF l cs j))).tail := by
 have e : (.gap :: pcsAll (l.take (j + 1)) : List Pc) = (.gap :: pcsAll (l.take j)) ++ (sepP j ++ (pcsR r.1 r.2.1 r.2.2 ++ [.gap])) := by rw [pcs_snoc h]; rfl
 unfold txtF lftF
 rw [e]
 constructor
 · rw [outL_app, outL_app, outL_app]
   simp only [List.append_assoc]
   show _ ++ (_ ++ (_ ++ (gapL _ ++ []))) = _
   rw [List.append_nil]
 · rw [restL_app, restL_app, restL_app]; rfl
theorem txt_sz {l : List Rq} (hw : ∀ r ∈ l, WordR r.1 r.2.1 r.2.2) (h5 : ∀ r ∈ l, r.2.2.length ≤ 5) (hz : ∀ r ∈ l, r.1.length + totL r.2.2 ≤ 7000) (cs : L) (j : Nat) (hj : j ≤ 100) : (txtF l cs j).length ≤ 1000000 := by
 have ht : totR (l.take j) ≤ 7000 * j := by
  have h : ∀ (m : List Rq), (∀ r ∈ m, r.1.length + totL r.2.2 ≤ 7000) → totR m ≤ 7000 * m.length := by
   intro m
   induction m with
   | nil => intro _; exact Nat.zero_le _
   | cons r m ih =>
     intro h
     have h1 := ih fun x hx => h x (List.mem_cons_of_mem _ hx)
     have h2 := h r (List.mem_cons_self ..)
     show (r.1.length + totL r.2.2) + totR m ≤ _
     rw [List.length_cons]; omega
  refine Nat.le_trans (h _ fun r hr => hz r (List.mem_of_mem_take hr)) (Nat.mul_le_mul (Nat.le_refl _) ?_)
  rw [List.length_take]; omega
 have h1 := out_sz (.gap :: pcsAll (l.take j)) cs
 have h2 := sz_all (l.take j) (fun r hr => hw r (List.mem_of_mem_take hr)) (fun r hr => h5 r (List.mem_of_mem_take hr))
 have h3 : (l.take j).length ≤ j := by rw [List.length_take]; omega
 have h4 : szP (.gap :: pcsAll (l.take j)) = 2 + szP (pcsAll (l.take j)) := rfl
 have h5 : 45 * (l.take j).length ≤ 45 * j := Nat.mul_le_mul (Nat.le_refl _) h3
 unfold txtF
 omega
theorem pcsV_snoc {l : List L} {j : Nat} {v : L} (h : l[j]? = some v) : pcsV (l.take (j + 1)) = pcsV (l.take j) ++ (sepP j ++ [.str v, .gap]) := by
 cases l with
 | nil => cases h
 | cons v0 l =>
   cases j with
   | zero => injection h with h; subst h; rfl
   | succ j =>
     have hr : l[j]? = some v := h
     show Pc.str v0 :: .gap :: ((l.take (j + 1)).flatMap fun s => [Pc.str [44], .gap, .str s, .gap]) = (Pc.str v0 :: .gap :: ((l.take j).flatMap fun s => [Pc.str [44], .gap, .str s, .gap])) ++ _
     rw [List.take_add_one, hr, List.flatMap_append]
     simp [sepP]
theorem totL_take (l : List L) (i : Nat) : totL (l.take i) ≤ totL l := by
 induction l generalizing i with
 | nil => simp [totL]
 | cons v l ih =>
   cases i with
   | zero => exact Nat.zero_le _
   | succ i =>
     have := ih i
     show v.length + totL (l.take i) ≤ v.length + totL l
     omega
def preIn (key op : L) : List Pc := [.str key, .str [32], .gap, .str op, .gap, .str [40], .gap]
theorem preIn_sz (key op : L) (vs : List L) (i : Nat) (rs : L) (h : vs.length ≤ 5) : (outL (preIn key op ++ pcsV (vs.take i)) rs).length ≤ key.length + op.length + totL vs + 33 := by
 have h1 := out_sz (preIn key op ++ pcsV (vs.take i)) rs
 have h2 := sz_vals (vs.take i)
 have h3 := totL_take vs i
 have h4 : (vs.take i).length ≤ 5 := by rw [List.length_take]; omega
 rw [szP_app] at h1
 have h5 : szP (preIn key op) = key.length + (1 + (2 + (op.length + (2 + (1 + (2 + 0)))))) := rfl
 omega
set_option maxHeartbeats 32000000 in
theorem Freely_calls (l : List Rq) (N : Nat) (hN : l.length = N) (hN2 : N ≤ 100) (hw : ∀ r ∈ l, WordR r.1 r.2.1 r.2.2) (h5 : ∀ r ∈ l, r.2.2.length ≤ 5) (hz : ∀ r ∈ l, r.1.length + totL r.2.2 ≤ 7000) (AQ : Option Addr) (cq : Nat) (cs : L) (A : Option Addr) (n c : Nat) (w : World) (hbt : Bts w A n cs) (hQ : KQ.C w AQ N (rqV l)) :
   Calls Tryz.prog 14 #[.slice AQ N cq, .slice A n c] w fun e w' => e = .returned (.string (mk (outL (.gap :: pcsAll l) cs))) ∧ Below w.heap.size w w' := by
 have hmf : ∀ (fn : Fn) (first cap : Array Value) (w : World), (Instr.makeFunc fn first cap).run Tryz.prog w = .ok (.func fn first cap) w := fun _ _ _ _ => rfl
 have HG0 := Aside0.mk (GapS.init w A n c cs hbt)
 have HQ := Aside0.mk hQ
 have HLN := Aside0.mk hN
 have HWW := Aside0.mk hw
 have HH5 := Aside0.mk h5
 have HHZ := Aside0.mk hz
 have HT0 : Aside0 (mk (gapL cs) = mk (txtF l cs 0) ∧ cs.tail = lftF l cs 0) := ⟨by unfold txtF; show mk (gapL cs) = mk (gapL cs ++ []); rw [List.append_nil], rfl⟩
 clear hQ hN hw h5 hz hbt
 go_enter Tryz.func14, Tryz.ntmps14
 go_upto_region 2 with (fail)
 obtain ⟨W0, hW0⟩ : ∃ W0, (w.alloc (.cells #[.slice A n c] 23)).alloc (.cells #[.int .i64 0] 3) = W0 := ⟨_, rfl⟩
 rw [hW0] at HG0 ⊢
 clear hW0
 go_wp2_with (first | ((with_reducible refine (Gap_calls _ _ _ _ _ _ _ HG0.out).mono ?_); rintro e w1 ⟨rfl, hg, hk⟩; have HG1 := Aside0.mk hg; clear hg hk HG0))
 rw [HT0.out.1]
 go_loopg [7, 17] (N) (fun k v7 v17 w' => ∃ j : Nat, v17 = .int .i64 j ∧ v7 = .string (mk (txtF l cs j)) ∧ Aside0 (k + j = N) ∧ Aside0 (GapS w w' A n c cs (lftF l cs j)))
 case atStart => exact ⟨0, rfl, rfl, ⟨by omega⟩, ⟨by rw [← HT0.out.2]; exact HG1.out⟩⟩
 case round =>
  obtain ⟨j, rfl, rfl, HJ, HG⟩ := hrel
  by_cases hjn : j < N
  rotate_left
  · have hje : j = N := by have := HJ.out; omega
    have HX : Aside0 (mk (txtF l cs j) = mk (outL (.gap :: pcsAll l) cs)) := ⟨by unfold txtF; rw [List.take_of_length_le (by rw [HLN.out, hje]; exact Nat.le_refl _)]⟩
    rw [HX.out]
    clear hje
    go_wp2
    go_ret
    exact ⟨rfl, HG.out.be⟩
  obtain ⟨r, hr⟩ : ∃ r, l[j]? = some r := ⟨_, List.getElem?_eq_getElem (by rw [HLN.out]; exact hjn)⟩
  obtain ⟨aq, AV, cv, rfl, r0, r1, r2, hnc, hCV⟩ := kq_at2 (Kd.C_below HQ.out HG.out.be) j hjn r hr
  obtain ⟨aq2, AV2, cv2, e2, q0, q1, q2, qq, hCw⟩ := kq_at2 HQ.out j hjn r hr
  obtain rfl : AV2 = AV := by
   cases e2
   have h := (HG.out.be.cell (World.block_lt_of_cell? _ _ q2)).trans q2
   rw [r2] at h
   injection h with h; injection h with h1 h2 h3
   exact h1.symm
  have hwr := HWW.out r (List.mem_of_getElem? hr)
  have hr5 := HH5.out r (List.mem_of_getElem? hr)
  have hrz := HHZ.out r (List.mem_of_getElem? hr)
  have hxs := txt_sz HWW.out HH5.out HHZ.out cs j (by omega)
  obtain ⟨hs1, hs2⟩ := txt_snoc (cs := cs) hr
  obtain ⟨AV, hAV⟩ : ∃ AV, AV2 = AV := ⟨_, rfl⟩
  rw [hAV] at hCw r2 hCV
  clear q0 q1 q2 qq e2 hAV AV2 cv2 aq2
  obtain ⟨nv, hnv⟩ : ∃ nv, r.2.2.length = nv := ⟨_, rfl⟩
  obtain ⟨vs, hvs⟩ : ∃ vs, r.2.2.map mk = vs := ⟨_, rfl⟩
  obtain ⟨key, hkey⟩ : ∃ key, mk r.1 = key := ⟨_, rfl⟩
  obtain ⟨op, hop_⟩ : ∃ op, mk r.2.1 = op := ⟨_, rfl⟩
  have hopl : op.toList = r.2.1 := by rw [← hop_, mk_toList]
  have hks : key.size ≤ 7000 := by rw [← hkey, mk_size]; omega
  have hos : op.size ≤ 6 := by rw [← hop_, mk_size]; exact op_len hwr
  have hvz : ∀ p ∈ vs, p.size ≤ 7000 := fun p hp => by
   rw [← hvs] at hp
   obtain ⟨x, hx, rfl⟩ := List.mem_map.1 hp
   have : ∀ (l : List L), x ∈ l → x.length ≤ totL l := by
    intro l
    induction l with
    | nil => intro h; cases h
    | cons y l ih =>
      intro h
      show _ ≤ y.length + totL l
      rcases List.mem_cons.1 h with h | h
      · rw [h]; omega
      · have := ih h; omega
   have := this _ hx
   rw [mk_size]; omega
  rw [hvs, hnv] at hCw
  rw [hnv] at r2
  rw [hkey] at r0
  rw [hop_] at r1
  have HVS := Aside0.mk hvs
  have HVZ := Aside0.mk hvz
  have HKEY := Aside0.mk hkey
  have HOP := Aside0.mk hop_
  have HOPL := Aside0.mk hopl
  have HWR := Aside0.mk hwr
  have HCW := Aside0.mk hCw
  have HNV := Aside0.mk hnv
  have HS1 := Aside0.mk hs1
  have HRR := Aside0.mk hr
  have HS2 := Aside0.mk hs2
  have hlt := HG.out.lt
  obtain ⟨bo, hbo⟩ : ∃ bo, wr.heap.size = bo := ⟨_, rfl⟩
  have hbk := heap_alloc_new wr (.cells #[.string key, .string op, .slice AV nv cv] 53)
  have hba := below_alloc (Below.refl wr.heap.size wr) (.cells #[.string key, .string op, .slice AV nv cv] 53)
  obtain ⟨W4, hW4⟩ : ∃ W4, wr.alloc (.cells #[.string key, .string op, .slice AV nv cv] 53) = W4 := ⟨_, rfl⟩
  rw [hW4] at hbk hba
  rw [hbo] at hbk
  obtain ⟨RS3, hRS3⟩ : ∃ R, lftF l cs j = R := ⟨_, rfl⟩
  obtain ⟨X, hX⟩ : ∃ X, mk (txtF l cs j) = X := ⟨_, rfl⟩
  have hXs : X.size ≤ 1000000 := by rw [← hX, mk_size]; exact hxs
  have HX := Aside0.mk hX
  have HRS3 := Aside0.mk hRS3
  have HF3 : Aside0 (FrS w W4 A n c cs bo key op AV nv cv RS3) := ⟨by rw [← hRS3]; exact ⟨HG.out.mv hba, hbk, by rw [← hbo]; exact hlt⟩⟩
  have c30 := HF3.out.c0
  have c31 := HF3.out.c1
  have c32 := HF3.out.c2
  rw [hX]
  clear hr hwr hr5 hrz hxs hs1 hs2 hnv hvs hkey hop_ hopl hvz hbk hba hlt hRS3 hX hCV hnc hCw
  generalize gk = go at *
  go_upto_if 23 with (fail)
  clear hW4
  generalize hbb : decide (0 < j) = bb
  have HBB := Aside0.mk hbb
  clear hbb
  go_cut [7] (fun v wx => ∃ (Y : ByteArray) (RS : L), v = .string Y ∧ Aside0 (Y = X ++ mk (outL (sepP j) RS3)) ∧ Aside0 (RS = restL (sepP j) RS3) ∧ Aside0 (FrS w wx A n c cs bo key op AV nv cv RS))
  case first =>
   cases bb
   · have HE : Aside0 (sepP j = []) := ⟨if_pos (by have := HBB.out; simp at this; omega)⟩
     go_wp2
     go_meet
     case rel => exact ⟨X, RS3, rfl, ⟨by rw [HE.out]; show X = X ++ ByteArray.empty; rw [ByteArray.append_empty]⟩, ⟨by rw [HE.out]; rfl⟩, HF3⟩
   · have HE : Aside0 (sepP j = [.str [44], .gap]) := ⟨if_neg (by have := HBB.out; simp at this; omega)⟩
     go_wp2_with (first | ((with_reducible refine (HF3.out.gap).mono ?_); rintro e w4 ⟨g4, rfl, hg_, hgs4, hf_⟩; have HG4 := Aside0.mk hg_; have HF4 := Aside0.mk hf_; have c40 := hf_.c0; have c41 := hf_.c1; have c42 := hf_.c2; (try (have v40 := HF4.out.old HVC.out)); obtain ⟨RS4, hRS4⟩ : ∃ R_, List.tail RS3 = R_ := ⟨_, rfl⟩; rw [hRS4] at HF4; have HRS4 := Aside0.mk hRS4; clear hRS4 hg_ hf_; have za : (9223372036854775807 < 1 + g4.size) = False := eq_false (by omega); have zb : (9223372036854775807 < X.size + (1 + g4.size)) = False := eq_false (by omega); skip))
     go_meet
     case rel => exact ⟨_, RS4, rfl, ⟨by rw [HE.out, HG4.out]; show _ = X ++ mk ([44] ++ (gapL RS3 ++ [])); rw [mk_app, List.append_nil]; rfl⟩, ⟨by rw [HE.out]; exact HRS4.out.symm⟩, HF4⟩
  case rest =>
   obtain ⟨Y, RS5, rfl, HY, HR5, HF5⟩ := hcut
   have hYs : Y.size ≤ 1000010 := by
    rw [HY.out, ByteArray.size_append, mk_size]
    have h1 := out_sz (sepP j) RS3
    have h2 : szP (sepP j) ≤ 3 := by unfold sepP; split; exact Nat.zero_le _; exact Nat.le_refl _
    omega
   have c50 := HF5.out.c0
   have c51 := HF5.out.c1
   have c52 := HF5.out.c2
   clear c30 c31 c32 HF3 hXs
   go_upto_block 2 with (fail)
   go_cut [7] (fun v wx => ∃ (Z : ByteArray) (RS : L), v = .string Z ∧ Aside0 (Z = Y ++ mk (outL (pcsR r.1 r.2.1 r.2.2) RS5)) ∧ Aside0 (RS = restL (pcsR r.1 r.2.1 r.2.2) RS5) ∧ Aside0 (FrS w wx A n c cs bo key op AV nv cv RS))
   case first =>
    rcases HWR.out.o with e | e | (e | e) | e | e | e | e | e
    · have hop : op.toList = [33] := by rw [HOPL.out, e]
      have HPC : Aside0 (pcsR r.1 r.2.1 r.2.2 = [.str [33], .gap, .str r.1]) := ⟨by rw [e]; rfl⟩
      have e_nex : (op.toList == ([33] : List UInt8)) = true := by rw [hop]; rfl
      have e_ex : (op.toList == ([101, 120, 105, 115, 116, 115] : List UInt8)) = false := by rw [hop]; rfl
      have e_in : (op.toList == ([105, 110] : List UInt8)) = false := by rw [hop]; rfl
      have e_notin : (op.toList == ([110, 111, 116, 105, 110] : List UInt8)) = false := by rw [hop]; rfl
      have e_gt : (op.toList == ([103, 116] : List UInt8)) = false := by rw [hop]; rfl
      have e_lt : (op.toList == ([108, 116] : List UInt8)) = false := by rw [hop]; rfl
      clear e hop
      go_upto_region 12 with (fail)
      go_region_held_law (fun w' => w'.cell? ⟨bo, 0, none⟩ = some (.string key) ∧ w'.cell? ⟨bo, 1, none⟩ = some (.string op) ∧ w'.cell? ⟨bo, 2, none⟩ = some (.slice AV nv cv)) (first | exact ⟨c50, c51, c52⟩ | exact ⟨c60, c61, c62⟩ | go_keep) (first | (refine call_ (N := some 53) 46 #[.pointer (some ⟨w.heap.size, 0, none⟩), .pointer (some ⟨w.heap.size + 1, 0, none⟩)] (by rfl) (by rfl) (by go_simp) ?_; refine (FrS.gap (bo := bo) (key := key) (op := op) (AV := AV) (nv := nv) (cv := cv) (A := A) (n := n) (c := c) (cs := cs) (rs := RS5) ?hh).mono ?_; (case hh => first | exact HF5.out | exact HF5.out.mv (below_drew1 (Below.refl _ _)) | exact HF5.out.mv (pw_below_drewN (Below.refl _ _) _)); rintro e w6 ⟨g6, rfl, hg_, hgs6, hf_⟩; have HG6 := Aside0.mk hg_; have HF6 := Aside0.mk hf_; have c60 := hf_.c0; have c61 := hf_.c1; have c62 := hf_.c2; (try (have v60 := HF6.out.old HVC.out)); obtain ⟨RS6, hRS6⟩ : ∃ R_, List.tail RS5 = R_ := ⟨_, rfl⟩; rw [hRS6] at HF6; have HRS6 := Aside0.mk hRS6; clear hRS6 hg_ hf_; have za0 : (9223372036854775807 < 1 + g6.size) = False := eq_false (by omega); have za1 : (9223372036854775807 < 1 + g6.size + key.size) = False := eq_false (by omega); have zax : (9223372036854775807 < Y.size + (1 + g6.size + key.size)) = False := eq_false (by omega); skip; refine ⟨_, rfl, ?_⟩))
      all_goals go_wp2
      all_goals go_meet
      case rel => exact ⟨_, RS6, rfl, ⟨by rw [HPC.out]; show _ = Y ++ mk ([33] ++ (gapL RS5 ++ (r.1 ++ []))); simp only [mk_app, List.append_nil, HKEY.out, HOP.out, HRS6.out, ← HG6.out, ByteArray.append_assoc]; first | done | rfl⟩, ⟨by rw [HPC.out]; show _ = RS5.tail; rw [HRS6.out]⟩, HF6⟩
    · have hop : op.toList = [101, 120, 105, 115, 116, 115] := by rw [HOPL.out, e]
      have HPC : Aside0 (pcsR r.1 r.2.1 r.2.2 = [.str r.1]) := ⟨by rw [e]; rfl⟩
      have e_nex : (op.toList == ([33] : List UInt8)) = false := by rw [hop]; rfl
      have e_ex : (op.toList == ([101, 120, 105, 115, 116, 115] : List UInt8)) = true := by rw [hop]; rfl
      have e_in : (op.toList == ([105, 110] : List UInt8)) = false := by rw [hop]; rfl
      have e_notin : (op.toList == ([110, 111, 116, 105, 110] : List UInt8)) = false := by rw [hop]; rfl
      have e_gt : (op.toList == ([103, 116] : List UInt8)) = false := by rw [hop]; rfl
      have e_lt : (op.toList == ([108, 116] : List UInt8)) = false := by rw [hop]; rfl
      clear e hop
      have za : (9223372036854775807 < Y.size + key.size) = False := eq_false (by omega); go_wp2
      go_meet
      case rel => exact ⟨_, RS5, rfl, ⟨by rw [HPC.out]; show _ = Y ++ mk (r.1 ++ []); simp only [mk_app, List.append_nil, HKEY.out, HOP.out, ByteArray.append_assoc]; first | done | rfl⟩, ⟨by rw [HPC.out]; show _ = RS5; rfl⟩, HF5⟩
    · have hop : op.toList = [105, 110] := by rw [HOPL.out, e]
      have HPC : Aside0 (pcsR r.1 r.2.1 r.2.2 = preIn r.1 r.2.1 ++ (pcsV r.2.2 ++ [.str [41]])) := ⟨by rw [e]; rfl⟩
      have e_nex : (op.toList == ([33] : List UInt8)) = false := by rw [hop]; rfl
      have e_ex : (op.toList == ([101, 120, 105, 115, 116, 115] : List UInt8)) = false := by rw [hop]; rfl
      have e_in : (op.toList == ([105, 110] : List UInt8)) = true := by rw [hop]; rfl
      have e_notin : (op.toList == ([110, 111, 116, 105, 110] : List UInt8)) = false := by rw [hop]; rfl
      have e_gt : (op.toList == ([103, 116] : List UInt8)) = false := by rw [hop]; rfl
      have e_lt : (op.toList == ([108, 116] : List UInt8)) = false := by rw [hop]; rfl
      clear e hop
      go_upto_region 17 with (fail)
      go_region_held_law (fun w' => w'.cell? ⟨bo, 0, none⟩ = some (.string key) ∧ w'.cell? ⟨bo, 1, none⟩ = some (.string op) ∧ w'.cell? ⟨bo, 2, none⟩ = some (.slice AV nv cv)) (first | exact ⟨c50, c51, c52⟩ | exact ⟨c60, c61, c62⟩ | exact ⟨c70, c71, c72⟩ | exact ⟨c80, c81, c82⟩ | go_keep) (first | (refine call_ (N := some 83) 46 #[.pointer (some ⟨w.heap.size, 0, none⟩), .pointer (some ⟨w.heap.size + 1, 0, none⟩)] (by rfl) (by rfl) (by go_simp) ?_; refine (FrS.gap (bo := bo) (key := key) (op := op) (AV := AV) (nv := nv) (cv := cv) (A := A) (n := n) (c := c) (cs := cs) (rs := RS7) ?hh).mono ?_; (case hh => first | exact HF7.out | exact HF7.out.mv (below_drew1 (Below.refl _ _)) | exact HF7.out.mv (pw_below_drewN (Below.refl _ _) _)); rintro e w8 ⟨g8, rfl, hg_, hgs8, hf_⟩; have HG8 := Aside0.mk hg_; have HF8 := Aside0.mk hf_; have c80 := hf_.c0; have c81 := hf_.c1; have c82 := hf_.c2; (try (have v80 := HF8.out.old HVC.out)); obtain ⟨RS8, hRS8⟩ : ∃ R_, List.tail RS7 = R_ := ⟨_, rfl⟩; rw [hRS8] at HF8; have HRS8 := Aside0.mk hRS8; clear hRS8 hg_ hf_; have zc0 : (9223372036854775807 < key.size + 1) = False := eq_false (by omega); have zc1 : (9223372036854775807 < key.size + 1 + g6.size) = False := eq_false (by omega); have zc2 : (9223372036854775807 < key.size + 1 + g6.size + op.size) = False := eq_false (by omega); have zc3 : (9223372036854775807 < key.size + 1 + g6.size + op.size + g7.size) = False := eq_false (by omega); have zc4 : (9223372036854775807 < key.size + 1 + g6.size + op.size + g7.size + 1) = False := eq_false (by omega); have zc5 : (9223372036854775807 < key.size + 1 + g6.size + op.size + g7.size + 1 + g8.size) = False := eq_false (by omega); have zcx : (9223372036854775807 < Y.size + (key.size + 1 + g6.size + op.size + g7.size + 1 + g8.size)) = False := eq_false (by omega); skip; refine ⟨_, rfl, ?_⟩) | (refine call_ (N := some 79) 46 #[.pointer (some ⟨w.heap.size, 0, none⟩), .pointer (some ⟨w.heap.size + 1, 0, none⟩)] (by rfl) (by rfl) (by go_simp) ?_; refine (FrS.gap (bo := bo) (key := key) (op := op) (AV := AV) (nv := nv) (cv := cv) (A := A) (n := n) (c := c) (cs := cs) (rs := RS6) ?hh).mono ?_; (case hh => first | exact HF6.out | exact HF6.out.mv (below_drew1 (Below.refl _ _)) | exact HF6.out.mv (pw_below_drewN (Below.refl _ _) _)); rintro e w7 ⟨g7, rfl, hg_, hgs7, hf_⟩; have HG7 := Aside0.mk hg_; have HF7 := Aside0.mk hf_; have c70 := hf_.c0; have c71 := hf_.c1; have c72 := hf_.c2; (try (have v70 := HF7.out.old HVC.out)); obtain ⟨RS7, hRS7⟩ : ∃ R_, List.tail RS6 = R_ := ⟨_, rfl⟩; rw [hRS7] at HF7; have HRS7 := Aside0.mk hRS7; clear hRS7 hg_ hf_; have zb0 : (9223372036854775807 < key.size + 1) = False := eq_false (by omega); have zb1 : (9223372036854775807 < key.size + 1 + g6.size) = False := eq_false (by omega); have zb2 : (9223372036854775807 < key.size + 1 + g6.size + op.size) = False := eq_false (by omega); have zb3 : (9223372036854775807 < key.size + 1 + g6.size + op.size + g7.size) = False := eq_false (by omega); have zb4 : (9223372036854775807 < key.size + 1 + g6.size + op.size + g7.size + 1) = False := eq_false (by omega); skip; refine ⟨_, rfl, ?_⟩) | (refine call_ (N := some 73) 46 #[.pointer (some ⟨w.heap.size, 0, none⟩), .pointer (some ⟨w.heap.size + 1, 0, none⟩)] (by rfl) (by rfl) (by go_simp) ?_; refine (FrS.gap (bo := bo) (key := key) (op := op) (AV := AV) (nv := nv) (cv := cv) (A := A) (n := n) (c := c) (cs := cs) (rs := RS5) ?hh).mono ?_; (case hh => first | exact HF5.out | exact HF5.out.mv (below_drew1 (Below.refl _ _)) | exact HF5.out.mv (pw_below_drewN (Below.refl _ _) _)); rintro e w6 ⟨g6, rfl, hg_, hgs6, hf_⟩; have HG6 := Aside0.mk hg_; have HF6 := Aside0.mk hf_; have c60 := hf_.c0; have c61 := hf_.c1; have c62 := hf_.c2; (try (have v60 := HF6.out.old HVC.out)); obtain ⟨RS6, hRS6⟩ : ∃ R_, List.tail RS5 = R_ := ⟨_, rfl⟩; rw [hRS6] at HF6; have HRS6 := Aside0.mk hRS6; clear hRS6 hg_ hf_; have za0 : (9223372036854775807 < key.size + 1) = False := eq_false (by omega); have za1 : (9223372036854775807 < key.size + 1 + g6.size) = False := eq_false (by omega); have za2 : (9223372036854775807 < key.size + 1 + g6.size + op.size) = False := eq_false (by omega); skip; refine ⟨_, rfl, ?_⟩))
      all_goals go_wp2
      all_goals
        have HV0 : Aside0 (Y ++ (key ++ ⟨#[32]⟩ ++ g6 ++ op ++ g7 ++ ⟨#[40]⟩ ++ g8) = Y ++ mk (outL (preIn r.1 r.2.1 ++ pcsV (r.2.2.take 0)) RS5)) := ⟨by
         show _ = Y ++ mk (r.1 ++ ([32] ++ (gapL RS5 ++ (r.2.1 ++ (gapL RS5.tail ++ ([40] ++ (gapL RS5.tail.tail ++ [])))))))
         simp only [mk_app, List.append_nil, HKEY.out, HOP.out, HRS6.out, HRS7.out, ← HG6.out, ← HG7.out, ← HG8.out, ByteArray.append_assoc]; first | done | rfl⟩
        have HR0 : Aside0 (RS8 = restL (preIn r.1 r.2.1 ++ pcsV (r.2.2.take 0)) RS5) := ⟨by show _ = RS5.tail.tail.tail; rw [HRS6.out, HRS7.out, HRS8.out]⟩
        obtain ⟨V0, hV0⟩ : ∃ V0, Y ++ (key ++ ⟨#[32]⟩ ++ g6 ++ op ++ g7 ++ ⟨#[40]⟩ ++ g8) = V0 := ⟨_, rfl⟩
        rw [hV0] at HV0 ⊢
        clear hV0
        go_loopg [7, 89] (nv) (fun k v7 v89 w' => ∃ (i : Nat) (V : ByteArray) (RS : L), v89 = .int .i64 i ∧ v7 = .string V ∧ Aside0 (k + i = nv) ∧ Aside0 (V = Y ++ mk (outL (preIn r.1 r.2.1 ++ pcsV (r.2.2.take i)) RS5)) ∧ Aside0 (RS = restL (preIn r.1 r.2.1 ++ pcsV (r.2.2.take i)) RS5) ∧ Aside0 (FrS w w' A n c cs bo key op AV nv cv RS))
        case atStart => exact ⟨0, V0, RS8, rfl, rfl, ⟨by omega⟩, HV0, HR0, HF8⟩
        case round =>
         obtain ⟨i, V, RS9, rfl, rfl, HI, HV, HR9, HF9⟩ := hrel
         have hnv5 : nv ≤ 5 := by rw [← HNV.out]; exact HH5.out r (List.mem_of_getElem? HRR.out)
         have hVs : V.size ≤ 1100000 := by
          rw [HV.out, ByteArray.size_append, mk_size]
          have h1 := preIn_sz r.1 r.2.1 r.2.2 i RS5 (HH5.out r (List.mem_of_getElem? HRR.out))
          have h3 := HHZ.out r (List.mem_of_getElem? HRR.out)
          have h4 := op_len HWR.out
          omega
         by_cases hin : i < nv
         rotate_left
         · have hie : i = nv := by have := HI.out; omega
           have HVE : Aside0 (V = Y ++ mk (outL (preIn r.1 r.2.1 ++ pcsV r.2.2) RS5) ∧ RS9 = restL (preIn r.1 r.2.1 ++ pcsV r.2.2) RS5) := ⟨by
            have h1 := HV.out
            have h2 := HR9.out
            rw [List.take_of_length_le (by rw [HNV.out, hie]; exact Nat.le_refl _)] at h1 h2
            exact ⟨h1, h2⟩⟩
           clear hie
           have zv : (9223372036854775807 < V.size + 1) = False := eq_false (by omega)
           go_wp2
           go_meet
           case rel => exact ⟨_, RS9, rfl, ⟨by rw [HPC.out, ← List.append_assoc, outL_app, mk_app, ← ByteArray.append_assoc, ← HVE.out.1]; rfl⟩, ⟨by rw [HPC.out, ← List.append_assoc, restL_app, ← HVE.out.2]; rfl⟩, HF9⟩
         obtain ⟨x, hx⟩ : ∃ x, r.2.2[i]? = some x := ⟨_, List.getElem?_eq_getElem (by rw [HNV.out]; exact hin)⟩
         have hvi : vs[i]? = some (mk x) := by rw [← HVS.out, List.getElem?_map, hx]; rfl
         obtain ⟨s, hs⟩ : ∃ s, mk x = s := ⟨_, rfl⟩
         rw [hs] at hvi
         have hsz : s.size ≤ 7000 := HVZ.out s (List.mem_of_getElem? hvi)
         obtain ⟨ad, rfl, hk0⟩ := Kd.at_string (Kd.C_below HCW.out HF9.out.gs.be) (i : Int) (by omega) (by omega)
         rw [Int.toNat_natCast] at hk0
         have hg : rdOf ByteArray.empty vs (i : Int) = s := by unfold rdOf; rw [Int.toNat_natCast, List.getD_eq_getElem?_getD, hvi]; rfl
         rw [hg] at hk0
         have HSN : Aside0 (outL (preIn r.1 r.2.1 ++ pcsV (r.2.2.take (i + 1))) RS5 = outL (preIn r.1 r.2.1 ++ pcsV (r.2.2.take i)) RS5 ++ outL (sepP i ++ [.str x, .gap]) RS9 ∧ restL (preIn r.1 r.2.1 ++ pcsV (r.2.2.take (i + 1))) RS5 = restL (sepP i ++ [.str x, .gap]) RS9) := ⟨by
          rw [pcsV_snoc hx, ← List.append_assoc]; exact ⟨by rw [outL_app (preIn r.1 r.2.1 ++ pcsV (r.2.2.take i)), ← HR9.out], by rw [restL_app (preIn r.1 r.2.1 ++ pcsV (r.2.2.take i)), ← HR9.out]⟩⟩
         have HSX := Aside0.mk hs
         clear hg hvi hx hs
         go_upto_if 95 with (fail)
         generalize hbb : decide (0 < i) = bb2
         have HB2 := Aside0.mk hbb
         clear hbb
         cases bb2
         · have HE : Aside0 (sepP i = []) := ⟨if_pos (by have := HB2.out; simp at this; omega)⟩
           go_wp2_with (first | ((with_reducible refine (HF9.out.gap).mono ?_); rintro e w10 ⟨g10, rfl, hg_, hgs10, hf_⟩; have HG10 := Aside0.mk hg_; have HF10 := Aside0.mk hf_; have c100 := hf_.c0; have c101 := hf_.c1; have c102 := hf_.c2; (try (have v100 := HF10.out.old HVC.out)); obtain ⟨RS10, hRS10⟩ : ∃ R_, List.tail RS9 = R_ := ⟨_, rfl⟩; rw [hRS10] at HF10; have HRS10 := Aside0.mk hRS10; clear hRS10 hg_ hf_; have zp0 : (9223372036854775807 < s.size + g10.size) = False := eq_false (by omega); have zpx : (9223372036854775807 < V.size + (s.size + g10.size)) = False := eq_false (by omega); skip))
           go_roundg (gk - 1)
           case measure => have := HI.out; omega
           case rel => exact ⟨i + 1, _, RS10, by go_num, rfl, ⟨by have := HI.out; omega⟩, ⟨by rw [HSN.out.1, HE.out, mk_app]; refine Eq.trans ?_ ByteArray.append_assoc; rw [← HV.out]; show _ = V ++ mk (x ++ (gapL RS9 ++ [])); rw [List.append_nil, mk_app, HSX.out, ← HG10.out]; first | done | simp only [ByteArray.append_assoc]⟩, ⟨by rw [HSN.out.2, HE.out]; exact HRS10.out.symm⟩, HF10⟩
         · have HE : Aside0 (sepP i = [.str [44], .gap]) := ⟨if_neg (by have := HB2.out; simp at this; omega)⟩
           go_wp2_with (first | ((with_reducible refine (HF10.out.gap).mono ?_); rintro e w11 ⟨g11, rfl, hg_, hgs11, hf_⟩; have HG11 := Aside0.mk hg_; have HF11 := Aside0.mk hf_; have c110 := hf_.c0; have c111 := hf_.c1; have c112 := hf_.c2; (try (have v110 := HF11.out.old HVC.out)); obtain ⟨RS11, hRS11⟩ : ∃ R_, List.tail RS10 = R_ := ⟨_, rfl⟩; rw [hRS11] at HF11; have HRS11 := Aside0.mk hRS11; clear hRS11 hg_ hf_; have zq0 : (9223372036854775807 < s.size + g11.size) = False := eq_false (by omega); have zqx : (9223372036854775807 < (V.size + (1 + g10.size)) + (s.size + g11.size)) = False := eq_false (by omega); have zq9 : (9223372036854775807 < V.size + 1 + g10.size + (s.size + g11.size)) = False := eq_false (by omega); skip) | ((with_reducible refine (HF9.out.gap).mono ?_); rintro e w10 ⟨g10, rfl, hg_, hgs10, hf_⟩; have HG10 := Aside0.mk hg_; have HF10 := Aside0.mk hf_; have c100 := hf_.c0; have c101 := hf_.c1; have c102 := hf_.c2; (try (have v100 := HF10.out.old HVC.out)); obtain ⟨RS10, hRS10⟩ : ∃ R_, List.tail RS9 = R_ := ⟨_, rfl⟩; rw [hRS10] at HF10; have HRS10 := Aside0.mk hRS10; clear hRS10 hg_ hf_; have zp0 : (9223372036854775807 < 1 + g10.size) = False := eq_false (by omega); have zpx : (9223372036854775807 < V.size + (1 + g10.size)) = False := eq_false (by omega); skip))
           go_roundg (gk - 1)
           case measure => have := HI.out; omega
           case rel => exact ⟨i + 1, _, RS11, by go_num, rfl, ⟨by have := HI.out; omega⟩, ⟨by rw [HSN.out.1, HE.out, mk_app]; refine Eq.trans ?_ ByteArray.append_assoc; rw [← HV.out]; show _ = V ++ mk ([44] ++ (gapL RS9 ++ (x ++ (gapL RS9.tail ++ [])))); rw [List.append_nil, HRS10.out, mk_app, mk_app, mk_app, HSX.out, ← HG10.out, ← HG11.out]; simp only [ByteArray.append_assoc]; rfl⟩, ⟨by rw [HSN.out.2, HE.out]; show _ = RS9.tail.tail; rw [HRS10.out, HRS11.out]⟩, HF11⟩
    · have hop : op.toList = [110, 111, 116, 105, 110] := by rw [HOPL.out, e]
      have HPC : Aside0 (pcsR r.1 r.2.1 r.2.2 = preIn r.1 r.2.1 ++ (pcsV r.2.2 ++ [.str [41]])) := ⟨by rw [e]; rfl⟩
      have e_nex : (op.toList == ([33] : List UInt8)) = false := by rw [hop]; rfl
      have e_ex : (op.toList == ([101, 120, 105, 115, 116, 115] : List UInt8)) = false := by rw [hop]; rfl
      have e_in : (op.toList == ([105, 110] : List UInt8)) = false := by rw [hop]; rfl
      have e_notin : (op.toList == ([110, 111, 116, 105, 110] : List UInt8)) = true := by rw [hop]; rfl
      have e_gt : (op.toList == ([103, 116] : List UInt8)) = false := by rw [hop]; rfl
      have e_lt : (op.toList == ([108, 116] : List UInt8)) = false := by rw [hop]; rfl
      clear e hop
      go_upto_region 17 with (fail)
      go_region_held_law (fun w' => w'.cell? ⟨bo, 0, none⟩ = some (.string key) ∧ w'.cell? ⟨bo, 1, none⟩ = some (.string op) ∧ w'.cell? ⟨bo, 2, none⟩ = some (.slice AV nv cv)) (first | exact ⟨c50, c51, c52⟩ | exact ⟨c60, c61, c62⟩ | exact ⟨c70, c71, c72⟩ | exact ⟨c80, c81, c82⟩ | go_keep) (first | (refine call_ (N := some 83) 46 #[.pointer (some ⟨w.heap.size, 0, none⟩), .pointer (some ⟨w.heap.size + 1, 0, none⟩)] (by rfl) (by rfl) (by go_simp) ?_; refine (FrS.gap (bo := bo) (key := key) (op := op) (AV := AV) (nv := nv) (cv := cv) (A := A) (n := n) (c := c) (cs := cs) (rs := RS7) ?hh).mono ?_; (case hh => first | exact HF7.out | exact HF7.out.mv (below_drew1 (Below.refl _ _)) | exact HF7.out.mv (pw_below_drewN (Below.refl _ _) _)); rintro e w8 ⟨g8, rfl, hg_, hgs8, hf_⟩; have HG8 := Aside0.mk hg_; have HF8 := Aside0.mk hf_; have c80 := hf_.c0; have c81 := hf_.c1; have c82 := hf_.c2; (try (have v80 := HF8.out.old HVC.out)); obtain ⟨RS8, hRS8⟩ : ∃ R_, List.tail RS7 = R_ := ⟨_, rfl⟩; rw [hRS8] at HF8; have HRS8 := Aside0.mk hRS8; clear hRS8 hg_ hf_; have zc0 : (9223372036854775807 < key.size + 1) = False := eq_false (by omega); have zc1 : (9223372036854775807 < key.size + 1 + g6.size) = False := eq_false (by omega); have zc2 : (9223372036854775807 < key.size + 1 + g6.size + op.size) = False := eq_false (by omega); have zc3 : (9223372036854775807 < key.size + 1 + g6.size + op.size + g7.size) = False := eq_false (by omega); have zc4 : (9223372036854775807 < key.size + 1 + g6.size + op.size + g7.size + 1) = False := eq_false (by omega); have zc5 : (9223372036854775807 < key.size + 1 + g6.size + op.size + g7.size + 1 + g8.size) = False := eq_false (by omega); have zcx : (9223372036854775807 < Y.size + (key.size + 1 + g6.size + op.size + g7.size + 1 + g8.size)) = False := eq_false (by omega); skip; refine ⟨_, rfl, ?_⟩) | (refine call_ (N := some 79) 46 #[.pointer (some ⟨w.heap.size, 0, none⟩), .pointer (some ⟨w.heap.size + 1, 0, none⟩)] (by rfl) (by rfl) (by go_simp) ?_; refine (FrS.gap (bo := bo) (key := key) (op := op) (AV := AV) (nv := nv) (cv := cv) (A := A) (n := n) (c := c) (cs := cs) (rs := RS6) ?hh).mono ?_; (case hh => first | exact HF6.out | exact HF6.out.mv (below_drew1 (Below.refl _ _)) | exact HF6.out.mv (pw_below_drewN (Below.refl _ _) _)); rintro e w7 ⟨g7, rfl, hg_, hgs7, hf_⟩; have HG7 := Aside0.mk hg_; have HF7 := Aside0.mk hf_; have c70 := hf_.c0; have c71 := hf_.c1; have c72 := hf_.c2; (try (have v70 := HF7.out.old HVC.out)); obtain ⟨RS7, hRS7⟩ : ∃ R_, List.tail RS6 = R_ := ⟨_, rfl⟩; rw [hRS7] at HF7; have HRS7 := Aside0.mk hRS7; clear hRS7 hg_ hf_; have zb0 : (9223372036854775807 < key.size + 1) = False := eq_false (by omega); have zb1 : (9223372036854775807 < key.size + 1 + g6.size) = False := eq_false (by omega); have zb2 : (9223372036854775807 < key.size + 1 + g6.size + op.size) = False := eq_false (by omega); have zb3 : (9223372036854775807 < key.size + 1 + g6.size + op.size + g7.size) = False := eq_false (by omega); have zb4 : (9223372036854775807 < key.size + 1 + g6.size + op.size + g7.size + 1) = False := eq_false (by omega); skip; refine ⟨_, rfl, ?_⟩) | (refine call_ (N := some 73) 46 #[.pointer (some ⟨w.heap.size, 0, none⟩), .pointer (some ⟨w.heap.size + 1, 0, none⟩)] (by rfl) (by rfl) (by go_simp) ?_; refine (FrS.gap (bo := bo) (key := key) (op := op) (AV := AV) (nv := nv) (cv := cv) (A := A) (n := n) (c := c) (cs := cs) (rs := RS5) ?hh).mono ?_; (case hh => first | exact HF5.out | exact HF5.out.mv (below_drew1 (Below.refl _ _)) | exact HF5.out.mv (pw_below_drewN (Below.refl _ _) _)); rintro e w6 ⟨g6, rfl, hg_, hgs6, hf_⟩; have HG6 := Aside0.mk hg_; have HF6 := Aside0.mk hf_; have c60 := hf_.c0; have c61 := hf_.c1; have c62 := hf_.c2; (try (have v60 := HF6.out.old HVC.out)); obtain ⟨RS6, hRS6⟩ : ∃ R_, List.tail RS5 = R_ := ⟨_, rfl⟩; rw [hRS6] at HF6; have HRS6 := Aside0.mk hRS6; clear hRS6 hg_ hf_; have za0 : (9223372036854775807 < key.size + 1) = False := eq_false (by omega); have za1 : (9223372036854775807 < key.size + 1 + g6.size) = False := eq_false (by omega); have za2 : (9223372036854775807 < key.size + 1 + g6.size + op.size) = False := eq_false (by omega); skip; refine ⟨_, rfl, ?_⟩))
      all_goals go_wp2
      all_goals
        have HV0 : Aside0 (Y ++ (key ++ ⟨#[32]⟩ ++ g6 ++ op ++ g7 ++ ⟨#[40]⟩ ++ g8) = Y ++ mk (outL (preIn r.1 r.2.1 ++ pcsV (r.2.2.take 0)) RS5)) := ⟨by
         show _ = Y ++ mk (r.1 ++ ([32] ++ (gapL RS5 ++ (r.2.1 ++ (gapL RS5.tail ++ ([40] ++ (gapL RS5.tail.tail ++ [])))))))
         simp only [mk_app, List.append_nil, HKEY.out, HOP.out, HRS6.out, HRS7.out, ← HG6.out, ← HG7.out, ← HG8.out, ByteArray.append_assoc]; first | done | rfl⟩
        have HR0 : Aside0 (RS8 = restL (preIn r.1 r.2.1 ++ pcsV (r.2.2.take 0)) RS5) := ⟨by show _ = RS5.tail.tail.tail; rw [HRS6.out, HRS7.out, HRS8.out]⟩
        obtain ⟨V0, hV0⟩ : ∃ V0, Y ++ (key ++ ⟨#[32]⟩ ++ g6 ++ op ++ g7 ++ ⟨#[40]⟩ ++ g8) = V0 := ⟨_, rfl⟩
        rw [hV0] at HV0 ⊢
        clear hV0
        go_loopg [7, 89] (nv) (fun k v7 v89 w' => ∃ (i : Nat) (V : ByteArray) (RS : L), v89 = .int .i64 i ∧ v7 = .string V ∧ Aside0 (k + i = nv) ∧ Aside0 (V = Y ++ mk (outL (preIn r.1 r.2.1 ++ pcsV (r.2.2.take i)) RS5)) ∧ Aside0 (RS = restL (preIn r.1 r.2.1 ++ pcsV (r.2.2.take i)) RS5) ∧ Aside0 (FrS w w' A n c cs bo key op AV nv cv RS))
        case atStart => exact ⟨0, V0, RS8, rfl, rfl, ⟨by omega⟩, HV0, HR0, HF8⟩
        case round =>
         obtain ⟨i, V, RS9, rfl, rfl, HI, HV, HR9, HF9⟩ := hrel
         have hnv5 : nv ≤ 5 := by rw [← HNV.out]; exact HH5.out r (List.mem_of_getElem? HRR.out)
         have hVs : V.size ≤ 1100000 := by
          rw [HV.out, ByteArray.size_append, mk_size]
          have h1 := preIn_sz r.1 r.2.1 r.2.2 i RS5 (HH5.out r (List.mem_of_getElem? HRR.out))
          have h3 := HHZ.out r (List.mem_of_getElem? HRR.out)
          have h4 := op_len HWR.out
          omega
         by_cases hin : i < nv
         rotate_left
         · have hie : i = nv := by have := HI.out; omega
           have HVE : Aside0 (V = Y ++ mk (outL (preIn r.1 r.2.1 ++ pcsV r.2.2) RS5) ∧ RS9 = restL (preIn r.1 r.2.1 ++ pcsV r.2.2) RS5) := ⟨by
            have h1 := HV.out
            have h2 := HR9.out
            rw [List.take_of_length_le (by rw [HNV.out, hie]; exact Nat.le_refl _)] at h1 h2
            exact ⟨h1, h2⟩⟩
           clear hie
           have zv : (9223372036854775807 < V.size + 1) = False := eq_false (by omega)
           go_wp2
           go_meet
           case rel => exact ⟨_, RS9, rfl, ⟨by rw [HPC.out, ← List.append_assoc, outL_app, mk_app, ← ByteArray.append_assoc, ← HVE.out.1]; rfl⟩, ⟨by rw [HPC.out, ← List.append_assoc, restL_app, ← HVE.out.2]; rfl⟩, HF9⟩
         obtain ⟨x, hx⟩ : ∃ x, r.2.2[i]? = some x := ⟨_, List.getElem?_eq_getElem (by rw [HNV.out]; exact hin)⟩
         have hvi : vs[i]? = some (mk x) := by rw [← HVS.out, List.getElem?_map, hx]; rfl
         obtain ⟨s, hs⟩ : ∃ s, mk x = s := ⟨_, rfl⟩
         rw [hs] at hvi
         have hsz : s.size ≤ 7000 := HVZ.out s (List.mem_of_getElem? hvi)
         obtain ⟨ad, rfl, hk0⟩ := Kd.at_string (Kd.C_below HCW.out HF9.out.gs.be) (i : Int) (by omega) (by omega)
         rw [Int.toNat_natCast] at hk0
         have hg : rdOf ByteArray.empty vs (i : Int) = s := by unfold rdOf; rw [Int.toNat_natCast, List.getD_eq_getElem?_getD, hvi]; rfl
         rw [hg] at hk0
         have HSN : Aside0 (outL (preIn r.1 r.2.1 ++ pcsV (r.2.2.take (i + 1))) RS5 = outL (preIn r.1 r.2.1 ++ pcsV (r.2.2.take i)) RS5 ++ outL (sepP i ++ [.str x, .gap]) RS9 ∧ restL (preIn r.1 r.2.1 ++ pcsV (r.2.2.take (i + 1))) RS5 = restL (sepP i ++ [.str x, .gap]) RS9) := ⟨by
          rw [pcsV_snoc hx, ← List.append_assoc]; exact ⟨by rw [outL_app (preIn r.1 r.2.1 ++ pcsV (r.2.2.take i)), ← HR9.out], by rw [restL_app (preIn r.1 r.2.1 ++ pcsV (r.2.2.take i)), ← HR9.out]⟩⟩
         have HSX := Aside0.mk hs
         clear hg hvi hx hs
         go_upto_if 95 with (fail)
         generalize hbb : decide (0 < i) = bb2
         have HB2 := Aside0.mk hbb
         clear hbb
         cases bb2
         · have HE : Aside0 (sepP i = []) := ⟨if_pos (by have := HB2.out; simp at this; omega)⟩
           go_wp2_with (first | ((with_reducible refine (HF9.out.gap).mono ?_); rintro e w10 ⟨g10, rfl, hg_, hgs10, hf_⟩; have HG10 := Aside0.mk hg_; have HF10 := Aside0.mk hf_; have c100 := hf_.c0; have c101 := hf_.c1; have c102 := hf_.c2; (try (have v100 := HF10.out.old HVC.out)); obtain ⟨RS10, hRS10⟩ : ∃ R_, List.tail RS9 = R_ := ⟨_, rfl⟩; rw [hRS10] at HF10; have HRS10 := Aside0.mk hRS10; clear hRS10 hg_ hf_; have zp0 : (9223372036854775807 < s.size + g10.size) = False := eq_false (by omega); have zpx : (9223372036854775807 < V.size + (s.size + g10.size)) = False := eq_false (by omega); skip))
           go_roundg (gk - 1)
           case measure => have := HI.out; omega
           case rel => exact ⟨i + 1, _, RS10, by go_num, rfl, ⟨by have := HI.out; omega⟩, ⟨by rw [HSN.out.1, HE.out, mk_app]; refine Eq.trans ?_ ByteArray.append_assoc; rw [← HV.out]; show _ = V ++ mk (x ++ (gapL RS9 ++ [])); rw [List.append_nil, mk_app, HSX.out, ← HG10.out]; first | done | simp only [ByteArray.append_assoc]⟩, ⟨by rw [HSN.out.2, HE.out]; exact HRS10.out.symm⟩, HF10⟩
         · have HE : Aside0 (sepP i = [.str [44], .gap]) := ⟨if_neg (by have := HB2.out; simp at this; omega)⟩
           go_wp2_with (first | ((with_reducible refine (HF10.out.gap).mono ?_); rintro e w11 ⟨g11, rfl, hg_, hgs11, hf_⟩; have HG11 := Aside0.mk hg_; have HF11 := Aside0.mk hf_; have c110 := hf_.c0; have c111 := hf_.c1; have c112 := hf_.c2; (try (have v110 := HF11.out.old HVC.out)); obtain ⟨RS11, hRS11⟩ : ∃ R_, List.tail RS10 = R_ := ⟨_, rfl⟩; rw [hRS11] at HF11; have HRS11 := Aside0.mk hRS11; clear hRS11 hg_ hf_; have zq0 : (9223372036854775807 < s.size + g11.size) = False := eq_false (by omega); have zqx : (9223372036854775807 < (V.size + (1 + g10.size)) + (s.size + g11.size)) = False := eq_false (by omega); have zq9 : (9223372036854775807 < V.size + 1 + g10.size + (s.size + g11.size)) = False := eq_false (by omega); skip) | ((with_reducible refine (HF9.out.gap).mono ?_); rintro e w10 ⟨g10, rfl, hg_, hgs10, hf_⟩; have HG10 := Aside0.mk hg_; have HF10 := Aside0.mk hf_; have c100 := hf_.c0; have c101 := hf_.c1; have c102 := hf_.c2; (try (have v100 := HF10.out.old HVC.out)); obtain ⟨RS10, hRS10⟩ : ∃ R_, List.tail RS9 = R_ := ⟨_, rfl⟩; rw [hRS10] at HF10; have HRS10 := Aside0.mk hRS10; clear hRS10 hg_ hf_; have zp0 : (9223372036854775807 < 1 + g10.size) = False := eq_false (by omega); have zpx : (9223372036854775807 < V.size + (1 + g10.size)) = False := eq_false (by omega); skip))
           go_roundg (gk - 1)
           case measure => have := HI.out; omega
           case rel => exact ⟨i + 1, _, RS11, by go_num, rfl, ⟨by have := HI.out; omega⟩, ⟨by rw [HSN.out.1, HE.out, mk_app]; refine Eq.trans ?_ ByteArray.append_assoc; rw [← HV.out]; show _ = V ++ mk ([44] ++ (gapL RS9 ++ (x ++ (gapL RS9.tail ++ [])))); rw [List.append_nil, HRS10.out, mk_app, mk_app, mk_app, HSX.out, ← HG10.out, ← HG11.out]; simp only [ByteArray.append_assoc]; rfl⟩, ⟨by rw [HSN.out.2, HE.out]; show _ = RS9.tail.tail; rw [HRS10.out, HRS11.out]⟩, HF11⟩
    · have hop : op.toList = [103, 116] := by rw [HOPL.out, e]
      have HPC : Aside0 (pcsR r.1 r.2.1 r.2.2 = [.str r.1, .gap, .str [62], .gap, .str (r.2.2.headD [])]) := ⟨by rw [e]; rfl⟩
      have e_nex : (op.toList == ([33] : List UInt8)) = false := by rw [hop]; rfl
      have e_ex : (op.toList == ([101, 120, 105, 115, 116, 115] : List UInt8)) = false := by rw [hop]; rfl
      have e_in : (op.toList == ([105, 110] : List UInt8)) = false := by rw [hop]; rfl
      have e_notin : (op.toList == ([110, 111, 116, 105, 110] : List UInt8)) = false := by rw [hop]; rfl
      have e_gt : (op.toList == ([103, 116] : List UInt8)) = true := by rw [hop]; rfl
      have e_lt : (op.toList == ([108, 116] : List UInt8)) = false := by rw [hop]; rfl
      obtain ⟨x, hx1⟩ := HWR.out.n (by simp [e])
      have HPV : Aside0 (r.2.2 = [x]) := ⟨hx1⟩
      obtain ⟨v, hv⟩ : ∃ v, mk x = v := ⟨_, rfl⟩
      have HVX := Aside0.mk hv
      have hvv : vs = [v] := by rw [← HVS.out, hx1, ← hv]; rfl
      have hvz : v.size ≤ 7000 := HVZ.out v (by rw [hvv]; exact List.mem_cons_self ..)
      have hn1 : nv = 1 := by rw [← HNV.out, hx1]; rfl
      obtain ⟨ad, hAd, hcv⟩ : ∃ ad, AV = some ad ∧ w.cell? ad = some (.string v) := by
       have hC := HCW.out
       rw [hvv, hn1] at hC
       obtain ⟨ad, e1, h3⟩ := Kd.at_string hC 0 (by omega) (by omega)
       have e2 : ad.add 0 = ad := by cases ad; rfl
       exact ⟨ad, e1, by rwa [show (0 : Int).toNat = 0 from rfl, e2] at h3⟩
      subst hAd
      subst hn1
      have HVC := Aside0.mk hcv
      have v50 := HF5.out.old HVC.out
      clear hx1 hv hvv hcv
      clear e hop
      go_upto_region 27 with (fail)
      go_region_held_law (fun w' => w'.cell? ⟨bo, 0, none⟩ = some (.string key) ∧ w'.cell? ⟨bo, 1, none⟩ = some (.string op) ∧ w'.cell? ⟨bo, 2, none⟩ = some (.slice (some ad) 1 cv) ∧ w'.cell? ad = some (.string v)) (first | exact ⟨c50, c51, c52, v50⟩ | exact ⟨c60, c61, c62, v60⟩ | exact ⟨c70, c71, c72, v70⟩ | go_keep) (first | (refine call_ (N := some 120) 46 #[.pointer (some ⟨w.heap.size, 0, none⟩), .pointer (some ⟨w.heap.size + 1, 0, none⟩)] (by rfl) (by rfl) (by go_simp) ?_; refine (FrS.gap (bo := bo) (key := key) (op := op) (AV := some ad) (nv := 1) (cv := cv) (A := A) (n := n) (c := c) (cs := cs) (rs := RS6) ?hh).mono ?_; (case hh => first | exact HF6.out | exact HF6.out.mv (below_drew1 (Below.refl _ _)) | exact HF6.out.mv (pw_below_drewN (Below.refl _ _) _)); rintro e w7 ⟨g7, rfl, hg_, hgs7, hf_⟩; have HG7 := Aside0.mk hg_; have HF7 := Aside0.mk hf_; have c70 := hf_.c0; have c71 := hf_.c1; have c72 := hf_.c2; (try (have v70 := HF7.out.old HVC.out)); obtain ⟨RS7, hRS7⟩ : ∃ R_, List.tail RS6 = R_ := ⟨_, rfl⟩; rw [hRS7] at HF7; have HRS7 := Aside0.mk hRS7; clear hRS7 hg_ hf_; have zb0 : (9223372036854775807 < key.size + g6.size) = False := eq_false (by omega); have zb1 : (9223372036854775807 < key.size + g6.size + 1) = False := eq_false (by omega); have zb2 : (9223372036854775807 < key.size + g6.size + 1 + g7.size) = False := eq_false (by omega); have zb3 : (9223372036854775807 < key.size + g6.size + 1 + g7.size + v.size) = False := eq_false (by omega); have zbx : (9223372036854775807 < Y.size + (key.size + g6.size + 1 + g7.size + v.size)) = False := eq_false (by omega); skip; refine ⟨_, rfl, ?_⟩) | (refine call_ (N := some 116) 46 #[.pointer (some ⟨w.heap.size, 0, none⟩), .pointer (some ⟨w.heap.size + 1, 0, none⟩)] (by rfl) (by rfl) (by go_simp) ?_; refine (FrS.gap (bo := bo) (key := key) (op := op) (AV := some ad) (nv := 1) (cv := cv) (A := A) (n := n) (c := c) (cs := cs) (rs := RS5) ?hh).mono ?_; (case hh => first | exact HF5.out | exact HF5.out.mv (below_drew1 (Below.refl _ _)) | exact HF5.out.mv (pw_below_drewN (Below.refl _ _) _)); rintro e w6 ⟨g6, rfl, hg_, hgs6, hf_⟩; have HG6 := Aside0.mk hg_; have HF6 := Aside0.mk hf_; have c60 := hf_.c0; have c61 := hf_.c1; have c62 := hf_.c2; (try (have v60 := HF6.out.old HVC.out)); obtain ⟨RS6, hRS6⟩ : ∃ R_, List.tail RS5 = R_ := ⟨_, rfl⟩; rw [hRS6] at HF6; have HRS6 := Aside0.mk hRS6; clear hRS6 hg_ hf_; have za0 : (9223372036854775807 < key.size + g6.size) = False := eq_false (by omega); have za1 : (9223372036854775807 < key.size + g6.size + 1) = False := eq_false (by omega); skip; refine ⟨_, rfl, ?_⟩))
      all_goals go_wp2
      all_goals go_meet
      case rel => exact ⟨_, RS7, rfl, ⟨by rw [HPC.out, HPV.out]; show _ = Y ++ mk (r.1 ++ (gapL RS5 ++ ([62] ++ (gapL RS5.tail ++ (x ++ []))))); simp only [mk_app, List.append_nil, HKEY.out, HOP.out, HVX.out, HRS6.out, HRS7.out, ← HG6.out, ← HG7.out, ByteArray.append_assoc]; first | done | rfl⟩, ⟨by rw [HPC.out]; show _ = RS5.tail.tail; rw [HRS6.out, HRS7.out]⟩, HF7⟩
    · have hop : op.toList = [108, 116] := by rw [HOPL.out, e]
      have HPC : Aside0 (pcsR r.1 r.2.1 r.2.2 = [.str r.1, .gap, .str [60], .gap, .str (r.2.2.headD [])]) := ⟨by rw [e]; rfl⟩
      have e_nex : (op.toList == ([33] : List UInt8)) = false := by rw [hop]; rfl
      have e_ex : (op.toList == ([101, 120, 105, 115, 116, 115] : List UInt8)) = false := by rw [hop]; rfl
      have e_in : (op.toList == ([105, 110] : List UInt8)) = false := by rw [hop]; rfl
      have e_notin : (op.toList == ([110, 111, 116, 105, 110] : List UInt8)) = false := by rw [hop]; rfl
      have e_gt : (op.toList == ([103, 116] : List UInt8)) = false := by rw [hop]; rfl
      have e_lt : (op.toList == ([108, 116] : List UInt8)) = true := by rw [hop]; rfl
      obtain ⟨x, hx1⟩ := HWR.out.n (by simp [e])
      have HPV : Aside0 (r.2.2 = [x]) := ⟨hx1⟩
      obtain ⟨v, hv⟩ : ∃ v, mk x = v := ⟨_, rfl⟩
      have HVX := Aside0.mk hv
      have hvv : vs = [v] := by rw [← HVS.out, hx1, ← hv]; rfl
      have hvz : v.size ≤ 7000 := HVZ.out v (by rw [hvv]; exact List.mem_cons_self ..)
      have hn1 : nv = 1 := by rw [← HNV.out, hx1]; rfl
      obtain ⟨ad, hAd, hcv⟩ : ∃ ad, AV = some ad ∧ w.cell? ad = some (.string v) := by
       have hC := HCW.out
       rw [hvv, hn1] at hC
       obtain ⟨ad, e1, h3⟩ := Kd.at_string hC 0 (by omega) (by omega)
       have e2 : ad.add 0 = ad := by cases ad; rfl
       exact ⟨ad, e1, by rwa [show (0 : Int).toNat = 0 from rfl, e2] at h3⟩
      subst hAd
      subst hn1
      have HVC := Aside0.mk hcv
      have v50 := HF5.out.old HVC.out
      clear hx1 hv hvv hcv
      clear e hop
      go_upto_region 29 with (fail)
      go_region_held_law (fun w' => w'.cell? ⟨bo, 0, none⟩ = some (.string key) ∧ w'.cell? ⟨bo, 1, none⟩ = some (.string op) ∧ w'.cell? ⟨bo, 2, none⟩ = some (.slice (some ad) 1 cv) ∧ w'.cell? ad = some (.string v)) (first | exact ⟨c50, c51, c52, v50⟩ | exact ⟨c60, c61, c62, v60⟩ | exact ⟨c70, c71, c72, v70⟩ | go_keep) (first | (refine call_ (N := some 138) 46 #[.pointer (some ⟨w.heap.size, 0, none⟩), .pointer (some ⟨w.heap.size + 1, 0, none⟩)] (by rfl) (by rfl) (by go_simp) ?_; refine (FrS.gap (bo := bo) (key := key) (op := op) (AV := some ad) (nv := 1) (cv := cv) (A := A) (n := n) (c := c) (cs := cs) (rs := RS6) ?hh).mono ?_; (case hh => first | exact HF6.out | exact HF6.out.mv (below_drew1 (Below.refl _ _)) | exact HF6.out.mv (pw_below_drewN (Below.refl _ _) _)); rintro e w7 ⟨g7, rfl, hg_, hgs7, hf_⟩; have HG7 := Aside0.mk hg_; have HF7 := Aside0.mk hf_; have c70 := hf_.c0; have c71 := hf_.c1; have c72 := hf_.c2; (try (have v70 := HF7.out.old HVC.out)); obtain ⟨RS7, hRS7⟩ : ∃ R_, List.tail RS6 = R_ := ⟨_, rfl⟩; rw [hRS7] at HF7; have HRS7 := Aside0.mk hRS7; clear hRS7 hg_ hf_; have zb0 : (9223372036854775807 < key.size + g6.size) = False := eq_false (by omega); have zb1 : (9223372036854775807 < key.size + g6.size + 1) = False := eq_false (by omega); have zb2 : (9223372036854775807 < key.size + g6.size + 1 + g7.size) = False := eq_false (by omega); have zb3 : (9223372036854775807 < key.size + g6.size + 1 + g7.size + v.size) = False := eq_false (by omega); have zbx : (9223372036854775807 < Y.size + (key.size + g6.size + 1 + g7.size + v.size)) = False := eq_false (by omega); skip; refine ⟨_, rfl, ?_⟩) | (refine call_ (N := some 134) 46 #[.pointer (some ⟨w.heap.size, 0, none⟩), .pointer (some ⟨w.heap.size + 1, 0, none⟩)] (by rfl) (by rfl) (by go_simp) ?_; refine (FrS.gap (bo := bo) (key := key) (op := op) (AV := some ad) (nv := 1) (cv := cv) (A := A) (n := n) (c := c) (cs := cs) (rs := RS5) ?hh).mono ?_; (case hh => first | exact HF5.out | exact HF5.out.mv (below_drew1 (Below.refl _ _)) | exact HF5.out.mv (pw_below_drewN (Below.refl _ _) _)); rintro e w6 ⟨g6, rfl, hg_, hgs6, hf_⟩; have HG6 := Aside0.mk hg_; have HF6 := Aside0.mk hf_; have c60 := hf_.c0; have c61 := hf_.c1; have c62 := hf_.c2; (try (have v60 := HF6.out.old HVC.out)); obtain ⟨RS6, hRS6⟩ : ∃ R_, List.tail RS5 = R_ := ⟨_, rfl⟩; rw [hRS6] at HF6; have HRS6 := Aside0.mk hRS6; clear hRS6 hg_ hf_; have za0 : (9223372036854775807 < key.size + g6.size) = False := eq_false (by omega); have za1 : (9223372036854775807 < key.size + g6.size + 1) = False := eq_false (by omega); skip; refine ⟨_, rfl, ?_⟩))
      all_goals go_wp2
      all_goals go_meet
      case rel => exact ⟨_, RS7, rfl, ⟨by rw [HPC.out, HPV.out]; show _ = Y ++ mk (r.1 ++ (gapL RS5 ++ ([60] ++ (gapL RS5.tail ++ (x ++ []))))); simp only [mk_app, List.append_nil, HKEY.out, HOP.out, HVX.out, HRS6.out, HRS7.out, ← HG6.out, ← HG7.out, ByteArray.append_assoc]; first | done | rfl⟩, ⟨by rw [HPC.out]; show _ = RS5.tail.tail; rw [HRS6.out, HRS7.out]⟩, HF7⟩
    · have hop : op.toList = [61] := by rw [HOPL.out, e]
      have HPC : Aside0 (pcsR r.1 r.2.1 r.2.2 = [.str r.1, .gap, .str r.2.1, .gap, .str (r.2.2.headD [])]) := ⟨by rw [e]; rfl⟩
      have e_nex : (op.toList == ([33] : List UInt8)) = false := by rw [hop]; rfl
      have e_ex : (op.toList == ([101, 120, 105, 115, 116, 115] : List UInt8)) = false := by rw [hop]; rfl
      have e_in : (op.toList == ([105, 110] : List UInt8)) = false := by rw [hop]; rfl
      have e_notin : (op.toList == ([110, 111, 116, 105, 110] : List UInt8)) = false := by rw [hop]; rfl
      have e_gt : (op.toList == ([103, 116] : List UInt8)) = false := by rw [hop]; rfl
      have e_lt : (op.toList == ([108, 116] : List UInt8)) = false := by rw [hop]; rfl
      obtain ⟨x, hx1⟩ := HWR.out.n (by simp [e])
      have HPV : Aside0 (r.2.2 = [x]) := ⟨hx1⟩
      obtain ⟨v, hv⟩ : ∃ v, mk x = v := ⟨_, rfl⟩
      have HVX := Aside0.mk hv
      have hvv : vs = [v] := by rw [← HVS.out, hx1, ← hv]; rfl
      have hvz : v.size ≤ 7000 := HVZ.out v (by rw [hvv]; exact List.mem_cons_self ..)
      have hn1 : nv = 1 := by rw [← HNV.out, hx1]; rfl
      obtain ⟨ad, hAd, hcv⟩ : ∃ ad, AV = some ad ∧ w.cell? ad = some (.string v) := by
       have hC := HCW.out
       rw [hvv, hn1] at hC
       obtain ⟨ad, e1, h3⟩ := Kd.at_string hC 0 (by omega) (by omega)
       have e2 : ad.add 0 = ad := by cases ad; rfl
       exact ⟨ad, e1, by rwa [show (0 : Int).toNat = 0 from rfl, e2] at h3⟩
      subst hAd
      subst hn1
      have HVC := Aside0.mk hcv
      have v50 := HF5.out.old HVC.out
      clear hx1 hv hvv hcv
      clear e hop
      go_upto_region 10 with (fail)
      go_region_held_law (fun w' => w'.cell? ⟨bo, 0, none⟩ = some (.string key) ∧ w'.cell? ⟨bo, 1, none⟩ = some (.string op) ∧ w'.cell? ⟨bo, 2, none⟩ = some (.slice (some ad) 1 cv) ∧ w'.cell? ad = some (.string v)) (first | exact ⟨c50, c51, c52, v50⟩ | exact ⟨c60, c61, c62, v60⟩ | exact ⟨c70, c71, c72, v70⟩ | go_keep) (first | (refine call_ (N := some 41) 46 #[.pointer (some ⟨w.heap.size, 0, none⟩), .pointer (some ⟨w.heap.size + 1, 0, none⟩)] (by rfl) (by rfl) (by go_simp) ?_; refine (FrS.gap (bo := bo) (key := key) (op := op) (AV := some ad) (nv := 1) (cv := cv) (A := A) (n := n) (c := c) (cs := cs) (rs := RS6) ?hh).mono ?_; (case hh => first | exact HF6.out | exact HF6.out.mv (below_drew1 (Below.refl _ _)) | exact HF6.out.mv (pw_below_drewN (Below.refl _ _) _)); rintro e w7 ⟨g7, rfl, hg_, hgs7, hf_⟩; have HG7 := Aside0.mk hg_; have HF7 := Aside0.mk hf_; have c70 := hf_.c0; have c71 := hf_.c1; have c72 := hf_.c2; (try (have v70 := HF7.out.old HVC.out)); obtain ⟨RS7, hRS7⟩ : ∃ R_, List.tail RS6 = R_ := ⟨_, rfl⟩; rw [hRS7] at HF7; have HRS7 := Aside0.mk hRS7; clear hRS7 hg_ hf_; have zb0 : (9223372036854775807 < key.size + g6.size) = False := eq_false (by omega); have zb1 : (9223372036854775807 < key.size + g6.size + op.size) = False := eq_false (by omega); have zb2 : (9223372036854775807 < key.size + g6.size + op.size + g7.size) = False := eq_false (by omega); have zb3 : (9223372036854775807 < key.size + g6.size + op.size + g7.size + v.size) = False := eq_false (by omega); have zbx : (9223372036854775807 < Y.size + (key.size + g6.size + op.size + g7.size + v.size)) = False := eq_false (by omega); skip; refine ⟨_, rfl, ?_⟩) | (refine call_ (N := some 35) 46 #[.pointer (some ⟨w.heap.size, 0, none⟩), .pointer (some ⟨w.heap.size + 1, 0, none⟩)] (by rfl) (by rfl) (by go_simp) ?_; refine (FrS.gap (bo := bo) (key := key) (op := op) (AV := some ad) (nv := 1) (cv := cv) (A := A) (n := n) (c := c) (cs := cs) (rs := RS5) ?hh).mono ?_; (case hh => first | exact HF5.out | exact HF5.out.mv (below_drew1 (Below.refl _ _)) | exact HF5.out.mv (pw_below_drewN (Below.refl _ _) _)); rintro e w6 ⟨g6, rfl, hg_, hgs6, hf_⟩; have HG6 := Aside0.mk hg_; have HF6 := Aside0.mk hf_; have c60 := hf_.c0; have c61 := hf_.c1; have c62 := hf_.c2; (try (have v60 := HF6.out.old HVC.out)); obtain ⟨RS6, hRS6⟩ : ∃ R_, List.tail RS5 = R_ := ⟨_, rfl⟩; rw [hRS6] at HF6; have HRS6 := Aside0.mk hRS6; clear hRS6 hg_ hf_; have za0 : (9223372036854775807 < key.size + g6.size) = False := eq_false (by omega); have za1 : (9223372036854775807 < key.size + g6.size + op.size) = False := eq_false (by omega); skip; refine ⟨_, rfl, ?_⟩))
      all_goals go_wp2
      all_goals go_meet
      case rel => exact ⟨_, RS7, rfl, ⟨by rw [HPC.out, HPV.out]; show _ = Y ++ mk (r.1 ++ (gapL RS5 ++ (r.2.1 ++ (gapL RS5.tail ++ (x ++ []))))); simp only [mk_app, List.append_nil, HKEY.out, HOP.out, HVX.out, HRS6.out, HRS7.out, ← HG6.out, ← HG7.out, ByteArray.append_assoc]; first | done | rfl⟩, ⟨by rw [HPC.out]; show _ = RS5.tail.tail; rw [HRS6.out, HRS7.out]⟩, HF7⟩
    · have hop : op.toList = [61, 61] := by rw [HOPL.out, e]
      have HPC : Aside0 (pcsR r.1 r.2.1 r.2.2 = [.str r.1, .gap, .str r.2.1, .gap, .str (r.2.2.headD [])]) := ⟨by rw [e]; rfl⟩
      have e_nex : (op.toList == ([33] : List UInt8)) = false := by rw [hop]; rfl
      have e_ex : (op.toList == ([101, 120, 105, 115, 116, 115] : List UInt8)) = false := by rw [hop]; rfl
      have e_in : (op.toList == ([105, 110] : List UInt8)) = false := by rw [hop]; rfl
      have e_notin : (op.toList == ([110, 111, 116, 105, 110] : List UInt8)) = false := by rw [hop]; rfl
      have e_gt : (op.toList == ([103, 116] : List UInt8)) = false := by rw [hop]; rfl
      have e_lt : (op.toList == ([108, 116] : List UInt8)) = false := by rw [hop]; rfl
      obtain ⟨x, hx1⟩ := HWR.out.n (by simp [e])
      have HPV : Aside0 (r.2.2 = [x]) := ⟨hx1⟩
      obtain ⟨v, hv⟩ : ∃ v, mk x = v := ⟨_, rfl⟩
      have HVX := Aside0.mk hv
      have hvv : vs = [v] := by rw [← HVS.out, hx1, ← hv]; rfl
      have hvz : v.size ≤ 7000 := HVZ.out v (by rw [hvv]; exact List.mem_cons_self ..)
      have hn1 : nv = 1 := by rw [← HNV.out, hx1]; rfl
      obtain ⟨ad, hAd, hcv⟩ : ∃ ad, AV = some ad ∧ w.cell? ad = some (.string v) := by
       have hC := HCW.out
       rw [hvv, hn1] at hC
       obtain ⟨ad, e1, h3⟩ := Kd.at_string hC 0 (by omega) (by omega)
       have e2 : ad.add 0 = ad := by cases ad; rfl
       exact ⟨ad, e1, by rwa [show (0 : Int).toNat = 0 from rfl, e2] at h3⟩
      subst hAd
      subst hn1
      have HVC := Aside0.mk hcv
      have v50 := HF5.out.old HVC.out
      clear hx1 hv hvv hcv
      clear e hop
      go_upto_region 10 with (fail)
      go_region_held_law (fun w' => w'.cell? ⟨bo, 0, none⟩ = some (.string key) ∧ w'.cell? ⟨bo, 1, none⟩ = some (.string op) ∧ w'.cell? ⟨bo, 2, none⟩ = some (.slice (some ad) 1 cv) ∧ w'.cell? ad = some (.string v)) (first | exact ⟨c50, c51, c52, v50⟩ | exact ⟨c60, c61, c62, v60⟩ | exact ⟨c70, c71, c72, v70⟩ | go_keep) (first | (refine call_ (N := some 41) 46 #[.pointer (some ⟨w.heap.size, 0, none⟩), .pointer (some ⟨w.heap.size + 1, 0, none⟩)] (by rfl) (by rfl) (by go_simp) ?_; refine (FrS.gap (bo := bo) (key := key) (op := op) (AV := some ad) (nv := 1) (cv := cv) (A := A) (n := n) (c := c) (cs := cs) (rs := RS6) ?hh).mono ?_; (case hh => first | exact HF6.out | exact HF6.out.mv (below_drew1 (Below.refl _ _)) | exact HF6.out.mv (pw_below_drewN (Below.refl _ _) _)); rintro e w7 ⟨g7, rfl, hg_, hgs7, hf_⟩; have HG7 := Aside0.mk hg_; have HF7 := Aside0.mk hf_; have c70 := hf_.c0; have c71 := hf_.c1; have c72 := hf_.c2; (try (have v70 := HF7.out.old HVC.out)); obtain ⟨RS7, hRS7⟩ : ∃ R_, List.tail RS6 = R_ := ⟨_, rfl⟩; rw [hRS7] at HF7; have HRS7 := Aside0.mk hRS7; clear hRS7 hg_ hf_; have zb0 : (9223372036854775807 < key.size + g6.size) = False := eq_false (by omega); have zb1 : (9223372036854775807 < key.size + g6.size + op.size) = False := eq_false (by omega); have zb2 : (9223372036854775807 < key.size + g6.size + op.size + g7.size) = False := eq_false (by omega); have zb3 : (9223372036854775807 < key.size + g6.size + op.size + g7.size + v.size) = False := eq_false (by omega); have zbx : (9223372036854775807 < Y.size + (key.size + g6.size + op.size + g7.size + v.size)) = False := eq_false (by omega); skip; refine ⟨_, rfl, ?_⟩) | (refine call_ (N := some 35) 46 #[.pointer (some ⟨w.heap.size, 0, none⟩), .pointer (some ⟨w.heap.size + 1, 0, none⟩)] (by rfl) (by rfl) (by go_simp) ?_; refine (FrS.gap (bo := bo) (key := key) (op := op) (AV := some ad) (nv := 1) (cv := cv) (A := A) (n := n) (c := c) (cs := cs) (rs := RS5) ?hh).mono ?_; (case hh => first | exact HF5.out | exact HF5.out.mv (below_drew1 (Below.refl _ _)) | exact HF5.out.mv (pw_below_drewN (Below.refl _ _) _)); rintro e w6 ⟨g6, rfl, hg_, hgs6, hf_⟩; have HG6 := Aside0.mk hg_; have HF6 := Aside0.mk hf_; have c60 := hf_.c0; have c61 := hf_.c1; have c62 := hf_.c2; (try (have v60 := HF6.out.old HVC.out)); obtain ⟨RS6, hRS6⟩ : ∃ R_, List.tail RS5 = R_ := ⟨_, rfl⟩; rw [hRS6] at HF6; have HRS6 := Aside0.mk hRS6; clear hRS6 hg_ hf_; have za0 : (9223372036854775807 < key.size + g6.size) = False := eq_false (by omega); have za1 : (9223372036854775807 < key.size + g6.size + op.size) = False := eq_false (by omega); skip; refine ⟨_, rfl, ?_⟩))
      all_goals go_wp2
      all_goals go_meet
      case rel => exact ⟨_, RS7, rfl, ⟨by rw [HPC.out, HPV.out]; show _ = Y ++ mk (r.1 ++ (gapL RS5 ++ (r.2.1 ++ (gapL RS5.tail ++ (x ++ []))))); simp only [mk_app, List.append_nil, HKEY.out, HOP.out, HVX.out, HRS6.out, HRS7.out, ← HG6.out, ← HG7.out, ByteArray.append_assoc]; first | done | rfl⟩, ⟨by rw [HPC.out]; show _ = RS5.tail.tail; rw [HRS6.out, HRS7.out]⟩, HF7⟩
    · have hop : op.toList = [33, 61] := by rw [HOPL.out, e]
      have HPC : Aside0 (pcsR r.1 r.2.1 r.2.2 = [.str r.1, .gap, .str r.2.1, .gap, .str (r.2.2.headD [])]) := ⟨by rw [e]; rfl⟩
      have e_nex : (op.toList == ([33] : List UInt8)) = false := by rw [hop]; rfl
      have e_ex : (op.toList == ([101, 120, 105, 115, 116, 115] : List UInt8)) = false := by rw [hop]; rfl
      have e_in : (op.toList == ([105, 110] : List UInt8)) = false := by rw [hop]; rfl
      have e_notin : (op.toList == ([110, 111, 116, 105, 110] : List UInt8)) = false := by rw [hop]; rfl
      have e_gt : (op.toList == ([103, 116] : List UInt8)) = false := by rw [hop]; rfl
      have e_lt : (op.toList == ([108, 116] : List UInt8)) = false := by rw [hop]; rfl
      obtain ⟨x, hx1⟩ := HWR.out.n (by simp [e])
      have HPV : Aside0 (r.2.2 = [x]) := ⟨hx1⟩
      obtain ⟨v, hv⟩ : ∃ v, mk x = v := ⟨_, rfl⟩
      have HVX := Aside0.mk hv
      have hvv : vs = [v] := by rw [← HVS.out, hx1, ← hv]; rfl
      have hvz : v.size ≤ 7000 := HVZ.out v (by rw [hvv]; exact List.mem_cons_self ..)
      have hn1 : nv = 1 := by rw [← HNV.out, hx1]; rfl
      obtain ⟨ad, hAd, hcv⟩ : ∃ ad, AV = some ad ∧ w.cell? ad = some (.string v) := by
       have hC := HCW.out
       rw [hvv, hn1] at hC
       obtain ⟨ad, e1, h3⟩ := Kd.at_string hC 0 (by omega) (by omega)
       have e2 : ad.add 0 = ad := by cases ad; rfl
       exact ⟨ad, e1, by rwa [show (0 : Int).toNat = 0 from rfl, e2] at h3⟩
      subst hAd
      subst hn1
      have HVC := Aside0.mk hcv
      have v50 := HF5.out.old HVC.out
      clear hx1 hv hvv hcv
      clear e hop
      go_upto_region 10 with (fail)
      go_region_held_law (fun w' => w'.cell? ⟨bo, 0, none⟩ = some (.string key) ∧ w'.cell? ⟨bo, 1, none⟩ = some (.string op) ∧ w'.cell? ⟨bo, 2, none⟩ = some (.slice (some ad) 1 cv) ∧ w'.cell? ad = some (.string v)) (first | exact ⟨c50, c51, c52, v50⟩ | exact ⟨c60, c61, c62, v60⟩ | exact ⟨c70, c71, c72, v70⟩ | go_keep) (first | (refine call_ (N := some 41) 46 #[.pointer (some ⟨w.heap.size, 0, none⟩), .pointer (some ⟨w.heap.size + 1, 0, none⟩)] (by rfl) (by rfl) (by go_simp) ?_; refine (FrS.gap (bo := bo) (key := key) (op := op) (AV := some ad) (nv := 1) (cv := cv) (A := A) (n := n) (c := c) (cs := cs) (rs := RS6) ?hh).mono ?_; (case hh => first | exact HF6.out | exact HF6.out.mv (below_drew1 (Below.refl _ _)) | exact HF6.out.mv (pw_below_drewN (Below.refl _ _) _)); rintro e w7 ⟨g7, rfl, hg_, hgs7, hf_⟩; have HG7 := Aside0.mk hg_; have HF7 := Aside0.mk hf_; have c70 := hf_.c0; have c71 := hf_.c1; have c72 := hf_.c2; (try (have v70 := HF7.out.old HVC.out)); obtain ⟨RS7, hRS7⟩ : ∃ R_, List.tail RS6 = R_ := ⟨_, rfl⟩; rw [hRS7] at HF7; have HRS7 := Aside0.mk hRS7; clear hRS7 hg_ hf_; have zb0 : (9223372036854775807 < key.size + g6.size) = False := eq_false (by omega); have zb1 : (9223372036854775807 < key.size + g6.size + op.size) = False := eq_false (by omega); have zb2 : (9223372036854775807 < key.size + g6.size + op.size + g7.size) = False := eq_false (by omega); have zb3 : (9223372036854775807 < key.size + g6.size + op.size + g7.size + v.size) = False := eq_false (by omega); have zbx : (9223372036854775807 < Y.size + (key.size + g6.size + op.size + g7.size + v.size)) = False := eq_false (by omega); skip; refine ⟨_, rfl, ?_⟩) | (refine call_ (N := some 35) 46 #[.pointer (some ⟨w.heap.size, 0, none⟩), .pointer (some ⟨w.heap.size + 1, 0, none⟩)] (by rfl) (by rfl) (by go_simp) ?_; refine (FrS.gap (bo := bo) (key := key) (op := op) (AV := some ad) (nv := 1) (cv := cv) (A := A) (n := n) (c := c) (cs := cs) (rs := RS5) ?hh).mono ?_; (case hh => first | exact HF5.out | exact HF5.out.mv (below_drew1 (Below.refl _ _)) | exact HF5.out.mv (pw_below_drewN (Below.refl _ _) _)); rintro e w6 ⟨g6, rfl, hg_, hgs6, hf_⟩; have HG6 := Aside0.mk hg_; have HF6 := Aside0.mk hf_; have c60 := hf_.c0; have c61 := hf_.c1; have c62 := hf_.c2; (try (have v60 := HF6.out.old HVC.out)); obtain ⟨RS6, hRS6⟩ : ∃ R_, List.tail RS5 = R_ := ⟨_, rfl⟩; rw [hRS6] at HF6; have HRS6 := Aside0.mk hRS6; clear hRS6 hg_ hf_; have za0 : (9223372036854775807 < key.size + g6.size) = False := eq_false (by omega); have za1 : (9223372036854775807 < key.size + g6.size + op.size) = False := eq_false (by omega); skip; refine ⟨_, rfl, ?_⟩))
      all_goals go_wp2
      all_goals go_meet
      case rel => exact ⟨_, RS7, rfl, ⟨by rw [HPC.out, HPV.out]; show _ = Y ++ mk (r.1 ++ (gapL RS5 ++ (r.2.1 ++ (gapL RS5.tail ++ (x ++ []))))); simp only [mk_app, List.append_nil, HKEY.out, HOP.out, HVX.out, HRS6.out, HRS7.out, ← HG6.out, ← HG7.out, ByteArray.append_assoc]; first | done | rfl⟩, ⟨by rw [HPC.out]; show _ = RS5.tail.tail; rw [HRS6.out, HRS7.out]⟩, HF7⟩
   case rest =>
    obtain ⟨Z, RS8, rfl, HZ, HR8, HF8⟩ := hcut
    have hZs : Z.size ≤ 1020000 := by
     rw [HZ.out, ByteArray.size_append, mk_size]
     have h1 := out_sz (pcsR r.1 r.2.1 r.2.2) RS5
     have h2 := sz_req HWR.out
     have h3 := HHZ.out r (List.mem_of_getElem? HRR.out)
     have h4 := HH5.out r (List.mem_of_getElem? HRR.out)
     omega
    clear c50 c51 c52 HF5
    go_wp2_with (first | ((with_reducible refine (HF8.out.gap).mono ?_); rintro e w9 ⟨g9, rfl, hg_, hgs9, hf_⟩; have HG9 := Aside0.mk hg_; have HF9 := Aside0.mk hf_; have c90 := hf_.c0; have c91 := hf_.c1; have c92 := hf_.c2; (try (have v90 := HF9.out.old HVC.out)); obtain ⟨RS9, hRS9⟩ : ∃ R_, List.tail RS8 = R_ := ⟨_, rfl⟩; rw [hRS9] at HF9; have HRS9 := Aside0.mk hRS9; clear hRS9 hg_ hf_; have zr : (9223372036854775807 < Z.size + g9.size) = False := eq_false (by omega); skip))
    go_roundg (go - 1)
    case measure => have := HJ.out; omega
    case rel => exact ⟨j + 1, by go_num, congrArg Value.string (by rw [HS1.out, mk_app, mk_app, mk_app, HX.out, HRS3.out, ← HR5.out, ← HR8.out, ← HG9.out, ← HY.out, ← HZ.out]), ⟨by have := HJ.out; omega⟩, ⟨by rw [HS2.out, HRS3.out, ← HR5.out, ← HR8.out, HRS9.out]; exact HF9.out.gs⟩⟩
end Go.Proofs.YthfjolafikgpoaaGreatDoor.Hand
