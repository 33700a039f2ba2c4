/- slices.SortFunc over pairs, by their keys: cmp.Compare of texts, the closure of impl.pairs, and what the row holds behind it. -/
import Derived.Test.YteigfmchnblkgaaGreatDoorMTM15
import Derived.Test.YteigfmchnblkgaaGreatDoorMTM6
import Derived.Test.YteigfmchnblkgaaGreatDoorMTKeyed
namespace Go.Proofs.YteigfmchnblkgaaGreatDoor.Hand
open Go.RowKit Go.Maps Go.Proofs.YteigfmchnblkgaaGreatDoorW.PrintWords Go.Proofs.YteigfmchnblkgaaGreatDoorW.PrintLast Go.Proofs.YteigfmchnblkgaaGreatDoorW.PrintMore Go.Proofs.YteigfmchnblkgaaGreatDoor.Base
open Go.Sort (ltStr SWO PermIn SortedIn Holds putRow HoldsK putRowK flatK)
set_option linter.unusedVariables false
set_option linter.unusedSimpArgs false
set_option maxRecDepth 100000
/-- A pair's two cells. -/
def encLP (p : LP) : List Value := [.string (mk p.1), .string (mk p.2)]
/-- Pairs compared by their keys. -/
def cmpK (x y : LP) : Int := if ltStr x.1 y.1 then -1 else if ltStr y.1 x.1 then 1 else 0
theorem ltOf_cmpK (x y : LP) : ltOf cmpK x y = ltStr x.1 y.1 := by
  unfold ltOf cmpK
  cases h : ltStr x.1 y.1 <;> cases h2 : ltStr y.1 x.1 <;> simp
theorem swo_cmpK : SWO (ltOf cmpK) where
  irrefl x := by rw [ltOf_cmpK]; exact Go.Sort.swo_ltStr.irrefl x.1
  trans x y z h1 h2 := by rw [ltOf_cmpK] at *; exact Go.Sort.swo_ltStr.trans x.1 y.1 z.1 h1 h2
  ntrans x y z h1 h2 := by rw [ltOf_cmpK] at *; exact Go.Sort.swo_ltStr.ntrans x.1 y.1 z.1 h1 h2
theorem encP_at (xs : List (ByteArray × ByteArray)) (j r : Nat) (hj : j < xs.length) (hr : r < 2) : (encP xs)[j * 2 + r]? = some (if r = 0 then .string xs[j].1 else .string xs[j].2) := by
  rw [← List.getElem?_drop, encP_drop, List.drop_eq_getElem_cons hj]
  match r, hr with
  | 0, _ => rfl
  | 1, _ => rfl
theorem flat_at (d : Array LP) (t : Nat) (ht : t < d.size * 2) : (encP (d.toList.map mkP))[t]? = some (flatK encLP 2 d)[t]! := by
  have hj : t / 2 < d.size := by omega
  have e : t = t / 2 * 2 + t % 2 := by omega
  rw [Go.Sort.get_flatK _ _ _ t ht]
  conv => lhs; rw [e]
  rw [encP_at _ (t / 2) (t % 2) (by simpa using hj) (by omega), getElem!_pos d (t / 2) hj]
  rcases (show t % 2 = 0 ∨ t % 2 = 1 by omega) with h | h <;> rw [h] <;> simp [encLP]
theorem pk_holds {e : Nat} {W : World} {base g cap : Nat} {l : List LP} (hR : PK.R e W base (fun _ => True) (.slice (some ⟨g, 0, none⟩) l.length cap) (l.map mkP)) : HoldsK encLP 2 W g 0 l.toArray := by
  intro t ht
  rw [Go.Sort.size_flatK] at ht
  have hown := pk_own hR
  obtain ⟨hl, ⟨e0, _⟩ | ⟨g', cap', cur, e0, hbase, hcur, hn, hcm, hsz, htk⟩⟩ := hown
  · exact absurd e0 (by simp)
  · have hg : g' = g := by
      simp only [Value.slice.injEq, Option.some.injEq, Addr.mk.injEq] at e0
      exact e0.1.1.symm
    subst hg
    rw [Nat.zero_add]
    have h1 := flat_at l.toArray t ht
    rw [List.length_map] at htk
    have ht2 : t < l.length * 2 := by simpa using ht
    refine ⟨(blk_cell hcur _).trans ?_, blk_frozen hcur _⟩
    show _ = some (flatK encLP 2 l.toArray)[t]!
    rw [← h1, ← Array.getElem?_toList, ← List.getElem?_take_of_lt ht2, htk]
theorem pk_putK {e : Nat} {W : World} {base g cap : Nat} {l : List LP} (hR : PK.R e W base (fun _ => True) (.slice (some ⟨g, 0, none⟩) l.length cap) (l.map mkP)) (d : Array LP) (hd : d.size = l.length) (n : Nat) (os : Array Obj) :
    PK.R e (sortWorldK encLP 2 W g 0 n d os) base (fun _ => True) (.slice (some ⟨g, 0, none⟩) l.length cap) (d.toList.map mkP) ∧ W.grownBy (sortWorldK encLP 2 W g 0 n d os) (some g) := by
  have hown := pk_own hR
  rw [List.length_map] at hown
  obtain ⟨hl, ⟨e0, _⟩ | ⟨g', cap', cur, e0, hbase, hcur, hn, hcm, hsz, htk⟩⟩ := hown
  · exact absurd e0 (by simp)
  · have hg : g' = g ∧ cap' = cap := by
      simp only [Value.slice.injEq, Option.some.injEq, Addr.mk.injEq] at e0
      exact ⟨e0.1.1.symm, e0.2.2.symm⟩
    obtain ⟨rfl, rfl⟩ := hg
    have hlt : g' < W.heap.size := blk_lt hcur
    have hput : (sortWorldK encLP 2 W g' 0 n d os).heap[g']? = some (.cells (Sort.putCells id 0 (flatK encLP 2 d) cur) e (0, 0)) := by
      unfold sortWorldK putRowK
      rw [Sort.heap_grow_old _ _ (by simpa using hlt)]
      unfold Sort.putRow Sort.mapBlock
      simp [Array.getElem?_modify, hcur, Sort.onCells]
    refine ⟨pk_of_own ?_, rfl, rfl, rfl, by unfold sortWorldK putRowK; simp, fun i hi hne => ?_⟩
    · rw [show (d.toList.map mkP).length = l.length by simp [hd]]
      refine ⟨by rw [encP_len]; simp [hd], .inr ⟨g', cap', Sort.putCells id 0 (flatK encLP 2 d) cur, rfl, hbase, hput, hn, hcm, by simp [Sort.putCells, hsz], ?_⟩⟩
      apply List.ext_getElem?
      intro k
      by_cases hk : k < l.length * 2
      · have hkc : k < cur.size := by omega
        rw [List.getElem?_take_of_lt hk, flat_at d k (by omega)]
        simp [Sort.putCells, hk, hkc, hd]
      · rw [List.getElem?_eq_none (by simp; omega), List.getElem?_eq_none (by rw [encP_len]; simp [hd]; omega)]
    · unfold sortWorldK putRowK
      rw [Sort.heap_grow_old _ _ (by simpa using hi)]
      unfold Sort.putRow Sort.mapBlock
      have : g' ≠ i := fun h => hne (by rw [h])
      simp [Array.getElem?_modify, this]
theorem isNaN_calls (a : ByteArray) (W : World) : Calls Tryz.prog 106 #[.string a] W fun e w' => e = .returned (.bool false) ∧ w' = W := by
  go_enter Tryz.func106, Tryz.ntmps106
  go_wp2
  go_ret
  exact ⟨by simp, rfl⟩
set_option maxHeartbeats 2000000 in
theorem Compare_calls (a b : ByteArray) (W : World) : Calls Tryz.prog 87 #[.string a, .string b] W fun e w' => e = .returned (.int .i64 (cmpK (a.toList, []) (b.toList, []))) ∧ w' = W := by
  have H1 := Aside0.mk (isNaN_calls a)
  have H2 := Aside0.mk (isNaN_calls b)
  obtain ⟨p, hp⟩ : ∃ p, ltStr a.toList b.toList = p := ⟨_, rfl⟩
  obtain ⟨q, hq⟩ : ∃ q, ltStr b.toList a.toList = q := ⟨_, rfl⟩
  have hpb : Op.bytesLess a.toList b.toList = p := by rw [← hp]; simp [Sort.ltStr, bytesLess_eq]
  have hqb : Op.bytesLess b.toList a.toList = q := by rw [← hq]; simp [Sort.ltStr, bytesLess_eq]
  rw [show cmpK (a.toList, []) (b.toList, []) = if p then -1 else if q then 1 else 0 from by rw [← hp, ← hq]; rfl]
  have hg0 : (!(Op.bytesLess a.toList b.toList || a.toList == b.toList)) = q := by
    rw [hpb]
    cases p with
    | true =>
      cases q with
      | false => rfl
      | true => exact absurd (trn hp hq) (by rw [irr]; simp)
    | false =>
      by_cases e : a.toList = b.toList
      · rw [e, irr] at hq
        rw [e, ← hq]; simp
      · have := tri (x := a.toList) (y := b.toList) (by rw [hp]; simp) e
        rw [this] at hq
        rw [← hq, beq_eq_false_iff_ne.2 e]; rfl
  have hgt : ∀ W, (binOp .gtr 9 (.string a) (.string b)).run Tryz.prog W = .ok (.bool q) W := fun W => by
    rw [← hg0]; simp [binOp, Op.stringOp, go_sem]
  clear hp hq hg0
  cases p <;> cases q <;>
  (go_enter Tryz.func87, Tryz.ntmps87
   go_wp2_with (first | ((with_reducible refine (H1.out _).mono ?_); rintro e w1 ⟨rfl, rfl⟩) | ((with_reducible refine (H2.out _).mono ?_); rintro e w1 ⟨rfl, rfl⟩))
   go_ret
   exact ⟨rfl, rfl⟩)
set_option maxHeartbeats 2000000 in
theorem cmpP_calls (x y : LP) (W : World) : Calls Tryz.prog 86 #[.agg #[.string (mk x.1), .string (mk x.2)], .agg #[.string (mk y.1), .string (mk y.2)]] W fun e w' => e = .returned (.int .i64 (cmpK x y)) ∧ ∃ q os', w' = Sort.grow (W.drewN q) os' := by
  have hc : cmpK x y = cmpK ((mk x.1).toList, []) ((mk y.1).toList, []) := by rw [mk_toList, mk_toList]; rfl
  rw [hc]
  have HC := Aside0.mk (fun W' => Compare_calls (mk x.1) (mk y.1) W')
  generalize cmpK ((mk x.1).toList, []) ((mk y.1).toList, []) = r at *
  clear hc
  go_enter Tryz.func86, Tryz.ntmps86
  go_wp2_with (first | ((with_reducible refine (HC.out _).mono ?_); rintro e w1 ⟨rfl, rfl⟩))
  go_ret
  exact ⟨rfl, 0, _, by rw [Sort.alloc_eq_grow, Sort.alloc_eq_grow, Sort.grow_grow]; rfl⟩
set_option maxHeartbeats 2000000 in
theorem insF_none (p : Option Addr) (cap : Nat) (fv : Value) (w : World) :
    Calls Tryz.prog 123 #[.slice p 0 cap, .int .i64 0, .int .i64 0, fv] w fun e w' => e = .returned (.tuple #[]) ∧ w' = w := by
  go_enter Tryz.func123, Tryz.ntmps123
  go_wp2
  refine wp_loop_rounds 1 ?_
  rw [rounds_succ]
  go_wp2
  go_end0
  exact ⟨rfl, rfl⟩
set_option maxHeartbeats 2000000 in
theorem pdqF_none (p : Option Addr) (cap : Nat) (lim : Int) (fv : Value) (w : World) :
    Calls Tryz.prog 104 #[.slice p 0 cap, .int .i64 0, .int .i64 0, .int .i64 lim, fv] w fun e w' => e = .returned (.tuple #[]) ∧ w' = w := by
  have HI := Aside0.mk (fun W => insF_none p cap fv W)
  go_enter Tryz.func104, Tryz.ntmps104
  go_wp2
  refine wp_loop_rounds 1 ?_
  rw [rounds_succ]
  go_wp2_with (first | ((with_reducible refine (HI.out _).mono ?_); rintro e w1 ⟨rfl, rfl⟩))
  (try simp only [Exit.inBlock, Exit.then]); refine bodyPost_ret (results_none rfl _ _ _) rfl ?_
  exact ⟨rfl, rfl⟩
set_option maxHeartbeats 2000000 in
theorem sortF_none (p : Option Addr) (cap : Nat) (fv : Value) (w : World) :
    Calls Tryz.prog 85 #[.slice p 0 cap, fv] w fun e w' => e = .returned (.tuple #[]) ∧ w' = w := by
  have HP := Aside0.mk (fun lim W => pdqF_none p cap lim fv W)
  have HL := Aside0.mk (fun W => Tryz.bits_Len 0 W (by omega) (by omega))
  go_enter Tryz.func85, Tryz.ntmps85
  go_wp2_with (first | ((with_reducible refine (HL.out _).mono ?_); rintro e w1 ⟨rfl, rfl⟩) | ((with_reducible refine (HP.out _ _).mono ?_); rintro e w1 ⟨rfl, rfl⟩))
  go_end0
  exact ⟨rfl, rfl⟩
theorem sortF_calls (l : List LP) (W : World) (base : Nat) (v : Value) (hR : PK.R 45 W base (fun _ => True) v (l.map mkP)) (hn : l.length ≤ 1000000) :
    Calls Tryz.prog 85 #[v, .func (.func 86) #[] #[]] W fun e w' => e = .returned (.tuple #[]) ∧ ∃ l' : List LP, l'.Perm l ∧ l'.Pairwise (fun a b => ltStr b.1 a.1 = false) ∧ PK.R 45 w' base (fun _ => True) v (l'.map mkP) ∧ W.grownBy w' v.ownBlock := by
  by_cases h2 : 1 ≤ l.length
  · obtain ⟨g, cap, rfl, hbg, hlt, _⟩ := Kd.R_form hR (by rw [List.length_map]; omega)
    rw [List.length_map] at hR ⊢
    have eg : ∀ args w, (callFunc 86 args).run Tryz.prog w = .ok (.enter 86 args) w := enters_of Tryz.func86 (by kernel_rfl) rfl
    have hcon := AnyQ.slices_SortFunc Tryz.sortPr 2 (fun _ => by kernel_rfl) (fun _ => by kernel_rfl) encLP (fun _ => rfl) (fun x v hv => by simp [encLP] at hv; rcases hv with rfl | rfl <;> rfl) cmpK swo_cmpK 86 #[] g 0 cap l.toArray W eg (fun _ _ _ _ x y => cmpP_calls x y _) (pk_holds hR) hlt (by simp; omega)
    change Calls Tryz.prog 85 _ _ _ at hcon
    have hcs : l.toArray.size = l.length := by simp
    rw [hcs] at hcon
    refine hcon.mono ?_
    rintro e w' ⟨rfl, d', n, os, hP, hS, rfl⟩
    have hsz : d'.size = l.length := by have := hP.1; simpa using this
    have hp := hP.2.2
    obtain ⟨r1, r2⟩ := pk_putK hR d' hsz n os
    refine ⟨rfl, d'.toList, ?_, ?_, r1, r2⟩
    · have e1 : (d'.extract 0 l.length).toList = d'.toList := by rw [← hsz, Array.extract_size]
      have e2 : (l.toArray.extract 0 l.length).toList = l := by rw [← hcs, Array.extract_size]
      rw [e1, e2] at hp
      exact hp
    · rw [List.pairwise_iff_getElem]
      intro i j hi hj hij
      have := hS i j (Nat.zero_le _) hij (by rw [← hsz]; simpa using hj)
      rw [getElem!_pos d' i (by simpa using hi), getElem!_pos d' j (by simpa using hj), ltOf_cmpK] at this
      simpa using this
  · have hl : l = [] := List.eq_nil_of_length_eq_zero (by omega)
    subst hl
    obtain ⟨A, c, rfl⟩ := Kd.R_slice hR
    refine (sortF_none A c (.func (.func 86) #[] #[]) W).mono ?_
    rintro e w' ⟨rfl, rfl⟩
    exact ⟨rfl, [], List.Perm.refl _, List.Pairwise.nil, hR, World.grownBy.refl _ _⟩
end Go.Proofs.YteigfmchnblkgaaGreatDoor.Hand

/- labels.Merge. -/
namespace Go.Proofs.YteigfmchnblkgaaGreatDoor.Hand
open Go.RowKit Go.Maps Go.Proofs.YteigfmchnblkgaaGreatDoorW.PrintWords Go.Proofs.YteigfmchnblkgaaGreatDoorW.PrintLast Go.Proofs.YteigfmchnblkgaaGreatDoorW.PrintMore Go.Proofs.YteigfmchnblkgaaGreatDoor.Base
set_option linter.unusedVariables false
set_option linter.unusedSimpArgs false
set_option maxRecDepth 100000
section
variable (w : World) {ops : Array Oper} {rest : List Oper} {o : Oper} {a : Act} {Q : Exit → Act → World → Prop}
/-- A label set in a map of one's own. -/
theorem set_lab (hg : o.guard = none) (m x y : Operand) (hop : o.op = Op.mapUpdate 92 m x y) (b N : Nat) (ks : List (L × L)) (hm : a.eval m = .map (some b)) (h : IsLz w b N ks) (hN : N ≤ 1000000) (k v : ByteArray) (hk : k.size ≤ 140737488351232) (hv : v.size ≤ 140737488351232) (hx : a.eval x = .string k) (hy : a.eval y = .string v)
    (hK : ∀ w', IsLz w' b (N + 1) ((k.data.toList, v.data.toList) :: ks) → w.grownBy w' (some b) → wpList Tryz.prog ops Q rest (a.put o.dst undef) w') :
    wpList Tryz.prog ops Q (o :: rest) a w := by
  obtain ⟨D, hown, hmp, hhas, hat, hsz⟩ := h
  have hput := lab_putZ k.data.toList v.data.toList hmp (World.ownsMap.tidy hown lawLs) hhas hat hsz
  have hkey := keyLs k hk
  have hval : plainElem (H := Unit) Tryz.prog 9 (.string v) = some (.lit (.string v.data.toList), []) := plainElem_string Tryz.underlying9 (by unfold maxLen; omega)
  refine wpList_mapUpdate_own _ hg _ _ _ 92 hop 9 9 lawLs Tryz.underlying92 (plainElem (H := Unit) Tryz.prog 9) b N _ hm hown (by unfold maxLen; omega) _ _ _ hx hy hkey _ [] hval ?_
  intro w1 hown1 hg1
  exact hK w1 ⟨_, hown1, hput⟩ hg1
end
theorem delK_in {left : List L} {k x : L} : x ∈ delK left k ↔ x ∈ left ∧ x ≠ k := by
  unfold delK
  rw [List.mem_filter, Bool.not_eq_true', beq_eq_false_iff_ne]
/-- What stands in the merged map when the keys of left are still to come. -/
def mgR (base m : List (L × L)) (left : List L) (m3 : List (L × L)) : Prop := ∀ k, mget m3 k = if k ∈ left then mget base k else ((mget m k).or (mget base k))
theorem mgR_start (base m : List (L × L)) : mgR base m (dk m) base := by
  intro k
  split
  · rfl
  · rename_i h
    cases hg : mget m k with
    | none => rfl
    | some v => exact absurd (dk_mem.2 ⟨v, hg⟩) h
theorem mgR_step {base m m3 : List (L × L)} {left : List L} {k v : L} (h : mgR base m left m3) (hn : left.Nodup) (hv : mget m k = some v) : mgR base m (delK left k) ((k, v) :: m3) := by
  intro x
  rw [mget_cons]
  by_cases e : k = x
  · subst e
    rw [if_pos rfl, if_neg (fun hx => (delK_in.1 hx).2 rfl), hv]; rfl
  · rw [if_neg e, h x]
    have : x ∈ delK left k ↔ x ∈ left := ⟨fun h2 => (delK_in.1 h2).1, fun h2 => delK_in.2 ⟨h2, fun e2 => e e2.symm⟩⟩
    by_cases hx : x ∈ left
    · rw [if_pos hx, if_pos (this.2 hx)]
    · rw [if_neg hx, if_neg (fun h2 => hx (this.1 h2))]
/-- Two label sets together: of keys in both, those of the second. -/
def mgOf (m1 m2 m3 : List (L × L)) : Prop := ∀ k, mget m3 k = (mget m2 k).or (mget m1 k)
set_option maxHeartbeats 8000000 in
theorem Merge_calls (b1 N1 : Nat) (m1 : List (L × L)) (b2 N2 : Nat) (m2 : List (L × L)) (hz1 : ∀ k v, mget m1 k = some v → k.length ≤ 140737488351232 ∧ v.length ≤ 140737488351232) (hz2 : ∀ k v, mget m2 k = some v → k.length ≤ 140737488351232 ∧ v.length ≤ 140737488351232) (hl1 : (dk m1).length ≤ 1000) (hl2 : (dk m2).length ≤ 1000) (w : World) (h1 : IsLz w b1 N1 m1) (h2 : IsLz w b2 N2 m2) :
    Calls Tryz.prog 68 #[.map (some b1), .map (some b2)] w fun e w' => ∃ (N3 : Nat) (m3 : List (L × L)), e = .returned (.map (some w.heap.size)) ∧ IsLz w' w.heap.size N3 m3 ∧ mgOf m1 m2 m3 ∧ N3 ≤ 2000 ∧ Below w.heap.size w w' := by
  have HS1 := Aside0.mk h1
  have HS2 := Aside0.mk h2
  have HZ1 := Aside0.mk hz1
  have HZ2 := Aside0.mk hz2
  have HL := Aside0.mk (And.intro hl1 hl2)
  have HI0 := Aside0.mk (IsLz.made w)
  have HB0 := Aside0.mk (below_alloc (Below.refl w.heap.size w) (.map #[] 0))
  have hmm := @run_makeMap Tryz.prog
  have hsz1 : (w.alloc (.map #[] 0)).heap.size = w.heap.size + 1 := by show (w.heap.push _).size = _; rw [Array.size_push]
  have HSZ := Aside0.mk hsz1
  have HS3 := Aside0.mk (h1.below (below_alloc (Below.refl w.heap.size w) (.map #[] 0)))
  clear h1 h2 hz1 hz2 hl1 hl2
  go_enter Tryz.func68, Tryz.ntmps68
  go_wp2_with (first | (at_range; refine range_lab _ 92 Tryz.underlying92 rfl _ rfl b1 N1 m1 rfl HS3.out ?_; intro w2 hrg hg hs2; have HRG := Aside0.mk hrg; have HG2 := Aside0.mk hg; clear hrg hg))
  generalize hr : (w.alloc (Obj.map #[] 0)).heap.size = r at *
  have HB2 := Aside0.mk (pw_below_grown HB0.out none (below_size HB0.out) HG2.out (fun j hj => by cases hj))
  have HI2 := Aside0.mk (HI0.out.kept HG2.out (by simp))
  have HR1 : Aside0 (r = w.heap.size + 1 ∧ b1 < w.heap.size ∧ b2 < w.heap.size) := ⟨HSZ.out, HS1.out.lt, HS2.out.lt⟩
  have hr2 := HSZ.out
  clear hr HG2 HB0 HI0 HSZ HS3 hs2 hmm
  subst hr2
  go_frame
  go_loopg [6, 7] ((dk m1).length) (fun g v6 v7 w' => ∃ (left : List L) (m3 : List (L × L)) (N3 : Nat), Aside0 (LzR w' b1 (w.heap.size + 1) N1 g m1 left ∧ left.Nodup ∧ ∀ x ∈ left, x ∈ dk m1) ∧ Aside0 (IsLz w' w.heap.size N3 m3 ∧ mgR [] m1 left m3 ∧ N3 + left.length ≤ 1000) ∧ Aside0 (Below w.heap.size w w'))
  case atStart => exact ⟨dk m1, [], 0, ⟨HRG.out, dk_nodup m1, fun x h => h⟩, ⟨HI2.out, mgR_start _ _, by have := HL.out.1; omega⟩, HB2⟩
  case round =>
    clear HRG HB2 HI2
    obtain ⟨left, m3, N3, HRG, HM, HB⟩ := hrel
    go_wp2_with (first | (at_next; refine next_lab _ rfl _ rfl b1 (w.heap.size + 1) N1 gk m1 left rfl HRG.out.1 ?_ ?_))
    · intro h0 hl0
      have HM0 : Aside0 (mgR [] m1 [] m3) := ⟨by rw [← hl0]; exact HM.out.2.1⟩
      have HIM := Aside0.mk HM.out.1
      have hN3 : N3 ≤ 1000 := by have := HM.out.2.2; omega
      have HS2b := Aside0.mk (HS2.out.below HB.out)
      have hsz5 : w.heap.size < wr.heap.size := HM.out.1.lt
      clear hl0 h0 HM HRG
      go_wp2_with (first | (at_range; refine range_lab _ 92 Tryz.underlying92 rfl _ rfl b2 N2 m2 rfl HS2b.out ?_; intro w5 hrg hg hs2; have HRG := Aside0.mk hrg; have HB5 := Aside0.mk (pw_below_grown HB.out none (below_size HB.out) hg (fun j hj => by cases hj)); have HI5 := Aside0.mk (HIM.out.kept hg (by simp)); clear hrg hg HB HS2b HIM hs2))
      generalize wr.heap.size = r5 at *
      generalize gk = go at *
      go_frame
      go_loopg [8, 9] ((dk m2).length) (fun g v8 v9 w' => ∃ (left : List L) (m4 : List (L × L)) (N4 : Nat), Aside0 (LzR w' b2 r5 N2 g m2 left ∧ left.Nodup ∧ ∀ x ∈ left, x ∈ dk m2) ∧ Aside0 (IsLz w' w.heap.size N4 m4 ∧ mgR m3 m2 left m4 ∧ N4 + left.length ≤ 2000) ∧ Aside0 (Below w.heap.size w w'))
      case atStart => exact ⟨dk m2, m3, N3, ⟨HRG.out, dk_nodup m2, fun x h => h⟩, ⟨HI5.out, mgR_start _ _, by have := HL.out.2; omega⟩, HB5⟩
      case round =>
        clear HRG HB5 HI5
        obtain ⟨left, m4, N4, HRG, HM, HB⟩ := hrel
        go_wp2_with (first | (at_next; refine next_lab _ rfl _ rfl b2 r5 N2 gk m2 left rfl HRG.out.1 ?_ ?_))
        · intro h0 hl0
          have HM4 : Aside0 (mgOf m1 m2 m4) := ⟨fun k => by
            have h1 := HM.out.2.1 k
            have h2 := HM0.out k
            rw [hl0, if_neg (by simp)] at h1
            rw [if_neg (by simp)] at h2
            rw [h1, h2]
            cases mget m2 k <;> cases mget m1 k <;> rfl⟩
          have hN4 : N4 ≤ 2000 := by have := HM.out.2.2; omega
          have HIM := Aside0.mk HM.out.1
          clear hl0 h0 HM HRG
          go_wp2
          go_ret
          exact ⟨N4, m4, rfl, HIM.out, HM4.out, hN4, HB.out⟩
        · intro s v w3 cnt hs hv hrg hlt hg hsz hen
          have HB3 := Aside0.mk (pw_below_grown HB.out _ (below_size HB.out) hg (fun k hk => by cases hk; omega))
          have HN3 := Aside0.mk (delK_nodup HRG.out.2.1 s.data.toList)
          have HS3 := Aside0.mk (fun x (hx : x ∈ delK left s.data.toList) => HRG.out.2.2 x (delK_sub hx))
          have hdl := delK_len HRG.out.2.1 s.data.toList
          rw [if_pos (List.contains_iff_mem.2 hs)] at hdl
          have HM3 := Aside0.mk (HM.out.1.kept hg (fun e => by injection e with e; omega))
          have HMS := Aside0.mk (mgR_step HM.out.2.1 HRG.out.2.1 hv)
          have HNL : Aside0 (N4 + 1 + (delK left s.data.toList).length ≤ 2000) := ⟨by have := HM.out.2.2; omega⟩
          have hzz := HZ2.out _ _ hv
          have hss : s.size ≤ 140737488351232 := by rw [Lib.size_eq]; exact hzz.1
          have hvv : v.size ≤ 140737488351232 := by rw [Lib.size_eq]; exact hzz.2
          have HLT := Aside0.mk hlt
          have HRG3 := Aside0.mk hrg
          clear HRG HM HB hs hv hrg hlt hg hsz hdl hzz
          go_wp2_with (first | (at_mapUpdate; refine set_lab _ rfl _ _ _ rfl w.heap.size N4 m4 rfl HM3.out (by have := HNL.out; omega) s v hss hvv rfl rfl ?_; intro w4 hi4 hg4; have HI4 := Aside0.mk hi4; have HB4 := Aside0.mk (pw_below_grown HB3.out _ (below_size HB3.out) hg4 (fun k hk => by cases hk; exact Nat.le_refl _)); have HRG4 := Aside0.mk (HRG3.out.kept hg4 (fun e => by injection e with e; have := HR1.out.2.2; omega) (fun e => by injection e with e; omega)); clear hi4 hg4))
          go_roundg cnt
          case measure => exact HLT.out
          case rel => exact ⟨_, _, _, ⟨HRG4.out, HN3.out, HS3.out⟩, ⟨HI4.out, HMS.out, HNL.out⟩, HB4⟩
    · intro s v w3 cnt hs hv hrg hlt hg hsz hen
      have HB3 := Aside0.mk (pw_below_grown HB.out _ (below_size HB.out) hg (fun k hk => by cases hk; have := HR1.out.1; omega))
      have HN3 := Aside0.mk (delK_nodup HRG.out.2.1 s.data.toList)
      have HS3 := Aside0.mk (fun x (hx : x ∈ delK left s.data.toList) => HRG.out.2.2 x (delK_sub hx))
      have hdl := delK_len HRG.out.2.1 s.data.toList
      rw [if_pos (List.contains_iff_mem.2 hs)] at hdl
      have HM3 := Aside0.mk (HM.out.1.kept hg (fun e => by injection e with e; have := HR1.out.1; omega))
      have HMS := Aside0.mk (mgR_step HM.out.2.1 HRG.out.2.1 hv)
      have HNL : Aside0 (N3 + 1 + (delK left s.data.toList).length ≤ 1000) := ⟨by have := HM.out.2.2; omega⟩
      have hzz := HZ1.out _ _ hv
      have hss : s.size ≤ 140737488351232 := by rw [Lib.size_eq]; exact hzz.1
      have hvv : v.size ≤ 140737488351232 := by rw [Lib.size_eq]; exact hzz.2
      have HLT := Aside0.mk hlt
      have HRG3 := Aside0.mk hrg
      clear HRG HM HB hs hv hrg hlt hg hsz hdl hzz
      go_wp2_with (first | (at_mapUpdate; refine set_lab _ rfl _ _ _ rfl w.heap.size N3 m3 rfl HM3.out (by have := HNL.out; omega) s v hss hvv rfl rfl ?_; intro w4 hi4 hg4; have HI4 := Aside0.mk hi4; have HB4 := Aside0.mk (pw_below_grown HB3.out _ (below_size HB3.out) hg4 (fun k hk => by cases hk; exact Nat.le_refl _)); have HRG4 := Aside0.mk (HRG3.out.kept hg4 (fun e => by injection e with e; have := HR1.out.2.1; omega) (fun e => by injection e with e; have := HR1.out.1; omega)); clear hi4 hg4))
      go_roundg cnt
      case measure => exact HLT.out
      case rel => exact ⟨_, _, _, ⟨HRG4.out, HN3.out, HS3.out⟩, ⟨HI4.out, HMS.out, HNL.out⟩, HB4⟩
end Go.Proofs.YteigfmchnblkgaaGreatDoor.Hand

/- The merged map's labels by rising keys are the keyed list of both lists. No program in sight. -/
namespace Go.Proofs.YteigfmchnblkgaaGreatDoor.Hand
open Go.RowKit Go.Maps Go.Proofs.YteigfmchnblkgaaGreatDoorW.PrintWords Go.Proofs.YteigfmchnblkgaaGreatDoorW.PrintLast Go.Proofs.YteigfmchnblkgaaGreatDoorW.PrintMore Go.Proofs.YteigfmchnblkgaaGreatDoor.Base
open Go.Sort (ltStr)
set_option linter.unusedVariables false
set_option linter.unusedSimpArgs false
theorem mget_append (x y : List LP) (k : L) : mget (x ++ y) k = (mget x k).or (mget y k) := by
  induction x with
  | nil => rfl
  | cons p x ih =>
    obtain ⟨pk, pv⟩ := p
    rw [List.cons_append, mget_cons, mget_cons, ih]
    split <;> rfl
theorem keyL_merge {a b m3 xs : List LP} (hm : mgOf a.reverse b.reverse m3) (hs : SK xs) (hx : ∀ k v, (k, v) ∈ xs ↔ mget m3 k = some v) : xs = keyL (a ++ b) := by
  obtain ⟨s2, m2⟩ := keyL_mem (a ++ b)
  refine sk_ext hs s2 fun q => ?_
  obtain ⟨k, v⟩ := q
  rw [hx, m2, hm k, List.reverse_append, mget_append]
/-- Pairs sorted by keys, of keys that differ, rise strictly. -/
theorem sk_of_sorted {xs : List LP} (h : xs.Pairwise fun a b => ltStr b.1 a.1 = false) (hn : (xs.map (·.1)).Nodup) : SK xs := by
  induction xs with
  | nil => exact List.Pairwise.nil
  | cons p xs ih =>
    obtain ⟨h1, h2⟩ := List.pairwise_cons.1 h
    rw [List.map_cons, List.nodup_cons] at hn
    refine List.pairwise_cons.2 ⟨fun q hq => ?_, ih h2 hn.2⟩
    exact tri (by rw [h1 q hq]; simp) (fun e => hn.1 (by rw [← e]; exact List.mem_map_of_mem hq))
end Go.Proofs.YteigfmchnblkgaaGreatDoor.Hand

/- impl.pairs: a map's labels by their keys. -/
namespace Go.Proofs.YteigfmchnblkgaaGreatDoor.Hand
open Go.RowKit Go.Maps Go.Proofs.YteigfmchnblkgaaGreatDoorW.PrintWords Go.Proofs.YteigfmchnblkgaaGreatDoorW.PrintLast Go.Proofs.YteigfmchnblkgaaGreatDoorW.PrintMore Go.Proofs.YteigfmchnblkgaaGreatDoor.Base
open Go.Sort (ltStr)
set_option linter.unusedVariables false
set_option linter.unusedSimpArgs false
set_option maxRecDepth 100000
/-- The pairs that were told so far, when the keys of left are still to come. -/
def prR (ks : List LP) (left : List L) (xs : List LP) : Prop := (xs.map (·.1)).Nodup ∧ ∀ k v, (k, v) ∈ xs ↔ (k ∉ left ∧ mget ks k = some v)
theorem prR_start (ks : List LP) : prR ks (dk ks) [] := by
  refine ⟨List.nodup_nil, fun k v => ⟨fun h => absurd h (by simp), fun ⟨h1, h2⟩ => absurd (dk_mem.2 ⟨v, h2⟩) h1⟩⟩
theorem prR_step {ks : List LP} {left : List L} {xs : List LP} {k v : L} (h : prR ks left xs) (hk : k ∈ left) (hv : mget ks k = some v) : prR ks (delK left k) (xs ++ [(k, v)]) := by
  obtain ⟨h1, h2⟩ := h
  have hnk : k ∉ xs.map (·.1) := fun hm => by
    obtain ⟨q, hq, e⟩ := List.mem_map.1 hm
    obtain ⟨qk, qv⟩ := q
    obtain rfl : qk = k := e
    exact ((h2 _ _).1 hq).1 hk
  refine ⟨?_, fun x y => ?_⟩
  · rw [List.map_append, List.nodup_append]
    refine ⟨h1, List.pairwise_singleton _ _, fun a ha b hb e => ?_⟩
    obtain rfl : b = k := by simpa using hb
    exact hnk (e ▸ ha)
  · rw [List.mem_append, List.mem_singleton, h2, delK_in]
    constructor
    · rintro (⟨a, b⟩ | e)
      · exact ⟨fun c => a c.1, b⟩
      · obtain ⟨rfl, rfl⟩ := Prod.mk.inj e
        exact ⟨fun c => c.2 rfl, hv⟩
    · rintro ⟨a, b⟩
      by_cases e : x = k
      · subst e
        rw [hv] at b
        exact .inr (by rw [Option.some.inj b])
      · exact .inl ⟨fun c => a ⟨c, e⟩, b⟩
theorem pk_all {e : Nat} {w : World} {base : Nat} {ok : Nat → Prop} {v : Value} {xs : List (ByteArray × ByteArray)} (h : PK.R e w base ok v xs) : PK.R e w base (fun _ => True) v xs := ⟨fun _ _ => trivial, encP _, pk_own h, reps_enc _⟩
set_option maxHeartbeats 8000000 in
theorem Pairs_calls (b N : Nat) (ks : List LP) (hl : (dk ks).length ≤ 1000) (w : World) (h : IsLz w b N ks) :
    Calls Tryz.prog 67 #[.map (some b)] w fun e w' => ∃ (v : Value) (xs : List LP), e = .returned v ∧ PK.R 45 w' w.heap.size (fun _ => True) v (xs.map mkP) ∧ SK xs ∧ (∀ k v, (k, v) ∈ xs ↔ mget ks k = some v) ∧ Below w.heap.size w w' := by
  have HS := Aside0.mk h
  have HL := Aside0.mk hl
  have HB0 := Aside0.mk (Below.refl w.heap.size w)
  have HSO := Aside0.mk (fun l W base v hR hn => sortF_calls l W base v hR hn)
  have HBL : Aside0 (b < w.heap.size) := ⟨h.lt⟩
  clear h hl
  go_enter Tryz.func67, Tryz.ntmps67
  go_wp2_with (first | (at_range; refine range_lab _ 91 Tryz.underlying91 rfl _ rfl b N ks rfl HS.out ?_; intro w2 hrg hg hs2; have HRG := Aside0.mk hrg; have HB2 := Aside0.mk (pw_below_grown HB0.out none (below_size HB0.out) hg (fun j hj => by cases hj)); clear hrg hg hs2))
  clear HB0 HS
  try go_frame
  go_loopg [3, 4, 5] ((dk ks).length) (fun g v3 v4 v5 w' => ∃ (left : List L) (xs : List LP), Aside0 (LzR w' b w.heap.size N g ks left ∧ left.Nodup) ∧ Aside0 (prR ks left xs ∧ xs.length + left.length = (dk ks).length) ∧ Aside0 (PK.R 45 w' w.heap.size (fun k => k ≠ w.heap.size) v3 (xs.map mkP)) ∧ Aside0 (Below w.heap.size w w'))
  case atStart => exact ⟨dk ks, [], ⟨HRG.out, dk_nodup ks⟩, ⟨prR_start ks, by simp⟩, ⟨Kd.R_nil _ _ _ _ _⟩, HB2⟩
  case round =>
    clear HRG HB2
    obtain ⟨left, xs, HRG, HP, HR, HB⟩ := hrel
    obtain ⟨A3, c3, e3⟩ := Kd.R_slice HR.out
    rw [List.length_map] at e3
    subst e3
    go_wp2_with (first | (at_next; refine next_lab _ rfl _ rfl b w.heap.size N gk ks left rfl HRG.out.1 ?_ ?_))
    · intro h0 hl0
      subst hl0
      have HSV := Aside0.mk (HSO.out xs wr w.heap.size (.slice A3 xs.length c3) (pk_all HR.out) (by have := HP.out.2; have := HL.out; simp at *; omega))
      have HRO := Aside0.mk (pk_all HR.out)
      clear h0 HRG HSO HR
      go_wp2_with (first | ((with_reducible refine (HSV.out).mono ?_); rintro e w4 ⟨rfl, l', hp, hpw, hr, hg⟩; have HB4 := Aside0.mk (pw_below_grown HB.out _ (below_size HB.out) hg (fun k hk => own_base (pk_own HRO.out) k hk)); have HR4 := Aside0.mk hr; have HPM := Aside0.mk hp; have HPW := Aside0.mk hpw; clear hp hpw hr hg HSV))
      go_ret
      refine ⟨_, l', rfl, HR4.out, sk_of_sorted HPW.out ((HPM.out.map _).nodup_iff.2 HP.out.1.1), fun k v => ?_, HB4.out⟩
      rw [HPM.out.mem_iff, HP.out.1.2]
      simp
    · intro s v w3 cnt hs hv hrg hlt hg hsz hen
      have HB3 := Aside0.mk (pw_below_grown HB.out _ (below_size HB.out) hg (fun k hk => by cases hk; exact Nat.le_refl _))
      have HN3 := Aside0.mk (delK_nodup HRG.out.2 s.data.toList)
      have hdl := delK_len HRG.out.2 s.data.toList
      rw [if_pos (List.contains_iff_mem.2 hs)] at hdl
      have HPS := Aside0.mk (prR_step HP.out.1 hs hv)
      have HNL : Aside0 ((xs ++ [(s.data.toList, v.data.toList)]).length + (delK left s.data.toList).length = (dk ks).length ∧ xs.length ≤ 1000) := ⟨by have := HP.out.2; have := HL.out; rw [List.length_append, List.length_singleton]; omega⟩
      have HR3 : Aside0 (PK.R 45 w3 w.heap.size (fun k => k ≠ w.heap.size) (.slice A3 xs.length c3) (xs.map mkP)) := ⟨Kd.R_grown HR.out hg (fun k hk e => hk (Option.some.inj e))⟩
      have HSZ : Aside0 (w.heap.size < w3.heap.size) := ⟨by obtain ⟨x, y, z, t, hi⟩ := hrg.iter; exact (Array.getElem?_eq_some_iff.1 hi).1⟩
      have HF3 : Aside0 (∀ k, w3.heap.size ≤ k → k ≠ w.heap.size) := ⟨fun k hk e => by have := HSZ.out; omega⟩
      have HLT := Aside0.mk hlt
      have HRG3 := Aside0.mk hrg
      have HOW : Aside0 (∀ k, (Value.slice A3 xs.length c3).ownBlock = some k → w.heap.size ≤ k ∧ k ≠ w.heap.size) := ⟨fun k hk => ⟨own_base (pk_own HR.out) k hk, HR.out.1 k hk⟩⟩
      clear HRG HP HB hs hv hrg hlt hg hsz hdl HR
      go_wp2_with (first | ((with_reducible refine gate_builtin (b := .append) (xs := #[.tmp 13, .tmp 17]) rfl ?_); (try (refine gate_guard (by rfl) ?_; dsimp only)); at_builtin; refine Kd.R_append PK (w0 := w) w.heap.size rfl (.tmp 13) (.tmp 17) 22 45 (.agg #[.string ⟨#[]⟩, .string ⟨#[]⟩]) 32 rfl Tryz.underlying22 infoPr rfl (by decide) (by decide) (.slice A3 xs.length c3) (xs.map mkP) (s, v) [.string s, .string v] (fun k => k ≠ w.heap.size) (fun _ => False) rfl rfl ?aP (fun _ hk => hk.elim) ?aF ?aO ?aB ?aS ?aL ?_; (case aP => exact ⟨[_], [_], rfl, rfl, rfl⟩); (case aB => exact HB3.out); (case aF => exact HF3.out); (case aO => exact HR3.out); (case aS => exact below_size HB3.out); (case aL => have := HNL.out; rw [List.length_map]; omega); intro vN wN2 ho hb hg hat; have HR4 := Aside0.mk ho; have HB4 := Aside0.mk hb; have HRG4 := Aside0.mk (HRG3.out.kept hg (fun e => by have := (HOW.out _ e.symm).1; have := HBL.out; omega) (fun e => (HOW.out _ e.symm).2 rfl)); clear ho hb hg hat))
      go_roundg cnt
      case measure => exact HLT.out
      case rel => exact ⟨_, xs ++ [(s.data.toList, v.data.toList)], ⟨HRG4.out, HN3.out⟩, ⟨HPS.out, HNL.out.1⟩, ⟨by rw [List.map_append]; exact HR4.out⟩, HB4⟩
end Go.Proofs.YteigfmchnblkgaaGreatDoor.Hand

/- What impl.LabelsBoth answers, by the lists of spec.Keyed. No program in sight. -/
namespace Go.Proofs.YteigfmchnblkgaaGreatDoor.Hand
open Go.RowKit Go.Maps Go.Proofs.YteigfmchnblkgaaGreatDoorW.PrintWords Go.Proofs.YteigfmchnblkgaaGreatDoorW.PrintLast Go.Proofs.YteigfmchnblkgaaGreatDoorW.PrintMore Go.Proofs.YteigfmchnblkgaaGreatDoor.Base
open Go.Sort (ltStr)
set_option linter.unusedVariables false
set_option linter.unusedSimpArgs false
theorem nodup_len : ∀ {l1 l2 : List L}, l1.Nodup → (∀ x ∈ l1, x ∈ l2) → l1.length ≤ l2.length
  | [], l2, _, _ => Nat.zero_le _
  | a :: l1, l2, hn, hs => by
    obtain ⟨h1, h2⟩ := List.nodup_cons.1 hn
    have ha := hs a List.mem_cons_self
    have := nodup_len (l2 := l2.erase a) h2 fun x hx => (List.mem_erase_of_ne (fun e => h1 (by rw [← e]; exact hx))).2 (hs x (List.mem_cons_of_mem _ hx))
    rw [List.length_erase_of_mem ha] at this
    have := List.length_pos_of_mem ha
    rw [List.length_cons]; omega
/-- labRev over texts of bytes, and over lists of bytes. -/
theorem labRev_un (ls : List (ByteArray × ByteArray)) : labRev ls = (ls.map unP).reverse := rfl
end Go.Proofs.YteigfmchnblkgaaGreatDoor.Hand
