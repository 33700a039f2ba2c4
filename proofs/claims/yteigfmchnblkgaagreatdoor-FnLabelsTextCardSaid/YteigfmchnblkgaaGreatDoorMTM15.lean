/- Labels, with how many there are; a range over labels. -/
import Derived.Test.YteigfmchnblkgaaGreatDoorMTM9
import Derived.Test.YteigfmchnblkgaaGreatDoorMTGSetA
import Derived.Test.YteigfmchnblkgaaGreatDoorMTKeyed
import Derived.Laws.StructEq
import Derived.Shelf.SlGeneric
import Derived.Shelf.SlSortCmp.WholeK
import Derived.Ground.SlsfProg
import Derived.Test.YteigfmchnblkgaaGreatDoorProg
namespace Go.Proofs.YteigfmchnblkgaaGreatDoor.Hand
open Go.RowKit Go.Maps Go.Proofs.YteigfmchnblkgaaGreatDoorW.PrintWords Go.Proofs.YteigfmchnblkgaaGreatDoorW.PrintLast Go.Proofs.YteigfmchnblkgaaGreatDoorW.PrintMore Go.Proofs.YteigfmchnblkgaaGreatDoor.Base
set_option linter.unusedVariables false
set_option linter.unusedSimpArgs false
set_option maxRecDepth 100000
/-- The keys, each once. -/
def dk : List (L × L) → List L
  | [] => []
  | p :: m => if (mget m p.1).isSome then dk m else p.1 :: dk m
theorem dk_contains : ∀ (m : List (L × L)) (x : L), (dk m).contains x = (mget m x).isSome
  | [], x => rfl
  | (k, v) :: m, x => by
    rw [mget_cons]
    unfold dk
    by_cases h : (mget m k).isSome = true
    · rw [if_pos h, dk_contains m x]
      by_cases e : k = x
      · subst e; rw [if_pos rfl, h]; rfl
      · rw [if_neg e]
    · rw [if_neg h, List.contains_cons, dk_contains m x]
      by_cases e : k = x
      · subst e; rw [if_pos rfl]; simp
      · rw [if_neg e, show (x == k) = false from by simpa using fun h => e h.symm, Bool.false_or]
theorem dk_nodup : ∀ m : List (L × L), (dk m).Nodup
  | [] => List.nodup_nil
  | (k, v) :: m => by
    unfold dk
    by_cases h : (mget m k).isSome = true
    · rw [if_pos h]; exact dk_nodup m
    · rw [if_neg h]
      refine List.nodup_cons.2 ⟨fun hm => h ?_, dk_nodup m⟩
      rw [← dk_contains]; exact List.contains_iff_mem.2 hm
theorem dk_mem {m : List (L × L)} {x : L} : x ∈ dk m ↔ ∃ v, mget m x = some v := by
  rw [← List.contains_iff_mem, dk_contains, Option.isSome_iff_exists]
/-- Block b is a map of these texts, of as many keys. -/
def IsLz (w : World) (b N : Nat) (m : List (L × L)) : Prop :=
  ∃ D : DataW Unit, w.ownsMap Tryz.prog 9 (plainElem Tryz.prog 9) b N D ∧ Maps.IsMap D ∧ (∀ x : L, Maps.has D (.string x) = (mget m x).isSome) ∧ (∀ x : L, D.atKey (.string x) (.lit (.string [])) = .lit (.string ((mget m x).getD []))) ∧ Maps.size D = (dk m).length
theorem IsLz.kept {w w' : World} {b N : Nat} {m : List (L × L)} {row : Option Nat} (h : IsLz w b N m) (hg : w.grownBy w' row) (hne : some b ≠ row) : IsLz w' b N m := by
  obtain ⟨D, h1, h2⟩ := h; exact ⟨D, h1.kept hg hne, h2⟩
theorem IsLz.below {w w' : World} {b N : Nat} {m : List (L × L)} (h : IsLz w b N m) (hb : Below w.heap.size w w') : IsLz w' b N m := h.kept (grown_of_below hb none) (by simp)
theorem IsLz.made (w : World) : IsLz (w.alloc (.map #[] 0)) w.heap.size 0 [] := ⟨_, World.ownsMap_made _ _ _ _, ⟨[], rfl⟩, fun x => rfl, fun x => rfl, rfl⟩
theorem IsLz.lt {w : World} {b N : Nat} {m : List (L × L)} (h : IsLz w b N m) : b < w.heap.size := by obtain ⟨D, h1, _⟩ := h; exact h1.lt
theorem lab_putZ {D : DataW Unit} {m : List (L × L)} (k v : L) (h0 : Maps.IsMap D) (ht : Maps.Tidy D) (hh : ∀ x : L, Maps.has D (.string x) = (mget m x).isSome) (ha : ∀ x : L, D.atKey (.string x) (.lit (.string [])) = .lit (.string ((mget m x).getD []))) (hs : Maps.size D = (dk m).length) :
    Maps.IsMap (D.put (.string k) (.lit (.string v))) ∧ (∀ x : L, Maps.has (D.put (.string k) (.lit (.string v))) (.string x) = (mget ((k, v) :: m) x).isSome) ∧ (∀ x : L, (D.put (.string k) (.lit (.string v))).atKey (.string x) (.lit (.string [])) = .lit (.string ((mget ((k, v) :: m) x).getD []))) ∧ Maps.size (D.put (.string k) (.lit (.string v))) = (dk ((k, v) :: m)).length := by
  obtain ⟨a, b, c⟩ := lab_put k v h0 hh ha
  refine ⟨a, b, c, ?_⟩
  rw [size_put ht, hh, hs]
  conv => rhs; unfold dk
  split <;> rename_i e
  · rfl
  · rfl
set_option maxHeartbeats 4000000 in
theorem setOfZ_calls (A : Option Addr) (c : Nat) (l : List (ByteArray × ByteArray)) (hl : l.length ≤ 1000000) (hz : ∀ p ∈ l, p.1.size ≤ 140737488351232 ∧ p.2.size ≤ 140737488351232) (w : World) (hC : PK.C w A l.length l) :
    Calls Tryz.prog 53 #[.slice A l.length c] w fun e w' => e = .returned (.map (some w.heap.size)) ∧ IsLz w' w.heap.size l.length (labRev l) ∧ Below w.heap.size w w' := by
  have HC := Aside0.mk hC
  have hmm := @run_makeMap Tryz.prog
  clear hC
  go_enter Tryz.func53, Tryz.ntmps53
  go_wp2
  clear hmm
  go_loopg [9] (l.length) (fun k v9 w' => ∃ j : Nat, v9 = .int .i64 j ∧ Aside0 (k + j = l.length) ∧ Aside0 (IsLz w' w.heap.size j (labRev (l.take j))) ∧ Aside0 (Below w.heap.size w w'))
  case atStart => exact ⟨0, rfl, ⟨by omega⟩, ⟨IsLz.made w⟩, ⟨below_alloc (Below.refl _ _) _⟩⟩
  case round =>
    obtain ⟨j, rfl, HJ, HI, HB⟩ := hrel
    by_cases hjl : j < l.length
    · obtain ⟨ad, rfl, hk0, hk1⟩ := pk_at (Kd.C_below HC.out HB.out) j hjl
      obtain ⟨p, hp⟩ : ∃ p, l[j]? = some p := ⟨_, List.getElem?_eq_getElem hjl⟩
      have hg : l.getD j (⟨#[]⟩, ⟨#[]⟩) = p := by rw [List.getD_eq_getElem?_getD, hp]; rfl
      rw [hg] at hk0 hk1
      obtain ⟨hz1, hz2⟩ := hz p (List.mem_of_getElem? hp)
      have HTK := Aside0.mk (labRev_take l j hp)
      obtain ⟨pk, pv⟩ := p
      replace hz1 : pk.size ≤ 140737488351232 := hz1
      replace hz2 : pv.size ≤ 140737488351232 := hz2
      clear hp hg
      obtain ⟨D, hown, hmp, hhas, hat, hsz⟩ := HI.out
      have HO := Aside0.mk hown
      have HPUT := Aside0.mk (lab_putZ pk.data.toList pv.data.toList hmp (World.ownsMap.tidy hown lawLs) hhas hat hsz)
      clear hown hmp hhas hat hsz
      have HO2 := Aside0.mk (World.ownsMap.alloc HO.out (.cells #[.string pk, .string pv] 45))
      have HB0 := Aside0.mk (below_alloc HB.out (.cells #[.string pk, .string pv] 45))
      have hkey := keyLs pk hz1
      have hval : plainElem (H := Unit) Tryz.prog 9 (.string pv) = some (.lit (.string pv.data.toList), []) := plainElem_string Tryz.underlying9 (by unfold maxLen; omega)
      clear HO
      go_wp2_with (first | (at_mapUpdate; refine wpList_mapUpdate_own _ rfl _ _ _ 92 rfl 9 9 lawLs Tryz.underlying92 (plainElem (H := Unit) Tryz.prog 9) w.heap.size j _ rfl HO2.out (by unfold maxLen; omega) _ _ _ rfl rfl hkey _ [] hval ?_; intro w1 hown1 hg1; have HI1 : Aside0 (IsLz w1 w.heap.size (j + 1) (labRev (l.take (j + 1)))) := ⟨by rw [HTK.out]; exact ⟨_, hown1, HPUT.out⟩⟩; have HB1 := Aside0.mk (pw_below_grown HB0.out _ (below_size HB0.out) hg1 (fun q hq => by cases hq; exact Nat.le_refl _)); clear hown1 hg1))
      go_roundg (l.length - (j + 1))
      case measure => have := HJ.out; omega
      case rel => exact ⟨j + 1, by go_num, ⟨by omega⟩, HI1, HB1⟩
    · have hje : j = l.length := by have := HJ.out; omega
      have HTK : Aside0 (l.take j = l) := ⟨by rw [hje, List.take_length]⟩
      subst hje
      rw [HTK.out] at HI
      go_wp2
      go_ret
      exact ⟨rfl, HI.out, HB.out⟩
/-- Block r is a loop over the labels of block b: the keys of left are still to come. -/
def LzR (w : World) (b r N cnt : Nat) (m : List (L × L)) (left : List L) : Prop :=
  ∃ (D : DataW Unit) (lf : Lit → Bool), w.ranges Tryz.prog 9 (plainElem Tryz.prog 9) b r N D lf cnt ∧ Maps.IsMap D ∧ (∀ x : L, Maps.has D (.string x) = (mget m x).isSome) ∧ (∀ x : L, D.atKey (.string x) (.lit (.string [])) = .lit (.string ((mget m x).getD []))) ∧ Maps.size D = (dk m).length ∧ (∀ x : L, lf (.string x) = left.contains x) ∧ (∀ x ∈ left, (mget m x).isSome = true)
theorem LzR.set {w : World} {b r N cnt : Nat} {m : List (L × L)} {left : List L} (h : LzR w b r N cnt m left) : IsLz w b N m := by
  obtain ⟨D, lf, h1, h2, h3, h4, h5, _⟩ := h; exact ⟨D, h1.owns, h2, h3, h4, h5⟩
theorem LzR.iter {w : World} {b r N cnt : Nat} {m : List (L × L)} {left : List L} (h : LzR w b r N cnt m left) : ∃ x y z t, w.heap[r]? = some (.mapIter x y z t) := by
  obtain ⟨D, lf, ⟨es, clock, since, seen, c0, _, _, _, _, hr, _⟩, _⟩ := h; exact ⟨_, _, _, _, hr⟩
theorem LzR.map {w : World} {b r N cnt : Nat} {m : List (L × L)} {left : List L} (h : LzR w b r N cnt m left) : ∃ es c, w.heap[b]? = some (.map es c) := by
  obtain ⟨D, lf, h1, _⟩ := h
  obtain ⟨es, c, hb, _⟩ := h1.owns
  exact ⟨es, c, hb⟩
theorem LzR.kept {w w' : World} {b r N cnt : Nat} {m : List (L × L)} {left : List L} {row : Option Nat} (h : LzR w b r N cnt m left) (hg : w.grownBy w' row) (h1 : some b ≠ row) (h2 : some r ≠ row) : LzR w' b r N cnt m left := by
  obtain ⟨D, lf, h3, h4⟩ := h; exact ⟨D, lf, h3.kept hg h1 h2, h4⟩
theorem LzR.below {w w' : World} {b r N cnt : Nat} {m : List (L × L)} {left : List L} (h : LzR w b r N cnt m left) (hb : Below w.heap.size w w') : LzR w' b r N cnt m left := h.kept (grown_of_below hb none) (by simp) (by simp)
theorem LzR.alloc {w : World} {b r N cnt : Nat} {m : List (L × L)} {left : List L} (h : LzR w b r N cnt m left) (o : Obj) : LzR (w.alloc o) b r N cnt m left := h.below (below_alloc (Below.refl _ _) o)
section
variable (w : World) {ops : Array Oper} {rest : List Oper} {o : Oper} {a : Act} {Q : Exit → Act → World → Prop}
theorem range_lab (T : TypeId) (hT : Tryz.prog.underlying T = some (.map 9 9)) (hg : o.guard = none) (m : Operand) (hop : o.op = Op.range T m) (b N : Nat) (ks : List (L × L)) (hm : a.eval m = .map (some b)) (h : IsLz w b N ks)
    (hK : ∀ w', LzR w' b w.heap.size N (dk ks).length ks (dk ks) → w.grownBy w' none → w'.heap.size = w.heap.size + 1 → wpList Tryz.prog ops Q rest (a.put o.dst (.pointer (some ⟨w.heap.size, 0, none⟩))) w') :
    wpList Tryz.prog ops Q (o :: rest) a w := by
  obtain ⟨D, hown, hmp, hh, ha, hs⟩ := h
  refine wpList_range_own w hg m T hop 9 9 lawLs hT _ b N D hm hown ?_
  intro w' h1 h2 h3
  rw [hs] at h1
  exact hK w' ⟨D, _, h1, hmp, hh, ha, hs, fun x => by rw [hh, dk_contains], fun x hx => by rw [← dk_contains]; exact List.contains_iff_mem.2 hx⟩ h2 h3
theorem next_lab (hg : o.guard = none) (it : Operand) (hop : o.op = Op.next it false) (b r N cnt : Nat) (ks : List (L × L)) (left : List L) (hit : a.eval it = .pointer (some ⟨r, 0, none⟩)) (h : LzR w b r N cnt ks left)
    (hDone : cnt = 0 → left = [] → wpList Tryz.prog ops Q rest (a.put o.dst (.tuple #[.bool false])) w)
    (hMore : ∀ (s v : ByteArray) (w' : World) (cnt' : Nat), s.data.toList ∈ left → mget ks s.data.toList = some v.data.toList → LzR w' b r N cnt' ks (delK left s.data.toList) → cnt' < cnt → w.grownBy w' (some r) → w'.heap.size = w.heap.size →
      (Instr.entry (.pointer (some ⟨r, 0, none⟩))).run Tryz.prog w' = .ok (.tuple #[.string s, .string v]) w' → wpList Tryz.prog ops Q rest (a.put o.dst (.tuple #[.bool true, .string s, .string v])) w') :
    wpList Tryz.prog ops Q (o :: rest) a w := by
  obtain ⟨D, lf, hrg, hmp, hh, ha, hs, hl, hlm⟩ := h
  refine wpList_next_ranges (β := ByteArray) w hg it hop 9 lawLs (plainElem Tryz.prog 9) Value.string Value.string (fun key kl hkey => by obtain ⟨s, rfl, _⟩ := WideMaps.string_of_keyOf Tryz.underlying9 hkey; exact ⟨s, rfl⟩) (fun v y hv => by obtain ⟨s, rfl, _⟩ := plainElem_string_inv Tryz.underlying9 hv; exact ⟨s, rfl⟩)
    b r N D lf cnt hit hrg (fun h0 hall => hDone h0 (contains_nil fun x => by rw [← hl]; exact hall _)) ?_
  intro s c kl y w' cnt' hkey hlk hv hat hrg' hlt hgr hsz hen
  obtain ⟨s', e, rfl, hss⟩ := WideMaps.string_of_keyOf Tryz.underlying9 hkey
  cases e
  obtain ⟨c', e, hc, _⟩ := plainElem_string_inv Tryz.underlying9 hv
  cases e
  have hin : s.data.toList ∈ left := by have h := hl s.data.toList; rw [hlk] at h; simpa using h.symm
  have hval : mget ks s.data.toList = some c.data.toList := by
    have h1 := ha s.data.toList
    rw [hat] at h1
    obtain ⟨v, hvv⟩ := Option.isSome_iff_exists.1 (hlm _ hin)
    rw [hvv] at h1 ⊢
    have h2 : y.1 = .lit (.string c.data.toList) := by rw [hc]
    rw [h2] at h1
    simp only [Option.getD_some, DataW.lit.injEq, Lit.string.injEq] at h1
    rw [h1]
  refine hMore s c w' cnt' hin hval ⟨D, _, hrg', hmp, hh, ha, hs, fun x => ?_, fun x hx => hlm x (List.mem_filter.1 hx).1⟩ hlt hgr hsz hen
  rw [delK_contains, hl]
  congr 1
end
end Go.Proofs.YteigfmchnblkgaaGreatDoor.Hand

/- Two sets of labels: Conflicts, Equals, AreLabelsInWhiteList. (Printed by labops.py.) -/
namespace Go.Proofs.YteigfmchnblkgaaGreatDoor.Hand
open Go.RowKit Go.Maps Go.Proofs.YteigfmchnblkgaaGreatDoorW.PrintWords Go.Proofs.YteigfmchnblkgaaGreatDoorW.PrintLast Go.Proofs.YteigfmchnblkgaaGreatDoorW.PrintMore Go.Proofs.YteigfmchnblkgaaGreatDoor.Base
set_option linter.unusedVariables false
set_option linter.unusedSimpArgs false
set_option maxRecDepth 100000
section
variable (w : World) {ops : Array Oper} {rest : List Oper} {o : Oper} {a : Act} {Q : Exit → Act → World → Prop}
theorem len_lab (m : Operand) (T : TypeId) (hT : Tryz.prog.underlying T = some (.map 9 9)) (hg : o.guard = none) (hop : o.op = .call { callee := .builtin .len, args := #[m], argTypes := #[T] }) (b N : Nat) (ks : List (L × L)) (hm : a.eval m = .map (some b)) (h : IsLz w b N ks)
    (hK : wpList Tryz.prog ops Q rest (a.put o.dst (.int .i64 ((dk ks).length : Nat))) w) :
    wpList Tryz.prog ops Q (o :: rest) a w := by
  obtain ⟨D, hown, hmp, hh, ha, hs⟩ := h
  refine wpList_len_own w hg m T hop 9 9 hT _ b N D hm hown ?_
  rw [hs]; exact hK
end
end Go.Proofs.YteigfmchnblkgaaGreatDoor.Hand

/- Conflicts. (Printed by labops.py.) -/
namespace Go.Proofs.YteigfmchnblkgaaGreatDoor.Hand
open Go.RowKit Go.Maps Go.Proofs.YteigfmchnblkgaaGreatDoorW.PrintWords Go.Proofs.YteigfmchnblkgaaGreatDoorW.PrintLast Go.Proofs.YteigfmchnblkgaaGreatDoorW.PrintMore Go.Proofs.YteigfmchnblkgaaGreatDoor.Base
set_option linter.unusedVariables false
set_option linter.unusedSimpArgs false
set_option maxRecDepth 100000
end Go.Proofs.YteigfmchnblkgaaGreatDoor.Hand

/- laws.epSamePairs; impl.LabelsBoth. -/
namespace Go.Proofs.YteigfmchnblkgaaGreatDoor.Hand
open Go.RowKit Go.Maps Go.Proofs.YteigfmchnblkgaaGreatDoorW.PrintWords Go.Proofs.YteigfmchnblkgaaGreatDoorW.PrintLast Go.Proofs.YteigfmchnblkgaaGreatDoorW.PrintMore Go.Proofs.YteigfmchnblkgaaGreatDoor.Base
open Go.Sort (ltStr)
set_option linter.unusedVariables false
set_option linter.unusedSimpArgs false
set_option maxRecDepth 100000
theorem pk_both {w : World} {A : Option Addr} {n : Nat} {xs : List (ByteArray × ByteArray)} (h : PK.C w A n xs) (i : Nat) (h1 : i < n) (h2 : i < xs.length) :
    ∃ ad, A = some ad ∧ w.cell? (ad.add (i * 2)) = some (.string xs[i].1) ∧ w.cell? ⟨(ad.add (i * 2)).block, (ad.add (i * 2)).off + 1, none⟩ = some (.string xs[i].2) := by
  obtain ⟨ad, e, h0, h3⟩ := pk_at h i h1
  rw [List.getD_eq_getElem?_getD, List.getElem?_eq_getElem h2] at h0 h3
  exact ⟨ad, e, h0, h3⟩
theorem take_eq_snoc {α : Type} {xs ys : List α} {j : Nat} (h : xs.take j = ys.take j) (h1 : j < xs.length) (h2 : j < ys.length) (e : xs[j] = ys[j]) : xs.take (j + 1) = ys.take (j + 1) := by
  rw [List.take_succ_eq_append_getElem h1, List.take_succ_eq_append_getElem h2, h, e]
theorem pr_guard (x y : Operand) (xs ys : Array Value) (w : World) : (eqGuard .neq 45 x y (.agg xs) (.agg ys)).run Tryz.prog w = .ok () w := run_eqGuard_agg w .neq 45 x y xs ys (by kernel_rfl)
theorem pr_eq (xa xb ya yb : ByteArray) (w : World) : (Op.equalIn 10000 45 (.agg #[.string xa, .string xb]) (.agg #[.string ya, .string yb])).run Tryz.prog w = .ok (xa.toList == ya.toList && xb.toList == yb.toList) w := by
  rw [run_equalIn_struct w 9999 45 _ _ (by kernel_rfl) (by kernel_rfl)]
  simp only [Program.fieldsOf, Tryz.underlying45, Op.eqFields]
  simp [part, run_equalIn_string _ _ _ _ _ Tryz.underlying9, go_sem]
  by_cases h1 : xa.toList = ya.toList <;> by_cases h2 : xb.toList = yb.toList <;> simp [h1, h2]
theorem pr_neq (xa xb ya yb : ByteArray) (w : World) : (binOp .neq 45 (.agg #[.string xa, .string xb]) (.agg #[.string ya, .string yb])).run Tryz.prog w = .ok (.bool (!(xa.toList == ya.toList && xb.toList == yb.toList))) w := by
  rw [run_neq_struct, pr_eq]; rfl
set_option maxHeartbeats 4000000 in
theorem SamePairs_calls (A A2 : Option Addr) (n c n2 c2 : Nat) (xs ys : List (ByteArray × ByteArray)) (hn : xs.length = n) (hn2 : ys.length = n2) (hb1 : n ≤ 1000000) (hb2 : n2 ≤ 1000000) (w : World) (hx : PK.C w A n xs) (hy : PK.C w A2 n2 ys) :
    Calls Tryz.prog 36 #[.slice A n c, .slice A2 n2 c2] w fun e w' => e = .returned (.bool (decide (xs = ys))) ∧ Below w.heap.size w w' := by
  have HX := Aside0.mk hx
  have HY := Aside0.mk hy
  have HB := Aside0.mk (Below.refl w.heap.size w)
  clear hx hy
  go_enter Tryz.func36, Tryz.ntmps36
  by_cases hnn : n = n2
  · subst hnn
    go_wp2
    go_loopg [5, 13] (n) (fun g v5 v13 w' => ∃ j : Nat, v13 = .int .i64 j ∧ Aside0 (g + j = n) ∧ Aside0 (xs.take j = ys.take j) ∧ Aside0 (Below w.heap.size w w'))
    case atStart => exact ⟨0, rfl, ⟨by omega⟩, ⟨rfl⟩, HB⟩
    case round =>
      clear HB
      obtain ⟨j, rfl, HJ, HT, HB⟩ := hrel
      have hj : j ≤ n := by have := HJ.out; omega
      by_cases hjl : j < n
      · obtain ⟨ad, e1, hk0, hk1⟩ := pk_both (Kd.C_below HX.out HB.out) j hjl (by omega)
        obtain ⟨ad2, e2, hl0, hl1⟩ := pk_both (Kd.C_below HY.out HB.out) j hjl (by omega)
        subst e1 e2
        obtain ⟨x0, hx0⟩ : ∃ x, xs[j] = x := ⟨_, rfl⟩
        obtain ⟨y0, hy0⟩ : ∃ y, ys[j] = y := ⟨_, rfl⟩
        rw [hx0] at hk0 hk1
        rw [hy0] at hl0 hl1
        obtain ⟨xa, xb⟩ := x0
        obtain ⟨ya, yb⟩ := y0
        replace hk0 : wr.cell? (ad.add (j * 2)) = some (.string xa) := hk0
        replace hk1 : wr.cell? ⟨(ad.add (j * 2)).block, (ad.add (j * 2)).off + 1, none⟩ = some (.string xb) := hk1
        replace hl0 : wr.cell? (ad2.add (j * 2)) = some (.string ya) := hl0
        replace hl1 : wr.cell? ⟨(ad2.add (j * 2)).block, (ad2.add (j * 2)).off + 1, none⟩ = some (.string yb) := hl1
        have HE := Aside0.mk (And.intro hx0 hy0)
        clear hx0 hy0
        obtain ⟨q, hq⟩ : ∃ q, (xa.toList == ya.toList && xb.toList == yb.toList) = q := ⟨_, rfl⟩
        have hE1 := pr_eq xa xb ya yb
        have hE2 := pr_neq xa xb ya yb
        have hE3 := pr_guard (.tmp 19) (.tmp 23) #[.string xa, .string xb] #[.string ya, .string yb]
        rw [hq] at hE1 hE2
        cases q with
        | true =>
          have HQ : Aside0 (xs.take (j + 1) = ys.take (j + 1)) := ⟨take_eq_snoc HT.out (by omega) (by omega) (by
            rw [HE.out.1, HE.out.2]
            simp only [Bool.and_eq_true, beq_iff_eq] at hq
            have z : ∀ a b : ByteArray, a.toList = b.toList → a = b := fun a b h => by rw [ByteArray.toList_eq, ByteArray.toList_eq] at h; exact ByteArray.ext (Array.toList_inj.1 h)
            rw [z _ _ hq.1, z _ _ hq.2])⟩
          clear hq
          go_wp2
          go_quiet (fail)
          clear hE1 hE2 hE3
          go_wp2
          go_roundg (gk - 1)
          case measure => have := HJ.out; omega
          case rel => exact ⟨j + 1, by go_num, ⟨by have := HJ.out; omega⟩, HQ, ⟨pw_below_drewN HB.out _⟩⟩
        | false =>
          have HQ : Aside0 (decide (xs = ys) = false) := ⟨by
            rw [decide_eq_false_iff_not]
            intro e
            subst e
            have := HE.out.1.symm.trans HE.out.2
            injection this with e1 e2
            rw [e1, e2] at hq
            simp at hq⟩
          clear hq
          go_wp2
          go_quiet (fail)
          clear hE1 hE2 hE3
          go_wp2
          go_ret
          exact ⟨by rw [HQ.out]; rfl, pw_below_drewN HB.out _⟩
      · have hli : j = n := by omega
        have HE : Aside0 (decide (xs = ys) = true) := ⟨by
          have := HT.out
          rw [hli, List.take_of_length_le (by omega), List.take_of_length_le (by omega)] at this
          simp [this]⟩
        go_wp2
        go_ret
        exact ⟨by rw [HE.out]; rfl, HB.out⟩
  · have HE : Aside0 (decide (xs = ys) = false) := ⟨by
      rw [decide_eq_false_iff_not]; intro e; subst e; omega⟩
    go_wp2
    go_ret
    exact ⟨by rw [HE.out]; rfl, HB.out⟩
end Go.Proofs.YteigfmchnblkgaaGreatDoor.Hand

/- impl.LabelsBoth. -/
namespace Go.Proofs.YteigfmchnblkgaaGreatDoor.Hand
open Go.RowKit Go.Maps Go.Proofs.YteigfmchnblkgaaGreatDoorW.PrintWords Go.Proofs.YteigfmchnblkgaaGreatDoorW.PrintLast Go.Proofs.YteigfmchnblkgaaGreatDoorW.PrintMore Go.Proofs.YteigfmchnblkgaaGreatDoor.Base
open Go.Sort (ltStr)
set_option linter.unusedVariables false
set_option linter.unusedSimpArgs false
set_option maxRecDepth 100000
end Go.Proofs.YteigfmchnblkgaaGreatDoor.Hand

/- Labels by their keys: what stands in the list, and where. No program in sight. -/
namespace Go.Proofs.YteigfmchnblkgaaGreatDoor.Hand
open Go.RowKit Go.Maps Go.Proofs.YteigfmchnblkgaaGreatDoorW.PrintWords Go.Proofs.YteigfmchnblkgaaGreatDoorW.PrintLast Go.Proofs.YteigfmchnblkgaaGreatDoorW.PrintMore Go.Proofs.YteigfmchnblkgaaGreatDoor.Base
open Go.Sort (ltStr)
set_option linter.unusedVariables false
set_option linter.unusedSimpArgs false
theorem irr (x : L) : ltStr x x = false := Go.Sort.swo_ltStr.irrefl x
theorem trn {x y z : L} (h : ltStr x y = true) (h2 : ltStr y z = true) : ltStr x z = true := Go.Sort.swo_ltStr.trans x y z h h2
theorem tri {x y : L} (h : ¬ ltStr x y = true) (e : x ≠ y) : ltStr y x = true := by
  cases h2 : ltStr y x
  · simp only [ltStr, decide_eq_true_eq, decide_eq_false_iff_not, List.not_lt] at h h2
    exact absurd (List.le_antisymm h2 h) e
  · rfl
theorem insK_cons (y : LP) (r : List LP) (p : LP) : insK (y :: r) p = if ltStr y.1 p.1 = true then y :: insK r p else if y.1 = p.1 then p :: r else p :: y :: r := by
  by_cases h : ltStr y.1 p.1 = true
  · rw [if_pos h]
    have e : posK (y :: r) p.1 = posK r p.1 + 1 := by show (if _ then _ else _) = _; rw [if_pos h]
    unfold insK
    rw [e]
    simp only [List.getElem?_cons_succ, List.set_cons_succ, List.take_succ_cons, List.drop_succ_cons, List.cons_append]
    split <;> rfl
  · rw [if_neg h]
    have e : posK (y :: r) p.1 = 0 := by show (if _ then _ else _) = _; rw [if_neg h]
    unfold insK
    rw [e]
    simp only [List.getElem?_cons_zero, Option.map_some, List.set_cons_zero, List.take_zero, List.drop_zero, List.nil_append, Option.some.injEq]
def SK (xs : List LP) : Prop := xs.Pairwise fun a b => ltStr a.1 b.1 = true
theorem ins_mem (p : LP) : ∀ (out : List LP), SK out → SK (insK out p) ∧ ∀ q, q ∈ insK out p ↔ q = p ∨ (q ∈ out ∧ q.1 ≠ p.1)
  | [], _ => ⟨by show SK [p]; exact List.pairwise_singleton _ _, fun q => by show q ∈ [p] ↔ _; simp⟩
  | y :: r, h => by
    obtain ⟨h1, h2⟩ := List.pairwise_cons.1 h
    obtain ⟨i1, i2⟩ := ins_mem p r h2
    rw [insK_cons]
    by_cases e : ltStr y.1 p.1 = true
    · rw [if_pos e]
      have hne : y.1 ≠ p.1 := fun e2 => by rw [e2, irr] at e; cases e
      refine ⟨List.pairwise_cons.2 ⟨fun q hq => ?_, i1⟩, fun q => ?_⟩
      · rcases (i2 q).1 hq with rfl | ⟨hq, _⟩
        · exact e
        · exact h1 q hq
      · rw [List.mem_cons, i2, List.mem_cons]
        constructor
        · rintro (rfl | rfl | ⟨a, b⟩)
          · exact .inr ⟨.inl rfl, hne⟩
          · exact .inl rfl
          · exact .inr ⟨.inr a, b⟩
        · rintro (rfl | ⟨rfl | a, b⟩)
          · exact .inr (.inl rfl)
          · exact .inl rfl
          · exact .inr (.inr ⟨a, b⟩)
    · rw [if_neg e]
      by_cases e2 : y.1 = p.1
      · rw [if_pos e2]
        refine ⟨List.pairwise_cons.2 ⟨fun q hq => by rw [← e2]; exact h1 q hq, h2⟩, fun q => ?_⟩
        rw [List.mem_cons, List.mem_cons]
        constructor
        · rintro (rfl | a)
          · exact .inl rfl
          · exact .inr ⟨.inr a, fun e3 => by have := h1 q a; rw [e3, e2, irr] at this; cases this⟩
        · rintro (rfl | ⟨rfl | a, b⟩)
          · exact .inl rfl
          · exact absurd e2 b
          · exact .inr a
      · rw [if_neg e2]
        have hlt : ltStr p.1 y.1 = true := tri e e2
        refine ⟨List.pairwise_cons.2 ⟨fun q hq => ?_, h⟩, fun q => ?_⟩
        · rcases List.mem_cons.1 hq with rfl | hq
          · exact hlt
          · exact trn hlt (h1 q hq)
        · rw [List.mem_cons]
          constructor
          · rintro (rfl | a)
            · exact .inl rfl
            · refine .inr ⟨a, fun e3 => ?_⟩
              rcases List.mem_cons.1 a with rfl | a
              · exact e2 e3
              · have := trn hlt (h1 q a)
                rw [e3, irr] at this; cases this
          · rintro (rfl | ⟨a, b⟩)
            · exact .inl rfl
            · exact .inr a
theorem keyL_mem (l : List LP) : SK (keyL l) ∧ ∀ k v, (k, v) ∈ keyL l ↔ mget l.reverse k = some v := by
  have h : ∀ n, n ≤ l.length → SK (keyL (l.take n)) ∧ ∀ k v, (k, v) ∈ keyL (l.take n) ↔ mget (l.take n).reverse k = some v := by
    intro n
    induction n with
    | zero => exact fun _ => ⟨List.Pairwise.nil, fun k v => by show (k, v) ∈ ([] : List LP) ↔ mget [] k = some v; simp [mget]⟩
    | succ n ih =>
      intro hn
      obtain ⟨i1, i2⟩ := ih (by omega)
      obtain ⟨p, hp⟩ : ∃ p, l[n]? = some p := ⟨_, List.getElem?_eq_getElem (by omega)⟩
      have hs := keyL_snoc hp
      have hr : (l.take (n + 1)).reverse = p :: (l.take n).reverse := by rw [List.take_add_one, hp]; simp
      rw [hs, hr]
      obtain ⟨j1, j2⟩ := ins_mem p _ i1
      refine ⟨j1, fun k v => ?_⟩
      obtain ⟨pk, pv⟩ := p
      rw [j2, mget_cons, i2]
      by_cases e : pk = k
      · subst e; rw [if_pos rfl]; simp [eq_comm]
      · rw [if_neg e]
        constructor
        · rintro (h | h)
          · exact absurd (Prod.mk.inj h).1.symm e
          · exact h.1
        · exact fun h => .inr ⟨h, fun e2 => e e2.symm⟩
  have := h l.length (Nat.le_refl _)
  rwa [List.take_length] at this
theorem sk_ext : ∀ {xs ys : List LP}, SK xs → SK ys → (∀ q, q ∈ xs ↔ q ∈ ys) → xs = ys
  | [], [], _, _, _ => rfl
  | [], y :: ys, _, _, h => by have := (h y).2 List.mem_cons_self; cases this
  | x :: xs, [], _, _, h => by have := (h x).1 List.mem_cons_self; cases this
  | x :: xs, y :: ys, hx, hy, h => by
    obtain ⟨a1, a2⟩ := List.pairwise_cons.1 hx
    obtain ⟨b1, b2⟩ := List.pairwise_cons.1 hy
    have e : x = y := by
      rcases List.mem_cons.1 ((h x).1 List.mem_cons_self) with e | m1
      · exact e
      · rcases List.mem_cons.1 ((h y).2 List.mem_cons_self) with e | m2
        · exact e.symm
        · have := trn (a1 y m2) (b1 x m1)
          rw [irr] at this; cases this
    subst e
    rw [sk_ext a2 b2 fun q => ?_]
    constructor
    · intro m
      rcases List.mem_cons.1 ((h q).1 (List.mem_cons_of_mem _ m)) with rfl | m2
      · have := a1 _ m; rw [irr] at this; cases this
      · exact m2
    · intro m
      rcases List.mem_cons.1 ((h q).2 (List.mem_cons_of_mem _ m)) with rfl | m2
      · have := b1 _ m; rw [irr] at this; cases this
      · exact m2
end Go.Proofs.YteigfmchnblkgaaGreatDoor.Hand

/-
  DERIVED: THE SHELF's CONTRACTS AT THIS DUMP, IN PLAIN WORDS (tools/lay-plain.mjs out of 'TryzSortF.lean', which tools/lay-shelf.mjs wrote): THE SAME DECLARATIONS UNDER THE SAME NAMES: 'import', 'namespace', 'open', 'def', 'theorem' AND NOTHING ELSE: no command of the shelf's: FOR A HAND-IN. Each laying: the table of numbers ('.._ren') and one theorem, a field a fact of the dump's own or the kernel's comparison; each contract: ONE APPLICATION.
-/
namespace Go.Proofs
open Go.Shelf
def Tryz.sortPr_ren : Go.Shelf.Ren := ⟨fun | 6 => 85 | 15 => 105 | 14 => 104 | 28 => 131 | 29 => 132 | 20 => 123 | 21 => 124 | 22 => 125 | 23 => 126 | 24 => 127 | 25 => 128 | 26 => 129 | 27 => 130 | 46 => 160 | 47 => 161 | 48 => 162 | 49 => 163 | 50 => 164 | 57 => 185 | n => n, fun | 22 => 22 | 24 => 45 | 25 => 133 | 3 => 3 | 39 => 144 | 0 => 0 | 53 => 191 | 55 => 141 | 4 => 4 | 46 => 184 | 45 => 183 | 50 => 188 | 5 => 5 | 9 => 9 | 66 => 216 | 70 => 95 | 76 => 235 | 77 => 236 | n => n, fun | n => n⟩
theorem Tryz.sortPr : Go.Proofs.SlLaysF0.n6 Tryz.prog Tryz.sortPr_ren := {
  mixed := by kernel_rfl
  f6 := ⟨Tryz.f85.name, by decide, Tryz.func85.trans (congrArg some (by kernel_rfl))⟩
  f14 := ⟨Tryz.f104.name, by decide, Tryz.func104.trans (congrArg some (by kernel_rfl))⟩
  f15 := Tryz.func105.trans (congrArg some (by kernel_rfl))
  f20 := ⟨Tryz.f123.name, by decide, Tryz.func123.trans (congrArg some (by kernel_rfl))⟩
  f21 := ⟨Tryz.f124.name, by decide, Tryz.func124.trans (congrArg some (by kernel_rfl))⟩
  f22 := ⟨Tryz.f125.name, by decide, Tryz.func125.trans (congrArg some (by kernel_rfl))⟩
  f23 := ⟨Tryz.f126.name, by decide, Tryz.func126.trans (congrArg some (by kernel_rfl))⟩
  f24 := ⟨Tryz.f127.name, by decide, Tryz.func127.trans (congrArg some (by kernel_rfl))⟩
  f25 := ⟨Tryz.f128.name, by decide, Tryz.func128.trans (congrArg some (by kernel_rfl))⟩
  f26 := ⟨Tryz.f129.name, by decide, Tryz.func129.trans (congrArg some (by kernel_rfl))⟩
  f27 := ⟨Tryz.f130.name, by decide, Tryz.func130.trans (congrArg some (by kernel_rfl))⟩
  f28 := Tryz.func131.trans (congrArg some (by kernel_rfl))
  f29 := Tryz.func132.trans (congrArg some (by kernel_rfl))
  f46 := ⟨Tryz.f160.name, by decide, Tryz.func160.trans (congrArg some (by kernel_rfl))⟩
  f47 := Tryz.func161.trans (congrArg some (by kernel_rfl))
  f48 := Tryz.func162.trans (congrArg some (by kernel_rfl))
  f49 := ⟨Tryz.f163.name, by decide, Tryz.func163.trans (congrArg some (by kernel_rfl))⟩
  f50 := ⟨Tryz.f164.name, by decide, Tryz.func164.trans (congrArg some (by kernel_rfl))⟩
  f57 := ⟨Tryz.f185.name, by decide, Tryz.func185.trans (congrArg some (by kernel_rfl))⟩
  t0 := Tryz.underlying0
  a0 := Tryz.isAgg0
  z0 := Tryz.sizeOf0
  v0 := Tryz.zeroValue0
  t3 := Tryz.underlying3
  a3 := Tryz.isAgg3
  z3 := Tryz.sizeOf3
  v3 := Tryz.zeroValue3
  t4 := Tryz.underlying4
  a4 := Tryz.isAgg4
  z4 := Tryz.sizeOf4
  v4 := Tryz.zeroValue4
  t5 := Tryz.underlying5
  a5 := Tryz.isAgg5
  z5 := Tryz.sizeOf5
  v5 := Tryz.zeroValue5
  t9 := Tryz.underlying9
  a9 := Tryz.isAgg9
  z9 := Tryz.sizeOf9
  v9 := Tryz.zeroValue9
  t22 := Tryz.underlying22
  a22 := Tryz.isAgg22
  z22 := Tryz.sizeOf22
  v22 := Tryz.zeroValue22
  t25 := Tryz.underlying133
  a25 := Tryz.isAgg133
  z25 := Tryz.sizeOf133
  v25 := Tryz.zeroValue133
  t39 := Tryz.underlying144
  a39 := Tryz.isAgg144
  z39 := Tryz.sizeOf144
  v39 := Tryz.zeroValue144
  t45 := Tryz.underlying183
  a45 := Tryz.isAgg183
  z45 := Tryz.sizeOf183
  v45 := Tryz.zeroValue183
  t46 := Tryz.underlying184
  a46 := Tryz.isAgg184
  z46 := Tryz.sizeOf184
  v46 := Tryz.zeroValue184
  t50 := Tryz.underlying188
  a50 := Tryz.isAgg188
  z50 := Tryz.sizeOf188
  v50 := Tryz.zeroValue188
  t53 := Tryz.underlying191
  a53 := Tryz.isAgg191
  z53 := Tryz.sizeOf191
  v53 := Tryz.zeroValue191
  t55 := Tryz.underlying141
  a55 := Tryz.isAgg141
  z55 := Tryz.sizeOf141
  v55 := Tryz.zeroValue141
  t66 := Tryz.underlying216
  a66 := Tryz.isAgg216
  z66 := Tryz.sizeOf216
  v66 := Tryz.zeroValue216
  t70 := Tryz.underlying95
  a70 := Tryz.isAgg95
  z70 := Tryz.sizeOf95
  v70 := Tryz.zeroValue95
  t76 := Tryz.underlying235
  a76 := Tryz.isAgg235
  z76 := Tryz.sizeOf235
  v76 := Tryz.zeroValue235
  t77 := Tryz.underlying236
  a77 := Tryz.isAgg236
  z77 := Tryz.sizeOf236
  v77 := Tryz.zeroValue236 }
end Go.Proofs
