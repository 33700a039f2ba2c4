/- Labels, with how many there are; a range over labels. -/
import Derived.Test.YteigfmchnblkgaaGreatDoorLBM9
import Derived.Test.YteigfmchnblkgaaGreatDoorLBGSetA
namespace Go.Proofs.YteigfmchnblkgaaGreatDoor.Hand
open Go.RowKit Go.Maps Go.Proofs.YteigfmchnblkgaaGreatDoorW.PrintWords Go.Proofs.YteigfmchnblkgaaGreatDoorW.PrintLast Go.Proofs.YteigfmchnblkgaaGreatDoorW.PrintMore Go.Proofs.YteigfmchnblkgaaGreatDoor.Base
set_option linter.unusedVariables false
set_option linter.unusedSimpArgs false
set_option maxRecDepth 100000
/-- The keys, each once. -/
def dk : List (L × L) → List L
  | [] => []
  | p :: m => if (mget m p.1).isSome then dk m else p.1 :: dk m
theorem dk_contains : ∀ (m : List (L × L)) (x : L), (dk m).contains x = (mget m x).isSome
  | [], x => rfl
  | (k, v) :: m, x => by
    rw [mget_cons]
    unfold dk
    by_cases h : (mget m k).isSome = true
    · rw [if_pos h, dk_contains m x]
      by_cases e : k = x
      · subst e; rw [if_pos rfl, h]; rfl
      · rw [if_neg e]
    · rw [if_neg h, List.contains_cons, dk_contains m x]
      by_cases e : k = x
      · subst e; rw [if_pos rfl]; simp
      · rw [if_neg e, show (x == k) = false from by simpa using fun h => e h.symm, Bool.false_or]
theorem dk_nodup : ∀ m : List (L × L), (dk m).Nodup
  | [] => List.nodup_nil
  | (k, v) :: m => by
    unfold dk
    by_cases h : (mget m k).isSome = true
    · rw [if_pos h]; exact dk_nodup m
    · rw [if_neg h]
      refine List.nodup_cons.2 ⟨fun hm => h ?_, dk_nodup m⟩
      rw [← dk_contains]; exact List.contains_iff_mem.2 hm
theorem dk_mem {m : List (L × L)} {x : L} : x ∈ dk m ↔ ∃ v, mget m x = some v := by
  rw [← List.contains_iff_mem, dk_contains, Option.isSome_iff_exists]
/-- Block b is a map of these texts, of as many keys. -/
def IsLz (w : World) (b N : Nat) (m : List (L × L)) : Prop :=
  ∃ D : DataW Unit, w.ownsMap Tryz.prog 9 (plainElem Tryz.prog 9) b N D ∧ Maps.IsMap D ∧ (∀ x : L, Maps.has D (.string x) = (mget m x).isSome) ∧ (∀ x : L, D.atKey (.string x) (.lit (.string [])) = .lit (.string ((mget m x).getD []))) ∧ Maps.size D = (dk m).length
theorem IsLz.kept {w w' : World} {b N : Nat} {m : List (L × L)} {row : Option Nat} (h : IsLz w b N m) (hg : w.grownBy w' row) (hne : some b ≠ row) : IsLz w' b N m := by
  obtain ⟨D, h1, h2⟩ := h; exact ⟨D, h1.kept hg hne, h2⟩
theorem IsLz.below {w w' : World} {b N : Nat} {m : List (L × L)} (h : IsLz w b N m) (hb : Below w.heap.size w w') : IsLz w' b N m := h.kept (grown_of_below hb none) (by simp)
theorem IsLz.made (w : World) : IsLz (w.alloc (.map #[] 0)) w.heap.size 0 [] := ⟨_, World.ownsMap_made _ _ _ _, ⟨[], rfl⟩, fun x => rfl, fun x => rfl, rfl⟩
theorem IsLz.lt {w : World} {b N : Nat} {m : List (L × L)} (h : IsLz w b N m) : b < w.heap.size := by obtain ⟨D, h1, _⟩ := h; exact h1.lt
theorem lab_putZ {D : DataW Unit} {m : List (L × L)} (k v : L) (h0 : Maps.IsMap D) (ht : Maps.Tidy D) (hh : ∀ x : L, Maps.has D (.string x) = (mget m x).isSome) (ha : ∀ x : L, D.atKey (.string x) (.lit (.string [])) = .lit (.string ((mget m x).getD []))) (hs : Maps.size D = (dk m).length) :
    Maps.IsMap (D.put (.string k) (.lit (.string v))) ∧ (∀ x : L, Maps.has (D.put (.string k) (.lit (.string v))) (.string x) = (mget ((k, v) :: m) x).isSome) ∧ (∀ x : L, (D.put (.string k) (.lit (.string v))).atKey (.string x) (.lit (.string [])) = .lit (.string ((mget ((k, v) :: m) x).getD []))) ∧ Maps.size (D.put (.string k) (.lit (.string v))) = (dk ((k, v) :: m)).length := by
  obtain ⟨a, b, c⟩ := lab_put k v h0 hh ha
  refine ⟨a, b, c, ?_⟩
  rw [size_put ht, hh, hs]
  conv => rhs; unfold dk
  split <;> rename_i e
  · rfl
  · rfl
set_option maxHeartbeats 4000000 in
theorem setOfZ_calls (A : Option Addr) (c : Nat) (l : List (ByteArray × ByteArray)) (hl : l.length ≤ 1000000) (hz : ∀ p ∈ l, p.1.size ≤ 140737488351232 ∧ p.2.size ≤ 140737488351232) (w : World) (hC : PK.C w A l.length l) :
    Calls Tryz.prog 53 #[.slice A l.length c] w fun e w' => e = .returned (.map (some w.heap.size)) ∧ IsLz w' w.heap.size l.length (labRev l) ∧ Below w.heap.size w w' := by
  have HC := Aside0.mk hC
  have hmm := @run_makeMap Tryz.prog
  clear hC
  go_enter Tryz.func53, Tryz.ntmps53
  go_wp2
  clear hmm
  go_loopg [9] (l.length) (fun k v9 w' => ∃ j : Nat, v9 = .int .i64 j ∧ Aside0 (k + j = l.length) ∧ Aside0 (IsLz w' w.heap.size j (labRev (l.take j))) ∧ Aside0 (Below w.heap.size w w'))
  case atStart => exact ⟨0, rfl, ⟨by omega⟩, ⟨IsLz.made w⟩, ⟨below_alloc (Below.refl _ _) _⟩⟩
  case round =>
    obtain ⟨j, rfl, HJ, HI, HB⟩ := hrel
    by_cases hjl : j < l.length
    · obtain ⟨ad, rfl, hk0, hk1⟩ := pk_at (Kd.C_below HC.out HB.out) j hjl
      obtain ⟨p, hp⟩ : ∃ p, l[j]? = some p := ⟨_, List.getElem?_eq_getElem hjl⟩
      have hg : l.getD j (⟨#[]⟩, ⟨#[]⟩) = p := by rw [List.getD_eq_getElem?_getD, hp]; rfl
      rw [hg] at hk0 hk1
      obtain ⟨hz1, hz2⟩ := hz p (List.mem_of_getElem? hp)
      have HTK := Aside0.mk (labRev_take l j hp)
      obtain ⟨pk, pv⟩ := p
      replace hz1 : pk.size ≤ 140737488351232 := hz1
      replace hz2 : pv.size ≤ 140737488351232 := hz2
      clear hp hg
      obtain ⟨D, hown, hmp, hhas, hat, hsz⟩ := HI.out
      have HO := Aside0.mk hown
      have HPUT := Aside0.mk (lab_putZ pk.data.toList pv.data.toList hmp (World.ownsMap.tidy hown lawLs) hhas hat hsz)
      clear hown hmp hhas hat hsz
      have HO2 := Aside0.mk (World.ownsMap.alloc HO.out (.cells #[.string pk, .string pv] 45))
      have HB0 := Aside0.mk (below_alloc HB.out (.cells #[.string pk, .string pv] 45))
      have hkey := keyLs pk hz1
      have hval : plainElem (H := Unit) Tryz.prog 9 (.string pv) = some (.lit (.string pv.data.toList), []) := plainElem_string Tryz.underlying9 (by unfold maxLen; omega)
      clear HO
      go_wp2_with (first | (at_mapUpdate; refine wpList_mapUpdate_own _ rfl _ _ _ 92 rfl 9 9 lawLs Tryz.underlying92 (plainElem (H := Unit) Tryz.prog 9) w.heap.size j _ rfl HO2.out (by unfold maxLen; omega) _ _ _ rfl rfl hkey _ [] hval ?_; intro w1 hown1 hg1; have HI1 : Aside0 (IsLz w1 w.heap.size (j + 1) (labRev (l.take (j + 1)))) := ⟨by rw [HTK.out]; exact ⟨_, hown1, HPUT.out⟩⟩; have HB1 := Aside0.mk (pw_below_grown HB0.out _ (below_size HB0.out) hg1 (fun q hq => by cases hq; exact Nat.le_refl _)); clear hown1 hg1))
      go_roundg (l.length - (j + 1))
      case measure => have := HJ.out; omega
      case rel => exact ⟨j + 1, by go_num, ⟨by omega⟩, HI1, HB1⟩
    · have hje : j = l.length := by have := HJ.out; omega
      have HTK : Aside0 (l.take j = l) := ⟨by rw [hje, List.take_length]⟩
      subst hje
      rw [HTK.out] at HI
      go_wp2
      go_ret
      exact ⟨rfl, HI.out, HB.out⟩
/-- Block r is a loop over the labels of block b: the keys of left are still to come. -/
def LzR (w : World) (b r N cnt : Nat) (m : List (L × L)) (left : List L) : Prop :=
  ∃ (D : DataW Unit) (lf : Lit → Bool), w.ranges Tryz.prog 9 (plainElem Tryz.prog 9) b r N D lf cnt ∧ Maps.IsMap D ∧ (∀ x : L, Maps.has D (.string x) = (mget m x).isSome) ∧ (∀ x : L, D.atKey (.string x) (.lit (.string [])) = .lit (.string ((mget m x).getD []))) ∧ Maps.size D = (dk m).length ∧ (∀ x : L, lf (.string x) = left.contains x) ∧ (∀ x ∈ left, (mget m x).isSome = true)
theorem LzR.set {w : World} {b r N cnt : Nat} {m : List (L × L)} {left : List L} (h : LzR w b r N cnt m left) : IsLz w b N m := by
  obtain ⟨D, lf, h1, h2, h3, h4, h5, _⟩ := h; exact ⟨D, h1.owns, h2, h3, h4, h5⟩
theorem LzR.iter {w : World} {b r N cnt : Nat} {m : List (L × L)} {left : List L} (h : LzR w b r N cnt m left) : ∃ x y z t, w.heap[r]? = some (.mapIter x y z t) := by
  obtain ⟨D, lf, ⟨es, clock, since, seen, c0, _, _, _, _, hr, _⟩, _⟩ := h; exact ⟨_, _, _, _, hr⟩
theorem LzR.map {w : World} {b r N cnt : Nat} {m : List (L × L)} {left : List L} (h : LzR w b r N cnt m left) : ∃ es c, w.heap[b]? = some (.map es c) := by
  obtain ⟨D, lf, h1, _⟩ := h
  obtain ⟨es, c, hb, _⟩ := h1.owns
  exact ⟨es, c, hb⟩
theorem LzR.kept {w w' : World} {b r N cnt : Nat} {m : List (L × L)} {left : List L} {row : Option Nat} (h : LzR w b r N cnt m left) (hg : w.grownBy w' row) (h1 : some b ≠ row) (h2 : some r ≠ row) : LzR w' b r N cnt m left := by
  obtain ⟨D, lf, h3, h4⟩ := h; exact ⟨D, lf, h3.kept hg h1 h2, h4⟩
theorem LzR.below {w w' : World} {b r N cnt : Nat} {m : List (L × L)} {left : List L} (h : LzR w b r N cnt m left) (hb : Below w.heap.size w w') : LzR w' b r N cnt m left := h.kept (grown_of_below hb none) (by simp) (by simp)
theorem LzR.alloc {w : World} {b r N cnt : Nat} {m : List (L × L)} {left : List L} (h : LzR w b r N cnt m left) (o : Obj) : LzR (w.alloc o) b r N cnt m left := h.below (below_alloc (Below.refl _ _) o)
section
variable (w : World) {ops : Array Oper} {rest : List Oper} {o : Oper} {a : Act} {Q : Exit → Act → World → Prop}
theorem range_lab (T : TypeId) (hT : Tryz.prog.underlying T = some (.map 9 9)) (hg : o.guard = none) (m : Operand) (hop : o.op = Op.range T m) (b N : Nat) (ks : List (L × L)) (hm : a.eval m = .map (some b)) (h : IsLz w b N ks)
    (hK : ∀ w', LzR w' b w.heap.size N (dk ks).length ks (dk ks) → w.grownBy w' none → w'.heap.size = w.heap.size + 1 → wpList Tryz.prog ops Q rest (a.put o.dst (.pointer (some ⟨w.heap.size, 0, none⟩))) w') :
    wpList Tryz.prog ops Q (o :: rest) a w := by
  obtain ⟨D, hown, hmp, hh, ha, hs⟩ := h
  refine wpList_range_own w hg m T hop 9 9 lawLs hT _ b N D hm hown ?_
  intro w' h1 h2 h3
  rw [hs] at h1
  exact hK w' ⟨D, _, h1, hmp, hh, ha, hs, fun x => by rw [hh, dk_contains], fun x hx => by rw [← dk_contains]; exact List.contains_iff_mem.2 hx⟩ h2 h3
theorem next_lab (hg : o.guard = none) (it : Operand) (hop : o.op = Op.next it false) (b r N cnt : Nat) (ks : List (L × L)) (left : List L) (hit : a.eval it = .pointer (some ⟨r, 0, none⟩)) (h : LzR w b r N cnt ks left)
    (hDone : cnt = 0 → left = [] → wpList Tryz.prog ops Q rest (a.put o.dst (.tuple #[.bool false])) w)
    (hMore : ∀ (s v : ByteArray) (w' : World) (cnt' : Nat), s.data.toList ∈ left → mget ks s.data.toList = some v.data.toList → LzR w' b r N cnt' ks (delK left s.data.toList) → cnt' < cnt → w.grownBy w' (some r) → w'.heap.size = w.heap.size →
      (Instr.entry (.pointer (some ⟨r, 0, none⟩))).run Tryz.prog w' = .ok (.tuple #[.string s, .string v]) w' → wpList Tryz.prog ops Q rest (a.put o.dst (.tuple #[.bool true, .string s, .string v])) w') :
    wpList Tryz.prog ops Q (o :: rest) a w := by
  obtain ⟨D, lf, hrg, hmp, hh, ha, hs, hl, hlm⟩ := h
  refine wpList_next_ranges (β := ByteArray) w hg it hop 9 lawLs (plainElem Tryz.prog 9) Value.string Value.string (fun key kl hkey => by obtain ⟨s, rfl, _⟩ := WideMaps.string_of_keyOf Tryz.underlying9 hkey; exact ⟨s, rfl⟩) (fun v y hv => by obtain ⟨s, rfl, _⟩ := plainElem_string_inv Tryz.underlying9 hv; exact ⟨s, rfl⟩)
    b r N D lf cnt hit hrg (fun h0 hall => hDone h0 (contains_nil fun x => by rw [← hl]; exact hall _)) ?_
  intro s c kl y w' cnt' hkey hlk hv hat hrg' hlt hgr hsz hen
  obtain ⟨s', e, rfl, hss⟩ := WideMaps.string_of_keyOf Tryz.underlying9 hkey
  cases e
  obtain ⟨c', e, hc, _⟩ := plainElem_string_inv Tryz.underlying9 hv
  cases e
  have hin : s.data.toList ∈ left := by have h := hl s.data.toList; rw [hlk] at h; simpa using h.symm
  have hval : mget ks s.data.toList = some c.data.toList := by
    have h1 := ha s.data.toList
    rw [hat] at h1
    obtain ⟨v, hvv⟩ := Option.isSome_iff_exists.1 (hlm _ hin)
    rw [hvv] at h1 ⊢
    have h2 : y.1 = .lit (.string c.data.toList) := by rw [hc]
    rw [h2] at h1
    simp only [Option.getD_some, DataW.lit.injEq, Lit.string.injEq] at h1
    rw [h1]
  refine hMore s c w' cnt' hin hval ⟨D, _, hrg', hmp, hh, ha, hs, fun x => ?_, fun x hx => hlm x (List.mem_filter.1 hx).1⟩ hlt hgr hsz hen
  rw [delK_contains, hl]
  congr 1
end
end Go.Proofs.YteigfmchnblkgaaGreatDoor.Hand

/- Two sets of labels: Conflicts, Equals, AreLabelsInWhiteList. (Printed by labops.py.) -/
namespace Go.Proofs.YteigfmchnblkgaaGreatDoor.Hand
open Go.RowKit Go.Maps Go.Proofs.YteigfmchnblkgaaGreatDoorW.PrintWords Go.Proofs.YteigfmchnblkgaaGreatDoorW.PrintLast Go.Proofs.YteigfmchnblkgaaGreatDoorW.PrintMore Go.Proofs.YteigfmchnblkgaaGreatDoor.Base
set_option linter.unusedVariables false
set_option linter.unusedSimpArgs false
set_option maxRecDepth 100000
section
variable (w : World) {ops : Array Oper} {rest : List Oper} {o : Oper} {a : Act} {Q : Exit → Act → World → Prop}
theorem look_lab (T : TypeId) (hT : Tryz.prog.underlying T = some (.map 9 9)) (hg : o.guard = none) (m x : Operand) (hop : o.op = Op.lookup T m x true) (b N : Nat) (ks : List (L × L)) (hm : a.eval m = .map (some b)) (h : IsLz w b N ks) (key : ByteArray) (hk : key.size ≤ 140737488351232) (hx : a.eval x = .string key)
    (hK : wpList Tryz.prog ops Q rest (a.put o.dst (.tuple #[.string (mk ((mget ks key.data.toList).getD [])), .bool (mget ks key.data.toList).isSome])) w) :
    wpList Tryz.prog ops Q (o :: rest) a w := by
  obtain ⟨D, hown, hmp, hh, ha, hs⟩ := h
  refine wpList_lookup_own_ok w hg m x T hop 9 9 lawLs hT (plainElem Tryz.prog 9) (zeroLs _) (.lit (.string [])) [] (plainElem_string Tryz.underlying9 (by unfold maxLen; decide)) b N D hm hown _ _ hx (keyLs key hk) ?_
  intro v ps hv
  obtain ⟨s, rfl, hc, _⟩ := plainElem_string_inv Tryz.underlying9 hv
  simp only [Prod.mk.injEq] at hc
  have h1 := hc.1
  rw [ha] at h1
  simp only [DataW.lit.injEq, Lit.string.injEq] at h1
  have e : s = mk ((mget ks key.data.toList).getD []) := by apply ByteArray.ext; rw [h1]; simp [mk]
  rw [hh, e]
  exact hK
theorem len_lab (m : Operand) (T : TypeId) (hT : Tryz.prog.underlying T = some (.map 9 9)) (hg : o.guard = none) (hop : o.op = .call { callee := .builtin .len, args := #[m], argTypes := #[T] }) (b N : Nat) (ks : List (L × L)) (hm : a.eval m = .map (some b)) (h : IsLz w b N ks)
    (hK : wpList Tryz.prog ops Q rest (a.put o.dst (.int .i64 ((dk ks).length : Nat))) w) :
    wpList Tryz.prog ops Q (o :: rest) a w := by
  obtain ⟨D, hown, hmp, hh, ha, hs⟩ := h
  refine wpList_len_own w hg m T hop 9 9 hT _ b N D hm hown ?_
  rw [hs]; exact hK
end
theorem any_step {ks : List L} {x : L} (hn : ks.Nodup) (hx : x ∈ ks) (f : L → Bool) : ks.any f = (f x || (delK ks x).any f) := by
  have h := all_step hn hx fun y => !f y
  have h1 : ∀ l : List L, (l.all fun y => !f y) = !l.any f := fun l => by
    induction l with
    | nil => rfl
    | cons a l ih => rw [List.all_cons, List.any_cons, ih, Bool.not_or]
  rw [h1, h1] at h
  have := congrArg (fun b => !b) h
  simpa using this
/-- Key by key: a label of both sets has two values. -/
def cfM (m1 m2 : List (L × L)) (k : L) : Bool := match mget m1 k, mget m2 k with | some a, some b => !(a == b) | _, _ => false
def conflictM (m1 m2 : List (L × L)) : Bool := (dk m1).any (cfM m1 m2)
def sameM (m1 m2 : List (L × L)) (k : L) : Bool := mget m2 k == mget m1 k
theorem cfM_comm (m1 m2 : List (L × L)) (k : L) : cfM m1 m2 k = cfM m2 m1 k := by
  unfold cfM
  cases mget m1 k with
  | none => cases mget m2 k <;> rfl
  | some a => cases mget m2 k with
    | none => rfl
    | some b => show (!(a == b)) = !(b == a); rw [BEq.comm]
theorem conflict_comm (m1 m2 : List (L × L)) : conflictM m1 m2 = conflictM m2 m1 := by
  unfold conflictM
  rw [Bool.eq_iff_iff, List.any_eq_true, List.any_eq_true]
  constructor
  · rintro ⟨k, hk, h⟩
    have h2 : (mget m2 k).isSome = true := by
      unfold cfM at h
      cases e1 : mget m1 k with
      | none => rw [e1] at h; cases h
      | some a => cases e2 : mget m2 k with
        | none => rw [e1, e2] at h; cases h
        | some b => rfl
    exact ⟨k, List.contains_iff_mem.1 (by rw [dk_contains]; exact h2), by rw [cfM_comm]; exact h⟩
  · rintro ⟨k, hk, h⟩
    have h2 : (mget m1 k).isSome = true := by
      unfold cfM at h
      cases e1 : mget m2 k with
      | none => rw [e1] at h; cases h
      | some a => cases e2 : mget m1 k with
        | none => rw [e1, e2] at h; cases h
        | some b => rfl
    exact ⟨k, List.contains_iff_mem.1 (by rw [dk_contains]; exact h2), by rw [cfM_comm]; exact h⟩
theorem mk_data (s : ByteArray) : mk s.data.toList = s := (mk_of s).symm
set_option maxHeartbeats 8000000 in
theorem Equals_calls (b1 N1 : Nat) (m1 : List (L × L)) (b2 N2 : Nat) (m2 : List (L × L)) (hz : ∀ k ∈ dk m1, k.length ≤ 140737488351232) (w : World) (h1 : IsLz w b1 N1 m1) (h2 : IsLz w b2 N2 m2) :
    Calls Tryz.prog 65 #[.map (some b1), .map (some b2)] w fun e w' => e = .returned (.bool (decide ((dk m1).length = (dk m2).length) && (dk m1).all (sameM m1 m2))) ∧ Below w.heap.size w w' := by
  have HB := Aside0.mk (Below.refl w.heap.size w)
  have HS1 := Aside0.mk h1
  have HS2 := Aside0.mk h2
  have HZ := Aside0.mk hz
  clear h1 h2 hz
  by_cases hl : (dk m1).length = (dk m2).length
  rotate_left
  · have HN : Aside0 (decide ((dk m1).length = (dk m2).length) = false) := ⟨decide_eq_false hl⟩
    have e1 : ((((dk m1).length : Nat) : Int) == (((dk m2).length : Nat) : Int)) = false := by simpa using fun h => hl (by omega)
    have e2 : ((((dk m1).length : Nat) : Int) != (((dk m2).length : Nat) : Int)) = true := by rw [bne, e1]; rfl
    obtain ⟨n1, hn1⟩ : ∃ n1, (dk m1).length = n1 := ⟨_, rfl⟩
    obtain ⟨n2, hn2⟩ : ∃ n2, (dk m2).length = n2 := ⟨_, rfl⟩
    have HN1 := Aside0.mk hn1
    have HN2 := Aside0.mk hn2
    rw [hn1, hn2] at e1 e2
    clear hl hn1 hn2
    go_enter Tryz.func65, Tryz.ntmps65
    go_wp2_with (first | (at_len; refine len_lab _ (.tmp 9) 92 Tryz.underlying92 rfl rfl b1 N1 m1 rfl HS1.out ?_; rw [HN1.out]) | (at_len; refine len_lab _ (.tmp 11) 92 Tryz.underlying92 rfl rfl b2 N2 m2 rfl HS2.out ?_; rw [HN2.out]))
    go_ret
    exact ⟨by rw [HN.out]; rfl, HB.out⟩
  have HLN : Aside0 (decide ((dk m1).length = (dk m2).length) = true) := ⟨decide_eq_true hl⟩
  obtain ⟨n1, hn1⟩ : ∃ n1, (dk m1).length = n1 := ⟨_, rfl⟩
  have HN1 := Aside0.mk hn1
  have HN2 := Aside0.mk (hl.symm.trans hn1)
  have e1 : (((n1 : Nat) : Int) == ((n1 : Nat) : Int)) = true := by simp
  have e2 : (((n1 : Nat) : Int) != ((n1 : Nat) : Int)) = false := by simp
  clear hl hn1
  go_enter Tryz.func65, Tryz.ntmps65
  go_wp2_with (first | (at_len; refine len_lab _ (.tmp 9) 92 Tryz.underlying92 rfl rfl b1 N1 m1 rfl HS1.out ?_; rw [HN1.out]) | (at_len; refine len_lab _ (.tmp 11) 92 Tryz.underlying92 rfl rfl b2 N2 m2 rfl HS2.out ?_; rw [HN2.out]) | (at_range; refine range_lab _ 92 Tryz.underlying92 rfl _ rfl b1 N1 m1 rfl HS1.out ?_; intro w2 hrg hg hs2; have HRG := Aside0.mk hrg; have HB2 := Aside0.mk (pw_below_grown HB.out none (below_size HB.out) hg (fun j hj => by cases hj)); clear hrg hg HB; have HB := HB2; clear HB2))
  go_frame
  go_loopg [5] ((dk m1).length) (fun g v5 w' => ∃ (left : List L), Aside0 (LzR w' b1 w.heap.size N1 g m1 left ∧ left.Nodup ∧ ∀ x ∈ left, x ∈ dk m1) ∧ Aside0 ((dk m1).all (sameM m1 m2) = left.all (sameM m1 m2)) ∧ Aside0 (Below w.heap.size w w'))
  case atStart => exact ⟨dk m1, ⟨HRG.out, dk_nodup m1, fun x h => h⟩, ⟨rfl⟩, HB⟩
  case round =>
    clear HRG HB
    obtain ⟨left, HRG, HA, HB⟩ := hrel
    go_wp2_with (first | (at_next; refine next_lab _ rfl _ rfl b1 w.heap.size N1 gk m1 left rfl HRG.out.1 ?_ ?_))
    · intro h0 hl0
      have HN : Aside0 ((dk m1).all (sameM m1 m2) = true) := ⟨by rw [HA.out, hl0]; rfl⟩
      clear hl0 h0 HA
      go_wp2
      go_ret
      exact ⟨by rw [HLN.out, HN.out]; rfl, HB.out⟩
    · intro s v w3 cnt hs hv hrg hlt hg hsz hen
      have HB3 := Aside0.mk (pw_below_grown HB.out _ (below_size HB.out) hg (fun k hk => by cases hk; exact Nat.le_refl _))
      have HRG3 := Aside0.mk (And.intro hrg (And.intro (delK_nodup HRG.out.2.1 s.data.toList) (fun x (hx : x ∈ delK left s.data.toList) => HRG.out.2.2 x (delK_sub hx))))
      have HST := Aside0.mk (all_step HRG.out.2.1 hs (sameM m1 m2))
      have HS23 : Aside0 (IsLz w3 b2 N2 m2) := ⟨HS2.out.below HB3.out⟩
      have hss : s.size ≤ 140737488351232 := by
        have := HZ.out _ (HRG.out.2.2 _ hs); rw [Lib.size_eq]; exact this
      have HLT := Aside0.mk hlt
      obtain ⟨g2, hg2⟩ : ∃ g2, mget m2 s.data.toList = g2 := ⟨_, rfl⟩
      have hq : sameM m1 m2 s.data.toList = (g2 == some v.data.toList) := by unfold sameM; rw [hv, hg2]
      rw [hq] at HST
      have HG2 := Aside0.mk hg2
      clear HB HRG hs hrg hlt hg hsz hq hv hg2
      cases g2 with
      | none =>
        have HN : Aside0 ((dk m1).all (sameM m1 m2) = false) := ⟨by rw [HA.out, HST.out]; rfl⟩
        clear HST HA
        go_wp2_with (first | (at_lookup; refine look_lab _ 92 Tryz.underlying92 rfl _ _ rfl b2 N2 m2 rfl HS23.out s hss rfl ?_; rw [HG2.out]))
        go_ret
        exact ⟨by rw [HLN.out, HN.out]; rfl, HB3.out⟩
      | some u =>
        by_cases huv : u = v.data.toList
        · have HN : Aside0 ((dk m1).all (sameM m1 m2) = (delK left s.data.toList).all (sameM m1 m2)) := ⟨by rw [HA.out, HST.out, huv]; simp⟩
          have e1 : (mk u) = v := by rw [huv, mk_data]
          have HE := Aside0.mk e1
          clear HST HA huv e1
          go_wp2_with (first | (at_lookup; refine look_lab _ 92 Tryz.underlying92 rfl _ _ rfl b2 N2 m2 rfl HS23.out s hss rfl ?_; rw [HG2.out, Option.getD_some, HE.out]))
          go_roundg cnt
          case measure => exact HLT.out
          case rel => exact ⟨_, HRG3, HN, HB3⟩
        · have HN : Aside0 ((dk m1).all (sameM m1 m2) = false) := ⟨by rw [HA.out, HST.out, show ((some u : Option L) == some v.data.toList) = false from by simpa using huv]; rfl⟩
          have e1 : ((mk u).toList == v.toList) = false := by rw [mk_toList, toList_eq]; simpa using huv
          have e2 : ((mk u).toList != v.toList) = true := by rw [bne, e1]; rfl
          clear HST HA huv
          obtain ⟨uu, huu⟩ : ∃ uu, mk u = uu := ⟨_, rfl⟩
          have HU := Aside0.mk huu
          rw [huu] at e1 e2
          clear huu
          go_wp2_with (first | (at_lookup; refine look_lab _ 92 Tryz.underlying92 rfl _ _ rfl b2 N2 m2 rfl HS23.out s hss rfl ?_; rw [HG2.out, Option.getD_some, HU.out]))
          go_ret
          exact ⟨by rw [HLN.out, HN.out]; rfl, HB3.out⟩
set_option maxHeartbeats 8000000 in
theorem White_calls (b1 N1 : Nat) (m1 : List (L × L)) (b2 N2 : Nat) (m2 : List (L × L)) (hz : ∀ k ∈ dk m1, k.length ≤ 140737488351232) (w : World) (h1 : IsLz w b1 N1 m1) (h2 : IsLz w b2 N2 m2) :
    Calls Tryz.prog 66 #[.map (some b1), .map (some b2)] w fun e w' => e = .returned (.bool (decide ((dk m2).length = 0) || (dk m1).all (sameM m1 m2))) ∧ Below w.heap.size w w' := by
  have HB := Aside0.mk (Below.refl w.heap.size w)
  have HS1 := Aside0.mk h1
  have HS2 := Aside0.mk h2
  have HZ := Aside0.mk hz
  clear h1 h2 hz
  by_cases hl : (dk m2).length = 0
  · have HN : Aside0 (decide ((dk m2).length = 0) = true) := ⟨decide_eq_true hl⟩
    have HN2 := Aside0.mk hl
    clear hl
    go_enter Tryz.func66, Tryz.ntmps66
    go_wp2_with (first | (at_len; refine len_lab _ (.tmp 9) 92 Tryz.underlying92 rfl rfl b2 N2 m2 rfl HS2.out ?_; rw [HN2.out]))
    go_ret
    exact ⟨by rw [HN.out]; rfl, HB.out⟩
  have HLN : Aside0 (decide ((dk m2).length = 0) = false) := ⟨decide_eq_false hl⟩
  obtain ⟨n2, hn2⟩ : ∃ n2, (dk m2).length = n2 := ⟨_, rfl⟩
  have HN2 := Aside0.mk hn2
  have e1 : (((n2 : Nat) : Int) == 0) = false := by simpa using fun h => hl (by omega)
  clear hl hn2
  go_enter Tryz.func66, Tryz.ntmps66
  go_wp2_with (first | (at_len; refine len_lab _ (.tmp 9) 92 Tryz.underlying92 rfl rfl b2 N2 m2 rfl HS2.out ?_; rw [HN2.out]) | (at_range; refine range_lab _ 92 Tryz.underlying92 rfl _ rfl b1 N1 m1 rfl HS1.out ?_; intro w2 hrg hg hs2; have HRG := Aside0.mk hrg; have HB2 := Aside0.mk (pw_below_grown HB.out none (below_size HB.out) hg (fun j hj => by cases hj)); clear hrg hg HB; have HB := HB2; clear HB2))
  go_frame
  go_loopg [5] ((dk m1).length) (fun g v5 w' => ∃ (left : List L), Aside0 (LzR w' b1 w.heap.size N1 g m1 left ∧ left.Nodup ∧ ∀ x ∈ left, x ∈ dk m1) ∧ Aside0 ((dk m1).all (sameM m1 m2) = left.all (sameM m1 m2)) ∧ Aside0 (Below w.heap.size w w'))
  case atStart => exact ⟨dk m1, ⟨HRG.out, dk_nodup m1, fun x h => h⟩, ⟨rfl⟩, HB⟩
  case round =>
    clear HRG HB
    obtain ⟨left, HRG, HA, HB⟩ := hrel
    go_wp2_with (first | (at_next; refine next_lab _ rfl _ rfl b1 w.heap.size N1 gk m1 left rfl HRG.out.1 ?_ ?_))
    · intro h0 hl0
      have HN : Aside0 ((dk m1).all (sameM m1 m2) = true) := ⟨by rw [HA.out, hl0]; rfl⟩
      clear hl0 h0 HA
      go_wp2
      go_ret
      exact ⟨by rw [HLN.out, HN.out]; rfl, HB.out⟩
    · intro s v w3 cnt hs hv hrg hlt hg hsz hen
      have HB3 := Aside0.mk (pw_below_grown HB.out _ (below_size HB.out) hg (fun k hk => by cases hk; exact Nat.le_refl _))
      have HRG3 := Aside0.mk (And.intro hrg (And.intro (delK_nodup HRG.out.2.1 s.data.toList) (fun x (hx : x ∈ delK left s.data.toList) => HRG.out.2.2 x (delK_sub hx))))
      have HST := Aside0.mk (all_step HRG.out.2.1 hs (sameM m1 m2))
      have HS23 : Aside0 (IsLz w3 b2 N2 m2) := ⟨HS2.out.below HB3.out⟩
      have hss : s.size ≤ 140737488351232 := by
        have := HZ.out _ (HRG.out.2.2 _ hs); rw [Lib.size_eq]; exact this
      have HLT := Aside0.mk hlt
      obtain ⟨g2, hg2⟩ : ∃ g2, mget m2 s.data.toList = g2 := ⟨_, rfl⟩
      have hq : sameM m1 m2 s.data.toList = (g2 == some v.data.toList) := by unfold sameM; rw [hv, hg2]
      rw [hq] at HST
      have HG2 := Aside0.mk hg2
      clear HB HRG hs hrg hlt hg hsz hq hv hg2
      cases g2 with
      | none =>
        have HN : Aside0 ((dk m1).all (sameM m1 m2) = false) := ⟨by rw [HA.out, HST.out]; rfl⟩
        clear HST HA
        go_wp2_with (first | (at_lookup; refine look_lab _ 92 Tryz.underlying92 rfl _ _ rfl b2 N2 m2 rfl HS23.out s hss rfl ?_; rw [HG2.out]))
        go_ret
        exact ⟨by rw [HLN.out, HN.out]; rfl, HB3.out⟩
      | some u =>
        by_cases huv : u = v.data.toList
        · have HN : Aside0 ((dk m1).all (sameM m1 m2) = (delK left s.data.toList).all (sameM m1 m2)) := ⟨by rw [HA.out, HST.out, huv]; simp⟩
          have e1 : (mk u) = v := by rw [huv, mk_data]
          have HE := Aside0.mk e1
          clear HST HA huv e1
          go_wp2_with (first | (at_lookup; refine look_lab _ 92 Tryz.underlying92 rfl _ _ rfl b2 N2 m2 rfl HS23.out s hss rfl ?_; rw [HG2.out, Option.getD_some, HE.out]))
          go_roundg cnt
          case measure => exact HLT.out
          case rel => exact ⟨_, HRG3, HN, HB3⟩
        · have HN : Aside0 ((dk m1).all (sameM m1 m2) = false) := ⟨by rw [HA.out, HST.out, show ((some u : Option L) == some v.data.toList) = false from by simpa using huv]; rfl⟩
          have e1 : ((mk u).toList == v.toList) = false := by rw [mk_toList, toList_eq]; simpa using huv
          have e2 : ((mk u).toList != v.toList) = true := by rw [bne, e1]; rfl
          clear HST HA huv
          obtain ⟨uu, huu⟩ : ∃ uu, mk u = uu := ⟨_, rfl⟩
          have HU := Aside0.mk huu
          rw [huu] at e1 e2
          clear huu
          go_wp2_with (first | (at_lookup; refine look_lab _ 92 Tryz.underlying92 rfl _ _ rfl b2 N2 m2 rfl HS23.out s hss rfl ?_; rw [HG2.out, Option.getD_some, HU.out]))
          go_ret
          exact ⟨by rw [HLN.out, HN.out]; rfl, HB3.out⟩
end Go.Proofs.YteigfmchnblkgaaGreatDoor.Hand
