/- spec.SetOf: texts in their order, each once. -/
import Derived.Test.YthfjolafikgpoaaGreatDoorLRLabNew
import Derived.Sort.Walk0
import Derived.RegionTactic
import Derived.Deep.RegionLaw
import Derived.Laws.CopyOwn
import Derived.Below
import Derived.Test.YthfjolafikgpoaaGreatDoorLRM4
import Derived.Test.YthfjolafikgpoaaGreatDoorLRM10
import Derived.BigQuiet
import Derived.Test.YthfjolafikgpoaaGreatDoorLRGSetA
namespace Go.Proofs.YthfjolafikgpoaaGreatDoor.Hand
open Go.RowKit Go.Proofs.YthfjolafikgpoaaGreatDoorW.PrintWords Go.Proofs.YthfjolafikgpoaaGreatDoorW.PrintLast Go.Proofs.YthfjolafikgpoaaGreatDoorW.PrintMore Go.Proofs.YthfjolafikgpoaaGreatDoor.Base
set_option linter.unusedVariables false
set_option linter.unusedSimpArgs false
set_option maxRecDepth 100000
open Go.Sort (ltStr)
def posOf : List L → L → Nat
  | [], _ => 0
  | y :: r, s => if ltStr y s = true then posOf r s + 1 else 0
def insS (out : List L) (s : L) : List L := if out[posOf out s]? = some s then out else out.take (posOf out s) ++ s :: out.drop (posOf out s)
def setL (l : List L) : List L := l.foldl insS []
theorem posOf_le : ∀ (out : List L) (s : L), posOf out s ≤ out.length
  | [], _ => by simp [posOf]
  | y :: r, s => by unfold posOf; split; have := posOf_le r s; simp; omega; simp
theorem posOf_lt : ∀ (out : List L) (s : L) (k : Nat) (h : k < out.length), k < posOf out s → ltStr out[k] s = true
  | [], _, _, h, _ => absurd h (by simp)
  | y :: r, s, k, h, hk => by
    unfold posOf at hk
    split at hk
    · rename_i hy
      cases k with
      | zero => exact hy
      | succ k => exact posOf_lt r s k (by simpa using h) (by omega)
    · omega
theorem posOf_at : ∀ (out : List L) (s : L) (h : posOf out s < out.length), ltStr out[posOf out s] s = false
  | [], _, h => absurd h (by simp)
  | y :: r, s, h => by
    by_cases hy : ltStr y s = true
    · have e : posOf (y :: r) s = posOf r s + 1 := by simp [posOf, hy]
      have h2 : posOf r s < r.length := by rw [e] at h; simpa using h
      have := posOf_at r s h2
      simp only [e, List.getElem_cons_succ]
      exact this
    · have e : posOf (y :: r) s = 0 := by simp [posOf, hy]
      simp only [e, List.getElem_cons_zero]
      simpa using hy
theorem insS_len (out : List L) (s : L) : (insS out s).length ≤ out.length + 1 := by
  unfold insS; split
  · omega
  · have := posOf_le out s; simp; omega
theorem setL_len (l : List L) : (setL l).length ≤ l.length := by
  have h : ∀ (l out : List L), (l.foldl insS out).length ≤ out.length + l.length := by
    intro l
    induction l with
    | nil => intro out; simp
    | cons x l ih => intro out; have := ih (insS out x); have := insS_len out x; simp only [List.foldl_cons, List.length_cons] at *; omega
  have := h l []; simpa [setL] using this
end Go.Proofs.YthfjolafikgpoaaGreatDoor.Hand

/- copy within a row of elements of several cells. No program in sight. -/
namespace Go.Proofs.YthfjolafikgpoaaGreatDoor.Hand
open Go.RowKit
set_option linter.unusedVariables false
set_option linter.unusedSimpArgs false
end Go.Proofs.YthfjolafikgpoaaGreatDoor.Hand

/- Labels by their keys: the list that spec.Keyed makes; pairs of texts in a row of the call's own. -/
namespace Go.Proofs.YthfjolafikgpoaaGreatDoor.Hand
open Go.RowKit Go.Maps Go.Proofs.YthfjolafikgpoaaGreatDoorW.PrintWords Go.Proofs.YthfjolafikgpoaaGreatDoorW.PrintLast Go.Proofs.YthfjolafikgpoaaGreatDoorW.PrintMore Go.Proofs.YthfjolafikgpoaaGreatDoor.Base
open Go.Sort (ltStr)
set_option linter.unusedVariables false
set_option linter.unusedSimpArgs false
set_option maxRecDepth 100000
abbrev LP := L × L
def posK : List LP → L → Nat
  | [], _ => 0
  | y :: r, s => if ltStr y.1 s = true then posK r s + 1 else 0
def insK (out : List LP) (p : LP) : List LP := if (out[posK out p.1]?).map (·.1) = some p.1 then out.set (posK out p.1) p else out.take (posK out p.1) ++ p :: out.drop (posK out p.1)
/-- Labels by rising keys, of keys that stand twice the last one. -/
def keyL (l : List LP) : List LP := l.foldl insK []
theorem posK_le : ∀ (out : List LP) (s : L), posK out s ≤ out.length
  | [], _ => Nat.le_refl _
  | y :: r, s => by
    unfold posK
    split
    · have := posK_le r s; simp only [List.length_cons]; omega
    · exact Nat.zero_le _
theorem keyL_len (l : List LP) : (keyL l).length ≤ l.length := by
  have h : ∀ (l out : List LP), (l.foldl insK out).length ≤ out.length + l.length := by
    intro l
    induction l with
    | nil => intro out; exact Nat.le_refl _
    | cons p l ih =>
      intro out
      have h1 := ih (insK out p)
      have h2 : (insK out p).length ≤ out.length + 1 := by
        unfold insK
        split
        · rw [List.length_set]; omega
        · rw [List.length_append, List.length_cons, List.length_take, List.length_drop]; omega
      rw [List.foldl_cons, List.length_cons]; omega
  simpa [keyL] using h l []
theorem keyL_snoc {l : List LP} {j : Nat} {p : LP} (h : l[j]? = some p) : keyL (l.take (j + 1)) = insK (keyL (l.take j)) p := by
  unfold keyL
  rw [List.take_add_one, h, List.foldl_append]; rfl
abbrev mkP (p : LP) : ByteArray × ByteArray := (mk p.1, mk p.2)
abbrev unP (p : ByteArray × ByteArray) : LP := (p.1.data.toList, p.2.data.toList)
/-- The cells of pairs. -/
def encP (xs : List (ByteArray × ByteArray)) : List Value := xs.flatMap fun p => [.string p.1, .string p.2]
theorem encP_len (xs : List (ByteArray × ByteArray)) : (encP xs).length = xs.length * 2 := by
  induction xs with
  | nil => rfl
  | cons p xs ih => rw [List.length_cons]; show (encP xs).length + 1 + 1 = _; rw [ih]; omega
theorem encP_drop (xs : List (ByteArray × ByteArray)) (n : Nat) : (encP xs).drop (n * 2) = encP (xs.drop n) := by
  induction xs generalizing n with
  | nil => simp [encP]
  | cons p xs ih =>
    cases n with
    | zero => rfl
    | succ n =>
      show ([Value.string p.1, .string p.2] ++ encP xs).drop ((n + 1) * 2) = encP (xs.drop n)
      rw [← ih, show (n + 1) * 2 = n * 2 + 1 + 1 by omega]; rfl
theorem pk_cs {w : World} {base : Nat} {ok : Nat → Prop} {p : ByteArray × ByteArray} {cs : List Value} (h : PK.M w base ok p cs) : cs = [.string p.1, .string p.2] := by
  obtain ⟨c0, c1, rfl, h0, h1⟩ := h
  have e0 : c0 = [.string p.1] := h0
  have e1 : c1 = [.string p.2] := h1
  rw [e0, e1]; rfl
theorem reps_enc {w : World} {base : Nat} {ok : Nat → Prop} : ∀ (xs : List (ByteArray × ByteArray)), Reps (PK.M w base ok) 2 xs (encP xs) := fun xs => by
  refine ⟨encP_len xs, fun j p hp => ?_⟩
  obtain ⟨hj, e⟩ := List.getElem?_eq_some_iff.1 hp
  rw [encP_drop, List.drop_eq_getElem_cons hj, e]
  exact ⟨[_], [_], rfl, rfl, rfl⟩
theorem enc_reps {w : World} {base : Nat} {ok : Nat → Prop} : ∀ (xs : List (ByteArray × ByteArray)) (inner : List Value), Reps (PK.M w base ok) 2 xs inner → inner = encP xs
  | [], inner, h => by
    have := h.1
    simpa [encP] using this
  | p :: xs, inner, h => by
    have hl := h.1
    have h0 := pk_cs (h.2 0 p rfl)
    rw [Nat.zero_mul, List.drop_zero] at h0
    have hr : Reps (PK.M w base ok) 2 xs (inner.drop 2) := by
      refine ⟨by rw [List.length_drop, hl, List.length_cons]; omega, fun j q hq => ?_⟩
      have := h.2 (j + 1) q hq
      rw [List.drop_drop]
      rw [show (j + 1) * 2 = 2 + j * 2 by omega] at this
      exact this
    have ih := enc_reps xs _ hr
    rw [← List.take_append_drop 2 inner, h0, ih]
    rfl
theorem pk_own {e : Nat} {w : World} {base : Nat} {ok : Nat → Prop} {v : Value} {xs : List (ByteArray × ByteArray)} (h : PK.R e w base ok v xs) : w.ownsRow base e 2 v xs.length (encP xs) := by
  obtain ⟨_, inner, ho, hr⟩ := h
  rw [← enc_reps xs inner hr]; exact ho
theorem pk_of_own {e : Nat} {w : World} {base : Nat} {v : Value} {xs : List (ByteArray × ByteArray)} (h : w.ownsRow base e 2 v xs.length (encP xs)) : PK.R e w base (fun _ => True) v xs := ⟨fun _ _ => trivial, encP xs, h, reps_enc xs⟩
end Go.Proofs.YthfjolafikgpoaaGreatDoor.Hand

/- spec.Keyed: labels by their keys, of keys that stand twice the last one. -/
namespace Go.Proofs.YthfjolafikgpoaaGreatDoor.Hand
open Go.RowKit Go.Maps Go.Proofs.YthfjolafikgpoaaGreatDoorW.PrintWords Go.Proofs.YthfjolafikgpoaaGreatDoorW.PrintLast Go.Proofs.YthfjolafikgpoaaGreatDoorW.PrintMore Go.Proofs.YthfjolafikgpoaaGreatDoor.Base
open Go.Sort (ltStr)
set_option linter.unusedVariables false
set_option linter.unusedSimpArgs false
set_option maxRecDepth 100000
theorem infoPr : (Tryz.prog.info? 42).map (fun i => (i.zero, i.size, i.bytes)) = some (some (.agg #[.string ⟨#[]⟩, .string ⟨#[]⟩]), 2, 32) := by kernel_rfl
end Go.Proofs.YthfjolafikgpoaaGreatDoor.Hand

/- Labels, with how many there are; a range over labels. -/
namespace Go.Proofs.YthfjolafikgpoaaGreatDoor.Hand
open Go.RowKit Go.Maps Go.Proofs.YthfjolafikgpoaaGreatDoorW.PrintWords Go.Proofs.YthfjolafikgpoaaGreatDoorW.PrintLast Go.Proofs.YthfjolafikgpoaaGreatDoorW.PrintMore Go.Proofs.YthfjolafikgpoaaGreatDoor.Base
set_option linter.unusedVariables false
set_option linter.unusedSimpArgs false
set_option maxRecDepth 100000
/-- The keys, each once. -/
def dk : List (L × L) → List L
  | [] => []
  | p :: m => if (mget m p.1).isSome then dk m else p.1 :: dk m
theorem dk_contains : ∀ (m : List (L × L)) (x : L), (dk m).contains x = (mget m x).isSome
  | [], x => rfl
  | (k, v) :: m, x => by
    rw [mget_cons]
    unfold dk
    by_cases h : (mget m k).isSome = true
    · rw [if_pos h, dk_contains m x]
      by_cases e : k = x
      · subst e; rw [if_pos rfl, h]; rfl
      · rw [if_neg e]
    · rw [if_neg h, List.contains_cons, dk_contains m x]
      by_cases e : k = x
      · subst e; rw [if_pos rfl]; simp
      · rw [if_neg e, show (x == k) = false from by simpa using fun h => e h.symm, Bool.false_or]
theorem dk_nodup : ∀ m : List (L × L), (dk m).Nodup
  | [] => List.nodup_nil
  | (k, v) :: m => by
    unfold dk
    by_cases h : (mget m k).isSome = true
    · rw [if_pos h]; exact dk_nodup m
    · rw [if_neg h]
      refine List.nodup_cons.2 ⟨fun hm => h ?_, dk_nodup m⟩
      rw [← dk_contains]; exact List.contains_iff_mem.2 hm
theorem dk_mem {m : List (L × L)} {x : L} : x ∈ dk m ↔ ∃ v, mget m x = some v := by
  rw [← List.contains_iff_mem, dk_contains, Option.isSome_iff_exists]
/-- Block b is a map of these texts, of as many keys. -/
def IsLz (w : World) (b N : Nat) (m : List (L × L)) : Prop :=
  ∃ D : DataW Unit, w.ownsMap Tryz.prog 9 (plainElem Tryz.prog 9) b N D ∧ Maps.IsMap D ∧ (∀ x : L, Maps.has D (.string x) = (mget m x).isSome) ∧ (∀ x : L, D.atKey (.string x) (.lit (.string [])) = .lit (.string ((mget m x).getD []))) ∧ Maps.size D = (dk m).length
theorem IsLz.kept {w w' : World} {b N : Nat} {m : List (L × L)} {row : Option Nat} (h : IsLz w b N m) (hg : w.grownBy w' row) (hne : some b ≠ row) : IsLz w' b N m := by
  obtain ⟨D, h1, h2⟩ := h; exact ⟨D, h1.kept hg hne, h2⟩
theorem IsLz.below {w w' : World} {b N : Nat} {m : List (L × L)} (h : IsLz w b N m) (hb : Below w.heap.size w w') : IsLz w' b N m := h.kept (grown_of_below hb none) (by simp)
theorem IsLz.made (w : World) : IsLz (w.alloc (.map #[] 0)) w.heap.size 0 [] := ⟨_, World.ownsMap_made _ _ _ _, ⟨[], rfl⟩, fun x => rfl, fun x => rfl, rfl⟩
theorem IsLz.lt {w : World} {b N : Nat} {m : List (L × L)} (h : IsLz w b N m) : b < w.heap.size := by obtain ⟨D, h1, _⟩ := h; exact h1.lt
theorem lab_putZ {D : DataW Unit} {m : List (L × L)} (k v : L) (h0 : Maps.IsMap D) (ht : Maps.Tidy D) (hh : ∀ x : L, Maps.has D (.string x) = (mget m x).isSome) (ha : ∀ x : L, D.atKey (.string x) (.lit (.string [])) = .lit (.string ((mget m x).getD []))) (hs : Maps.size D = (dk m).length) :
    Maps.IsMap (D.put (.string k) (.lit (.string v))) ∧ (∀ x : L, Maps.has (D.put (.string k) (.lit (.string v))) (.string x) = (mget ((k, v) :: m) x).isSome) ∧ (∀ x : L, (D.put (.string k) (.lit (.string v))).atKey (.string x) (.lit (.string [])) = .lit (.string ((mget ((k, v) :: m) x).getD []))) ∧ Maps.size (D.put (.string k) (.lit (.string v))) = (dk ((k, v) :: m)).length := by
  obtain ⟨a, b, c⟩ := lab_put k v h0 hh ha
  refine ⟨a, b, c, ?_⟩
  rw [size_put ht, hh, hs]
  conv => rhs; unfold dk
  split <;> rename_i e
  · rfl
  · rfl
set_option maxHeartbeats 4000000 in
theorem setOfZ_calls (A : Option Addr) (c : Nat) (l : List (ByteArray × ByteArray)) (hl : l.length ≤ 1000000) (hz : ∀ p ∈ l, p.1.size ≤ 140737488351232 ∧ p.2.size ≤ 140737488351232) (w : World) (hC : PK.C w A l.length l) :
    Calls Tryz.prog 57 #[.slice A l.length c] w fun e w' => e = .returned (.map (some w.heap.size)) ∧ IsLz w' w.heap.size l.length (labRev l) ∧ Below w.heap.size w w' := by
  have HC := Aside0.mk hC
  have hmm := @run_makeMap Tryz.prog
  clear hC
  go_enter Tryz.func57, Tryz.ntmps57
  go_wp2
  clear hmm
  go_loopg [9] (l.length) (fun k v9 w' => ∃ j : Nat, v9 = .int .i64 j ∧ Aside0 (k + j = l.length) ∧ Aside0 (IsLz w' w.heap.size j (labRev (l.take j))) ∧ Aside0 (Below w.heap.size w w'))
  case atStart => exact ⟨0, rfl, ⟨by omega⟩, ⟨IsLz.made w⟩, ⟨below_alloc (Below.refl _ _) _⟩⟩
  case round =>
    obtain ⟨j, rfl, HJ, HI, HB⟩ := hrel
    by_cases hjl : j < l.length
    · obtain ⟨ad, rfl, hk0, hk1⟩ := pk_at (Kd.C_below HC.out HB.out) j hjl
      obtain ⟨p, hp⟩ : ∃ p, l[j]? = some p := ⟨_, List.getElem?_eq_getElem hjl⟩
      have hg : l.getD j (⟨#[]⟩, ⟨#[]⟩) = p := by rw [List.getD_eq_getElem?_getD, hp]; rfl
      rw [hg] at hk0 hk1
      obtain ⟨hz1, hz2⟩ := hz p (List.mem_of_getElem? hp)
      have HTK := Aside0.mk (labRev_take l j hp)
      obtain ⟨pk, pv⟩ := p
      replace hz1 : pk.size ≤ 140737488351232 := hz1
      replace hz2 : pv.size ≤ 140737488351232 := hz2
      clear hp hg
      obtain ⟨D, hown, hmp, hhas, hat, hsz⟩ := HI.out
      have HO := Aside0.mk hown
      have HPUT := Aside0.mk (lab_putZ pk.data.toList pv.data.toList hmp (World.ownsMap.tidy hown lawLs) hhas hat hsz)
      clear hown hmp hhas hat hsz
      have HO2 := Aside0.mk (World.ownsMap.alloc HO.out (.cells #[.string pk, .string pv] 42))
      have HB0 := Aside0.mk (below_alloc HB.out (.cells #[.string pk, .string pv] 42))
      have hkey := keyLs pk hz1
      have hval : plainElem (H := Unit) Tryz.prog 9 (.string pv) = some (.lit (.string pv.data.toList), []) := plainElem_string Tryz.underlying9 (by unfold maxLen; omega)
      clear HO
      go_wp2_with (first | (at_mapUpdate; refine wpList_mapUpdate_own _ rfl _ _ _ 96 rfl 9 9 lawLs Tryz.underlying96 (plainElem (H := Unit) Tryz.prog 9) w.heap.size j _ rfl HO2.out (by unfold maxLen; omega) _ _ _ rfl rfl hkey _ [] hval ?_; intro w1 hown1 hg1; have HI1 : Aside0 (IsLz w1 w.heap.size (j + 1) (labRev (l.take (j + 1)))) := ⟨by rw [HTK.out]; exact ⟨_, hown1, HPUT.out⟩⟩; have HB1 := Aside0.mk (pw_below_grown HB0.out _ (below_size HB0.out) hg1 (fun q hq => by cases hq; exact Nat.le_refl _)); clear hown1 hg1))
      go_roundg (l.length - (j + 1))
      case measure => have := HJ.out; omega
      case rel => exact ⟨j + 1, by go_num, ⟨by omega⟩, HI1, HB1⟩
    · have hje : j = l.length := by have := HJ.out; omega
      have HTK : Aside0 (l.take j = l) := ⟨by rw [hje, List.take_length]⟩
      subst hje
      rw [HTK.out] at HI
      go_wp2
      go_ret
      exact ⟨rfl, HI.out, HB.out⟩
/-- Block r is a loop over the labels of block b: the keys of left are still to come. -/
def LzR (w : World) (b r N cnt : Nat) (m : List (L × L)) (left : List L) : Prop :=
  ∃ (D : DataW Unit) (lf : Lit → Bool), w.ranges Tryz.prog 9 (plainElem Tryz.prog 9) b r N D lf cnt ∧ Maps.IsMap D ∧ (∀ x : L, Maps.has D (.string x) = (mget m x).isSome) ∧ (∀ x : L, D.atKey (.string x) (.lit (.string [])) = .lit (.string ((mget m x).getD []))) ∧ Maps.size D = (dk m).length ∧ (∀ x : L, lf (.string x) = left.contains x) ∧ (∀ x ∈ left, (mget m x).isSome = true)
theorem LzR.set {w : World} {b r N cnt : Nat} {m : List (L × L)} {left : List L} (h : LzR w b r N cnt m left) : IsLz w b N m := by
  obtain ⟨D, lf, h1, h2, h3, h4, h5, _⟩ := h; exact ⟨D, h1.owns, h2, h3, h4, h5⟩
theorem LzR.iter {w : World} {b r N cnt : Nat} {m : List (L × L)} {left : List L} (h : LzR w b r N cnt m left) : ∃ x y z t, w.heap[r]? = some (.mapIter x y z t) := by
  obtain ⟨D, lf, ⟨es, clock, since, seen, c0, _, _, _, _, hr, _⟩, _⟩ := h; exact ⟨_, _, _, _, hr⟩
theorem LzR.map {w : World} {b r N cnt : Nat} {m : List (L × L)} {left : List L} (h : LzR w b r N cnt m left) : ∃ es c, w.heap[b]? = some (.map es c) := by
  obtain ⟨D, lf, h1, _⟩ := h
  obtain ⟨es, c, hb, _⟩ := h1.owns
  exact ⟨es, c, hb⟩
theorem LzR.kept {w w' : World} {b r N cnt : Nat} {m : List (L × L)} {left : List L} {row : Option Nat} (h : LzR w b r N cnt m left) (hg : w.grownBy w' row) (h1 : some b ≠ row) (h2 : some r ≠ row) : LzR w' b r N cnt m left := by
  obtain ⟨D, lf, h3, h4⟩ := h; exact ⟨D, lf, h3.kept hg h1 h2, h4⟩
theorem LzR.below {w w' : World} {b r N cnt : Nat} {m : List (L × L)} {left : List L} (h : LzR w b r N cnt m left) (hb : Below w.heap.size w w') : LzR w' b r N cnt m left := h.kept (grown_of_below hb none) (by simp) (by simp)
theorem LzR.alloc {w : World} {b r N cnt : Nat} {m : List (L × L)} {left : List L} (h : LzR w b r N cnt m left) (o : Obj) : LzR (w.alloc o) b r N cnt m left := h.below (below_alloc (Below.refl _ _) o)
section
variable (w : World) {ops : Array Oper} {rest : List Oper} {o : Oper} {a : Act} {Q : Exit → Act → World → Prop}
theorem range_lab (T : TypeId) (hT : Tryz.prog.underlying T = some (.map 9 9)) (hg : o.guard = none) (m : Operand) (hop : o.op = Op.range T m) (b N : Nat) (ks : List (L × L)) (hm : a.eval m = .map (some b)) (h : IsLz w b N ks)
    (hK : ∀ w', LzR w' b w.heap.size N (dk ks).length ks (dk ks) → w.grownBy w' none → w'.heap.size = w.heap.size + 1 → wpList Tryz.prog ops Q rest (a.put o.dst (.pointer (some ⟨w.heap.size, 0, none⟩))) w') :
    wpList Tryz.prog ops Q (o :: rest) a w := by
  obtain ⟨D, hown, hmp, hh, ha, hs⟩ := h
  refine wpList_range_own w hg m T hop 9 9 lawLs hT _ b N D hm hown ?_
  intro w' h1 h2 h3
  rw [hs] at h1
  exact hK w' ⟨D, _, h1, hmp, hh, ha, hs, fun x => by rw [hh, dk_contains], fun x hx => by rw [← dk_contains]; exact List.contains_iff_mem.2 hx⟩ h2 h3
theorem next_lab (hg : o.guard = none) (it : Operand) (hop : o.op = Op.next it false) (b r N cnt : Nat) (ks : List (L × L)) (left : List L) (hit : a.eval it = .pointer (some ⟨r, 0, none⟩)) (h : LzR w b r N cnt ks left)
    (hDone : cnt = 0 → left = [] → wpList Tryz.prog ops Q rest (a.put o.dst (.tuple #[.bool false])) w)
    (hMore : ∀ (s v : ByteArray) (w' : World) (cnt' : Nat), s.data.toList ∈ left → mget ks s.data.toList = some v.data.toList → LzR w' b r N cnt' ks (delK left s.data.toList) → cnt' < cnt → w.grownBy w' (some r) → w'.heap.size = w.heap.size →
      (Instr.entry (.pointer (some ⟨r, 0, none⟩))).run Tryz.prog w' = .ok (.tuple #[.string s, .string v]) w' → wpList Tryz.prog ops Q rest (a.put o.dst (.tuple #[.bool true, .string s, .string v])) w') :
    wpList Tryz.prog ops Q (o :: rest) a w := by
  obtain ⟨D, lf, hrg, hmp, hh, ha, hs, hl, hlm⟩ := h
  refine wpList_next_ranges (β := ByteArray) w hg it hop 9 lawLs (plainElem Tryz.prog 9) Value.string Value.string (fun key kl hkey => by obtain ⟨s, rfl, _⟩ := WideMaps.string_of_keyOf Tryz.underlying9 hkey; exact ⟨s, rfl⟩) (fun v y hv => by obtain ⟨s, rfl, _⟩ := plainElem_string_inv Tryz.underlying9 hv; exact ⟨s, rfl⟩)
    b r N D lf cnt hit hrg (fun h0 hall => hDone h0 (contains_nil fun x => by rw [← hl]; exact hall _)) ?_
  intro s c kl y w' cnt' hkey hlk hv hat hrg' hlt hgr hsz hen
  obtain ⟨s', e, rfl, hss⟩ := WideMaps.string_of_keyOf Tryz.underlying9 hkey
  cases e
  obtain ⟨c', e, hc, _⟩ := plainElem_string_inv Tryz.underlying9 hv
  cases e
  have hin : s.data.toList ∈ left := by have h := hl s.data.toList; rw [hlk] at h; simpa using h.symm
  have hval : mget ks s.data.toList = some c.data.toList := by
    have h1 := ha s.data.toList
    rw [hat] at h1
    obtain ⟨v, hvv⟩ := Option.isSome_iff_exists.1 (hlm _ hin)
    rw [hvv] at h1 ⊢
    have h2 : y.1 = .lit (.string c.data.toList) := by rw [hc]
    rw [h2] at h1
    simp only [Option.getD_some, DataW.lit.injEq, Lit.string.injEq] at h1
    rw [h1]
  refine hMore s c w' cnt' hin hval ⟨D, _, hrg', hmp, hh, ha, hs, fun x => ?_, fun x hx => hlm x (List.mem_filter.1 hx).1⟩ hlt hgr hsz hen
  rw [delK_contains, hl]
  congr 1
end
end Go.Proofs.YthfjolafikgpoaaGreatDoor.Hand
