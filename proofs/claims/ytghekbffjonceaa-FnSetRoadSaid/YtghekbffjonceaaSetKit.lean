/- Sets of texts: a block of memory that is a map with texts as keys, told by a list of its keys; NewString, Insert, Delete, Has, HasAll, HasAny, Len. -/
import Derived.Test.YtghekbffjonceaaBase
import Derived.Test.YtghekbffjonceaaPFnSetRoadx0
import Derived.Maps.OwnSet
import Derived.Maps.AppendAt
import Derived.Maps.RangeWalk
import Derived.StringKeys
namespace Go.Proofs.Ytghekbffjonceaa.Hand
open Go.RowKit Go.Maps Go.Proofs.YtghekbffjonceaaW.PrintWords Go.Proofs.YtghekbffjonceaaW.PrintLast Go.Proofs.YtghekbffjonceaaW.PrintMore Go.Proofs.Ytghekbffjonceaa.Base
set_option linter.unusedVariables false
set_option linter.unusedSimpArgs false
set_option maxRecDepth 100000
theorem infoS : (Try.prog.info? 9).map (fun i => (i.zero, i.size, i.bytes)) = some (some (.string ⟨#[]⟩), 1, 16) := by kernel_rfl
theorem lawK : Keyed Try.prog 9 := string_keyed Try.underlying9
theorem zeroE (w : World) : (zeroValue 51).run Try.prog w = .ok (.agg #[]) w := by kernel_rfl
theorem getD_of {α : Type} (x : List α) (d : α) {i : Nat} (h : i < x.length) : x.getD i d = x[i] := by
  rw [List.getD_eq_getElem?_getD, List.getElem?_eq_getElem h, Option.getD_some]
theorem take_one {α : Type} (xs : List α) (j : Nat) (h : j < xs.length) : xs.take j ++ [xs[j]] = xs.take (j + 1) := by
  rw [List.take_add_one, List.getElem?_eq_getElem h]; rfl
theorem add0 (ad : Addr) : ad.add 0 = ad := by cases ad; rfl

/-- One key more, if it is not there. -/
def addK (ks : List L) (x : L) : List L := if ks.contains x then ks else ks ++ [x]
def delK (ks : List L) (x : L) : List L := ks.filter fun y => !(y == x)
theorem addK_contains (ks : List L) (x y : L) : (addK ks x).contains y = (ks.contains y || y == x) := by
  unfold addK
  split
  · rename_i h
    by_cases e : y = x
    · subst e; rw [h]; simp
    · simp [e]
  · rw [Bool.eq_iff_iff]; simp
theorem addK_nodup {ks : List L} (h : ks.Nodup) (x : L) : (addK ks x).Nodup := by
  unfold addK
  split
  · exact h
  · rename_i hc
    rw [List.nodup_append]
    refine ⟨h, by simp, fun a ha b hb => ?_⟩
    obtain rfl : b = x := by simpa using hb
    rintro rfl
    exact hc (by simpa using ha)
theorem addK_len (ks : List L) (x : L) : (addK ks x).length = if ks.contains x then ks.length else ks.length + 1 := by
  unfold addK; split <;> simp
theorem delK_contains (ks : List L) (x y : L) : (delK ks x).contains y = (ks.contains y && !(y == x)) := by
  unfold delK
  rw [Bool.eq_iff_iff]
  simp
theorem delK_nodup {ks : List L} (h : ks.Nodup) (x : L) : (delK ks x).Nodup := h.filter _
theorem delK_len {ks : List L} (h : ks.Nodup) (x : L) : (delK ks x).length + (if ks.contains x then 1 else 0) = ks.length := by
  induction ks with
  | nil => rfl
  | cons a ks ih =>
    have hn := List.nodup_cons.1 h
    have h2 := ih hn.2
    by_cases e : a = x
    · subst e
      have hc : ks.contains a = false := by simpa using hn.1
      rw [hc] at h2
      have : delK (a :: ks) a = delK ks a := by unfold delK; simp
      rw [this]
      simp at h2 ⊢
      exact h2
    · have : delK (a :: ks) x = a :: delK ks x := by unfold delK; simp [e]
      rw [this, List.contains_cons, show (x == a) = false by simpa using fun h => e h.symm, Bool.false_or, List.length_cons, List.length_cons]
      omega

/-- Block b is a set that has just the keys ks, each once. -/
def IsSet (w : World) (b N : Nat) (ks : List L) : Prop :=
  ∃ D : DataW Unit, w.ownsMap Try.prog 9 unitElem b N D ∧ ks.Nodup ∧ (∀ x : L, Maps.has D (.string x) = ks.contains x) ∧ Maps.size D = ks.length
theorem IsSet.map {w : World} {b N : Nat} {ks : List L} (h : IsSet w b N ks) : ∃ es c, w.heap[b]? = some (.map es c) := by
  obtain ⟨D, ⟨es, c, hb, _⟩, _⟩ := h; exact ⟨es, c, hb⟩
theorem IsSet.lt {w : World} {b N : Nat} {ks : List L} (h : IsSet w b N ks) : b < w.heap.size := by
  obtain ⟨es, c, hb⟩ := h.map; exact blk_lt hb
theorem IsSet.nodup {w : World} {b N : Nat} {ks : List L} (h : IsSet w b N ks) : ks.Nodup := by obtain ⟨D, _, hn, _⟩ := h; exact hn
theorem IsSet.mono {w : World} {b N M : Nat} {ks : List L} (h : IsSet w b N ks) (hm : N ≤ M) : IsSet w b M ks := by
  obtain ⟨D, h1, h2⟩ := h; exact ⟨D, h1.mono hm, h2⟩
theorem IsSet.kept {w w' : World} {b N : Nat} {ks : List L} {row : Option Nat} (h : IsSet w b N ks) (hg : w.grownBy w' row) (hne : some b ≠ row) : IsSet w' b N ks := by
  obtain ⟨D, h1, h2⟩ := h; exact ⟨D, h1.kept hg hne, h2⟩
theorem IsSet.below {w w' : World} {b N : Nat} {ks : List L} (h : IsSet w b N ks) (hb : Below w.heap.size w w') : IsSet w' b N ks := h.kept (grown_of_below hb none) (by simp)
theorem IsSet.alloc {w : World} {b N : Nat} {ks : List L} (h : IsSet w b N ks) (o : Obj) : IsSet (w.alloc o) b N ks := h.below (below_alloc (Below.refl _ _) o)
theorem IsSet.drewN {w : World} {b N : Nat} {ks : List L} (h : IsSet w b N ks) (n : Nat) : IsSet (w.drewN n) b N ks := h.below (pw_below_drewN (Below.refl _ _) n)
theorem IsSet.drew {w : World} {b N : Nat} {ks : List L} (h : IsSet w b N ks) : IsSet w.drew b N ks := h.below (below_drew (Below.refl _ _))
theorem IsSet.made (w : World) : IsSet (w.alloc (.map #[] 0)) w.heap.size 0 [] := ⟨_, World.ownsMap_made _ _ _ _, List.nodup_nil, fun x => rfl, rfl⟩
theorem string_key (x : L) : WideAt.IsKeyLit (.string x) := trivial
/-- What a slice of texts reads as, after a map was changed. -/
theorem C_map {w w' : World} {b : Nat} {A : Option Addr} {n : Nat} {xs : List ByteArray} (h : Kd.C Kd.string w A n xs) (hm : ∃ es c, w.heap[b]? = some (.map es c)) (hg : w.grownBy w' (some b)) : Kd.C Kd.string w' A n xs := by
  refine Kd.C_keep (⟨#[]⟩ : ByteArray) h ⟨hg.size, fun i hi hne _ => hg.block i hi (by simpa using hne)⟩ (fun ad e hn hb => ?_)
  subst e
  refine Kd.C_not_empty h hn (by decide) ?_
  obtain ⟨es, c, hm⟩ := hm
  unfold World.cell?
  rw [hb, hm]

def addAll (ks : List L) (l : List ByteArray) : List L := l.foldl (fun ks p => addK ks p.data.toList) ks
theorem addAll_snoc (ks : List L) (l : List ByteArray) (p : ByteArray) : addAll ks (l ++ [p]) = addK (addAll ks l) p.data.toList := by unfold addAll; rw [List.foldl_append]; rfl
theorem addAll_contains (ks : List L) (l : List ByteArray) (y : L) : (addAll ks l).contains y = (ks.contains y || l.any fun p => y == p.data.toList) := by
  induction l generalizing ks with
  | nil => simp [addAll]
  | cons p l ih =>
    show (addAll (addK ks p.data.toList) l).contains y = _
    rw [ih, addK_contains, List.any_cons, Bool.or_assoc]
def delAll (ks : List L) (l : List ByteArray) : List L := l.foldl (fun ks p => delK ks p.data.toList) ks
theorem delAll_snoc (ks : List L) (l : List ByteArray) (p : ByteArray) : delAll ks (l ++ [p]) = delK (delAll ks l) p.data.toList := by unfold delAll; rw [List.foldl_append]; rfl
theorem delAll_contains (ks : List L) (l : List ByteArray) (y : L) : (delAll ks l).contains y = (ks.contains y && !(l.any fun p => y == p.data.toList)) := by
  induction l generalizing ks with
  | nil => simp [delAll]
  | cons p l ih =>
    show (delAll (delK ks p.data.toList) l).contains y = _
    rw [ih, delK_contains, List.any_cons, Bool.not_or, Bool.and_assoc]
theorem key_string (s : ByteArray) (hs : s.size ≤ 140737488351232) : keyOf Try.prog 9 (.string s) = some (.string s.data.toList) := WideMaps.keyOf_string_mk Try.underlying9 (by unfold maxLen; omega)
theorem put_set {D : DataW Unit} {ks : List L} {w : World} {b N : Nat} (x : L) (h1 : w.ownsMap Try.prog 9 unitElem b N (D.put (.string x) (.agg []))) (h0 : Maps.Tidy D) (hn : ks.Nodup) (hh : ∀ x : L, Maps.has D (.string x) = ks.contains x) (hs : Maps.size D = ks.length) : IsSet w b N (addK ks x) := by
  refine ⟨_, h1, addK_nodup hn x, fun y => ?_, ?_⟩
  · rw [addK_contains]
    by_cases e : y = x
    · subst e; rw [has_put_same h0.isMap (string_key y)]; simp
    · rw [has_put_other (by simpa using e), hh]; simp [e]
  · rw [size_put h0, hh, addK_len, hs]
theorem del_set {D : DataW Unit} {ks : List L} {w : World} {b N : Nat} (x : L) (h1 : w.ownsMap Try.prog 9 unitElem b N (D.del (.string x))) (h0 : Maps.Tidy D) (hn : ks.Nodup) (hh : ∀ x : L, Maps.has D (.string x) = ks.contains x) (hs : Maps.size D = ks.length) : IsSet w b N (delK ks x) := by
  refine ⟨_, h1, delK_nodup hn x, fun y => ?_, ?_⟩
  · rw [delK_contains]
    by_cases e : y = x
    · subst e; rw [has_del_same]; simp
    · rw [has_del_other (by simpa using e), hh]; simp [e]
  · have h2 := size_del (k := .string x) h0
    have h3 := delK_len hn x
    rw [hh, hs] at h2
    split at h2 <;> rename_i hc <;> simp only [hc] at h3 <;> simp at h3 <;> omega

theorem Has_calls (b N : Nat) (ks : List L) (s : ByteArray) (hs : s.size ≤ 140737488351232) (w : World) (h : IsSet w b N ks) :
    Calls Try.prog 20 #[.map (some b), .string s] w fun e w' => e = .returned (.bool (ks.contains s.data.toList)) ∧ Below w.heap.size w w' := by
  obtain ⟨D, hown, hnd, hhas, hsz⟩ := h
  have hkey := key_string s hs
  have HB := Aside0.mk (Below.refl w.heap.size w)
  rw [← hhas]
  have HO := Aside0.mk hown
  clear hown hnd hhas hsz
  go_enter Try.func20, Try.ntmps20
  go_wp2_with (first | (at_lookup; refine wpList_lookup_own_unit _ rfl _ _ 42 rfl 9 51 lawK Try.underlying42 (zeroE _) b N _ rfl HO.out _ _ rfl hkey ?_))
  go_ret
  exact ⟨rfl, (by repeat (first | (with_reducible first | exact HB.out | apply below_alloc | apply pw_below_drewN | apply below_drew1) | exact HB.out))⟩

set_option maxHeartbeats 1000000 in
theorem Insert_calls (b N : Nat) (ks : List L) (A : Option Addr) (c : Nat) (xs : List ByteArray) (hx : ∀ p ∈ xs, p.size ≤ 140737488351232) (hn : N + xs.length ≤ 1000000) (w : World) (h : IsSet w b N ks) (hr : Kd.C Kd.string w A xs.length xs) (hc : xs.length ≤ c) :
    Calls Try.prog 24 #[.map (some b), .slice A xs.length c] w fun e w' => e = .returned (.map (some b)) ∧ IsSet w' b (N + xs.length) (addAll ks xs) ∧ w.grownBy w' (some b) := by
  have HX := Aside0.mk hx
  have HS := Aside0.mk h
  have HR := Aside0.mk hr
  clear hx h hr
  go_enter Try.func24, Try.ntmps24
  go_wp2
  go_loopg [6, 9] (xs.length) (fun g v6 v9 w' => ∃ i : Nat, v9 = .int .i64 i ∧ Aside0 (g + i = xs.length) ∧ Aside0 (IsSet w' b (N + i) (addAll ks (xs.take i))) ∧ Aside0 (w.grownBy w' (some b)) ∧ Aside0 (Kd.C Kd.string w' A xs.length xs))
  case atStart => exact ⟨0, rfl, ⟨by omega⟩, ⟨HS.out⟩, ⟨World.grownBy.refl w _⟩, HR⟩
  case round =>
    clear HS HR
    obtain ⟨i, rfl, HI, HS, HG, HR⟩ := hrel
    have hi : i ≤ xs.length := by have := HI.out; omega
    by_cases hlt : i < xs.length
    · obtain ⟨ad, eA, hcell⟩ := Kd.at_string HR.out (i : Int) (by omega) (by omega)
      subst eA
      obtain ⟨p, hp⟩ : ∃ p, xs[i] = p := ⟨_, rfl⟩
      rw [show rdOf ByteArray.empty xs (i : Int) = p by unfold rdOf; rw [Int.toNat_natCast, getD_of _ _ hlt]; exact hp, Int.toNat_natCast] at hcell
      have hkey := key_string p (by rw [← hp]; exact HX.out _ (List.getElem_mem hlt))
      have HT : Aside0 (addK (addAll ks (xs.take i)) p.data.toList = addAll ks (xs.take (i + 1))) := ⟨by rw [← addAll_snoc, ← hp, take_one xs i hlt]⟩
      obtain ⟨D, hown, hnd, hhas, hsz⟩ := HS.out
      have HO := Aside0.mk hown
      have HD := Aside0.mk (And.intro hnd (And.intro hhas hsz))
      have HM := Aside0.mk HS.out.map
      clear hp hown hnd hhas hsz HS
      go_wp2_with (first | (at_mapUpdate; refine wpList_mapUpdate_own _ rfl _ _ _ 42 rfl 9 51 lawK Try.underlying42 (unitElem (H := Unit)) b (N + i) _ rfl HO.out (by unfold maxLen; omega) _ _ _ rfl rfl hkey _ [] unitElem_mk ?_; intro w1 hown1 hgrow1; have HS1 := Aside0.mk (put_set p.data.toList hown1 (HO.out.tidy lawK) HD.out.1 HD.out.2.1 HD.out.2.2); have HG1 := Aside0.mk (HG.out.andThen hgrow1 (fun j hj => by cases hj; exact Or.inr rfl)); have HR1 := Aside0.mk (C_map HR.out HM.out hgrow1); clear hown1 hgrow1 HO HG HR))
      go_roundg (gk - 1)
      case measure => have := HI.out; omega
      case rel => exact ⟨i + 1, by go_num, ⟨by have := HI.out; omega⟩, ⟨by rw [← HT.out]; exact HS1.out⟩, HG1, HR1⟩
    · have hli : i = xs.length := by omega
      have hS := HS.out
      rw [hli, List.take_length] at hS
      have HS2 := Aside0.mk hS
      clear hS hli HS
      go_wp2
      go_ret
      exact ⟨rfl, HS2.out, HG.out⟩
set_option maxHeartbeats 1000000 in
theorem HasAll_calls (b N : Nat) (ks : List L) (A : Option Addr) (c : Nat) (xs : List ByteArray) (hx : ∀ p ∈ xs, p.size ≤ 140737488351232) (hn : xs.length ≤ 1000000) (w : World) (h : IsSet w b N ks) (hr : Kd.C Kd.string w A xs.length xs) (hc : xs.length ≤ c) :
    Calls Try.prog 21 #[.map (some b), .slice A xs.length c] w fun e w' => e = .returned (.bool (xs.all fun p => ks.contains p.data.toList)) ∧ Below w.heap.size w w' := by
  have HX := Aside0.mk hx
  have HS := Aside0.mk h
  have HR := Aside0.mk hr
  have HB := Aside0.mk (Below.refl w.heap.size w)
  clear hx h hr
  go_enter Try.func21, Try.ntmps21
  go_wp2
  go_loopg [6, 9] (xs.length) (fun g v6 v9 w' => ∃ i : Nat, v9 = .int .i64 i ∧ Aside0 (g + i = xs.length) ∧ Aside0 ((xs.all fun p => ks.contains p.data.toList) = ((xs.drop i).all fun p => ks.contains p.data.toList)) ∧ Aside0 (Below w.heap.size w w'))
  case atStart => exact ⟨0, rfl, ⟨by omega⟩, ⟨rfl⟩, HB⟩
  case round =>
    clear HB
    obtain ⟨i, rfl, HI, HA, HB⟩ := hrel
    have hi : i ≤ xs.length := by have := HI.out; omega
    by_cases hlt : i < xs.length
    · obtain ⟨ad, eA, hcell⟩ := Kd.at_string (Kd.C_below HR.out HB.out) (i : Int) (by omega) (by omega)
      subst eA
      obtain ⟨p, hp⟩ : ∃ p, xs[i] = p := ⟨_, rfl⟩
      rw [show rdOf ByteArray.empty xs (i : Int) = p by unfold rdOf; rw [Int.toNat_natCast, getD_of _ _ hlt]; exact hp, Int.toNat_natCast] at hcell
      have H1 := Aside0.mk (fun w' (hb : Below w.heap.size w w') => Has_calls b N ks p (by rw [← hp]; exact HX.out _ (List.getElem_mem hlt)) w' (HS.out.below hb))
      have hst : ((xs.drop i).all fun p => ks.contains p.data.toList) = (ks.contains p.data.toList && (xs.drop (i + 1)).all fun p => ks.contains p.data.toList) := by rw [List.drop_eq_getElem_cons hlt, List.all_cons, hp]
      have HST := Aside0.mk hst
      clear hp hst
      obtain ⟨q, hq⟩ : ∃ q, ks.contains p.data.toList = q := ⟨_, rfl⟩
      rw [hq] at H1 HST
      clear hq
      cases q with
      | true =>
        have HN : Aside0 ((xs.all fun p => ks.contains p.data.toList) = ((xs.drop (i + 1)).all fun p => ks.contains p.data.toList)) := ⟨by rw [HA.out, HST.out]; rfl⟩
        clear HST HA
        go_wp2_with (first | ((with_reducible refine (H1.out _ (by repeat (first | (with_reducible first | exact HB.out | apply below_alloc | apply pw_below_drewN | apply below_drew1) | exact HB.out))).mono ?_); rintro e w' ⟨rfl, hb⟩; have nb_ := Aside0.mk (below_step (by repeat (first | (with_reducible first | exact HB.out | apply below_alloc | apply pw_below_drewN | apply below_drew1) | exact HB.out)) hb); clear HB; have HB := nb_; clear nb_; (try clear hb)))
        go_roundg (gk - 1)
        case measure => have := HI.out; omega
        case rel => exact ⟨i + 1, by go_num, ⟨by have := HI.out; omega⟩, HN, ⟨(by repeat (first | (with_reducible first | exact HB.out | apply below_alloc | apply pw_below_drewN | apply below_drew1) | exact HB.out))⟩⟩
      | false =>
        have HN : Aside0 ((xs.all fun p => ks.contains p.data.toList) = false) := ⟨by rw [HA.out, HST.out]; rfl⟩
        clear HST HA
        go_wp2_with (first | ((with_reducible refine (H1.out _ (by repeat (first | (with_reducible first | exact HB.out | apply below_alloc | apply pw_below_drewN | apply below_drew1) | exact HB.out))).mono ?_); rintro e w' ⟨rfl, hb⟩; have nb_ := Aside0.mk (below_step (by repeat (first | (with_reducible first | exact HB.out | apply below_alloc | apply pw_below_drewN | apply below_drew1) | exact HB.out)) hb); clear HB; have HB := nb_; clear nb_; (try clear hb)))
        go_ret
        exact ⟨by rw [HN.out]; rfl, (by repeat (first | (with_reducible first | exact HB.out | apply below_alloc | apply pw_below_drewN | apply below_drew1) | exact HB.out))⟩
    · have HN : Aside0 ((xs.all fun p => ks.contains p.data.toList) = true) := ⟨by rw [HA.out, List.drop_eq_nil_of_le (by omega)]; rfl⟩
      clear HA
      go_wp2
      go_ret
      exact ⟨by rw [HN.out]; rfl, HB.out⟩

set_option maxHeartbeats 1000000 in
theorem HasAny_calls (b N : Nat) (ks : List L) (A : Option Addr) (c : Nat) (xs : List ByteArray) (hx : ∀ p ∈ xs, p.size ≤ 140737488351232) (hn : xs.length ≤ 1000000) (w : World) (h : IsSet w b N ks) (hr : Kd.C Kd.string w A xs.length xs) (hc : xs.length ≤ c) :
    Calls Try.prog 22 #[.map (some b), .slice A xs.length c] w fun e w' => e = .returned (.bool (xs.any fun p => ks.contains p.data.toList)) ∧ Below w.heap.size w w' := by
  have HX := Aside0.mk hx
  have HS := Aside0.mk h
  have HR := Aside0.mk hr
  have HB := Aside0.mk (Below.refl w.heap.size w)
  clear hx h hr
  go_enter Try.func22, Try.ntmps22
  go_wp2
  go_loopg [6, 9] (xs.length) (fun g v6 v9 w' => ∃ i : Nat, v9 = .int .i64 i ∧ Aside0 (g + i = xs.length) ∧ Aside0 ((xs.any fun p => ks.contains p.data.toList) = ((xs.drop i).any fun p => ks.contains p.data.toList)) ∧ Aside0 (Below w.heap.size w w'))
  case atStart => exact ⟨0, rfl, ⟨by omega⟩, ⟨rfl⟩, HB⟩
  case round =>
    clear HB
    obtain ⟨i, rfl, HI, HA, HB⟩ := hrel
    have hi : i ≤ xs.length := by have := HI.out; omega
    by_cases hlt : i < xs.length
    · obtain ⟨ad, eA, hcell⟩ := Kd.at_string (Kd.C_below HR.out HB.out) (i : Int) (by omega) (by omega)
      subst eA
      obtain ⟨p, hp⟩ : ∃ p, xs[i] = p := ⟨_, rfl⟩
      rw [show rdOf ByteArray.empty xs (i : Int) = p by unfold rdOf; rw [Int.toNat_natCast, getD_of _ _ hlt]; exact hp, Int.toNat_natCast] at hcell
      have H1 := Aside0.mk (fun w' (hb : Below w.heap.size w w') => Has_calls b N ks p (by rw [← hp]; exact HX.out _ (List.getElem_mem hlt)) w' (HS.out.below hb))
      have hst : ((xs.drop i).any fun p => ks.contains p.data.toList) = (ks.contains p.data.toList || (xs.drop (i + 1)).any fun p => ks.contains p.data.toList) := by rw [List.drop_eq_getElem_cons hlt, List.any_cons, hp]
      have HST := Aside0.mk hst
      clear hp hst
      obtain ⟨q, hq⟩ : ∃ q, ks.contains p.data.toList = q := ⟨_, rfl⟩
      rw [hq] at H1 HST
      clear hq
      cases q with
      | false =>
        have HN : Aside0 ((xs.any fun p => ks.contains p.data.toList) = ((xs.drop (i + 1)).any fun p => ks.contains p.data.toList)) := ⟨by rw [HA.out, HST.out]; rfl⟩
        clear HST HA
        go_wp2_with (first | ((with_reducible refine (H1.out _ (by repeat (first | (with_reducible first | exact HB.out | apply below_alloc | apply pw_below_drewN | apply below_drew1) | exact HB.out))).mono ?_); rintro e w' ⟨rfl, hb⟩; have nb_ := Aside0.mk (below_step (by repeat (first | (with_reducible first | exact HB.out | apply below_alloc | apply pw_below_drewN | apply below_drew1) | exact HB.out)) hb); clear HB; have HB := nb_; clear nb_; (try clear hb)))
        go_roundg (gk - 1)
        case measure => have := HI.out; omega
        case rel => exact ⟨i + 1, by go_num, ⟨by have := HI.out; omega⟩, HN, ⟨(by repeat (first | (with_reducible first | exact HB.out | apply below_alloc | apply pw_below_drewN | apply below_drew1) | exact HB.out))⟩⟩
      | true =>
        have HN : Aside0 ((xs.any fun p => ks.contains p.data.toList) = true) := ⟨by rw [HA.out, HST.out]; rfl⟩
        clear HST HA
        go_wp2_with (first | ((with_reducible refine (H1.out _ (by repeat (first | (with_reducible first | exact HB.out | apply below_alloc | apply pw_below_drewN | apply below_drew1) | exact HB.out))).mono ?_); rintro e w' ⟨rfl, hb⟩; have nb_ := Aside0.mk (below_step (by repeat (first | (with_reducible first | exact HB.out | apply below_alloc | apply pw_below_drewN | apply below_drew1) | exact HB.out)) hb); clear HB; have HB := nb_; clear nb_; (try clear hb)))
        go_ret
        exact ⟨by rw [HN.out]; rfl, (by repeat (first | (with_reducible first | exact HB.out | apply below_alloc | apply pw_below_drewN | apply below_drew1) | exact HB.out))⟩
    · have HN : Aside0 ((xs.any fun p => ks.contains p.data.toList) = false) := ⟨by rw [HA.out, List.drop_eq_nil_of_le (by omega)]; rfl⟩
      clear HA
      go_wp2
      go_ret
      exact ⟨by rw [HN.out]; rfl, HB.out⟩

set_option maxHeartbeats 1000000 in
theorem Delete_calls (b N : Nat) (ks : List L) (A : Option Addr) (c : Nat) (xs : List ByteArray) (hx : ∀ p ∈ xs, p.size ≤ 140737488351232) (hn : xs.length ≤ 1000000) (w : World) (h : IsSet w b N ks) (hr : Kd.C Kd.string w A xs.length xs) (hc : xs.length ≤ c) :
    Calls Try.prog 23 #[.map (some b), .slice A xs.length c] w fun e w' => e = .returned (.map (some b)) ∧ IsSet w' b N (delAll ks xs) ∧ w.grownBy w' (some b) := by
  have HX := Aside0.mk hx
  have HS := Aside0.mk h
  have HR := Aside0.mk hr
  clear hx h hr
  go_enter Try.func23, Try.ntmps23
  go_wp2
  go_loopg [6, 9] (xs.length) (fun g v6 v9 w' => ∃ i : Nat, v9 = .int .i64 i ∧ Aside0 (g + i = xs.length) ∧ Aside0 (IsSet w' b N (delAll ks (xs.take i))) ∧ Aside0 (w.grownBy w' (some b)) ∧ Aside0 (Kd.C Kd.string w' A xs.length xs))
  case atStart => exact ⟨0, rfl, ⟨by omega⟩, ⟨HS.out⟩, ⟨World.grownBy.refl w _⟩, HR⟩
  case round =>
    clear HS HR
    obtain ⟨i, rfl, HI, HS, HG, HR⟩ := hrel
    have hi : i ≤ xs.length := by have := HI.out; omega
    by_cases hlt : i < xs.length
    · obtain ⟨ad, eA, hcell⟩ := Kd.at_string HR.out (i : Int) (by omega) (by omega)
      subst eA
      obtain ⟨p, hp⟩ : ∃ p, xs[i] = p := ⟨_, rfl⟩
      rw [show rdOf ByteArray.empty xs (i : Int) = p by unfold rdOf; rw [Int.toNat_natCast, getD_of _ _ hlt]; exact hp, Int.toNat_natCast] at hcell
      have hkey := key_string p (by rw [← hp]; exact HX.out _ (List.getElem_mem hlt))
      have HT : Aside0 (delK (delAll ks (xs.take i)) p.data.toList = delAll ks (xs.take (i + 1))) := ⟨by rw [← delAll_snoc, ← hp, take_one xs i hlt]⟩
      obtain ⟨D, hown, hnd, hhas, hsz⟩ := HS.out
      have HO := Aside0.mk hown
      have HD := Aside0.mk (And.intro hnd (And.intro hhas hsz))
      have HM := Aside0.mk HS.out.map
      clear hp hown hnd hhas hsz HS
      go_wp2_with (first | (at_delete; refine wpList_delete_own _ rfl _ _ 42 9 rfl 51 lawK Try.underlying42 _ b N _ rfl HO.out _ _ rfl hkey ?_; intro w1 hown1 hturn1; have hgrow1 := hturn1.grown; have HS1 := Aside0.mk (del_set p.data.toList hown1 (HO.out.tidy lawK) HD.out.1 HD.out.2.1 HD.out.2.2); have HG1 := Aside0.mk (HG.out.andThen hgrow1 (fun j hj => by cases hj; exact Or.inr rfl)); have HR1 := Aside0.mk (C_map HR.out HM.out hgrow1); clear hown1 hturn1 hgrow1 HO HG HR))
      go_roundg (gk - 1)
      case measure => have := HI.out; omega
      case rel => exact ⟨i + 1, by go_num, ⟨by have := HI.out; omega⟩, ⟨by rw [← HT.out]; exact HS1.out⟩, HG1, HR1⟩
    · have hli : i = xs.length := by omega
      have hS := HS.out
      rw [hli, List.take_length] at hS
      have HS2 := Aside0.mk hS
      clear hS hli HS
      go_wp2
      go_ret
      exact ⟨rfl, HS2.out, HG.out⟩

theorem Len_calls (b N : Nat) (ks : List L) (w : World) (h : IsSet w b N ks) :
    Calls Try.prog 26 #[.map (some b)] w fun e w' => e = .returned (.int .i64 ks.length) ∧ w = w' := by
  obtain ⟨D, hown, hnd, hhas, hsz⟩ := h
  have HO := Aside0.mk hown
  rw [← hsz]
  clear hown hnd hhas hsz
  go_enter Try.func26, Try.ntmps26
  go_wp2_with (first | (at_len; refine wpList_len_own _ rfl _ 42 rfl 9 51 Try.underlying42 _ b N _ rfl HO.out ?_))
  go_ret
  exact ⟨rfl, rfl⟩

theorem New_calls (A : Option Addr) (c : Nat) (xs : List ByteArray) (hx : ∀ p ∈ xs, p.size ≤ 140737488351232) (hn : xs.length ≤ 1000000) (w : World) (hr : Kd.C Kd.string w A xs.length xs) (hc : xs.length ≤ c) :
    Calls Try.prog 19 #[.slice A xs.length c] w fun e w' => ∃ b, e = .returned (.map (some b)) ∧ w.heap.size ≤ b ∧ IsSet w' b xs.length (addAll [] xs) ∧ Below w.heap.size w w' := by
  have hmm := @run_makeMap Try.prog
  have H1 : Aside0 (Calls Try.prog 24 #[.map (some w.heap.size), .slice A xs.length c] (w.alloc (.map #[] 0)) fun e w' => e = .returned (.map (some w.heap.size)) ∧ IsSet w' w.heap.size (0 + xs.length) (addAll [] xs) ∧ (w.alloc (.map #[] 0)).grownBy w' (some w.heap.size)) := ⟨Insert_calls w.heap.size 0 [] A c xs hx (by omega) _ (IsSet.made w) (Kd.C_alloc hr _) hc⟩
  clear hx hr
  go_enter Try.func19, Try.ntmps19
  go_wp2_with (first | ((with_reducible refine (H1.out).mono ?_); rintro e w1 ⟨rfl, h1, h2⟩; have HS := Aside0.mk h1; have HG := Aside0.mk h2; clear h1 h2))
  go_ret
  exact ⟨_, rfl, Nat.le_refl _, HS.out.mono (by omega), (below_alloc (Below.refl _ _) _).grown HG.out (by simp) (fun j hj => by cases hj; exact Nat.le_refl _)⟩

/-- A literal list of texts, as the walk lays it. -/
theorem C_lit (W : World) (H : Nat) (hH : W.heap.size = H) (xs : List ByteArray) (hn : xs.length ≤ 1000000) : Kd.C Kd.string (W.alloc (.cells (xs.map Value.string).toArray 9)) (some ⟨H, 0, none⟩) xs.length xs := by
  subst hH
  have hb := heap_alloc_new W (.cells (xs.map Value.string).toArray 9)
  refine Kd.C_of_reads (d := ByteArray.empty) ⟨rfl, by omega, fun _ => ⟨_, rfl, fun j hj => ?_⟩⟩
  rw [add_at, blk_cell hb, Nat.zero_add]
  simp [hj]
end Go.Proofs.Ytghekbffjonceaa.Hand
