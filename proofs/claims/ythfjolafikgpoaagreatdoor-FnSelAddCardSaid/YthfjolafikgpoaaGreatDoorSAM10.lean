/- Labels: a block of memory that is a map from texts to texts, told by a list of its pairs, the last put first; setOf, Has, Get. -/
import Derived.Test.YthfjolafikgpoaaGreatDoorSAGNmB
import Derived.Maps.OwnSet
import Derived.Maps.OwnOps
import Derived.Maps.StringElems
import Derived.StringKeys
import Derived.Carry
import Derived.Lib.ParseIntB
import Derived.Test.YthfjolafikgpoaaGreatDoorCards
import Derived.Test.YthfjolafikgpoaaGreatDoorTie
import Derived.WalkKit
import Derived.ProofKit
import Derived.OpenShut
import Derived.Deep.DeepHandedRow
import Derived.Lib.LaidTab
import Derived.Lib.ItoaNum
import Derived.Stop.LaidErr
import Derived.Test.YthfjolafikgpoaaGreatDoorRows
import Derived.KernelRfl
import Derived.Lib.SmallJoins
import Derived.Deep.Slices
import Derived.Deep.Fields
import Derived.ChangeSame
import Derived.SliceStrings
namespace Go.Proofs.YthfjolafikgpoaaGreatDoor.Hand
open Go.RowKit Go.Maps Go.Proofs.YthfjolafikgpoaaGreatDoorW.PrintWords Go.Proofs.YthfjolafikgpoaaGreatDoorW.PrintLast Go.Proofs.YthfjolafikgpoaaGreatDoorW.PrintMore Go.Proofs.YthfjolafikgpoaaGreatDoor.Base
set_option linter.unusedVariables false
set_option linter.unusedSimpArgs false
set_option maxRecDepth 100000
theorem lawLs : Keyed Tryz.prog 9 := string_keyed Tryz.underlying9
theorem zeroLs (w : World) : (zeroValue 9).run Tryz.prog w = .ok (.string ⟨#[]⟩) w := by kernel_rfl
theorem keyLs (s : ByteArray) (hs : s.size ≤ 140737488351232) : keyOf Tryz.prog 9 (.string s) = some (.string s.data.toList) := WideMaps.keyOf_string_mk Tryz.underlying9 (by unfold maxLen; omega)
theorem labKey (x : L) : WideAt.IsKeyLit (.string x) := trivial
def mget (m : List (L × L)) (k : L) : Option L := (m.find? fun p => p.1 == k).map (·.2)
theorem mget_cons (k v : L) (m : List (L × L)) (x : L) : mget ((k, v) :: m) x = if k = x then some v else mget m x := by
 unfold mget
 rw [List.find?_cons]
 by_cases e : k = x
 · subst e; simp
 · rw [show (((k, v).1 == x) = false) by simpa using e, if_neg e]
def IsLab (w : World) (b N : Nat) (m : List (L × L)) : Prop :=
 ∃ D : DataW Unit, w.ownsMap Tryz.prog 9 (plainElem Tryz.prog 9) b N D ∧ Maps.IsMap D ∧ (∀ x : L, Maps.has D (.string x) = (mget m x).isSome) ∧ (∀ x : L, D.atKey (.string x) (.lit (.string [])) = .lit (.string ((mget m x).getD [])))
theorem IsLab.kept {w w' : World} {b N : Nat} {m : List (L × L)} {row : Option Nat} (h : IsLab w b N m) (hg : w.grownBy w' row) (hne : some b ≠ row) : IsLab w' b N m := by
 obtain ⟨D, h1, h2⟩ := h; exact ⟨D, h1.kept hg hne, h2⟩
theorem IsLab.below {w w' : World} {b N : Nat} {m : List (L × L)} (h : IsLab w b N m) (hb : Below w.heap.size w w') : IsLab w' b N m := h.kept (grown_of_below hb none) (by simp)
theorem IsLab.made (w : World) : IsLab (w.alloc (.map #[] 0)) w.heap.size 0 [] := ⟨_, World.ownsMap_made _ _ _ _, ⟨[], rfl⟩, fun x => rfl, fun x => rfl⟩
theorem lab_put {D : DataW Unit} {m : List (L × L)} (k v : L) (h0 : Maps.IsMap D) (hh : ∀ x : L, Maps.has D (.string x) = (mget m x).isSome) (ha : ∀ x : L, D.atKey (.string x) (.lit (.string [])) = .lit (.string ((mget m x).getD []))) :
   Maps.IsMap (D.put (.string k) (.lit (.string v))) ∧ (∀ x : L, Maps.has (D.put (.string k) (.lit (.string v))) (.string x) = (mget ((k, v) :: m) x).isSome) ∧ (∀ x : L, (D.put (.string k) (.lit (.string v))).atKey (.string x) (.lit (.string [])) = .lit (.string ((mget ((k, v) :: m) x).getD []))) := by
 refine ⟨h0.put _ _, fun x => ?_, fun x => ?_⟩
 · rw [mget_cons]
   by_cases e : k = x
   · subst e; rw [if_pos rfl, has_put_same h0 (labKey k)]; rfl
   · rw [if_neg e, has_put_other (by simpa using fun h => e h.symm), hh]
 · rw [mget_cons]
   by_cases e : k = x
   · subst e; rw [if_pos rfl, atKey_put_same h0 (labKey k)]; rfl
   · rw [if_neg e, atKey_put_other (by simpa using fun h => e h.symm), ha]
theorem wpList_lookup_own_str {H : Type} {P : Program} (w : World) {ops : Array Oper} {rest : List Oper} {o : Oper} {a : Act} {Q : Exit → Act → World → Prop}
   (hg : o.guard = none) (m x : Operand) (t : TypeId) (hop : o.op = Op.lookup t m x false)
   (k e : TypeId) (K : Keyed P k) (ht : P.underlying t = some (.map k e)) (he : P.underlying e = some .string) (hz : (zeroValue e).run P w = .ok (.string ⟨#[]⟩) w) (b n : Nat) (D : DataW H)
   (hm : a.eval m = .map (some b)) (hown : w.ownsMap P k (plainElem P e) b n D) (key : Value) (kl : Lit) (hx : a.eval x = key) (hkey : keyOf P k key = some kl)
   (hK : ∀ s : ByteArray, D.atKey kl (.lit (.string [])) = .lit (.string s.data.toList) → wpList P ops Q rest (a.put o.dst (.string s)) w) :
   wpList P ops Q (o :: rest) a w := by
 refine wpList_plain hg fun K' hK' => ?_
 obtain ⟨v, ps, hrun, hv⟩ := hown.lookup K ht hz (plainElem_string he (by unfold maxLen; decide)) hkey
 obtain ⟨s, rfl, hc, _⟩ := plainElem_string_inv he hv
 simp only [Prod.mk.injEq] at hc
 unfold Oper.wp
 simp [execOp, hop, hm, hx, hrun, Result.andThen]
 exact hK' _ _ (hK s hc.1)
theorem LHas_calls (b N : Nat) (m : List (L × L)) (s : ByteArray) (hs : s.size ≤ 140737488351232) (w : World) (h : IsLab w b N m) :
   Calls Tryz.prog 242 #[.map (some b), .string s] w fun e w' => e = .returned (.bool (mget m s.data.toList).isSome) ∧ w' = w := by
 obtain ⟨D, hown, hmp, hhas, hat⟩ := h
 have hkey := keyLs s hs
 rw [← hhas]
 have HO := Aside0.mk hown
 clear hown hhas hat
 go_enter Tryz.func242, Tryz.ntmps242
 go_wp2_with (first | (at_lookup; refine wpList_lookup_own_ok _ rfl _ _ 96 rfl 9 9 lawLs Tryz.underlying96 (plainElem Tryz.prog 9) (zeroLs _) (.lit (.string [])) [] (plainElem_string Tryz.underlying9 (by unfold maxLen; decide)) b N D rfl HO.out _ _ rfl hkey ?_; intro v ps hv))
 go_ret
 exact ⟨rfl, rfl⟩
theorem LGet_calls (b N : Nat) (m : List (L × L)) (s : ByteArray) (hs : s.size ≤ 140737488351232) (w : World) (h : IsLab w b N m) :
   Calls Tryz.prog 241 #[.map (some b), .string s] w fun e w' => e = .returned (.string (mk ((mget m s.data.toList).getD []))) ∧ w' = w := by
 obtain ⟨D, hown, hmp, hhas, hat⟩ := h
 have hkey := keyLs s hs
 have HAT := Aside0.mk (hat s.data.toList)
 have HO := Aside0.mk hown
 clear hown hhas hat
 go_enter Tryz.func241, Tryz.ntmps241
 go_wp2_with (first | (at_lookup; refine wpList_lookup_own_str _ rfl _ _ 96 rfl 9 9 lawLs Tryz.underlying96 Tryz.underlying9 (zeroLs _) b N D rfl HO.out _ _ rfl hkey ?_; intro sv hsv; obtain rfl : sv = mk ((mget m s.data.toList).getD []) := (by have h2 := hsv.symm.trans HAT.out; injection h2 with h2; injection h2 with h2; rw [mk_of sv, h2]); clear hsv))
 go_ret
 exact ⟨rfl, rfl⟩
abbrev PK : Kd (ByteArray × ByteArray) := Kd.pair Kd.string Kd.string
theorem pk_at {w : World} {A : Option Addr} {n : Nat} {xs : List (ByteArray × ByteArray)} (h : PK.C w A n xs) (i : Nat) (h1 : i < n) :
   ∃ ad, A = some ad ∧ w.cell? (ad.add (i * 2)) = some (.string (xs.getD i (⟨#[]⟩, ⟨#[]⟩)).1) ∧ w.cell? ⟨(ad.add (i * 2)).block, (ad.add (i * 2)).off + 1, none⟩ = some (.string (xs.getD i (⟨#[]⟩, ⟨#[]⟩)).2) := by
 obtain ⟨ad, c, e, hl, ⟨c0, c1, hc, k0, k1⟩, hat⟩ := Kd.C_get h (⟨#[]⟩, ⟨#[]⟩) (i : Int) (by omega) (by omega)
 have k0' : c0 = [.string (xs.getD (i : Int).toNat (⟨#[]⟩, ⟨#[]⟩)).1] := k0
 have k1' : c1 = [.string (xs.getD (i : Int).toNat (⟨#[]⟩, ⟨#[]⟩)).2] := k1
 subst k0' k1'
 subst hc
 rw [Int.toNat_natCast] at hat
 refine ⟨ad, e, hat 0 _ rfl, ?_⟩
 show w.cell? ((ad.add (i * 2)).add 1) = _
 rw [add_add]
 exact hat 1 _ rfl
def labRev (l : List (ByteArray × ByteArray)) : List (L × L) := (l.map fun p => (p.1.data.toList, p.2.data.toList)).reverse
theorem labRev_take (l : List (ByteArray × ByteArray)) (j : Nat) {p : ByteArray × ByteArray} (h : l[j]? = some p) : labRev (l.take (j + 1)) = (p.1.data.toList, p.2.data.toList) :: labRev (l.take j) := by
 unfold labRev
 rw [List.take_add_one, h]; simp
set_option maxHeartbeats 4000000 in
theorem setOf_calls (A : Option Addr) (c : Nat) (l : List (ByteArray × ByteArray)) (hl : l.length ≤ 1000000) (hz : ∀ p ∈ l, p.1.size ≤ 140737488351232 ∧ p.2.size ≤ 140737488351232) (w : World) (hC : PK.C w A l.length l) :
   Calls Tryz.prog 57 #[.slice A l.length c] w fun e w' => e = .returned (.map (some w.heap.size)) ∧ IsLab w' w.heap.size l.length (labRev l) ∧ Below w.heap.size w w' := by
 have HC := Aside0.mk hC
 have hmm := @run_makeMap Tryz.prog
 clear hC
 go_enter Tryz.func57, Tryz.ntmps57
 go_wp2
 clear hmm
 go_loopg [9] (l.length) (fun k v9 w' => ∃ j : Nat, v9 = .int .i64 j ∧ Aside0 (k + j = l.length) ∧ Aside0 (IsLab w' w.heap.size j (labRev (l.take j))) ∧ Aside0 (Below w.heap.size w w'))
 case atStart => exact ⟨0, rfl, ⟨by omega⟩, ⟨IsLab.made w⟩, ⟨below_alloc (Below.refl _ _) _⟩⟩
 case round =>
  obtain ⟨j, rfl, HJ, HI, HB⟩ := hrel
  by_cases hjl : j < l.length
  · obtain ⟨ad, rfl, hk0, hk1⟩ := pk_at (Kd.C_below HC.out HB.out) j hjl
    obtain ⟨p, hp⟩ : ∃ p, l[j]? = some p := ⟨_, List.getElem?_eq_getElem hjl⟩
    have hg : l.getD j (⟨#[]⟩, ⟨#[]⟩) = p := by rw [List.getD_eq_getElem?_getD, hp]; rfl
    rw [hg] at hk0 hk1
    obtain ⟨hz1, hz2⟩ := hz p (List.mem_of_getElem? hp)
    have HTK := Aside0.mk (labRev_take l j hp)
    obtain ⟨pk, pv⟩ := p
    replace hz1 : pk.size ≤ 140737488351232 := hz1
    replace hz2 : pv.size ≤ 140737488351232 := hz2
    clear hp hg
    obtain ⟨D, hown, hmp, hhas, hat⟩ := HI.out
    have HO := Aside0.mk hown
    have HPUT := Aside0.mk (lab_put pk.data.toList pv.data.toList hmp hhas hat)
    clear hown hmp hhas hat
    have HO2 := Aside0.mk (World.ownsMap.alloc HO.out (.cells #[.string pk, .string pv] 42))
    have HB0 := Aside0.mk (below_alloc HB.out (.cells #[.string pk, .string pv] 42))
    have hkey := keyLs pk hz1
    have hval : plainElem (H := Unit) Tryz.prog 9 (.string pv) = some (.lit (.string pv.data.toList), []) := plainElem_string Tryz.underlying9 (by unfold maxLen; omega)
    clear HO
    go_wp2_with (first | (at_mapUpdate; refine wpList_mapUpdate_own _ rfl _ _ _ 96 rfl 9 9 lawLs Tryz.underlying96 (plainElem (H := Unit) Tryz.prog 9) w.heap.size j _ rfl HO2.out (by unfold maxLen; omega) _ _ _ rfl rfl hkey _ [] hval ?_; intro w1 hown1 hg1; have HI1 : Aside0 (IsLab w1 w.heap.size (j + 1) (labRev (l.take (j + 1)))) := ⟨by rw [HTK.out]; exact ⟨_, hown1, HPUT.out⟩⟩; have HB1 := Aside0.mk (pw_below_grown HB0.out _ (below_size HB0.out) hg1 (fun q hq => by cases hq; exact Nat.le_refl _)); clear hown1 hg1))
    go_roundg (l.length - (j + 1))
    case measure => have := HJ.out; omega
    case rel => exact ⟨j + 1, by go_num, ⟨by omega⟩, HI1, HB1⟩
  · have hje : j = l.length := by have := HJ.out; omega
    have HTK : Aside0 (l.take j = l) := ⟨by rw [hje, List.take_length]⟩
    subst hje
    rw [HTK.out] at HI
    go_wp2
    go_ret
    exact ⟨rfl, HI.out, HB.out⟩
structure TV (w : World) : Prop where
 tab : Tab w
 sy : ∃ ev, w.cell? ⟨0, 0, none⟩ = some ev ∧ (ev = .nilIface ∨ ∃ te pe, ev = .iface te pe)
 rg : ∃ ev, w.cell? ⟨1, 0, none⟩ = some ev ∧ (ev = .nilIface ∨ ∃ te pe, ev = .iface te pe)
theorem TV.below {w w' : World} (h : TV w) (hb : Below w.heap.size w w') : TV w' := by
 refine ⟨h.tab.below hb, ?_, ?_⟩
 · obtain ⟨ev, h1, h2⟩ := h.sy
   exact ⟨ev, (hb.cell (World.block_lt_of_cell? w _ h1)).trans h1, h2⟩
 · obtain ⟨ev, h1, h2⟩ := h.rg
   exact ⟨ev, (hb.cell (World.block_lt_of_cell? w _ h1)).trans h1, h2⟩
def pint (l : L) : Option Int := match Lib.parseIntB 64 l with | .ok v => some v | _ => none
theorem pint_ok (s : ByteArray) (hs : s.size ≤ 2147483647) (v : Int) (h : pint s.data.toList = some v) (w : World) :
   Calls Tryz.prog 65 #[.string s, .int .i64 10, .int .i64 64] w fun e w' => e = .returned (.tuple #[.int .i64 v, .nilIface]) ∧ Below w.heap.size w w' := by
 have h1 : Lib.parseIntB 64 s.data.toList = .ok v := by
  unfold pint at h
  cases e : Lib.parseIntB 64 s.data.toList <;> rw [e] at h <;> simp at h
  rw [h]
 refine (Tryz.strconv_ParseInt_10_at64_ok s (by omega) v h1 w).mono ?_
 rintro e w' ⟨rfl, rfl | ⟨t, rfl⟩⟩
 · exact ⟨rfl, Below.refl _ _⟩
 · exact ⟨rfl, bytes_below (Below.refl _ _) (Nat.le_refl _) _ _⟩
theorem pint_bad (s : ByteArray) (hs : s.size ≤ 2147483647) (h : pint s.data.toList = none) (w : World) (hT : TV w) :
   Calls Tryz.prog 65 #[.string s, .int .i64 10, .int .i64 64] w fun e w' => ∃ (v : Int) (g : Nat), e = .returned (.tuple #[.int .i64 v, .iface 163 (.pointer (some ⟨g, 0, none⟩))]) ∧ Below w.heap.size w w' := by
 unfold pint at h
 rcases e : Lib.parseIntB 64 s.data.toList with v | _ | _
 · rw [e] at h; simp at h
 · obtain ⟨ev, h1, h2⟩ := hT.sy
   refine (Any.strconv_ParseInt_10_at64_syntax Tryz.laysC174 s (by omega) e ev w h1 h2).mono ?_
   rintro e w' ⟨g, rfl, _, _, hb⟩
   exact ⟨_, g, rfl, hb⟩
 · obtain ⟨ev, h1, h2⟩ := hT.rg
   refine (Tryz.strconv_ParseInt_10_at64_range s (by omega) e ev w h1 h2).mono ?_
   rintro e w' ⟨g, rfl, _, _, hb⟩
   exact ⟨_, g, rfl, hb⟩
theorem ENew_calls (s : ByteArray) (w : World) :
   Calls Tryz.prog 92 #[.string s] w fun e w' => e = .returned (.iface 166 (.pointer (some ⟨w.heap.size, 0, none⟩))) ∧ Below w.heap.size w w' := by
 go_enter Tryz.func92, Tryz.ntmps92
 go_wp2
 go_ret
 exact ⟨rfl, below_alloc (Below.refl _ _) _⟩
theorem len_nil {xs : List ByteArray} {q : Bool} (h : (xs == []) = q) : (((xs.length : Nat) : Int) == 0) = q ∧ (((xs.length : Nat) : Int) != 0) = !q := by
 subst h
 cases xs with
 | nil => exact ⟨rfl, rfl⟩
 | cons a l =>
   have e1 : (((a :: l).length : Nat) : Int) ≠ 0 := by simp; omega
   exact ⟨by simpa using e1, by simpa using e1⟩
theorem vKey_calls (s : ByteArray) (hs : s.size ≤ 100000000) (w : World) (hT : TV w) :
   Calls Tryz.prog 94 #[.string s] w fun e w' => (if pQ s.data.toList then e = .returned .nilIface else ∃ g : Nat, e = .returned (.iface 166 (.pointer (some ⟨g, 0, none⟩)))) ∧ Below w.heap.size w w' := by
 have HE := Aside0.mk (errs76 s hs w hT.tab)
 have HN := Aside0.mk ENew_calls
 obtain ⟨q, hq⟩ : ∃ q, pQ s.data.toList = q := ⟨_, rfl⟩
 rw [hq] at HE ⊢
 clear hq
 cases q
 · go_enter Tryz.func94, Tryz.ntmps94
   go_wp2_with (first | ((with_reducible refine (HE.out).mono ?_); rintro e w1 ⟨v, xs, rfl, hR, hx, _, _, hb⟩; obtain ⟨h1, h2⟩ := len_nil hx; obtain ⟨A, c, rfl⟩ := Kd.R_slice hR; have HB1 := Aside0.mk hb; clear hR hx hb) | ((with_reducible refine (HN.out _ _).mono ?_); rintro e w2 ⟨rfl, hb⟩; have HB2 := Aside0.mk (below_step HB1.out hb); clear hb))
   go_ret
   exact ⟨⟨_, rfl⟩, HB2.out⟩
 · go_enter Tryz.func94, Tryz.ntmps94
   go_wp2_with (first | ((with_reducible refine (HE.out).mono ?_); rintro e w1 ⟨v, xs, rfl, hR, hx, _, _, hb⟩; obtain ⟨h1, h2⟩ := len_nil hx; obtain ⟨A, c, rfl⟩ := Kd.R_slice hR; have HB1 := Aside0.mk hb; clear hR hx hb))
   go_ret
   exact ⟨rfl, HB1.out⟩
theorem vValue_calls (k s : ByteArray) (hs : s.size ≤ 100000000) (w : World) :
   Calls Tryz.prog 95 #[.string k, .string s] w fun e w' => (if pValue s.data.toList then e = .returned .nilIface else ∃ g : Nat, e = .returned (.iface 166 (.pointer (some ⟨g, 0, none⟩)))) ∧ Below w.heap.size w w' := by
 have HE := Aside0.mk (errs60 s (by omega) w)
 have HN := Aside0.mk ENew_calls
 obtain ⟨q, hq⟩ : ∃ q, (most 63 s.data.toList && labelValue s.data.toList) = q := ⟨_, rfl⟩
 rw [show pValue s.data.toList = q from hq]
 rw [hq] at HE
 clear hq
 cases q
 · go_enter Tryz.func95, Tryz.ntmps95
   go_wp2_with (first | ((with_reducible refine (HE.out).mono ?_); rintro e w1 ⟨v, xs, rfl, hR, hx, _, _, hb⟩; obtain ⟨h1, h2⟩ := len_nil hx; obtain ⟨A, c, rfl⟩ := Kd.R_slice hR; have HB1 := Aside0.mk hb; clear hR hx hb) | ((with_reducible refine (HN.out _ _).mono ?_); rintro e w2 ⟨rfl, hb⟩; have HB2 := Aside0.mk (below_step HB1.out hb); clear hb))
   go_ret
   exact ⟨⟨_, rfl⟩, HB2.out⟩
 · go_enter Tryz.func95, Tryz.ntmps95
   go_wp2_with (first | ((with_reducible refine (HE.out).mono ?_); rintro e w1 ⟨v, xs, rfl, hR, hx, _, _, hb⟩; obtain ⟨h1, h2⟩ := len_nil hx; obtain ⟨A, c, rfl⟩ := Kd.R_slice hR; have HB1 := Aside0.mk hb; clear hR hx hb))
   go_ret
   exact ⟨rfl, HB1.out⟩
end Go.Proofs.YthfjolafikgpoaaGreatDoor.Hand
namespace Go.Proofs.YthfjolafikgpoaaGreatDoor.Laid
open Go.ChangeShapes Go.WideShapes Go.ChangeAt Go.RowKit
def laid : List (String × DataW Unit) := [("math/bits.deBruijn32tab", Rows.laid_math_bits_deBruijn32tab), ("math/bits.deBruijn64tab", Rows.laid_math_bits_deBruijn64tab), ("internal/strconv.uint64pow10", Rows.laid_internal_strconv_uint64pow10), ("strconv.ErrRange", Rows.laid_strconv_ErrRange), ("strconv.ErrSyntax", Rows.laid_strconv_ErrSyntax)]
theorem own : ownKnob Tryz.prog.godebug = none := by kernel_rfl
theorem gPow : Tryz.prog.globalNamed "internal/strconv.uint64pow10" = some 4 := by kernel_rfl
theorem gPowType : (Tryz.prog.globals[4]?).map (·.type) = some 253 := by kernel_rfl
theorem cellsArr : Tryz.prog.cellsOf 253 = 20 := by kernel_rfl
theorem cellsU : Tryz.prog.cellsOf 159 = 1 := by kernel_rfl
theorem cellsE : Tryz.prog.cellsOf 168 = 1 := by kernel_rfl
theorem cellsStr : Tryz.prog.cellsOf 9 = 1 := by kernel_rfl
theorem table {W : World} (h : laidMetH Tryz.prog laid W) : Lib.TabIs Tryz.prog W "internal/strconv.uint64pow10" .u64 Lib.pow10Tab :=
 Lib.tabIs_of_head (rest := [("strconv.ErrRange", Rows.laid_strconv_ErrRange), ("strconv.ErrSyntax", Rows.laid_strconv_ErrSyntax)]) gPow gPowType Tryz.underlying253 Tryz.underlying159 cellsU cellsArr (laidMet.tail (laidMet.tail h))
theorem star : "*" ++ "errors.errorString" = "*errors.errorString" := by decide
theorem rowE (u : TypeId) (h : Tryz.prog.typeName? 3 u = some "*errors.errorString") : u = 166 :=
 typeName_ptr_named (nm := "errors.errorString") (by rw [star]; kernel_rfl) (by kernel_rfl) (by decide) u (by rw [star]; exact h)
theorem gR : Tryz.prog.globalNamed "strconv.ErrRange" = some 1 := by kernel_rfl
theorem gRType : (Tryz.prog.globals[1]?).map (·.type) = some 74 := by kernel_rfl
theorem gS : Tryz.prog.globalNamed "strconv.ErrSyntax" = some 0 := by kernel_rfl
theorem gSType : (Tryz.prog.globals[0]?).map (·.type) = some 74 := by kernel_rfl
theorem tv {W : World} (h : laidMetH Tryz.prog laid W) : Hand.TV W := by
 refine ⟨table h, ?_, ?_⟩
 · obtain ⟨a, s, hv, _⟩ := laid_sentinel (r := []) (laidMet.tail (laidMet.tail (laidMet.tail (laidMet.tail h)))) gS gSType Tryz.underlying74 rowE Tryz.underlying166 Tryz.underlying168 rfl rfl Tryz.underlying9 cellsE cellsStr
   exact ⟨_, by simpa using World.var?_cell gS hv 0, .inr ⟨_, _, rfl⟩⟩
 · obtain ⟨a, s, hv, _⟩ := laid_sentinel (r := [("strconv.ErrSyntax", Rows.laid_strconv_ErrSyntax)]) (laidMet.tail (laidMet.tail (laidMet.tail h))) gR gRType Tryz.underlying74 rowE Tryz.underlying166 Tryz.underlying168 rfl rfl Tryz.underlying9 cellsE cellsStr
   exact ⟨_, by simpa using World.var?_cell gR hv 0, .inr ⟨_, _, rfl⟩⟩
def cellsOf : DataW Unit → Array Value
 | .agg l => (l.map fun
   | .lit (.int k z) => Value.int k z
   | _ => .int .u8 0).toArray
 | _ => #[]
def lay (d : DataW Unit) : Obj → Obj
 | .cells _ t frozen => .cells (cellsOf d) t frozen
 | o => o
noncomputable def low : Nat := (World.holding Tryz.prog default ⟨#[], #[], []⟩).heap.size
noncomputable def layE (k : Nat) : Obj → Obj
 | .cells _ t frozen => .cells #[.iface 166 (.pointer (some ⟨low + k, 0, none⟩))] t frozen
 | o => o
noncomputable def laidWorld (os : Os) : World :=
 let w0 := World.holding Tryz.prog os ⟨#[.cells #[.string ⟨#[118, 97, 108, 117, 101, 32, 111, 117, 116, 32, 111, 102, 32, 114, 97, 110, 103, 101]⟩] 168, .cells #[.string ⟨#[105, 110, 118, 97, 108, 105, 100, 32, 115, 121, 110, 116, 97, 120]⟩] 168], #[], []⟩
 { w0 with heap := (((((w0.heap.modify 5 (lay Rows.laid_math_bits_deBruijn32tab)).modify 6 (lay Rows.laid_math_bits_deBruijn64tab)).modify 4 (lay Rows.laid_internal_strconv_uint64pow10)).modify 1 (layE 0)).modify 0 (layE 1)) }
set_option maxRecDepth 100000 in
theorem laid_met (os : Os) (args : Array Value) : laidMet Tryz.prog laid ((laidWorld os).forCall (fun _ _ => 0) ⟨#[], args, []⟩).memory :=
 laidMet_of_run' 8 (by kernel_rfl) (by kernel_rfl)
end Go.Proofs.YthfjolafikgpoaaGreatDoor.Laid
namespace Go.Proofs.YthfjolafikgpoaaGreatDoor.Heads
open Go
set_option maxRecDepth 100000
def signs : List Char := ['h', 'a', 'r', 'n', 'e', 's', 's', ' ', '2', 'c', 'c', '2', '6', 'd', '4', '3', '0', 'a', '8', '2', '4', 'a', '6', 'd', '2', '4', '0', '4', 'e', 'c', '6', '8', '3', '0', '5', '6', 'e', 'f', '2', 'f', '8', 'b', 'b', '2', '0', '1', '4', '6', 'd', '8', 'c', '7', '9', 'f', '2', 'c', 'e', '2', '2', '1', '0', '1', '2', 'b', '1', '5', '1', '7', '2', '2', 'a', 'a', ' ', 'c', 'u', 't', ' ', 'a', 't', ' ', 'g', 'i', 'v', 'e', 'n', '.', 'e', 'x', 'a', 'm', 'p', 'l', 'e', '/', 'p', 'u', 'b', '-', 'e', 'p', 'o', 'd', 'e', '/', 'l', 'a', 'w', 's', '.', 'F', 'n', 'S', 'e', 'l', 'R', 'o', 'u', 'n', 'd', ' ', 'g', 'i', 'v', 'e', 'n', '.', 'e', 'x', 'a', 'm', 'p', 'l', 'e', '/', 'p', 'u', 'b', '-', 'e', 'p', 'o', 'd', 'e', '/', 'l', 'a', 'w', 's', '.', 'F', 'n', 'S', 'e', 'l', 'A', 'd', 'd', ' ', 'g', 'i', 'v', 'e', 'n', '.', 'e', 'x', 'a', 'm', 'p', 'l', 'e', '/', 'p', 'u', 'b', '-', 'e', 'p', 'o', 'd', 'e', '/', 'l', 'a', 'w', 's', '.', 'F', 'n', 'S', 'e', 'l', 'O', 'f', 'S', 'e', 't', ' ', 'g', 'i', 'v', 'e', 'n', '.', 'e', 'x', 'a', 'm', 'p', 'l', 'e', '/', 'p', 'u', 'b', '-', 'e', 'p', 'o', 'd', 'e', '/', 'l', 'a', 'w', 's', '.', 'F', 'n', 'S', 'e', 'l', 'D', 'e', 'c', 'i', 'd', 'e', 's', 'L', 'a', 'b', 'e', 'l', 's', ' ', 'g', 'i', 'v', 'e', 'n', '.', 'e', 'x', 'a', 'm', 'p', 'l', 'e', '/', 'p', 'u', 'b', '-', 'e', 'p', 'o', 'd', 'e', '/', 'l', 'a', 'w', 's', '.', 'F', 'n', 'L', 'a', 'b', 'e', 'l', 's', 'R', 'o', 'u', 'n', 'd', ' ', 'g', 'i', 'v', 'e', 'n', '.', 'e', 'x', 'a', 'm', 'p', 'l', 'e', '/', 'p', 'u', 'b', '-', 'e', 'p', 'o', 'd', 'e', '/', 'l', 'a', 'w', 's', '.', 'F', 'n', 'S', 'e', 'l', 'D', 'e', 'c', 'i', 'd', 'e', 's', ' ', 'g', 'i', 'v', 'e', 'n', '.', 'e', 'x', 'a', 'm', 'p', 'l', 'e', '/', 'p', 'u', 'b', '-', 'e', 'p', 'o', 'd', 'e', '/', 'l', 'a', 'w', 's', '.', 'F', 'n', 'S', 'e', 'l', 'P', 'a', 'r', 's', 'e', 's', ' ', 'g', 'i', 'v', 'e', 'n', '.', 'e', 'x', 'a', 'm', 'p', 'l', 'e', '/', 'p', 'u', 'b', '-', 'e', 'p', 'o', 'd', 'e', '/', 'l', 'a', 'w', 's', '.', 'F', 'n', 'S', 'e', 'l', 'R', 'e', 'f', 'u', 's', 'e', 's']
def ws : List (List Char) := [['c', 'u', 't'], ['a', 't'], ['g', 'i', 'v', 'e', 'n', '.', 'e', 'x', 'a', 'm', 'p', 'l', 'e', '/', 'p', 'u', 'b', '-', 'e', 'p', 'o', 'd', 'e', '/', 'l', 'a', 'w', 's', '.', 'F', 'n', 'S', 'e', 'l', 'R', 'o', 'u', 'n', 'd'], ['g', 'i', 'v', 'e', 'n', '.', 'e', 'x', 'a', 'm', 'p', 'l', 'e', '/', 'p', 'u', 'b', '-', 'e', 'p', 'o', 'd', 'e', '/', 'l', 'a', 'w', 's', '.', 'F', 'n', 'S', 'e', 'l', 'A', 'd', 'd'], ['g', 'i', 'v', 'e', 'n', '.', 'e', 'x', 'a', 'm', 'p', 'l', 'e', '/', 'p', 'u', 'b', '-', 'e', 'p', 'o', 'd', 'e', '/', 'l', 'a', 'w', 's', '.', 'F', 'n', 'S', 'e', 'l', 'O', 'f', 'S', 'e', 't'], ['g', 'i', 'v', 'e', 'n', '.', 'e', 'x', 'a', 'm', 'p', 'l', 'e', '/', 'p', 'u', 'b', '-', 'e', 'p', 'o', 'd', 'e', '/', 'l', 'a', 'w', 's', '.', 'F', 'n', 'S', 'e', 'l', 'D', 'e', 'c', 'i', 'd', 'e', 's', 'L', 'a', 'b', 'e', 'l', 's'], ['g', 'i', 'v', 'e', 'n', '.', 'e', 'x', 'a', 'm', 'p', 'l', 'e', '/', 'p', 'u', 'b', '-', 'e', 'p', 'o', 'd', 'e', '/', 'l', 'a', 'w', 's', '.', 'F', 'n', 'L', 'a', 'b', 'e', 'l', 's', 'R', 'o', 'u', 'n', 'd'], ['g', 'i', 'v', 'e', 'n', '.', 'e', 'x', 'a', 'm', 'p', 'l', 'e', '/', 'p', 'u', 'b', '-', 'e', 'p', 'o', 'd', 'e', '/', 'l', 'a', 'w', 's', '.', 'F', 'n', 'S', 'e', 'l', 'D', 'e', 'c', 'i', 'd', 'e', 's'], ['g', 'i', 'v', 'e', 'n', '.', 'e', 'x', 'a', 'm', 'p', 'l', 'e', '/', 'p', 'u', 'b', '-', 'e', 'p', 'o', 'd', 'e', '/', 'l', 'a', 'w', 's', '.', 'F', 'n', 'S', 'e', 'l', 'P', 'a', 'r', 's', 'e', 's'], ['g', 'i', 'v', 'e', 'n', '.', 'e', 'x', 'a', 'm', 'p', 'l', 'e', '/', 'p', 'u', 'b', '-', 'e', 'p', 'o', 'd', 'e', '/', 'l', 'a', 'w', 's', '.', 'F', 'n', 'S', 'e', 'l', 'R', 'e', 'f', 'u', 's', 'e', 's']]
theorem signs_eq : Tryz.prog.initOrder.toList = signs := (congrArg String.toList (show Tryz.prog.initOrder = String.ofList signs by kernel_rfl)).trans String.toList_ofList
theorem words_eq : behindMainWord (wordsSigns signs) = ws := by kernel_rfl
theorem words : behindMainWord (wordsSigns Tryz.prog.initOrder.toList) = ws := by rw [signs_eq]; exact words_eq
theorem mayEnter_of {P : Program} (h : behindMainWord (wordsSigns P.initOrder.toList) = ws) (h1 : P.laysLater = false) (h2 : P.bearsReflect = false) (h3 : P.doorFits [] = true) : P.mayEnter = true := by
 unfold Program.mayEnter
 rw [h, h1, h2]
 generalize P.doorFits = D at h3 ⊢
 exact Eq.trans (b := D []) (by kernel_rfl) h3
theorem headLifts_of {P : Program} (h : behindMainWord (wordsSigns P.initOrder.toList) = ws) : P.headLifts = [] := by unfold Program.headLifts; rw [h]; kernel_rfl
theorem liftsFinal_of {P : Program} (h : behindMainWord (wordsSigns P.initOrder.toList) = ws) : P.liftsFinal = false := by unfold Program.liftsFinal; simp only [h, headLifts_of h]; kernel_rfl
theorem make_of {P : Program} (h : behindMainWord (wordsSigns P.initOrder.toList) = ws) : P.make = some .cut := by unfold Program.make; rw [h]; kernel_rfl
theorem mainIs_of {P : Program} (h : P.initOrder.toList = signs) : P.mainIs = some (true, "2cc26d430a824a6d2404ec683056ef2f8bb20146d8c79f2ce221012b151722aa".toList) := by unfold Program.mainIs; rw [h]; kernel_rfl
theorem laysLater : Tryz.prog.laysLater = false := by kernel_rfl
theorem bearsReflect : Tryz.prog.bearsReflect = false := by kernel_rfl
theorem doorFits : Tryz.prog.doorFits [] = true := by kernel_rfl
theorem mayEnter : Tryz.prog.mayEnter = true := mayEnter_of words laysLater bearsReflect doorFits
theorem liftsFinal : Tryz.prog.liftsFinal = false := liftsFinal_of words
theorem make : Tryz.prog.make = some .cut := make_of words
theorem mainIs : Tryz.prog.mainIs = some (true, "2cc26d430a824a6d2404ec683056ef2f8bb20146d8c79f2ce221012b151722aa".toList) := mainIs_of signs_eq
end Go.Proofs.YthfjolafikgpoaaGreatDoor.Heads
set_option maxRecDepth 100000
namespace Go.Proofs.YthfjolafikgpoaaGreatDoor.Laid
open Go.Joins Go.ChangeShapes Go.WideShapes Go.RowKit Go.Deep Go.ChangeAt Go.Proofs.YthfjolafikgpoaaGreatDoorW.PrintWords Go.Proofs.YthfjolafikgpoaaGreatDoor.Hand
section
variable {H : Type} {enc : TypeId × Value → H} {P : Program} {w : World} {base : Nat} {spare : Nat → Bool} {held : Bool}
theorem open_slice_fields {t e : TypeId} {fs : Array Field} {fuel : Nat} {cs : List Value} {x : DataW H × List MemPlace} (ht : P.underlying t = some (.slice e)) (he : P.underlying e = some (.struct fs))
   (hone : oneCellFields P fs = true) (hC : P.cellsOf e = fs.size) (h : DataW.trod enc P w base spare held fuel t cs = some x) :
   (cs = [.slice none 0 0] ∧ x = (.nil, [])) ∨
   ∃ (a : Addr) (len cap m : Nat) (D : Nat → DataW H) (Pl : Nat → List MemPlace), cs = [.slice (some a) len cap] ∧ base ≤ a.block ∧ len ≤ cap ∧ cap ≤ maxLen ∧ m = (if spare a.block then cap else len) ∧
     x = (.slice ((List.range len).map D) ((List.range (m - len)).map fun j => D (len + j)), MemPlace.row a (m * fs.size) ++ (List.range m).flatMap Pl) ∧
     ∀ i, i < m → ∃ (ys : List (DataW H × List MemPlace)) (n : Nat), D i = .agg (ys.map (·.1)) ∧ Pl i = ys.flatMap (·.2) ∧ ys.length = fs.size ∧
       ∀ (j : Nat) (f : Field), fs[j]? = some f → ∃ (v : Value) (y : DataW H × List MemPlace), w.cell? (a.add (i * fs.size + j)) = some v ∧ ys[j]? = some y ∧ DataW.trod enc P w base spare held n f.type [v] = some y := by
 rcases open_slice ht h with h0 | ⟨a, len, cap, m, n, D, Pl, hcs, hb, hl, hm, hmm, hx, hi⟩
 · exact .inl h0
 · refine .inr ⟨a, len, cap, m, D, Pl, hcs, hb, hl, hm, hmm, by rw [hC] at hx; exact hx, fun i him => ?_⟩
   obtain ⟨cs', hc, ht'⟩ := hi i him
   rw [hC] at hc
   obtain ⟨ys, n', hn', hy, hlen, hyl, hf⟩ := DataW.trod_struct he ht'
   obtain ⟨_, hcl, hat⟩ := World.cells?_some hc
   simp only [Prod.mk.injEq] at hy
   refine ⟨ys, n', hy.1, hy.2, hyl, fun j f hj => ?_⟩
   obtain ⟨ho, hk⟩ := hone_of hone j f hj
   have hjl : j < fs.size := (Array.getElem?_eq_some_iff.1 hj).1
   have hcell := hat j hjl
   have hv : cs'[j]? = some (cs'[j]'(by omega)) := List.getElem?_eq_getElem (by omega)
   have h1 := hf j f hj
   rw [ho, hk] at h1
   have hone' : (cs'.drop j).take 1 = [cs'[j]'(by omega)] := by
    rw [List.drop_eq_getElem_cons (by omega)]
    rfl
   rw [hone'] at h1
   have hys : ys[j]? = some (ys[j]'(by omega)) := List.getElem?_eq_getElem (by omega)
   refine ⟨_, _, ?_, hys, h1.trans hys⟩
   rw [← Go.Deep.add_add, hcell, hv]
end
section
variable {H : Type} {enc : TypeId × Value → H} {W : World}
theorem c_of_strings {fuel : Nat} {cs : List Value} {x : DataW H × List MemPlace} (h : DataW.trod enc Tryz.prog W 0 (fun _ => true) true fuel 51 cs = some x) :
   ∃ (A : Option Addr) (c n : Nat) (vs : List ByteArray), cs = [.slice A n c] ∧ vs.length = n ∧ n ≤ c ∧ Kd.C Kd.string W A n vs := by
 rcases open_strings (e := 9) Tryz.underlying51 Tryz.underlying9 (by kernel_rfl) h with ⟨hcs, _⟩ | ⟨a, len, cap, ss, hcs, _, hl, hm, hz, _, hcell, _⟩
 · exact ⟨none, 0, 0, [], hcs, rfl, Nat.le_refl _, Kd.C_nil _ _⟩
 · simp only [if_true] at hz
   unfold maxLen at hm
   refine ⟨some a, cap, len, ss.take len, hcs, by simp; omega, hl, ?_⟩
   refine Kd.C_of_reads (d := ByteArray.empty) ⟨by simp; omega, by omega, fun _ => ⟨a, rfl, fun j hj => ?_⟩⟩
   rw [hcell j (by omega)]
   congr 2
   rw [List.getD_eq_getElem?_getD, List.getD_eq_getElem?_getD, List.getElem?_take_of_lt hj]
end
end Go.Proofs.YthfjolafikgpoaaGreatDoor.Laid
