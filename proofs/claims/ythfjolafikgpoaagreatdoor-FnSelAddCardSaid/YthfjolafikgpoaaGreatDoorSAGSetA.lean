/- Sets of texts: a block of memory that is a map with texts as keys, told by a list of its keys; NewString, Insert, Delete, Has, HasAll, HasAny, Len. -/
import Derived.Test.YthfjolafikgpoaaGreatDoorSAGNmA
import Derived.Test.YthfjolafikgpoaaGreatDoorSAM4
import Derived.Maps.OwnSet
import Derived.Maps.AppendAt
import Derived.Maps.RangeWalk
import Derived.StringKeys
import Derived.Test.YthfjolafikgpoaaGreatDoorSAShelf
import Derived.Deep.QuietTactic
import Derived.RegionTactic
import Derived.Sort.Walk0
namespace Go.Proofs.YthfjolafikgpoaaGreatDoor.Hand
open Go.RowKit Go.Maps Go.Proofs.YthfjolafikgpoaaGreatDoorW.PrintWords Go.Proofs.YthfjolafikgpoaaGreatDoorW.PrintLast Go.Proofs.YthfjolafikgpoaaGreatDoorW.PrintMore Go.Proofs.YthfjolafikgpoaaGreatDoor.Base
set_option linter.unusedVariables false
set_option linter.unusedSimpArgs false
set_option maxRecDepth 100000
theorem lawK : Keyed Tryz.prog 9 := string_keyed Tryz.underlying9
def addK (ks : List L) (x : L) : List L := if ks.contains x then ks else ks ++ [x]
def delK (ks : List L) (x : L) : List L := ks.filter fun y => !(y == x)
theorem addK_contains (ks : List L) (x y : L) : (addK ks x).contains y = (ks.contains y || y == x) := by
 unfold addK
 split
 · rename_i h
   by_cases e : y = x
   · subst e; rw [h]; simp
   · simp [e]
 · rw [Bool.eq_iff_iff]; simp
theorem addK_nodup {ks : List L} (h : ks.Nodup) (x : L) : (addK ks x).Nodup := by
 unfold addK
 split
 · exact h
 · rename_i hc
   rw [List.nodup_append]
   refine ⟨h, by simp, fun a ha b hb => ?_⟩
   obtain rfl : b = x := by simpa using hb
   rintro rfl
   exact hc (by simpa using ha)
theorem addK_len (ks : List L) (x : L) : (addK ks x).length = if ks.contains x then ks.length else ks.length + 1 := by
 unfold addK; split <;> simp
theorem delK_contains (ks : List L) (x y : L) : (delK ks x).contains y = (ks.contains y && !(y == x)) := by
 unfold delK
 rw [Bool.eq_iff_iff]
 simp
theorem delK_nodup {ks : List L} (h : ks.Nodup) (x : L) : (delK ks x).Nodup := h.filter _
def IsSet (w : World) (b N : Nat) (ks : List L) : Prop :=
 ∃ D : DataW Unit, w.ownsMap Tryz.prog 9 unitElem b N D ∧ ks.Nodup ∧ (∀ x : L, Maps.has D (.string x) = ks.contains x) ∧ Maps.size D = ks.length
theorem IsSet.map {w : World} {b N : Nat} {ks : List L} (h : IsSet w b N ks) : ∃ es c, w.heap[b]? = some (.map es c) := by
 obtain ⟨D, ⟨es, c, hb, _⟩, _⟩ := h; exact ⟨es, c, hb⟩
theorem IsSet.nodup {w : World} {b N : Nat} {ks : List L} (h : IsSet w b N ks) : ks.Nodup := by obtain ⟨D, _, hn, _⟩ := h; exact hn
theorem IsSet.mono {w : World} {b N M : Nat} {ks : List L} (h : IsSet w b N ks) (hm : N ≤ M) : IsSet w b M ks := by
 obtain ⟨D, h1, h2⟩ := h; exact ⟨D, h1.mono hm, h2⟩
theorem IsSet.kept {w w' : World} {b N : Nat} {ks : List L} {row : Option Nat} (h : IsSet w b N ks) (hg : w.grownBy w' row) (hne : some b ≠ row) : IsSet w' b N ks := by
 obtain ⟨D, h1, h2⟩ := h; exact ⟨D, h1.kept hg hne, h2⟩
theorem IsSet.below {w w' : World} {b N : Nat} {ks : List L} (h : IsSet w b N ks) (hb : Below w.heap.size w w') : IsSet w' b N ks := h.kept (grown_of_below hb none) (by simp)
theorem IsSet.alloc {w : World} {b N : Nat} {ks : List L} (h : IsSet w b N ks) (o : Obj) : IsSet (w.alloc o) b N ks := h.below (below_alloc (Below.refl _ _) o)
theorem IsSet.made (w : World) : IsSet (w.alloc (.map #[] 0)) w.heap.size 0 [] := ⟨_, World.ownsMap_made _ _ _ _, List.nodup_nil, fun x => rfl, rfl⟩
theorem string_key (x : L) : WideAt.IsKeyLit (.string x) := trivial
theorem C_map {w w' : World} {b : Nat} {A : Option Addr} {n : Nat} {xs : List ByteArray} (h : Kd.C Kd.string w A n xs) (hm : ∃ es c, w.heap[b]? = some (.map es c)) (hg : w.grownBy w' (some b)) : Kd.C Kd.string w' A n xs := by
 refine Kd.C_keep (⟨#[]⟩ : ByteArray) h ⟨hg.size, fun i hi hne _ => hg.block i hi (by simpa using hne)⟩ (fun ad e hn hb => ?_)
 subst e
 refine Kd.C_not_empty h hn (by decide) ?_
 obtain ⟨es, c, hm⟩ := hm
 unfold World.cell?
 rw [hb, hm]
def addAll (ks : List L) (l : List ByteArray) : List L := l.foldl (fun ks p => addK ks p.data.toList) ks
theorem addAll_snoc (ks : List L) (l : List ByteArray) (p : ByteArray) : addAll ks (l ++ [p]) = addK (addAll ks l) p.data.toList := by unfold addAll; rw [List.foldl_append]; rfl
theorem key_string (s : ByteArray) (hs : s.size ≤ 140737488351232) : keyOf Tryz.prog 9 (.string s) = some (.string s.data.toList) := WideMaps.keyOf_string_mk Tryz.underlying9 (by unfold maxLen; omega)
theorem put_set {D : DataW Unit} {ks : List L} {w : World} {b N : Nat} (x : L) (h1 : w.ownsMap Tryz.prog 9 unitElem b N (D.put (.string x) (.agg []))) (h0 : Maps.Tidy D) (hn : ks.Nodup) (hh : ∀ x : L, Maps.has D (.string x) = ks.contains x) (hs : Maps.size D = ks.length) : IsSet w b N (addK ks x) := by
 refine ⟨_, h1, addK_nodup hn x, fun y => ?_, ?_⟩
 · rw [addK_contains]
   by_cases e : y = x
   · subst e; rw [has_put_same h0.isMap (string_key y)]; simp
   · rw [has_put_other (by simpa using e), hh]; simp [e]
 · rw [size_put h0, hh, addK_len, hs]
set_option maxHeartbeats 1000000 in
theorem Insert_calls (b N : Nat) (ks : List L) (A : Option Addr) (c : Nat) (xs : List ByteArray) (hx : ∀ p ∈ xs, p.size ≤ 140737488351232) (hn : N + xs.length ≤ 1000000) (w : World) (h : IsSet w b N ks) (hr : Kd.C Kd.string w A xs.length xs) (hc : xs.length ≤ c) :
   Calls Tryz.prog 175 #[.map (some b), .slice A xs.length c] w fun e w' => e = .returned (.map (some b)) ∧ IsSet w' b (N + xs.length) (addAll ks xs) ∧ w.grownBy w' (some b) := by
 have HX := Aside0.mk hx
 have HS := Aside0.mk h
 have HR := Aside0.mk hr
 clear hx h hr
 go_enter Tryz.func175, Tryz.ntmps175
 go_wp2
 go_loopg [6, 9] (xs.length) (fun g v6 v9 w' => ∃ i : Nat, v9 = .int .i64 i ∧ Aside0 (g + i = xs.length) ∧ Aside0 (IsSet w' b (N + i) (addAll ks (xs.take i))) ∧ Aside0 (w.grownBy w' (some b)) ∧ Aside0 (Kd.C Kd.string w' A xs.length xs))
 case atStart => exact ⟨0, rfl, ⟨by omega⟩, ⟨HS.out⟩, ⟨World.grownBy.refl w _⟩, HR⟩
 case round =>
  clear HS HR
  obtain ⟨i, rfl, HI, HS, HG, HR⟩ := hrel
  have hi : i ≤ xs.length := by have := HI.out; omega
  by_cases hlt : i < xs.length
  · obtain ⟨ad, eA, hcell⟩ := Kd.at_string HR.out (i : Int) (by omega) (by omega)
    subst eA
    obtain ⟨p, hp⟩ : ∃ p, xs[i] = p := ⟨_, rfl⟩
    rw [show rdOf ByteArray.empty xs (i : Int) = p by unfold rdOf; rw [Int.toNat_natCast, getD_of _ _ hlt]; exact hp, Int.toNat_natCast] at hcell
    have hkey := key_string p (by rw [← hp]; exact HX.out _ (List.getElem_mem hlt))
    have HT : Aside0 (addK (addAll ks (xs.take i)) p.data.toList = addAll ks (xs.take (i + 1))) := ⟨by rw [← addAll_snoc, ← hp, take_one xs i hlt]⟩
    obtain ⟨D, hown, hnd, hhas, hsz⟩ := HS.out
    have HO := Aside0.mk hown
    have HD := Aside0.mk (And.intro hnd (And.intro hhas hsz))
    have HM := Aside0.mk HS.out.map
    clear hp hown hnd hhas hsz HS
    go_wp2_with (first | (at_mapUpdate; refine wpList_mapUpdate_own _ rfl _ _ _ 209 rfl 9 245 lawK Tryz.underlying209 (unitElem (H := Unit)) b (N + i) _ rfl HO.out (by unfold maxLen; omega) _ _ _ rfl rfl hkey _ [] unitElem_mk ?_; intro w1 hown1 hgrow1; have HS1 := Aside0.mk (put_set p.data.toList hown1 (HO.out.tidy lawK) HD.out.1 HD.out.2.1 HD.out.2.2); have HG1 := Aside0.mk (HG.out.andThen hgrow1 (fun j hj => by cases hj; exact Or.inr rfl)); have HR1 := Aside0.mk (C_map HR.out HM.out hgrow1); clear hown1 hgrow1 HO HG HR))
    go_roundg (gk - 1)
    case measure => have := HI.out; omega
    case rel => exact ⟨i + 1, by go_num, ⟨by have := HI.out; omega⟩, ⟨by rw [← HT.out]; exact HS1.out⟩, HG1, HR1⟩
  · have hli : i = xs.length := by omega
    have hS := HS.out
    rw [hli, List.take_length] at hS
    have HS2 := Aside0.mk hS
    clear hS hli HS
    go_wp2
    go_ret
    exact ⟨rfl, HS2.out, HG.out⟩
theorem Len_calls (b N : Nat) (ks : List L) (w : World) (h : IsSet w b N ks) :
   Calls Tryz.prog 188 #[.map (some b)] w fun e w' => e = .returned (.int .i64 ks.length) ∧ w = w' := by
 obtain ⟨D, hown, hnd, hhas, hsz⟩ := h
 have HO := Aside0.mk hown
 rw [← hsz]
 clear hown hnd hhas hsz
 go_enter Tryz.func188, Tryz.ntmps188
 go_wp2_with (first | (at_len; refine wpList_len_own _ rfl _ 209 rfl 9 245 Tryz.underlying209 _ b N _ rfl HO.out ?_))
 go_ret
 exact ⟨rfl, rfl⟩
theorem New_calls (A : Option Addr) (c : Nat) (xs : List ByteArray) (hx : ∀ p ∈ xs, p.size ≤ 140737488351232) (hn : xs.length ≤ 1000000) (w : World) (hr : Kd.C Kd.string w A xs.length xs) (hc : xs.length ≤ c) :
   Calls Tryz.prog 174 #[.slice A xs.length c] w fun e w' => ∃ b, e = .returned (.map (some b)) ∧ w.heap.size ≤ b ∧ IsSet w' b xs.length (addAll [] xs) ∧ Below w.heap.size w w' := by
 have hmm := @run_makeMap Tryz.prog
 have H1 : Aside0 (Calls Tryz.prog 175 #[.map (some w.heap.size), .slice A xs.length c] (w.alloc (.map #[] 0)) fun e w' => e = .returned (.map (some w.heap.size)) ∧ IsSet w' w.heap.size (0 + xs.length) (addAll [] xs) ∧ (w.alloc (.map #[] 0)).grownBy w' (some w.heap.size)) := ⟨Insert_calls w.heap.size 0 [] A c xs hx (by omega) _ (IsSet.made w) (Kd.C_alloc hr _) hc⟩
 clear hx hr
 go_enter Tryz.func174, Tryz.ntmps174
 go_wp2_with (first | ((with_reducible refine (H1.out).mono ?_); rintro e w1 ⟨rfl, h1, h2⟩; have HS := Aside0.mk h1; have HG := Aside0.mk h2; clear h1 h2))
 go_ret
 exact ⟨_, rfl, Nat.le_refl _, HS.out.mono (by omega), (below_alloc (Below.refl _ _) _).grown HG.out (by simp) (fun j hj => by cases hj; exact Nat.le_refl _)⟩
theorem C_lit (W : World) (H : Nat) (hH : W.heap.size = H) (xs : List ByteArray) (hn : xs.length ≤ 1000000) : Kd.C Kd.string (W.alloc (.cells (xs.map Value.string).toArray 9)) (some ⟨H, 0, none⟩) xs.length xs := by
 subst hH
 have hb := heap_alloc_new W (.cells (xs.map Value.string).toArray 9)
 refine Kd.C_of_reads (d := ByteArray.empty) ⟨rfl, by omega, fun _ => ⟨_, rfl, fun j hj => ?_⟩⟩
 rw [add_at, blk_cell hb, Nat.zero_add]
 simp [hj]
end Go.Proofs.YthfjolafikgpoaaGreatDoor.Hand
namespace Go.Proofs.YthfjolafikgpoaaGreatDoor.Hand
open Go.RowKit Go.Proofs.YthfjolafikgpoaaGreatDoorW.PrintWords Go.Proofs.YthfjolafikgpoaaGreatDoorW.PrintLast Go.Proofs.YthfjolafikgpoaaGreatDoorW.PrintMore Go.Proofs.YthfjolafikgpoaaGreatDoor.Base
open Go.Sort (Holds PermIn SortedIn putRow)
set_option linter.unusedVariables false
set_option linter.unusedSimpArgs false
set_option maxRecDepth 100000
abbrev encT (x : L) : Value := .string (mk x)
theorem srt_len (p : Option Addr) (n c : Nat) (W : World) : LenM Tryz.prog 260 (.slice p n c) n W := by
 unfold LenM
 go_enter Tryz.func260, Tryz.ntmps260
 go_wp2
 go_ret
 exact ⟨rfl, 0, rfl⟩
theorem lessString_calls (a b : ByteArray) (w : World) : Calls Tryz.prog 263 #[.string a, .string b] w fun e w' => e = .returned (.bool (Op.bytesLess a.toList b.toList)) ∧ w = w' := by
 go_enter Tryz.func263, Tryz.ntmps263
 go_wp2
 go_ret
 exact ⟨rfl, rfl⟩
set_option maxHeartbeats 2000000 in
theorem srt_less (blk off c size : Nat) (W : World) (G : Nat → L) (hc : ∀ t, t < size → W.cell? ⟨blk, off + t, none⟩ = some (encT (G t))) (i j : Nat) (hi : i < size) (hj : j < size) (_hsz : size < 4611686018427387904) :
   Calls Tryz.prog 261 #[.slice (some ⟨blk, off, none⟩) size c, .int .i64 i, .int .i64 j] W fun e w' => e = .returned (.bool (Sort.ltStr (G i) (G j))) ∧ ∃ q, w' = W.drewN q := by
 have ci := hc i hi
 have cj := hc j hj
 obtain ⟨a, ha⟩ : ∃ a, mk (G i) = a := ⟨_, rfl⟩
 obtain ⟨b, hb⟩ : ∃ b, mk (G j) = b := ⟨_, rfl⟩
 have HP : Aside0 (Sort.ltStr (G i) (G j) = Op.bytesLess a.toList b.toList) := ⟨by rw [← ha, ← hb, mk_toList, mk_toList]; simp [Sort.ltStr, bytesLess_eq]⟩
 unfold encT at ci cj
 rw [ha] at ci; rw [hb] at cj
 have H1 := Aside0.mk (lessString_calls a b)
 rw [HP.out]
 clear ha hb HP hc
 go_enter Tryz.func261, Tryz.ntmps261
 go_wp2
 go_quiet ((go_at_call 263; exact Calls.quiet_of_same ((H1.out _).mono fun e w' ⟨h1, h2⟩ => ⟨h1, h2.symm⟩)))
 go_wp2
 go_ret
 exact ⟨rfl, nq, rfl⟩
set_option maxHeartbeats 2000000 in
theorem srt_swap (blk off c size : Nat) (W : World) (x y : L) (i j : Nat) (hi : i < size) (hj : j < size) (_hsz : size < 4611686018427387904)
   (ci : W.cell? ⟨blk, off + i, none⟩ = some (encT x)) (cj : W.cell? ⟨blk, off + j, none⟩ = some (encT y)) (fi : W.frozen? ⟨blk, off + i, none⟩ = false) (fj : W.frozen? ⟨blk, off + j, none⟩ = false) :
   Calls Tryz.prog 262 #[.slice (some ⟨blk, off, none⟩) size c, .int .i64 i, .int .i64 j] W fun e w' => e = .returned (.tuple #[]) ∧ ∃ q, w' = ((W.setCell ⟨blk, off + i, none⟩ (encT y)).setCell ⟨blk, off + j, none⟩ (encT x)).drewN q := by
 obtain ⟨v', hy'⟩ := cell?_setCell_some (w := W) (p := ⟨blk, off + i, none⟩) (x := encT y) (q := ⟨blk, off + j, none⟩) cj
 go_enter Tryz.func262, Tryz.ntmps262
 go_wp2
 go_region
 all_goals (try go_wp2)
 all_goals go_end0
 all_goals exact ⟨rfl, 1, rfl⟩
theorem srt_lenR (p : Option Addr) (n c : Nat) : Reaches Tryz.prog 233 (.slice p n c) "Len" 260 := ⟨fun _ => by kernel_rfl, enters_of Tryz.func260 (by kernel_rfl) rfl⟩
theorem srt_lessR (p : Option Addr) (n c : Nat) : Reaches Tryz.prog 233 (.slice p n c) "Less" 261 := ⟨fun _ => by kernel_rfl, enters_of Tryz.func261 (by kernel_rfl) rfl⟩
theorem srt_swapR (p : Option Addr) (n c : Nat) : Reaches Tryz.prog 233 (.slice p n c) "Swap" 262 := ⟨fun _ => by kernel_rfl, enters_of Tryz.func262 (by kernel_rfl) rfl⟩
theorem srt_row (g cap : Nat) (d : Array L) (h2 : 2 ≤ d.size) (hsz : d.size < 4611686018427387904) (w : World) (hH : Holds encT w g 0 d) (hblk : g < w.heap.size) :
   Calls Tryz.prog 100 #[.iface 233 (.slice (some ⟨g, 0, none⟩) d.size cap)] w fun e w' =>
    e = .returned (.tuple #[]) ∧ ∃ d' n os, PermIn 0 d.size d d' ∧ SortedIn Sort.ltStr 0 d.size d' ∧ w' = Sort.grow (putRow encT (Sort.ahead w n) g 0 d') os := by
 exact Tryz.sort_Sort_sorted 233 (.slice (some ⟨g, 0, none⟩) d.size cap) 260 261 262 (srt_lenR _ _ _) (srt_lessR _ _ _) (srt_swapR _ _ _) encT Sort.ltStr Sort.swo_ltStr
   g 0 d h2 hsz w (srt_len _ _ _ _) (fun m os dk hs i j hi hj => srt_less g 0 cap d.size _ (fun t => dk[t]!) (fun t ht => ((holds_sortWorld encT w g 0 m d dk os hblk hH hs) t (by omega)).1) i j hi hj hsz)
   (fun W dk hH hs i j hi hj => srt_swap g 0 cap d.size W dk[i]! dk[j]! i j hi hj hsz (hH i (by omega)).1 (hH j (by omega)).1 (hH i (by omega)).2 (hH j (by omega)).2) hH hblk
theorem own_holds {W : World} {base g cap : Nat} {l : List L} (hR : Kd.R Kd.string 9 W base (fun _ => True) (.slice (some ⟨g, 0, none⟩) l.length cap) (l.map mk)) : Holds encT W g 0 l.toArray := by
 intro j hj
 have hj' : j < l.length := by simpa using hj
 obtain ⟨h1, h2⟩ := Kd.R_celln (⟨#[]⟩ : ByteArray) hR (j : Int) (by omega) (by omega)
 rw [Int.toNat_natCast] at h1 h2
 rw [Nat.zero_add]
 refine ⟨?_, h2⟩
 rw [h1]
 unfold encT rdOf
 rw [Int.toNat_natCast, List.getD_eq_getElem?_getD, List.getElem?_map, List.getElem?_eq_getElem hj']
 simp [hj']
theorem row_put {W : World} {base g cap : Nat} {l : List L} (hR : Kd.R Kd.string 9 W base (fun _ => True) (.slice (some ⟨g, 0, none⟩) l.length cap) (l.map mk)) (d : Array L) (hd : d.size = l.length) (n : Nat) (os : Array Obj) :
   Kd.R Kd.string 9 (Sort.grow (putRow encT (Sort.ahead W n) g 0 d) os) base (fun _ => True) (.slice (some ⟨g, 0, none⟩) l.length cap) (d.toList.map mk) ∧ W.grownBy (Sort.grow (putRow encT (Sort.ahead W n) g 0 d) os) (some g) := by
 have hown := Kd.own_of_R hR
 rw [List.length_map] at hown
 obtain ⟨hl, ⟨e, _⟩ | ⟨g', cap', cur, e, hbase, hcur, hn, hcm, hsz, htk⟩⟩ := hown
 · exact absurd e (by simp)
 · have hg : g' = g ∧ cap' = cap := by
    simp only [Value.slice.injEq, Option.some.injEq, Addr.mk.injEq] at e
    exact ⟨e.1.1.symm, e.2.2.symm⟩
   obtain ⟨rfl, rfl⟩ := hg
   have hlt : g' < W.heap.size := blk_lt hcur
   have hput : (Sort.grow (putRow encT (Sort.ahead W n) g' 0 d) os).heap[g']? = some (.cells (Sort.putCells encT 0 d cur) 9 (0, 0)) := by
    rw [Sort.heap_grow_old _ _ (by simpa using hlt)]
    unfold Sort.putRow Sort.mapBlock
    simp [Array.getElem?_modify, hcur, Sort.onCells]
   refine ⟨Kd.R_of_own ?_ (fun _ _ => trivial), rfl, rfl, rfl, by simp, fun i hi hne => ?_⟩
   · rw [show (d.toList.map mk).length = l.length by simp [hd]]
     refine ⟨by simp [encs, hd], .inr ⟨g', cap', Sort.putCells encT 0 d cur, rfl, hbase, hput, hn, hcm, by simp [Sort.putCells, hsz], ?_⟩⟩
     apply List.ext_getElem?
     intro k
     by_cases hk : k < l.length
     · have hkc : k < cur.size := by omega
       rw [List.getElem?_take_of_lt (by omega)]
       simp [Sort.putCells, encs, hk, hkc, hd, encT]
     · rw [List.getElem?_eq_none (by simp [encs]; omega), List.getElem?_eq_none (by simp [encs, hd]; omega)]
   · rw [Sort.heap_grow_old _ _ (by simpa using hi)]
     unfold Sort.putRow Sort.mapBlock
     have : g' ≠ i := fun h => hne (by rw [h])
     simp [Array.getElem?_modify, this]
def Asc (l : List L) : Prop := l.Pairwise fun x y => Sort.ltStr y x = false
theorem asc_of {d : Array L} (h : SortedIn Sort.ltStr 0 d.size d) : Asc d.toList := by
 unfold Asc
 rw [List.pairwise_iff_getElem]
 intro i j hi hj hij
 have := h i j (Nat.zero_le _) hij (by simpa using hj)
 rw [getElem!_pos d i (by simpa using hi), getElem!_pos d j (by simpa using hj)] at this
 simpa using this
theorem Sort_calls (l : List L) (W : World) (base : Nat) (v : Value) (hR : Kd.R Kd.string 9 W base (fun _ => True) v (l.map mk)) (hn : l.length ≤ 1000000) :
   Calls Tryz.prog 100 #[.iface 233 v] W fun e w' => e = .returned (.tuple #[]) ∧ ∃ l' : List L, l'.Perm l ∧ Asc l' ∧ Kd.R Kd.string 9 w' base (fun _ => True) v (l'.map mk) ∧ W.grownBy w' v.ownBlock := by
 by_cases h2 : 2 ≤ l.length
 · obtain ⟨g, cap, rfl, hbg, hlt, _⟩ := Kd.R_form hR (by rw [List.length_map]; omega)
   rw [List.length_map] at hR ⊢
   refine (srt_row g cap l.toArray (by simpa using h2) (by simp; omega) W (own_holds hR) hlt).mono ?_
   rintro e w' ⟨rfl, d', n, os, hP, hS, rfl⟩
   have hsz : d'.size = l.length := by have := hP.1; simpa using this
   have hp := hP.2.2
   obtain ⟨r1, r2⟩ := row_put hR d' hsz n os
   refine ⟨rfl, d'.toList, ?_, asc_of (by rw [hsz]; simpa using hS), r1, r2⟩
   have e1 : (d'.extract 0 l.toArray.size).toList = d'.toList := by
    rw [show l.toArray.size = d'.size by rw [hsz]; simp, Array.extract_size]
   have e2 : (l.toArray.extract 0 l.toArray.size).toList = l := by rw [Array.extract_size]
   rw [e1, e2] at hp
   exact hp
 · obtain ⟨A, c, rfl⟩ := Kd.R_slice hR
   refine (Tryz.sort_Sort_tiny (α := L) 233 _ 260 (srt_lenR _ _ _) _ (by rw [List.length_map]; omega) W (srt_len _ _ _ _)).mono ?_
   rintro e w' ⟨rfl, q, rfl⟩
   refine ⟨rfl, l, List.Perm.refl _, ?_, Kd.R_drewN hR q, ⟨rfl, rfl, rfl, Nat.le_refl _, fun _ _ _ => rfl⟩⟩
   match l, h2 with
   | [], _ => exact List.Pairwise.nil
   | [x], _ => exact List.pairwise_singleton _ _
   | x :: y :: r, h2 => exact absurd (by simp) h2
end Go.Proofs.YthfjolafikgpoaaGreatDoor.Hand
namespace Go.Proofs.YthfjolafikgpoaaGreatDoor.Hand
open Go.RowKit Go.Maps Go.Proofs.YthfjolafikgpoaaGreatDoorW.PrintWords Go.Proofs.YthfjolafikgpoaaGreatDoorW.PrintLast Go.Proofs.YthfjolafikgpoaaGreatDoorW.PrintMore Go.Proofs.YthfjolafikgpoaaGreatDoor.Base
set_option linter.unusedVariables false
set_option linter.unusedSimpArgs false
set_option maxRecDepth 100000
def IsRange (w : World) (b r N cnt : Nat) (ks left : List L) : Prop :=
 ∃ (D : DataW Unit) (lf : Lit → Bool), w.ranges Tryz.prog 9 unitElem b r N D lf cnt ∧ ks.Nodup ∧ (∀ x : L, Maps.has D (.string x) = ks.contains x) ∧ Maps.size D = ks.length ∧ (∀ x : L, lf (.string x) = left.contains x)
theorem IsRange.set {w : World} {b r N cnt : Nat} {ks left : List L} (h : IsRange w b r N cnt ks left) : IsSet w b N ks := by
 obtain ⟨D, lf, h1, h2, h3, h4, _⟩ := h; exact ⟨D, h1.owns, h2, h3, h4⟩
theorem IsRange.iter {w : World} {b r N cnt : Nat} {ks left : List L} (h : IsRange w b r N cnt ks left) : ∃ x y z t, w.heap[r]? = some (.mapIter x y z t) := by
 obtain ⟨D, lf, ⟨es, clock, since, seen, c0, _, _, _, _, hr, _⟩, _⟩ := h; exact ⟨_, _, _, _, hr⟩
theorem IsRange.kept {w w' : World} {b r N cnt : Nat} {ks left : List L} {row : Option Nat} (h : IsRange w b r N cnt ks left) (hg : w.grownBy w' row) (h1 : some b ≠ row) (h2 : some r ≠ row) : IsRange w' b r N cnt ks left := by
 obtain ⟨D, lf, h3, h4⟩ := h; exact ⟨D, lf, h3.kept hg h1 h2, h4⟩
theorem R_iter {W W' : World} {base r : Nat} {v : Value} {xs : List ByteArray} (h : Kd.R Kd.string 9 W base (fun _ => True) v xs) (hr : ∃ x y z t, W.heap[r]? = some (.mapIter x y z t)) (hg : W.grownBy W' (some r)) : Kd.R Kd.string 9 W' base (fun _ => True) v xs := by
 refine Kd.R_grown1 h rfl hg (fun he => ?_)
 obtain ⟨cells, hc⟩ := Kd.R_typed h r he.symm
 obtain ⟨x, y, z, t, hr⟩ := hr
 rw [hr] at hc; cases hc
theorem row_ne {W : World} {base b r N cnt : Nat} {v : Value} {xs : List ByteArray} {ks left : List L} (h : Kd.R Kd.string 9 W base (fun _ => True) v xs) (hr : IsRange W b r N cnt ks left) : some b ≠ v.ownBlock ∧ some r ≠ v.ownBlock := by
 constructor
 · intro he
   obtain ⟨cells, hc⟩ := Kd.R_typed h b he.symm
   obtain ⟨es, c, hm⟩ := hr.set.map
   rw [hm] at hc; cases hc
 · intro he
   obtain ⟨cells, hc⟩ := Kd.R_typed h r he.symm
   obtain ⟨x, y, z, t, hm⟩ := hr.iter
   rw [hm] at hc; cases hc
theorem contains_nil {left : List L} (h : ∀ x : L, left.contains x = false) : left = [] := by
 cases left with
 | nil => rfl
 | cons a l => have := h a; simp at this
section
variable (w : World) {ops : Array Oper} {rest : List Oper} {o : Oper} {a : Act} {Q : Exit → Act → World → Prop}
theorem range_set (hg : o.guard = none) (m : Operand) (hop : o.op = Op.range 209 m) (b N : Nat) (ks : List L) (hm : a.eval m = .map (some b)) (h : IsSet w b N ks)
   (hK : ∀ w', IsRange w' b w.heap.size N ks.length ks ks → w.grownBy w' none → w'.heap.size = w.heap.size + 1 → wpList Tryz.prog ops Q rest (a.put o.dst (.pointer (some ⟨w.heap.size, 0, none⟩))) w') :
   wpList Tryz.prog ops Q (o :: rest) a w := by
 obtain ⟨D, hown, hn, hh, hs⟩ := h
 refine wpList_range_own w hg m 209 hop 9 245 lawK Tryz.underlying209 _ b N D hm hown ?_
 intro w' h1 h2 h3
 rw [hs] at h1
 exact hK w' ⟨D, _, h1, hn, hh, hs, hh⟩ h2 h3
theorem next_set (hg : o.guard = none) (it : Operand) (hop : o.op = Op.next it false) (b r N cnt : Nat) (ks left : List L) (hit : a.eval it = .pointer (some ⟨r, 0, none⟩)) (h : IsRange w b r N cnt ks left)
   (hDone : cnt = 0 → left = [] → wpList Tryz.prog ops Q rest (a.put o.dst (.tuple #[.bool false])) w)
   (hMore : ∀ (s : ByteArray) (w' : World) (cnt' : Nat), s.size ≤ 9223372036854775807 → s.data.toList ∈ left → IsRange w' b r N cnt' ks (delK left s.data.toList) → cnt' < cnt → w.grownBy w' (some r) → w'.heap.size = w.heap.size →
     (Instr.entry (.pointer (some ⟨r, 0, none⟩))).run Tryz.prog w' = .ok (.tuple #[.string s, .agg #[]]) w' → wpList Tryz.prog ops Q rest (a.put o.dst (.tuple #[.bool true, .string s, .agg #[]])) w') :
   wpList Tryz.prog ops Q (o :: rest) a w := by
 obtain ⟨D, lf, hrg, hn, hh, hs, hl⟩ := h
 refine wpList_next_ranges (β := Unit) w hg it hop 9 lawK unitElem Value.string (fun _ => .agg #[]) (fun key kl hkey => by obtain ⟨s, rfl, _⟩ := WideMaps.string_of_keyOf Tryz.underlying9 hkey; exact ⟨s, rfl⟩) (fun v y hv => by obtain ⟨rfl, _⟩ := unitElem_inv hv; exact ⟨(), rfl⟩)
   b r N D lf cnt hit hrg (fun h0 hall => hDone h0 (contains_nil fun x => by rw [← hl]; exact hall _)) ?_
 intro s c kl y w' cnt' hkey hlk hv hat hrg' hlt hgr hsz hen
 obtain ⟨s', e, rfl, hss⟩ := WideMaps.string_of_keyOf Tryz.underlying9 hkey
 cases e
 refine hMore s w' cnt' hss (by have h := hl s.data.toList; rw [hlk] at h; simpa using h.symm) ⟨D, _, hrg', hn, hh, hs, fun x => ?_⟩ hlt hgr hsz hen
 rw [delK_contains, hl]
 congr 1
end
theorem delK_perm {left : List L} (hn : left.Nodup) {x : L} (hm : x ∈ left) : left.Perm (x :: delK left x) := by
 refine (List.perm_ext_iff_of_nodup hn ?_).2 (fun y => ?_)
 · rw [List.nodup_cons]
   refine ⟨?_, delK_nodup hn x⟩
   intro hc
   have := delK_contains left x x
   rw [show (delK left x).contains x = true by simpa using hc] at this
   simp at this
 · rw [List.mem_cons]
   have := delK_contains left x y
   by_cases e : y = x
   · subst e; simp [hm]
   · have h2 : (y ∈ delK left x ↔ y ∈ left) := by
      rw [← List.contains_iff_mem, ← List.contains_iff_mem, this]; simp [e]
     rw [h2]; simp [e]
set_option maxHeartbeats 2000000 in
theorem List_calls (b N : Nat) (ks : List L) (hk : ks.length ≤ 1000) (w : World) (h : IsSet w b N ks) :
   Calls Tryz.prog 149 #[.map (some b)] w fun e w' => ∃ (v : Value) (l : List L), e = .returned v ∧ l.Perm ks ∧ Asc l ∧ Kd.R Kd.string 9 w' w.heap.size (fun _ => True) v (l.map mk) ∧ Below w.heap.size w w' := by
 have HB := Aside0.mk (Below.refl w.heap.size w)
 have HS := Aside0.mk h
 obtain ⟨D, hown, hnd, hhas, hsz⟩ := h
 have HO := Aside0.mk hown
 have HSZ := Aside0.mk hsz
 have HND := Aside0.mk hnd
 clear hown hnd hhas hsz
 obtain ⟨i0, hi0, hz0, hz1, hz2⟩ := info_parts infoS
 have HI0 := Aside0.mk (And.intro hi0 (And.intro hz0 (And.intro hz1 hz2)))
 clear hi0 hz0 hz1 hz2
 go_enter Tryz.func149, Tryz.ntmps149
 go_wp2_with (first | (at_len; refine wpList_len_own _ rfl _ 209 rfl 9 245 Tryz.underlying209 _ b N _ rfl HO.out ?_; rw [HSZ.out]) | (at_make; refine wpList_make_own _ rfl _ _ 233 rfl w.heap.size 9 i0 _ 1 Tryz.underlying233 HI0.out.1 HI0.out.2.1 HI0.out.2.2.1 _ _ _ ks.length rfl rfl rfl (by rw [HI0.out.2.2.2]; omega) (by unfold maxLen; omega) (Nat.le_refl _) ?_; intro w1 hown hgrow; have HR := Aside0.mk (show Kd.R Kd.string 9 w1 w.heap.size (fun _ => True) (.slice (some ⟨w.heap.size, 0, none⟩) 0 ks.length) ([] : List ByteArray) from Kd.R_of_own hown (fun _ _ => trivial)); have HW1 := Aside0.mk hgrow.size; have HB1 := Aside0.mk (Below.grown HB.out hgrow (Nat.le_refl _) (fun j hj => by cases hj)); have HS1 := Aside0.mk (HS.out.kept hgrow (by simp)); clear hown hgrow HB HO; have HB := HB1; clear HB1) | (at_range; refine range_set _ rfl _ rfl b N ks rfl HS1.out ?_; intro w2 hrg hg hs2; have HRG := Aside0.mk hrg; have HR2 := Aside0.mk (Kd.R_grown1 HR.out rfl hg (by simp [Value.ownBlock])); have HB2 := Aside0.mk (pw_below_grown HB.out none (below_size HB.out) hg (fun j hj => by cases hj)); clear hrg hg HR HB; have HR := HR2; have HB := HB2; clear HR2 HB2))
 go_frame
 clear HSZ HI0 HS HS1
 go_loopg [3, 4] (ks.length) (fun g v3 v4 w' => ∃ (left : List L) (xs : List L), Aside0 (IsRange w' b w1.heap.size N g ks left ∧ left.Nodup) ∧ Aside0 (Kd.R Kd.string 9 w' w.heap.size (fun _ => True) v3 (xs.map mk)) ∧ Aside0 ((xs ++ left).Perm ks) ∧ Aside0 (Below w.heap.size w w' ∧ w.heap.size ≤ w1.heap.size))
 case atStart => exact ⟨ks, [], ⟨HRG.out, HND.out⟩, HR, ⟨List.Perm.refl _⟩, ⟨HB.out, HW1.out⟩⟩
 case round =>
  clear HRG HR HB
  obtain ⟨left, xs, HRG, HR, HP, HB0⟩ := hrel
  have HB := Aside0.mk HB0.out.1
  have hxl : xs.length ≤ 1000 := by have := HP.out.length_eq; simp at this; omega
  go_wp2_with (first | (at_next; refine next_set _ rfl _ rfl b w1.heap.size N gk ks left rfl HRG.out.1 ?_ ?_))
  · intro h0 hl0
    have hp := HP.out
    rw [hl0, List.append_nil] at hp
    have HS := Aside0.mk (Sort_calls xs wr w.heap.size u3 HR.out (by omega))
    have HPX := Aside0.mk hp
    clear hl0 hp h0
    go_wp2_with (first | ((with_reducible refine (HS.out).mono ?_); rintro e w3 ⟨rfl, l', h1, h2, h3, h4⟩; have HL := Aside0.mk (And.intro (h1.trans HPX.out) h2); have HR3 := Aside0.mk h3; have HB3 := Aside0.mk (pw_below_grown HB.out _ (below_size HB.out) h4 (fun k hk => Kd.R_base HR.out k hk)); clear h1 h2 h3 h4))
    go_ret
    exact ⟨_, l', rfl, HL.out.1, HL.out.2, HR3.out, HB3.out⟩
  · intro s w3 cnt hs hc hrg hlt hg hsz hen
    have HR3 := Aside0.mk (R_iter HR.out HRG.out.1.iter hg)
    have HB3 := Aside0.mk (pw_below_grown HB.out _ (below_size HB.out) hg (fun k hk => by cases hk; exact HB0.out.2))
    have HRG3 := Aside0.mk hrg
    have HP3 : Aside0 (((xs ++ [s.data.toList]) ++ delK left s.data.toList).Perm ks) := ⟨by
     have h1 := delK_perm HRG.out.2 hc
     have h2 : ((xs ++ [s.data.toList]) ++ delK left s.data.toList) = xs ++ (s.data.toList :: delK left s.data.toList) := by simp
     rw [h2]
     exact (h1.symm.append_left xs).trans HP.out⟩
    have HN3 := Aside0.mk (delK_nodup HRG.out.2 s.data.toList)
    have HNEW : Aside0 (xs.map mk ++ [s] = (xs ++ [s.data.toList]).map mk) := ⟨by rw [List.map_append]; rfl⟩
    have HLEN : Aside0 ((xs.map mk).length ≤ 1000) := ⟨by rw [List.length_map]; exact hxl⟩
    have HLT := Aside0.mk hlt
    clear HR HB HRG HP hs hc hrg hlt hg hsz
    go_wp2_with (first | ((with_reducible refine gate_builtin (b := .append) (xs := #[.tmp 14, .tmp 16]) rfl ?_); (try (refine gate_guard (by rfl) ?_; dsimp only)); at_builtin; refine Kd.R_append Kd.string (w0 := w) w.heap.size rfl (.tmp 14) (.tmp 16) 233 9 (.string ⟨#[]⟩) 16 rfl Tryz.underlying233 infoS rfl (by decide) (by omega) u3 (xs.map mk) (s) [.string (s)] (fun _ => True) (fun _ => False) rfl rfl ?aP (fun _ hk => hk.elim) ?aF ?aO ?aB ?aS ?aL ?_; (case aP => exact rfl); (case aB => exact (by repeat (first | (with_reducible first | exact HB3.out | apply below_alloc | apply pw_below_drewN | apply below_drew1) | exact HB3.out))); (case aF => exact (fun _ _ => trivial)); (case aO => exact (by (with_reducible repeat (first | apply Kd.R_alloc | apply Kd.R_drewN | apply Kd.R_drew)); exact HR3.out)); (case aS => exact (below_size (by repeat (first | (with_reducible first | exact HB3.out | apply below_alloc | apply pw_below_drewN | apply below_drew1) | exact HB3.out)))); (case aL => have := HLEN.out; (try simp only [List.length_map, List.length_nil] at *); omega); intro vN wN2 ho hb hg hat; have HRG4 := Aside0.mk (HRG3.out.kept hg (row_ne HR3.out HRG3.out).1 (row_ne HR3.out HRG3.out).2); rw [HNEW.out] at ho; clear HB3; clear HR3; have HB3 := Aside0.mk hb; have HR3 := Aside0.mk ho; clear ho hb hg hat))
    go_roundg cnt
    case measure => exact HLT.out
    case rel => exact ⟨_, _, ⟨HRG4.out, HN3.out⟩, HR3, HP3, ⟨HB3.out, HB0.out.2⟩⟩
theorem Insert1_calls (W : World) (H : Nat) (hH : W.heap.size = H) (b N : Nat) (ks : List L) (s : ByteArray) (hs : s.size ≤ 140737488351232) (hN : N ≤ 10000) (h : IsSet W b N ks) :
   Calls Tryz.prog 175 #[.map (some b), .slice (some ⟨H, 0, none⟩) 1 1] (W.alloc (.cells #[.string s] 9)) fun e w' => e = .returned (.map (some b)) ∧ IsSet w' b (N + 1) (addK ks s.data.toList) ∧ (W.alloc (.cells #[.string s] 9)).grownBy w' (some b) :=
 Insert_calls b N ks (some ⟨H, 0, none⟩) 1 [s] (fun p hp => by simp at hp; subst hp; exact hs) (by simp; omega) _ (h.alloc _) (C_lit W H hH [s] (by simp)) (by simp)
theorem New0_calls (w : World) : Calls Tryz.prog 174 #[.slice none 0 0] w fun e w' => ∃ b, e = .returned (.map (some b)) ∧ w.heap.size ≤ b ∧ IsSet w' b 0 [] ∧ Below w.heap.size w w' :=
 New_calls none 0 [] (by simp) (by simp) w (Kd.C_nil _ _) (by simp)
end Go.Proofs.YthfjolafikgpoaaGreatDoor.Hand
