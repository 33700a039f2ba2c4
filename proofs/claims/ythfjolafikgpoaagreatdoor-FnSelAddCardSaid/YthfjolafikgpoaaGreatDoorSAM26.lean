/- sort.StringsAreSorted: what the printed functions say. -/
import Derived.Test.YthfjolafikgpoaaGreatDoorSAM25
import Derived.Test.YthfjolafikgpoaaGreatDoorSALabSetOf
import Derived.Shelf.Sort.Plain
import Derived.Shelf.Slices.In.SortNone2
import Derived.Test.YthfjolafikgpoaaGreatDoorProg
import Derived.Test.YthfjolafikgpoaaGreatDoorSAGSetA
namespace Go.Proofs.YthfjolafikgpoaaGreatDoor.Hand
open Go.RowKit Go.Proofs.YthfjolafikgpoaaGreatDoorW.PrintWords Go.Proofs.YthfjolafikgpoaaGreatDoorW.PrintLast Go.Proofs.YthfjolafikgpoaaGreatDoorW.PrintMore Go.Proofs.YthfjolafikgpoaaGreatDoor.Base
open Go.Sort (ltStr)
open Go.Proofs.YthfjolafikgpoaaGreatDoor.PFnSelDecidesLabels
set_option linter.unusedVariables false
set_option linter.unusedSimpArgs false
set_option maxRecDepth 100000
theorem less_f (x y : ByteArray) : cmp_Less_string.f x y = some (ltStr x.data.toList y.data.toList) := by
 unfold cmp_Less_string.f cmp_isNaN_string.f
 simp [ltS, toList_eq]
theorem rd_at {vs : List ByteArray} {m : Nat} {p : ByteArray} (hp : vs[m]? = some p) : rdOf ByteArray.empty vs (m : Int) = p := by
 unfold rdOf; rw [Int.toNat_natCast, List.getD_eq_getElem?_getD, hp]; rfl
def OrdTo (vs : List ByteArray) (i : Nat) : Prop := ∀ (j : Nat) (p q : ByteArray), j < i → vs[j]? = some p → vs[j + 1]? = some q → ltStr q.data.toList p.data.toList = false
theorem isS_l0 (vs : List ByteArray) (hn : vs.length ≤ 1000) : ∀ m : Nat, m = 0 ∨ m < vs.length → ∃ k b, slices_IsSorted_string_string.l0 k vs (m : Int) = some b ∧ (b = true → OrdTo vs m) := by
 intro m
 induction m with
 | zero =>
   intro _
   exact ⟨1, true, by simp only [slices_IsSorted_string_string.l0]; rfl, fun _ j p q hj => absurd hj (by omega)⟩
 | succ m ih =>
   intro hm
   have hm2 : m + 1 < vs.length := by omega
   obtain ⟨p, hp⟩ : ∃ p, vs[m]? = some p := ⟨_, List.getElem?_eq_getElem (by omega)⟩
   obtain ⟨q, hq⟩ : ∃ q, vs[m + 1]? = some q := ⟨_, List.getElem?_eq_getElem hm2⟩
   have hw : wrap64 (((m + 1 : Nat) : Int) - 1) = (m : Int) := by rw [show (((m + 1 : Nat) : Int) - 1) = (m : Int) by omega]; exact wrap_id (by omega) (by omega)
   have hs : ∀ k, slices_IsSorted_string_string.l0 (k + 1) vs ((m + 1 : Nat) : Int) = if ltStr q.data.toList p.data.toList = true then some false else slices_IsSorted_string_string.l0 k vs (m : Int) := by
    intro k
    simp only [slices_IsSorted_string_string.l0]
    rw [hw, if_pos (by omega), if_pos (by omega), if_pos (by omega), if_pos (by omega), if_pos (by omega), rd_at hp, rd_at hq, less_f]
    rfl
   cases hl : ltStr q.data.toList p.data.toList with
   | true => exact ⟨1, false, by rw [hs 0, if_pos hl], fun h => by cases h⟩
   | false =>
     obtain ⟨k, b, h1, h2⟩ := ih (by omega)
     refine ⟨k + 1, b, by rw [hs k, if_neg (by rw [hl]; simp), h1], fun hb j p' q' hj hp' hq' => ?_⟩
     by_cases hjm : j = m
     · subst hjm; rw [hp] at hp'; rw [hq] at hq'; cases hp'; cases hq'; exact hl
     · exact h2 hb j p' q' (by omega) hp' hq'
theorem isS_f (vs : List ByteArray) (hn : vs.length ≤ 1000) : ∃ k b, sort_StringsAreSorted.f k vs = some b ∧ (b = true → OrdTo vs vs.length) := by
 by_cases h0 : vs.length = 0
 · refine ⟨1, true, ?_, fun _ j p q hj => absurd hj (by omega)⟩
   unfold sort_StringsAreSorted.f slices_IsSorted_string_string.f
   rw [h0]
   simp only [slices_IsSorted_string_string.l0]
   rw [if_neg (by rw [wrap_id (by omega) (by omega)]; omega)]
   rfl
 · obtain ⟨k, b, h1, h2⟩ := isS_l0 vs hn (vs.length - 1) (by omega)
   refine ⟨k, b, ?_, fun hb j p q hj hp hq => h2 hb j p q (by have := (List.getElem?_eq_some_iff.1 hq).1; omega) hp hq⟩
   unfold sort_StringsAreSorted.f slices_IsSorted_string_string.f
   rw [show wrap64 ((vs.length : Int) - 1) = ((vs.length - 1 : Nat) : Int) from by rw [show ((vs.length : Int) - 1) = ((vs.length - 1 : Nat) : Int) by omega]; exact wrap_id (by omega) (by omega), h1]
   rfl
theorem SAS_calls (A : Option Addr) (c n : Nat) (vs : List ByteArray) (hn : vs.length = n) (hn2 : n ≤ 1000) (hc : n ≤ c) (w : World) (hC : Kd.C Kd.string w A n vs) :
   Calls Tryz.prog 223 #[.slice A n c] w fun e w' => ∃ b : Bool, e = .returned (.bool b) ∧ (b = true → OrdTo vs n) ∧ Below w.heap.size w w' := by
 subst hn
 obtain ⟨k, b, h1, h2⟩ := isS_f vs hn2
 refine (sort_StringsAreSorted.calls k A c vs b w hC hc h1).mono ?_
 rintro e w' ⟨rfl, nd, rfl⟩
 exact ⟨b, rfl, h2, pw_below_drewN (Below.refl _ _) _⟩
end Go.Proofs.YthfjolafikgpoaaGreatDoor.Hand
namespace Go.Proofs
open Go.Shelf
def Tryz.lays192_ren : Go.Shelf.Ren := ⟨fun | 192 => 224 | 190 => 226 | 125 => 113 | 258 => 228 | 128 => 142 | 129 => 143 | 302 => 229 | 303 => 230 | 304 => 231 | 305 => 232 | 306 => 233 | 307 => 234 | 308 => 227 | 309 => 235 | 310 => 236 | 333 => 237 | 329 => 163 | 330 => 164 | 334 => 238 | 335 => 239 | 336 => 114 | 344 => 240 | n => n, fun | 31 => 51 | 0 => 0 | 9 => 9 | 3 => 3 | 46 => 162 | 51 => 199 | 53 => 159 | 4 => 4 | 183 => 192 | 182 => 191 | 131 => 196 | 5 => 5 | 218 => 226 | 222 => 80 | 228 => 239 | 229 => 240 | n => n, fun | n => n⟩
theorem Tryz.lays192 : Go.Proofs.Lays.n192 Tryz.prog Tryz.lays192_ren := {
 mixed := by kernel_rfl
 f125 := Tryz.func113.trans (congrArg some (by kernel_rfl))
 f128 := Tryz.func142.trans (congrArg some (by kernel_rfl))
 f129 := Tryz.func143.trans (congrArg some (by kernel_rfl))
 f190 := Tryz.func226.trans (congrArg some (by kernel_rfl))
 f192 := Tryz.func224.trans (congrArg some (by kernel_rfl))
 f258 := Tryz.func228.trans (congrArg some (by kernel_rfl))
 f302 := Tryz.func229.trans (congrArg some (by kernel_rfl))
 f303 := Tryz.func230.trans (congrArg some (by kernel_rfl))
 f304 := Tryz.func231.trans (congrArg some (by kernel_rfl))
 f305 := Tryz.func232.trans (congrArg some (by kernel_rfl))
 f306 := Tryz.func233.trans (congrArg some (by kernel_rfl))
 f307 := Tryz.func234.trans (congrArg some (by kernel_rfl))
 f308 := Tryz.func227.trans (congrArg some (by kernel_rfl))
 f309 := Tryz.func235.trans (congrArg some (by kernel_rfl))
 f310 := Tryz.func236.trans (congrArg some (by kernel_rfl))
 f329 := Tryz.func163.trans (congrArg some (by kernel_rfl))
 f330 := Tryz.func164.trans (congrArg some (by kernel_rfl))
 f333 := Tryz.func237.trans (congrArg some (by kernel_rfl))
 f334 := Tryz.func238.trans (congrArg some (by kernel_rfl))
 f335 := Tryz.func239.trans (congrArg some (by kernel_rfl))
 f336 := Tryz.func114.trans (congrArg some (by kernel_rfl))
 f344 := Tryz.func240.trans (congrArg some (by kernel_rfl))
 t0 := Tryz.underlying0
 a0 := Tryz.isAgg0
 z0 := Tryz.sizeOf0
 v0 := Tryz.zeroValue0
 t3 := Tryz.underlying3
 a3 := Tryz.isAgg3
 z3 := Tryz.sizeOf3
 v3 := Tryz.zeroValue3
 t4 := Tryz.underlying4
 a4 := Tryz.isAgg4
 z4 := Tryz.sizeOf4
 v4 := Tryz.zeroValue4
 t5 := Tryz.underlying5
 a5 := Tryz.isAgg5
 z5 := Tryz.sizeOf5
 v5 := Tryz.zeroValue5
 t9 := Tryz.underlying9
 a9 := Tryz.isAgg9
 z9 := Tryz.sizeOf9
 v9 := Tryz.zeroValue9
 t31 := Tryz.underlying51
 a31 := Tryz.isAgg51
 z31 := Tryz.sizeOf51
 v31 := Tryz.zeroValue51
 t46 := Tryz.underlying162
 a46 := Tryz.isAgg162
 z46 := Tryz.sizeOf162
 v46 := Tryz.zeroValue162
 t51 := Tryz.underlying199
 a51 := Tryz.isAgg199
 z51 := Tryz.sizeOf199
 v51 := Tryz.zeroValue199
 t53 := Tryz.underlying159
 a53 := Tryz.isAgg159
 z53 := Tryz.sizeOf159
 v53 := Tryz.zeroValue159
 t131 := Tryz.underlying196
 a131 := Tryz.isAgg196
 z131 := Tryz.sizeOf196
 v131 := Tryz.zeroValue196
 t182 := Tryz.underlying191
 a182 := Tryz.isAgg191
 z182 := Tryz.sizeOf191
 v182 := Tryz.zeroValue191
 t183 := Tryz.underlying192
 a183 := Tryz.isAgg192
 z183 := Tryz.sizeOf192
 v183 := Tryz.zeroValue192
 t218 := Tryz.underlying226
 a218 := Tryz.isAgg226
 z218 := Tryz.sizeOf226
 v218 := Tryz.zeroValue226
 t222 := Tryz.underlying80
 a222 := Tryz.isAgg80
 z222 := Tryz.sizeOf80
 v222 := Tryz.zeroValue80
 t228 := Tryz.underlying239
 a228 := Tryz.isAgg239
 z228 := Tryz.sizeOf239
 v228 := Tryz.zeroValue239
 t229 := Tryz.underlying240
 a229 := Tryz.isAgg240
 z229 := Tryz.sizeOf240
 v229 := Tryz.zeroValue240 }
open Go.Sort Go.RowKit in
theorem Tryz.sort_Strings (blk off cap : Nat) (ss : List (List UInt8)) (w : World) (hH : Holds encStr w blk off ss.toArray) (hblk : blk < w.heap.size) (hsz : ss.length < 4611686018427387904) :
   Calls Tryz.prog 224 #[.slice (some ⟨blk, off, none⟩) ss.length cap] w fun e w' =>
    e = .returned (.tuple #[]) ∧ ∃ n os, w' = grow (putRow encStr (Sort.ahead w n) blk off (ss.mergeSort fun x y => decide (x ≤ y)).toArray) os := Any.sort_Strings Tryz.lays192 blk off cap ss w hH hblk hsz
open Go.RowKit Go.Sort in
theorem Tryz.sort_Strings_none (p : Option Addr) (cap : Nat) (w : World) :
   Calls Tryz.prog 224 #[.slice p 0 cap] w fun e w' => e = .returned (.tuple #[]) ∧ w' = w := Any.sort_Strings_none Tryz.lays192 p cap w
end Go.Proofs
namespace Go.Proofs.YthfjolafikgpoaaGreatDoor.Hand
open Go.RowKit Go.Proofs.YthfjolafikgpoaaGreatDoorW.PrintWords Go.Proofs.YthfjolafikgpoaaGreatDoorW.PrintLast Go.Proofs.YthfjolafikgpoaaGreatDoorW.PrintMore Go.Proofs.YthfjolafikgpoaaGreatDoor.Base
open Go.Sort (Holds PermIn SortedIn putRow)
set_option linter.unusedVariables false
set_option linter.unusedSimpArgs false
set_option maxRecDepth 100000
theorem asc_merge (l : List L) : Asc (l.mergeSort fun x y => decide (x ≤ y)) := by
 have h := List.pairwise_mergeSort (le := fun (x y : L) => decide (x ≤ y)) (fun a b c h1 h2 => by
  simp only [decide_eq_true_eq] at *; exact List.le_trans h1 h2) (fun a b => by
  simp only [Bool.or_eq_true, decide_eq_true_eq]; exact List.le_total a b) l
 unfold Asc
 refine h.imp fun {x y} hxy => ?_
 simp only [decide_eq_true_eq] at hxy
 unfold Sort.ltStr
 simpa using hxy
theorem Strings_calls (l : List L) (W : World) (base : Nat) (v : Value) (hR : Kd.R Kd.string 9 W base (fun _ => True) v (l.map mk)) (hn : l.length ≤ 1000000) :
   Calls Tryz.prog 224 #[v] W fun e w' => e = .returned (.tuple #[]) ∧ ∃ l' : List L, l'.Perm l ∧ Asc l' ∧ Kd.R Kd.string 9 w' base (fun _ => True) v (l'.map mk) ∧ W.grownBy w' v.ownBlock := by
 by_cases h2 : 1 ≤ l.length
 · obtain ⟨g, cap, rfl, hbg, hlt, _⟩ := Kd.R_form hR (by rw [List.length_map]; omega)
   rw [List.length_map] at hR ⊢
   refine (Tryz.sort_Strings g 0 cap l W (own_holds hR) hlt (by omega)).mono ?_
   rintro e w' ⟨rfl, n, os, rfl⟩
   obtain ⟨r1, r2⟩ := row_put hR (l.mergeSort fun x y => decide (x ≤ y)).toArray (by simp) n os
   exact ⟨rfl, l.mergeSort fun x y => decide (x ≤ y), List.mergeSort_perm _ _, asc_merge l, r1, r2⟩
 · obtain ⟨A, c, rfl⟩ := Kd.R_slice hR
   have h0 : l = [] := List.eq_nil_of_length_eq_zero (by omega)
   subst h0
   refine (Tryz.sort_Strings_none A c W).mono ?_
   rintro e w' ⟨rfl, rfl⟩
   exact ⟨rfl, [], List.Perm.refl _, List.Pairwise.nil, hR, ⟨rfl, rfl, rfl, Nat.le_refl _, fun _ _ _ => rfl⟩⟩
end Go.Proofs.YthfjolafikgpoaaGreatDoor.Hand
namespace Go.Proofs.YthfjolafikgpoaaGreatDoor.Hand
open Go.RowKit Go.Proofs.YthfjolafikgpoaaGreatDoorW.PrintWords Go.Proofs.YthfjolafikgpoaaGreatDoorW.PrintLast Go.Proofs.YthfjolafikgpoaaGreatDoorW.PrintMore Go.Proofs.YthfjolafikgpoaaGreatDoor.Base
set_option linter.unusedVariables false
set_option linter.unusedSimpArgs false
set_option maxRecDepth 100000
theorem vL_mkD (vs : List ByteArray) : (vL vs).map mk = vs := by
 unfold vL
 rw [List.map_map]
 conv => rhs; rw [← List.map_id vs]
 exact List.map_congr_left fun q _ => mk_of q
theorem ltStr_le {x y : L} : Sort.ltStr y x = false ↔ x ≤ y := by
 unfold Sort.ltStr; simp
theorem ord_asc {vs : List ByteArray} (h : OrdTo vs vs.length) : Asc (vL vs) := by
 have key : ∀ d i : Nat, ∀ p q, vs[i]? = some p → vs[i + d + 1]? = some q → Sort.ltStr q.data.toList p.data.toList = false := by
  intro d
  induction d with
  | zero => intro i p q hp hq; exact h i p q (List.getElem?_eq_some_iff.1 hp).1 hp hq
  | succ d ih =>
    intro i p q hp hq
    have hl := (List.getElem?_eq_some_iff.1 hq).1
    obtain ⟨r, hr⟩ : ∃ r, vs[i + d + 1]? = some r := ⟨_, List.getElem?_eq_getElem (by omega)⟩
    have h1 := ih i p r hp hr
    have h2 := h (i + d + 1) r q (by omega) hr hq
    exact ltStr_le.2 (List.le_trans (ltStr_le.1 h1) (ltStr_le.1 h2))
 unfold Asc
 rw [List.pairwise_iff_getElem]
 intro i j hi hj hij
 have hi' : i < vs.length := by simpa [vL] using hi
 have hj' : j < vs.length := by simpa [vL] using hj
 have := key (j - i - 1) i vs[i] vs[j] (List.getElem?_eq_getElem hi') (by rw [show i + (j - i - 1) + 1 = j by omega]; exact List.getElem?_eq_getElem hj')
 simpa [vL] using this
set_option maxHeartbeats 8000000 in
theorem safeSort_calls (A : Option Addr) (c n : Nat) (vs : List ByteArray) (hn : vs.length = n) (hn2 : n ≤ 1000) (hc : n ≤ c) (w : World) (hC : Kd.C Kd.string w A n vs) :
   Calls Tryz.prog 222 #[.slice A n c] w fun e w' => ∃ (A' : Option Addr) (c' : Nat) (us : List L), e = .returned (.slice A' n c') ∧ Kd.C Kd.string w' A' n (us.map mk) ∧ us.Perm (vL vs) ∧ Asc us ∧ Below w.heap.size w w' := by
 have HSAS := Aside0.mk (SAS_calls A c n vs hn hn2 hc w hC)
 have HC := Aside0.mk hC
 have HLN := Aside0.mk hn
 have HSS := Aside0.mk Strings_calls
 have HL2 : Aside0 ((vL vs).length ≤ 1000000) := ⟨by rw [List.length_map, hn]; omega⟩
 clear hC hn
 go_enter Tryz.func222, Tryz.ntmps222
 go_wp2_with (first | ((with_reducible refine (HSAS.out).mono ?_); rintro e w1 ⟨b, rfl, hb, hb1⟩; have HOR := Aside0.mk hb; have HB := Aside0.mk hb1; clear hb hb1 HSAS; (try cases b)) | ((with_reducible refine gate_dst (N := 9) rfl ?_); (try (refine gate_guard (by rfl) ?_; dsimp only)); refine Kd.R_make Kd.string (w0 := w) w.heap.size 9 rfl (N := 9) rfl 51 (.tmp 8) (.tmp 8) rfl (n : Int) ?mx ?my Tryz.underlying51 (.string ⟨#[]⟩) 16 infoS rfl (by decide) (by decide) (⟨#[]⟩ : ByteArray) (okp := fun _ => True) (ok := fun _ => True) rfl (fun _ h => h) trivial (by omega) (by omega) HB.out (below_size HB.out) ?_; (case mx => rfl); (case my => rfl); intro v8 w2 hR hb hg hat; clear hg hat; rw [Int.toNat_natCast] at hR; have CV2 := Aside0.mk (Kd.C_below HC.out hb); have HD := Aside0.mk hR; clear HB; have HB := Aside0.mk hb; clear hb hR) | ((with_reducible refine gate_dst (N := 12) rfl ?_); (try (refine gate_guard (by rfl) ?_; dsimp only)); refine Kd.R_copy (⟨#[]⟩ : ByteArray) (w0 := w) w.heap.size rfl (.tmp 10) (.tmp 11) 51 51 9 rfl Tryz.underlying51 (by kernel_rfl) v8 (List.replicate n (⟨#[]⟩ : ByteArray)) vs A n c (fun _ => True) rfl rfl HD.out CV2.out HB.out (below_size HB.out) ?_; intro w3 hR hb hg; clear hg; rw [List.length_replicate, Nat.min_self, List.drop_eq_nil_of_le (by rw [List.length_replicate]; exact Nat.le_refl _), List.append_nil, List.take_of_length_le (by rw [HLN.out]; exact Nat.le_refl _)] at hR; clear HD HB CV2; have HD : Aside0 (Kd.R Kd.string 9 w3 w.heap.size (fun _ => True) v8 ((vL vs).map mk)) := ⟨by rw [vL_mkD]; exact hR⟩; have HB := Aside0.mk hb; clear hb hR) | ((with_reducible refine (HSS.out (vL vs) _ w.heap.size v8 HD.out HL2.out).mono ?_); rintro e w4 ⟨rfl, l', hp, ha, hR, hg⟩; have HP := Aside0.mk hp; have HAS := Aside0.mk ha; clear HD; have HD := Aside0.mk hR; have HGR := Aside0.mk hg; clear hp ha hR hg))
 · have HBF := Aside0.mk (pw_below_grown HB.out _ (below_size HB.out) HGR.out (fun k hk => by obtain ⟨inner, ho⟩ := Kd.R_own HD.out; exact own_base ho k hk))
   obtain ⟨A', c', rfl⟩ := Kd.R_slice HD.out
   have hrd := (Kd.R_reads' HD.out).2
   have HLL : Aside0 ((l'.map mk).length = n) := ⟨by rw [List.length_map, HP.out.length_eq, List.length_map, HLN.out]⟩
   rw [HLL.out] at hrd
   obtain ⟨hcn, hCn⟩ := hrd
   go_ret
   exact ⟨A', c', l', by (first | rfl | (rw [HLL.out]; rfl) | (rw [HLL.out])), hCn, HP.out, HAS.out, HBF.out⟩
 · have HA := Aside0.mk (ord_asc (vs := vs) (by rw [HLN.out]; first | exact HOR.out rfl | exact HOR.out trivial))
   go_ret
   exact ⟨A, c, vL vs, rfl, by rw [vL_mkD]; exact Kd.C_below HC.out HB.out, List.Perm.refl _, HA.out, HB.out⟩
structure BufSt (w W : World) (s : ByteArray) (k : Nat) : Prop where
 be : Below w.heap.size w W
 st : W.heap[w.heap.size]? = some (.cells #[.string s] 274 (0, 0))
 sz : s.size ≤ k * 20000000
theorem BufSt.calls {w W : World} {s : ByteArray} {k : Nat} (t : ByteArray) (h : BufSt w W s k) (hk : k ≤ 20) (ht : t.size ≤ 20000000) :
   Calls Tryz.prog 220 #[.pointer (some ⟨w.heap.size, 0, none⟩), .string t] W fun e W' => e = .returned (.tuple #[]) ∧ BufSt w W' (s ++ t) (k + 1) := by
 refine (BufW_calls w.heap.size s t (by have := h.sz; omega) W h.st).mono ?_
 rintro e w' ⟨rfl, rfl⟩
 refine ⟨rfl, below_set h.be (Nat.le_refl _), ?_, by have := h.sz; rw [ByteArray.size_append]; omega⟩
 exact blk_put h.st 0 _ (cs' := #[.string (s ++ t)]) rfl
theorem BufSt.new (w : World) : BufSt w (w.alloc (.cells #[.string ⟨#[]⟩] 274)) ⟨#[]⟩ 0 := ⟨below_alloc (Below.refl _ _) _, heap_alloc_new w _, by decide⟩
theorem empty_app (s : ByteArray) : (⟨#[]⟩ : ByteArray) ++ s = s := by
 apply ByteArray.ext; simp [ByteArray.data_append]
theorem BufSt.on {w W W' : World} {s : ByteArray} {k : Nat} (h : BufSt w W s k) (hb : Below W.heap.size W W') : BufSt w W' s k :=
 ⟨below_step h.be hb, (hb.block _ (blk_lt h.st)).trans h.st, h.sz⟩
def textM (x : L) (key m : ByteArray) : ByteArray :=
 if x = [105, 110] then key ++ ⟨#[32, 105, 110, 32]⟩ ++ ⟨#[40]⟩ ++ m ++ ⟨#[41]⟩
 else if x = [110, 111, 116, 105, 110] then key ++ ⟨#[32, 110, 111, 116, 105, 110, 32]⟩ ++ ⟨#[40]⟩ ++ m ++ ⟨#[41]⟩
 else if x = [103, 116] then key ++ ⟨#[62]⟩ ++ m
 else if x = [108, 116] then key ++ ⟨#[60]⟩ ++ m
 else if x = [101, 120, 105, 115, 116, 115] then key
 else if x = [33] then ⟨#[33]⟩ ++ key
 else key ++ ⟨x.toArray⟩ ++ m
theorem join_one (v : ByteArray) : joinB ⟨#[44]⟩ [v] = v := by unfold joinB; simp only [List.foldl_nil]; exact empty_app v
theorem one_us (v : ByteArray) : [v.data.toList].Perm (vL [v]) ∧ Asc [v.data.toList] ∧ joinB ⟨#[44]⟩ ([v.data.toList].map mk) = v :=
 ⟨List.Perm.refl _, List.pairwise_singleton _ _, by simp only [List.map_cons, List.map_nil]; rw [← mk_of v]; exact join_one v⟩
end Go.Proofs.YthfjolafikgpoaaGreatDoor.Hand
