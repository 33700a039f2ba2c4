/- sort.Sort over the sets' own list of texts: the three methods, and what the row holds behind it. -/
import Derived.Test.YtghekbffjonceaaSetKit
import Derived.Test.YtghekbffjonceaaShelf
import Derived.Deep.QuietTactic
import Derived.RegionTactic
import Derived.Sort.Walk0
namespace Go.Proofs.Ytghekbffjonceaa.Hand
open Go.RowKit Go.Proofs.YtghekbffjonceaaW.PrintWords Go.Proofs.YtghekbffjonceaaW.PrintLast Go.Proofs.YtghekbffjonceaaW.PrintMore Go.Proofs.Ytghekbffjonceaa.Base
open Go.Sort (Holds PermIn SortedIn putRow)
set_option linter.unusedVariables false
set_option linter.unusedSimpArgs false
set_option maxRecDepth 100000
abbrev encT (x : L) : Value := .string (mk x)

theorem srt_len (p : Option Addr) (n c : Nat) (W : World) : LenM Try.prog 67 (.slice p n c) n W := by
  unfold LenM
  go_enter Try.func67, Try.ntmps67
  go_wp2
  go_ret
  exact ⟨rfl, 0, rfl⟩
theorem lessString_calls (a b : ByteArray) (w : World) : Calls Try.prog 70 #[.string a, .string b] w fun e w' => e = .returned (.bool (Op.bytesLess a.toList b.toList)) ∧ w = w' := by
  go_enter Try.func70, Try.ntmps70
  go_wp2
  go_ret
  exact ⟨rfl, rfl⟩
set_option maxHeartbeats 2000000 in
theorem srt_less (blk off c size : Nat) (W : World) (G : Nat → L) (hc : ∀ t, t < size → W.cell? ⟨blk, off + t, none⟩ = some (encT (G t))) (i j : Nat) (hi : i < size) (hj : j < size) (_hsz : size < 4611686018427387904) :
    Calls Try.prog 68 #[.slice (some ⟨blk, off, none⟩) size c, .int .i64 i, .int .i64 j] W fun e w' => e = .returned (.bool (Sort.ltStr (G i) (G j))) ∧ ∃ q, w' = W.drewN q := by
  have ci := hc i hi
  have cj := hc j hj
  obtain ⟨a, ha⟩ : ∃ a, mk (G i) = a := ⟨_, rfl⟩
  obtain ⟨b, hb⟩ : ∃ b, mk (G j) = b := ⟨_, rfl⟩
  have HP : Aside0 (Sort.ltStr (G i) (G j) = Op.bytesLess a.toList b.toList) := ⟨by rw [← ha, ← hb, mk_toList, mk_toList]; simp [Sort.ltStr, bytesLess_eq]⟩
  unfold encT at ci cj
  rw [ha] at ci; rw [hb] at cj
  have H1 := Aside0.mk (lessString_calls a b)
  rw [HP.out]
  clear ha hb HP hc
  go_enter Try.func68, Try.ntmps68
  go_wp2
  go_quiet ((go_at_call 70; exact Calls.quiet_of_same ((H1.out _).mono fun e w' ⟨h1, h2⟩ => ⟨h1, h2.symm⟩)))
  go_wp2
  go_ret
  exact ⟨rfl, nq, rfl⟩
set_option maxHeartbeats 2000000 in
theorem srt_swap (blk off c size : Nat) (W : World) (x y : L) (i j : Nat) (hi : i < size) (hj : j < size) (_hsz : size < 4611686018427387904)
    (ci : W.cell? ⟨blk, off + i, none⟩ = some (encT x)) (cj : W.cell? ⟨blk, off + j, none⟩ = some (encT y)) (fi : W.frozen? ⟨blk, off + i, none⟩ = false) (fj : W.frozen? ⟨blk, off + j, none⟩ = false) :
    Calls Try.prog 69 #[.slice (some ⟨blk, off, none⟩) size c, .int .i64 i, .int .i64 j] W fun e w' => e = .returned (.tuple #[]) ∧ ∃ q, w' = ((W.setCell ⟨blk, off + i, none⟩ (encT y)).setCell ⟨blk, off + j, none⟩ (encT x)).drewN q := by
  obtain ⟨v', hy'⟩ := cell?_setCell_some (w := W) (p := ⟨blk, off + i, none⟩) (x := encT y) (q := ⟨blk, off + j, none⟩) cj
  go_enter Try.func69, Try.ntmps69
  go_wp2
  go_region
  all_goals (try go_wp2)
  all_goals go_end0
  all_goals exact ⟨rfl, 1, rfl⟩
theorem srt_lenR (p : Option Addr) (n c : Nat) : Reaches Try.prog 53 (.slice p n c) "Len" 67 := ⟨fun _ => by kernel_rfl, enters_of Try.func67 (by kernel_rfl) rfl⟩
theorem srt_lessR (p : Option Addr) (n c : Nat) : Reaches Try.prog 53 (.slice p n c) "Less" 68 := ⟨fun _ => by kernel_rfl, enters_of Try.func68 (by kernel_rfl) rfl⟩
theorem srt_swapR (p : Option Addr) (n c : Nat) : Reaches Try.prog 53 (.slice p n c) "Swap" 69 := ⟨fun _ => by kernel_rfl, enters_of Try.func69 (by kernel_rfl) rfl⟩

theorem srt_row (g cap : Nat) (d : Array L) (h2 : 2 ≤ d.size) (hsz : d.size < 4611686018427387904) (w : World) (hH : Holds encT w g 0 d) (hblk : g < w.heap.size) :
    Calls Try.prog 32 #[.iface 53 (.slice (some ⟨g, 0, none⟩) d.size cap)] w fun e w' =>
      e = .returned (.tuple #[]) ∧ ∃ d' n os, PermIn 0 d.size d d' ∧ SortedIn Sort.ltStr 0 d.size d' ∧ w' = Sort.grow (putRow encT (Sort.ahead w n) g 0 d') os := by
  exact Try.sort_Sort_sorted 53 (.slice (some ⟨g, 0, none⟩) d.size cap) 67 68 69 (srt_lenR _ _ _) (srt_lessR _ _ _) (srt_swapR _ _ _) encT Sort.ltStr Sort.swo_ltStr
    g 0 d h2 hsz w (srt_len _ _ _ _) (fun m os dk hs i j hi hj => srt_less g 0 cap d.size _ (fun t => dk[t]!) (fun t ht => ((holds_sortWorld encT w g 0 m d dk os hblk hH hs) t (by omega)).1) i j hi hj hsz)
    (fun W dk hH hs i j hi hj => srt_swap g 0 cap d.size W dk[i]! dk[j]! i j hi hj hsz (hH i (by omega)).1 (hH j (by omega)).1 (hH i (by omega)).2 (hH j (by omega)).2) hH hblk

/-- The cells of an owned row of texts. -/
theorem own_holds {W : World} {base g cap : Nat} {l : List L} (hR : Kd.R Kd.string 9 W base (fun _ => True) (.slice (some ⟨g, 0, none⟩) l.length cap) (l.map mk)) : Holds encT W g 0 l.toArray := by
  intro j hj
  have hj' : j < l.length := by simpa using hj
  obtain ⟨h1, h2⟩ := Kd.R_celln (⟨#[]⟩ : ByteArray) hR (j : Int) (by omega) (by omega)
  rw [Int.toNat_natCast] at h1 h2
  rw [Nat.zero_add]
  refine ⟨?_, h2⟩
  rw [h1]
  unfold encT rdOf
  rw [Int.toNat_natCast, List.getD_eq_getElem?_getD, List.getElem?_map, List.getElem?_eq_getElem hj']
  simp [hj']
theorem row_put {W : World} {base g cap : Nat} {l : List L} (hR : Kd.R Kd.string 9 W base (fun _ => True) (.slice (some ⟨g, 0, none⟩) l.length cap) (l.map mk)) (d : Array L) (hd : d.size = l.length) (n : Nat) (os : Array Obj) :
    Kd.R Kd.string 9 (Sort.grow (putRow encT (Sort.ahead W n) g 0 d) os) base (fun _ => True) (.slice (some ⟨g, 0, none⟩) l.length cap) (d.toList.map mk) ∧ W.grownBy (Sort.grow (putRow encT (Sort.ahead W n) g 0 d) os) (some g) := by
  have hown := Kd.own_of_R hR
  rw [List.length_map] at hown
  obtain ⟨hl, ⟨e, _⟩ | ⟨g', cap', cur, e, hbase, hcur, hn, hcm, hsz, htk⟩⟩ := hown
  · exact absurd e (by simp)
  · have hg : g' = g ∧ cap' = cap := by
      simp only [Value.slice.injEq, Option.some.injEq, Addr.mk.injEq] at e
      exact ⟨e.1.1.symm, e.2.2.symm⟩
    obtain ⟨rfl, rfl⟩ := hg
    have hlt : g' < W.heap.size := blk_lt hcur
    have hput : (Sort.grow (putRow encT (Sort.ahead W n) g' 0 d) os).heap[g']? = some (.cells (Sort.putCells encT 0 d cur) 9 (0, 0)) := by
      rw [Sort.heap_grow_old _ _ (by simpa using hlt)]
      unfold Sort.putRow Sort.mapBlock
      simp [Array.getElem?_modify, hcur, Sort.onCells]
    refine ⟨Kd.R_of_own ?_ (fun _ _ => trivial), rfl, rfl, rfl, by simp, fun i hi hne => ?_⟩
    · rw [show (d.toList.map mk).length = l.length by simp [hd]]
      refine ⟨by simp [encs, hd], .inr ⟨g', cap', Sort.putCells encT 0 d cur, rfl, hbase, hput, hn, hcm, by simp [Sort.putCells, hsz], ?_⟩⟩
      apply List.ext_getElem?
      intro k
      by_cases hk : k < l.length
      · have hkc : k < cur.size := by omega
        rw [List.getElem?_take_of_lt (by omega)]
        simp [Sort.putCells, encs, hk, hkc, hd, encT]
      · rw [List.getElem?_eq_none (by simp [encs]; omega), List.getElem?_eq_none (by simp [encs, hd]; omega)]
    · rw [Sort.heap_grow_old _ _ (by simpa using hi)]
      unfold Sort.putRow Sort.mapBlock
      have : g' ≠ i := fun h => hne (by rw [h])
      simp [Array.getElem?_modify, this]

/-- Ascending texts. -/
def Asc (l : List L) : Prop := l.Pairwise fun x y => Sort.ltStr y x = false
theorem asc_of {d : Array L} (h : SortedIn Sort.ltStr 0 d.size d) : Asc d.toList := by
  unfold Asc
  rw [List.pairwise_iff_getElem]
  intro i j hi hj hij
  have := h i j (Nat.zero_le _) hij (by simpa using hj)
  rw [getElem!_pos d i (by simpa using hi), getElem!_pos d j (by simpa using hj)] at this
  simpa using this
theorem Sort_calls (l : List L) (W : World) (base : Nat) (v : Value) (hR : Kd.R Kd.string 9 W base (fun _ => True) v (l.map mk)) (hn : l.length ≤ 1000000) :
    Calls Try.prog 32 #[.iface 53 v] W fun e w' => e = .returned (.tuple #[]) ∧ ∃ l' : List L, l'.Perm l ∧ Asc l' ∧ Kd.R Kd.string 9 w' base (fun _ => True) v (l'.map mk) ∧ W.grownBy w' v.ownBlock := by
  by_cases h2 : 2 ≤ l.length
  · obtain ⟨g, cap, rfl, hbg, hlt, _⟩ := Kd.R_form hR (by rw [List.length_map]; omega)
    rw [List.length_map] at hR ⊢
    refine (srt_row g cap l.toArray (by simpa using h2) (by simp; omega) W (own_holds hR) hlt).mono ?_
    rintro e w' ⟨rfl, d', n, os, hP, hS, rfl⟩
    have hsz : d'.size = l.length := by have := hP.1; simpa using this
    have hp := hP.2.2
    obtain ⟨r1, r2⟩ := row_put hR d' hsz n os
    refine ⟨rfl, d'.toList, ?_, asc_of (by rw [hsz]; simpa using hS), r1, r2⟩
    have e1 : (d'.extract 0 l.toArray.size).toList = d'.toList := by
      rw [show l.toArray.size = d'.size by rw [hsz]; simp, Array.extract_size]
    have e2 : (l.toArray.extract 0 l.toArray.size).toList = l := by rw [Array.extract_size]
    rw [e1, e2] at hp
    exact hp
  · obtain ⟨A, c, rfl⟩ := Kd.R_slice hR
    refine (Try.sort_Sort_tiny (α := L) 53 _ 67 (srt_lenR _ _ _) _ (by rw [List.length_map]; omega) W (srt_len _ _ _ _)).mono ?_
    rintro e w' ⟨rfl, q, rfl⟩
    refine ⟨rfl, l, List.Perm.refl _, ?_, Kd.R_drewN hR q, ⟨rfl, rfl, rfl, Nat.le_refl _, fun _ _ _ => rfl⟩⟩
    match l, h2 with
    | [], _ => exact List.Pairwise.nil
    | [x], _ => exact List.pairwise_singleton _ _
    | x :: y :: r, h2 => exact absurd (by simp) h2
end Go.Proofs.Ytghekbffjonceaa.Hand
