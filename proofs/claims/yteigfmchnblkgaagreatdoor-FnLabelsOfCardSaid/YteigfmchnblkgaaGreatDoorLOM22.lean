/- The guards: zzFits5, zzFits4, zzFits2, zzFits1, epPairs. -/
import Derived.Test.YteigfmchnblkgaaGreatDoorLOLabNew
import Derived.Test.YteigfmchnblkgaaGreatDoorLOM18
import Derived.Test.YteigfmchnblkgaaGreatDoorLOGSelB
import Derived.Test.YteigfmchnblkgaaGreatDoorLOM10
namespace Go.Proofs.YteigfmchnblkgaaGreatDoor.Hand
open Go.RowKit Go.Maps Go.Proofs.YteigfmchnblkgaaGreatDoorW.PrintWords Go.Proofs.YteigfmchnblkgaaGreatDoorW.PrintLast Go.Proofs.YteigfmchnblkgaaGreatDoorW.PrintMore Go.Proofs.YteigfmchnblkgaaGreatDoor.Base
set_option linter.unusedVariables false
set_option linter.unusedSimpArgs false
set_option maxRecDepth 100000
theorem all_snoc {α : Type} {f : α → Bool} {l : List α} {i : Nat} {p : α} (hp : l[i]? = some p) (h : (l.take i).all f = true) (h2 : f p = true) : (l.take (i + 1)).all f = true := by
  rw [List.take_add_one, hp]; simp only [List.all_append] at *; rw [h]; simp [h2]
theorem all_not {α : Type} {f : α → Bool} {l : List α} {i : Nat} {p : α} (hp : l[i]? = some p) (h2 : f p = false) : l.all f = false := by
  rw [List.all_eq_false]; exact ⟨p, List.mem_of_getElem? hp, by rw [h2]; simp⟩
def sz (M : Nat) (p : ByteArray) : Bool := decide (p.size ≤ M)
def sz2 (M : Nat) (p : ByteArray × ByteArray) : Bool := sz M p.1 && sz M p.2
def fits1 (ls : List (ByteArray × ByteArray)) : Bool := decide (ls.length ≤ 2147483647) && ls.all (sz2 2147483647)
def pairsOk (ls : List (ByteArray × ByteArray)) : Bool := ls.all (sz2 100) && decide (ls.length ≤ 20)
theorem fits1_t {ls : List (ByteArray × ByteArray)} (h : fits1 ls = true) : ls.length ≤ 2147483647 ∧ ∀ p ∈ ls, p.1.size ≤ 2147483647 ∧ p.2.size ≤ 2147483647 := by
  unfold fits1 sz2 sz at h; simp only [Bool.and_eq_true, decide_eq_true_eq, List.all_eq_true] at h; exact h
theorem pairsOk_t {ls : List (ByteArray × ByteArray)} (h : pairsOk ls = true) : ls.length ≤ 20 ∧ ∀ p ∈ ls, p.1.size ≤ 100 ∧ p.2.size ≤ 100 := by
  unfold pairsOk sz2 sz at h; simp only [Bool.and_eq_true, decide_eq_true_eq, List.all_eq_true] at h; exact ⟨h.2, h.1⟩
set_option maxHeartbeats 8000000 in
theorem Fits2_calls (key op : ByteArray) (w : World) :
    Calls Tryz.prog 44 #[.agg #[.string key, .string op]] w fun e w' => e = .returned (.bool (sz2 2147483647 (key, op))) ∧ Below w.heap.size w w' := by
  have hbk := heap_alloc_new w (.cells #[.string key, .string op] 45)
  have HBA := Aside0.mk (below_alloc (Below.refl w.heap.size w) (.cells #[.string key, .string op] 45))
  obtain ⟨W1, hW1⟩ : ∃ W1, w.alloc (.cells #[.string key, .string op] 45) = W1 := ⟨_, rfl⟩
  rw [hW1] at hbk HBA
  have c0 : W1.cell? ⟨w.heap.size, 0, none⟩ = some (.string key) := (blk_cell hbk 0).trans rfl
  have c1 : W1.cell? ⟨w.heap.size, 1, none⟩ = some (.string op) := (blk_cell hbk 1).trans rfl
  obtain ⟨q, hq⟩ : ∃ q, sz2 2147483647 (key, op) = q := ⟨_, rfl⟩
  have HW := Aside0.mk hq.symm
  unfold sz2 at HW
  rw [hq]
  clear hbk hq
  by_cases hk : key.size ≤ 2147483647
  rotate_left
  · have HX : Aside0 (q = false) := ⟨by rw [HW.out, show sz 2147483647 key = false from decide_eq_false hk]; simp⟩
    have k0 : decide ((2147483647 : Int) < (key.size : Int)) = true := decide_eq_true (by omega)
    have k1 : decide (2147483647 < key.size) = true := decide_eq_true (by omega)
    go_enter Tryz.func44, Tryz.ntmps44
    go_wp2
    go_ret
    exact ⟨by rw [HX.out]; try rfl, HBA.out⟩
  have k0 : decide ((2147483647 : Int) < (key.size : Int)) = false := decide_eq_false (by omega)
  have k1 : decide (2147483647 < key.size) = false := decide_eq_false (by omega)
  by_cases ho : op.size ≤ 2147483647
  rotate_left
  · have HX : Aside0 (q = false) := ⟨by rw [HW.out, show sz 2147483647 op = false from decide_eq_false ho]; simp⟩
    have o0 : decide ((2147483647 : Int) < (op.size : Int)) = true := decide_eq_true (by omega)
    have o1 : decide (2147483647 < op.size) = true := decide_eq_true (by omega)
    go_enter Tryz.func44, Tryz.ntmps44
    go_wp2
    go_ret
    exact ⟨by rw [HX.out]; try rfl, HBA.out⟩
  have o0 : decide ((2147483647 : Int) < (op.size : Int)) = false := decide_eq_false (by omega)
  have o1 : decide (2147483647 < op.size) = false := decide_eq_false (by omega)
  have HX : Aside0 (q = true) := ⟨by rw [HW.out, show sz 2147483647 key = true from decide_eq_true hk, show sz 2147483647 op = true from decide_eq_true ho]; rfl⟩
  go_enter Tryz.func44, Tryz.ntmps44
  go_wp2
  go_ret
  exact ⟨by rw [HX.out]; try rfl, HBA.out⟩
set_option maxHeartbeats 8000000 in
theorem Fits1_calls (A : Option Addr) (c n : Nat) (ls : List (ByteArray × ByteArray)) (hn : ls.length = n) (w : World) (hC : PK.C w A n ls) :
    Calls Tryz.prog 13 #[.slice A n c] w fun e w' => e = .returned (.bool (fits1 ls)) ∧ Below w.heap.size w w' := by
  have HC := Aside0.mk hC
  have HLN := Aside0.mk hn
  have HW : Aside0 (fits1 ls = (decide (n ≤ 2147483647) && ls.all (sz2 2147483647))) := ⟨by unfold fits1; rw [hn]⟩
  obtain ⟨q, hq⟩ : ∃ q, fits1 ls = q := ⟨_, rfl⟩
  rw [hq] at HW ⊢
  have HB0 := Aside0.mk (Below.refl w.heap.size w)
  clear hC hn hq
  by_cases hb : n ≤ 2147483647
  rotate_left
  · have HX : Aside0 (q = false) := ⟨by rw [HW.out, show decide (n ≤ 2147483647) = false from decide_eq_false hb]; rfl⟩
    have b0 : decide ((2147483647 : Int) < (n : Int)) = true := decide_eq_true (by omega)
    have b1 : decide (2147483647 < n) = true := decide_eq_true (by omega)
    go_enter Tryz.func13, Tryz.ntmps13
    go_wp2
    go_ret
    exact ⟨by rw [HX.out]; try rfl, HB0.out⟩
  have HW2 : Aside0 (q = ls.all (sz2 2147483647)) := ⟨by rw [HW.out, show decide (n ≤ 2147483647) = true from decide_eq_true hb]; rfl⟩
  have b0 : decide ((2147483647 : Int) < (n : Int)) = false := decide_eq_false (by omega)
  have b1 : decide (2147483647 < n) = false := decide_eq_false (by omega)
  go_enter Tryz.func13, Tryz.ntmps13
  go_wp2
  go_loopg [10] (n) (fun k v10 w' => ∃ i : Nat, v10 = .int .i64 i ∧ Aside0 (k + i = n) ∧ Aside0 ((ls.take i).all (sz2 2147483647) = true) ∧ Aside0 (Below w.heap.size w w'))
  case atStart => exact ⟨0, rfl, ⟨by omega⟩, ⟨rfl⟩, HB0⟩
  case round =>
    obtain ⟨i, rfl, HI, HA, HB⟩ := hrel
    by_cases hil : i < n
    · obtain ⟨ad, rfl, hk0, hk1⟩ := pk_at (Kd.C_below HC.out HB.out) i hil
      obtain ⟨p, hp⟩ : ∃ p, ls[i]? = some p := ⟨_, List.getElem?_eq_getElem (by rw [HLN.out]; exact hil)⟩
      have hg : ls.getD i (⟨#[]⟩, ⟨#[]⟩) = p := by rw [List.getD_eq_getElem?_getD, hp]; rfl
      rw [hg] at hk0 hk1
      obtain ⟨pk, pv⟩ := p
      replace hk0 : wr.cell? (ad.add (i * 2)) = some (.string pk) := hk0
      replace hk1 : wr.cell? ⟨(ad.add (i * 2)).block, (ad.add (i * 2)).off + 1, none⟩ = some (.string pv) := hk1
      have hbk := heap_alloc_new wr (.cells #[.string pk, .string pv] 45)
      have HB1 := Aside0.mk (below_alloc HB.out (.cells #[.string pk, .string pv] 45))
      have d0 := (blk_cell hbk 0).trans (show _ = some (Value.string pk) from rfl)
      have d1 := (blk_cell hbk 1).trans (show _ = some (Value.string pv) from rfl)
      have H2 := Aside0.mk (Fits2_calls pk pv)
      obtain ⟨f, hf⟩ : ∃ f, sz2 2147483647 (pk, pv) = f := ⟨_, rfl⟩
      rw [hf] at H2
      cases f
      · have HX : Aside0 (q = false) := ⟨by rw [HW2.out]; exact all_not hp hf⟩
        clear hp hg hf hbk
        go_wp2_with (first | ((with_reducible refine (H2.out _).mono ?_); rintro e w2 ⟨rfl, hb⟩; have HB2 := Aside0.mk (below_step HB1.out hb); clear hb))
        go_ret
        exact ⟨by rw [HX.out]; try rfl, HB2.out⟩
      · have HA2 := Aside0.mk (all_snoc hp HA.out hf)
        clear hp hg hf hbk
        go_wp2_with (first | ((with_reducible refine (H2.out _).mono ?_); rintro e w2 ⟨rfl, hb⟩; have HB2 := Aside0.mk (below_step HB1.out hb); clear hb))
        go_roundg (n - (i + 1))
        case measure => have := HI.out; omega
        case rel => exact ⟨i + 1, by go_num, ⟨by omega⟩, HA2, HB2⟩
    · have HX : Aside0 (q = true) := ⟨by have h1 := HI.out; have := HA.out; rw [List.take_of_length_le (by rw [HLN.out]; omega)] at this; rw [HW2.out]; exact this⟩
      go_wp2
      go_ret
      exact ⟨by rw [HX.out]; try rfl, HB.out⟩
set_option maxHeartbeats 8000000 in
/-- epPairs over m lists of labels. -/
theorem epPairs_calls (b cc m : Nat) (As : Nat → Option Addr) (ns cs : Nat → Nat) (xs : Nat → List (ByteArray × ByteArray)) (w : World) (hm : m ≤ 10) (hn : ∀ i, i < m → (xs i).length = ns i) (hn2 : ∀ i, i < m → ns i ≤ 2147483647) (hk : ∀ i, i < m → w.cell? ⟨b, i, none⟩ = some (.slice (As i) (ns i) (cs i))) (hC : ∀ i, i < m → PK.C w (As i) (ns i) (xs i)) :
    Calls Tryz.prog 15 #[.slice (some ⟨b, 0, none⟩) m cc] w fun e w' => e = .returned (.bool ((List.range m).all fun i => pairsOk (xs i))) ∧ Below w.heap.size w w' := by
  have HC := Aside0.mk hC
  have HLN := Aside0.mk hn
  have HLE := Aside0.mk hn2
  have HK := Aside0.mk hk
  have HW : Aside0 (((List.range m).all fun i => pairsOk (xs i)) = ((List.range m).all fun i => pairsOk (xs i))) := ⟨rfl⟩
  obtain ⟨q, hq⟩ : ∃ q, ((List.range m).all fun i => pairsOk (xs i)) = q := ⟨_, rfl⟩
  have HQ := Aside0.mk hq
  rw [hq]
  have HB0 := Aside0.mk (Below.refl w.heap.size w)
  have HF := Aside0.mk (fun (i : Nat) (hi : i < m) (h : pairsOk (xs i) = false) => show q = false from by rw [← hq, List.all_eq_false]; exact ⟨i, List.mem_range.2 hi, by rw [h]; simp⟩)
  clear hC hn hn2 hk hq HW
  go_enter Tryz.func15, Tryz.ntmps15
  go_wp2
  go_loopg [9] (m) (fun k v9 w' => ∃ j : Nat, v9 = .int .i64 j ∧ Aside0 (k + j = m) ∧ Aside0 (∀ i, i < j → pairsOk (xs i) = true) ∧ Aside0 (Below w.heap.size w w'))
  case atStart => exact ⟨0, rfl, ⟨by omega⟩, ⟨fun i h => by omega⟩, HB0⟩
  case round =>
    obtain ⟨j, rfl, HJ, HAJ, HB⟩ := hrel
    by_cases hjm : j < m
    · have hkj := HK.out j hjm
      have HCJ := Aside0.mk (HC.out j hjm)
      have HLJ := Aside0.mk (HLN.out j hjm)
      have hnj := HLE.out j hjm
      have HFJ := Aside0.mk (HF.out j hjm)
      obtain ⟨A, hA⟩ : ∃ A, As j = A := ⟨_, rfl⟩
      obtain ⟨n, hn⟩ : ∃ n, ns j = n := ⟨_, rfl⟩
      obtain ⟨c, hc⟩ : ∃ c, cs j = c := ⟨_, rfl⟩
      obtain ⟨ls, hls⟩ : ∃ ls, xs j = ls := ⟨_, rfl⟩
      rw [hA, hn, hc] at hkj
      rw [hA, hn, hls] at HCJ
      rw [hn, hls] at HLJ
      rw [hn] at hnj
      rw [hls] at HFJ
      have hk2 : wr.cell? ((⟨b, 0, none⟩ : Addr).add j) = some (.slice A n c) := by rw [show ((⟨b, 0, none⟩ : Addr).add j) = ⟨b, j, none⟩ from by rw [Addr.add_lit]; simp]; exact (HB.out.cell (World.block_lt_of_cell? w _ hkj)).trans hkj
      have hk3 : wr.cell? ⟨b, j, none⟩ = some (.slice A n c) := (HB.out.cell (World.block_lt_of_cell? w _ hkj)).trans hkj
      have HPO : Aside0 (pairsOk (xs j) = pairsOk ls) := ⟨by rw [hls]⟩
      clear hA hn hc hls hkj
      generalize gk = go at *
      go_wp2
      go_loopg [15] (n) (fun k v15 w' => ∃ i : Nat, v15 = .int .i64 i ∧ Aside0 (k + i = n) ∧ Aside0 ((ls.take i).all (sz2 100) = true) ∧ Aside0 (Below w.heap.size w w'))
      case atStart => exact ⟨0, rfl, ⟨by omega⟩, ⟨rfl⟩, HB⟩
      case round =>
        clear HB hk2 hk3
        obtain ⟨i, rfl, HI, HA, HB⟩ := hrel
        by_cases hil : i < n
        · obtain ⟨ad, rfl, hk0, hk1⟩ := pk_at (Kd.C_below HCJ.out HB.out) i hil
          obtain ⟨p, hp⟩ : ∃ p, ls[i]? = some p := ⟨_, List.getElem?_eq_getElem (by rw [HLJ.out]; exact hil)⟩
          have hg : ls.getD i (⟨#[]⟩, ⟨#[]⟩) = p := by rw [List.getD_eq_getElem?_getD, hp]; rfl
          rw [hg] at hk0 hk1
          obtain ⟨pk, pv⟩ := p
          replace hk0 : wr.cell? (ad.add (i * 2)) = some (.string pk) := hk0
          replace hk1 : wr.cell? ⟨(ad.add (i * 2)).block, (ad.add (i * 2)).off + 1, none⟩ = some (.string pv) := hk1
          have hbk := heap_alloc_new wr (.cells #[.string pk, .string pv] 45)
          have HB1 := Aside0.mk (below_alloc HB.out (.cells #[.string pk, .string pv] 45))
          have d0 := (blk_cell hbk 0).trans (show _ = some (Value.string pk) from rfl)
          have d1 := (blk_cell hbk 1).trans (show _ = some (Value.string pv) from rfl)
          by_cases h1 : pk.size ≤ 100
          rotate_left
          · have HX : Aside0 (q = false) := ⟨HFJ.out (by unfold pairsOk; rw [all_not hp (show sz2 100 (pk, pv) = false from by unfold sz2; rw [show sz 100 pk = false from decide_eq_false h1]; rfl)]; rfl)⟩
            have a0 : decide ((100 : Int) < (pk.size : Int)) = true := decide_eq_true (by omega)
            have a1 : decide (100 < pk.size) = true := decide_eq_true (by omega)
            clear hp hg hbk
            go_wp2
            go_ret
            exact ⟨by rw [HX.out]; try rfl, HB1.out⟩
          have a0 : decide ((100 : Int) < (pk.size : Int)) = false := decide_eq_false (by omega)
          have a1 : decide (100 < pk.size) = false := decide_eq_false (by omega)
          by_cases h2 : pv.size ≤ 100
          rotate_left
          · have HX : Aside0 (q = false) := ⟨HFJ.out (by unfold pairsOk; rw [all_not hp (show sz2 100 (pk, pv) = false from by unfold sz2; rw [show sz 100 pv = false from decide_eq_false h2]; simp)]; rfl)⟩
            have b0 : decide ((100 : Int) < (pv.size : Int)) = true := decide_eq_true (by omega)
            have b1 : decide (100 < pv.size) = true := decide_eq_true (by omega)
            clear hp hg hbk
            go_wp2
            go_ret
            exact ⟨by rw [HX.out]; try rfl, HB1.out⟩
          have b0 : decide ((100 : Int) < (pv.size : Int)) = false := decide_eq_false (by omega)
          have b1 : decide (100 < pv.size) = false := decide_eq_false (by omega)
          have HA2 := Aside0.mk (all_snoc hp HA.out (show sz2 100 (pk, pv) = true from by unfold sz2; rw [show sz 100 pk = true from decide_eq_true h1, show sz 100 pv = true from decide_eq_true h2]; rfl))
          clear hp hg hbk
          go_wp2
          go_roundg (n - (i + 1))
          case measure => have := HI.out; omega
          case rel => exact ⟨i + 1, by go_num, ⟨by omega⟩, HA2, HB1⟩
        · have hal : ls.all (sz2 100) = true := by have h1 := HI.out; have := HA.out; rwa [List.take_of_length_le (by rw [HLJ.out]; omega)] at this
          by_cases h20 : n ≤ 20
          rotate_left
          · have HX : Aside0 (q = false) := ⟨HFJ.out (by unfold pairsOk; rw [hal, HLJ.out, show decide (n ≤ 20) = false from decide_eq_false h20]; rfl)⟩
            have a0 : decide ((20 : Int) < (n : Int)) = true := decide_eq_true (by omega)
            have a1 : decide (20 < n) = true := decide_eq_true (by omega)
            clear hal
            go_wp2
            go_ret
            exact ⟨by rw [HX.out]; try rfl, HB.out⟩
          have HAJ2 : Aside0 (∀ i, i < j + 1 → pairsOk (xs i) = true) := ⟨fun i h => by
          by_cases e : i = j
          · subst e; rw [HPO.out]; unfold pairsOk; rw [hal, HLJ.out, show decide (n ≤ 20) = true from decide_eq_true h20]; rfl
          · exact HAJ.out i (by omega)⟩
          have a0 : decide ((20 : Int) < (n : Int)) = false := decide_eq_false (by omega)
          have a1 : decide (20 < n) = false := decide_eq_false (by omega)
          clear hal
          go_wp2
          go_roundg (go - 1)
          case measure => have := HJ.out; omega
          case rel => exact ⟨j + 1, by go_num, ⟨by have := HJ.out; omega⟩, HAJ2, HB⟩
    · have HX : Aside0 (q = true) := ⟨by have h1 := HJ.out; rw [← HQ.out, List.all_eq_true]; intro i hi; exact HAJ.out i (by have := List.mem_range.1 hi; omega)⟩
      go_wp2
      go_ret
      exact ⟨by rw [HX.out]; try rfl, HB.out⟩
end Go.Proofs.YteigfmchnblkgaaGreatDoor.Hand

/- spec.Words, over any requirements. (Printed by wordsn.py out of LabWords.) -/
namespace Go.Proofs.YteigfmchnblkgaaGreatDoor.Hand
open Go.RowKit Go.Maps Go.Proofs.YteigfmchnblkgaaGreatDoorW.PrintWords Go.Proofs.YteigfmchnblkgaaGreatDoorW.PrintLast Go.Proofs.YteigfmchnblkgaaGreatDoorW.PrintMore Go.Proofs.YteigfmchnblkgaaGreatDoor.Base
set_option linter.unusedVariables false
set_option linter.unusedSimpArgs false
set_option maxRecDepth 100000
theorem mk_size (x : L) : (mk x).size = x.length := rfl
theorem mk_toList (x : L) : (mk x).toList = x := by rw [toList_eq]; rfl
theorem pQ_len {x : L} (h : pQ x = true) : x.length ≤ 400 := by
  have hl : ∀ (c : UInt8) (x : L), x.length + 1 = ((pieces c x).map fun p => p.length + 1).sum := by
    intro c x
    induction x with
    | nil => rfl
    | cons b t ih =>
      unfold pieces
      split
      · simp only [List.map_cons, List.sum_cons, List.length_nil, List.length_cons]; omega
      · rcases hp : pieces c t with _ | ⟨q, r⟩
        · exact absurd hp (pieces_ne c t)
        · rw [hp] at ih
          simp only [List.map_cons, List.sum_cons] at ih
          show _ = ((([b] ++ q) :: r).map _).sum
          simp only [List.map_cons, List.sum_cons, List.length_cons, List.length_append, List.length_nil]; omega
  have h1 := hl 47 x
  have hpv : ∀ n : L, pName n = true → n.length ≤ 63 := fun n h => by
    unfold pName pValue most at h; simp only [Bool.and_eq_true, decide_eq_true_eq] at h; exact h.2.1
  unfold pQ at h
  split at h
  · rename_i n e; rw [e] at h1; have := hpv n h; simp at h1; omega
  · rename_i p n e
    simp only [Bool.and_eq_true] at h
    rw [e] at h1
    have h2 := hpv n h.2
    have h3 := h.1.1
    unfold most at h3
    simp only [decide_eq_true_eq] at h3
    simp only [List.map_cons, List.map_nil, List.sum_cons, List.sum_nil] at h1; omega
  · cases h
theorem kq_at2 {w : World} {A : Option Addr} {n : Nat} {l : List Rq} (h : KQ.C w A n (rqV l)) (i : Nat) (h1 : i < n) (r : Rq) (hr : l[i]? = some r) :
    ∃ (ad : Addr) (B : Option Addr) (c : Nat), A = some ad ∧ w.cell? (ad.add (i * 3)) = some (.string (mk r.1)) ∧ w.cell? ⟨(ad.add (i * 3)).block, (ad.add (i * 3)).off + 1, none⟩ = some (.string (mk r.2.1)) ∧ w.cell? ⟨(ad.add (i * 3)).block, (ad.add (i * 3)).off + 2, none⟩ = some (.slice B r.2.2.length c) ∧ r.2.2.length ≤ c ∧ Kd.C Kd.string w B r.2.2.length (r.2.2.map mk) := by
  obtain ⟨ad, c, e, hl, ⟨c0, c1, hc, k0, c2, c3, hc2, k2, B, cc, hc3, hcc, hC⟩, hat⟩ := Kd.C_get h (mk r.1, mk r.2.1, r.2.2.map mk) (i : Int) (by omega) (by omega)
  rw [Int.toNat_natCast] at k0 k2 hC hat hc3 hcc
  have hx : (rqV l).getD i (mk r.1, mk r.2.1, r.2.2.map mk) = (mk r.1, mk r.2.1, r.2.2.map mk) := by
    rw [List.getD_eq_getElem?_getD, rqV, List.getElem?_map, hr]; rfl
  rw [hx] at k0 k2 hC hc3 hcc
  have k0' : c0 = [.string (mk r.1)] := k0
  have k2' : c2 = [.string (mk r.2.1)] := k2
  simp only [List.length_map] at hC hc3 hcc
  subst k0' k2' hc3 hc2
  subst hc
  refine ⟨ad, B, cc, e, hat 0 _ rfl, ?_, ?_, (by first | exact hcc | omega), hC⟩
  · show w.cell? ((ad.add (i * 3)).add 1) = _
    rw [add_add]; exact hat 1 _ rfl
  · show w.cell? ((ad.add (i * 3)).add 2) = _
    rw [add_add]; exact hat 2 _ rfl
end Go.Proofs.YteigfmchnblkgaaGreatDoor.Hand

/- Arguments that are requirements, bytes, texts: opened to what the walks ask for. -/
set_option maxRecDepth 100000
namespace Go.Proofs.YteigfmchnblkgaaGreatDoor.Laid
open Go.Joins Go.ChangeShapes Go.WideShapes Go.RowKit Go.Deep Go.ChangeAt Go.Proofs.YteigfmchnblkgaaGreatDoorW.PrintWords Go.Proofs.YteigfmchnblkgaaGreatDoor.Hand Go.Proofs.YteigfmchnblkgaaGreatDoor.Base
section
variable {H : Type} {enc : TypeId × Value → H} {W : World}
theorem byte_of {n : Int} (h : (Lit.int .u8 n).wf = true) : ∃ c : UInt8, (c.toNat : Int) = n := by
  have h1 : 0 ≤ n ∧ n ≤ 255 := by
    unfold Lit.wf at h
    simp only [Bool.and_eq_true, decide_eq_true_eq] at h
    exact ⟨h.1, h.2⟩
  refine ⟨UInt8.ofNat n.toNat, ?_⟩
  have : (UInt8.ofNat n.toNat).toNat = n.toNat % 256 := by simp
  rw [this]; omega
theorem open_bytes {v : Value} {d : DataW H} {p : List MemPlace} (h : DataW.Trod enc Tryz.prog W 0 (fun _ => true) true 37 v d p) (hs : ∃ b len cap, v = .slice b len cap) :
    ∃ (A : Option Addr) (c n : Nat) (cs : L), v = .slice A n c ∧ Bts W A n cs := by
  obtain ⟨b, len, cap, rfl⟩ := hs
  obtain ⟨fuel, hf⟩ := h
  have hf' : DataW.trod enc Tryz.prog W 0 (fun _ => true) true fuel 37 [.slice b len cap] = some (d, p) := by simpa [Value.cells] using hf
  rcases open_slice Tryz.underlying37 hf' with ⟨hcs, _⟩ | ⟨a, len', cap', m, n, D, Pl, hcs, _, hl, hm, hmm, _, hi⟩
  · simp only [List.cons.injEq, Value.slice.injEq, and_true] at hcs
    obtain ⟨rfl, rfl, rfl⟩ := hcs
    exact ⟨none, 0, 0, [], rfl, rfl, by decide, fun i c hc => by simp at hc⟩
  · simp only [List.cons.injEq, Value.slice.injEq, and_true] at hcs
    obtain ⟨rfl, rfl, rfl⟩ := hcs
    simp only [if_true] at hmm
    unfold maxLen at hm
    have each : ∀ i, i < len → ∃ c : UInt8, W.cell? (a.add i) = some (.int .u8 (c.toNat : Int)) := by
      intro i him
      obtain ⟨cs', hc, ht'⟩ := hi i (by omega)
      obtain ⟨x, e0, _, hwf⟩ := DataW.trod_int Tryz.underlying5 ht'
      subst e0
      obtain ⟨c, rfl⟩ := byte_of hwf
      obtain ⟨_, hcl, hat⟩ := World.cells?_some hc
      have h0 := hat 0 (by rw [show Tryz.prog.cellsOf 5 = 1 by kernel_rfl]; omega)
      refine ⟨c, ?_⟩
      rw [show Tryz.prog.cellsOf 5 = 1 by kernel_rfl] at h0
      have e : (a.add (i * 1)).add 0 = a.add i := by rw [Deep.add_add, Nat.mul_one, Nat.add_zero]
      rw [e] at h0
      exact h0
    have ex : ∃ ls : L, ls.length = len ∧ ∀ (j : Nat) c, ls[j]? = some c → W.cell? (a.add j) = some (.int .u8 (c.toNat : Int)) := by
      refine ⟨List.ofFn (n := len) (fun i => (each i.1 i.2).choose), by simp, fun j q hq => ?_⟩
      obtain ⟨hj, e⟩ := List.getElem?_eq_some_iff.1 hq
      have hjl : j < len := by simpa using hj
      rw [List.getElem_ofFn] at e
      rw [← e]
      exact (each j hjl).choose_spec
    obtain ⟨ls, hlen, hls⟩ := ex
    refine ⟨some a, cap, len, ls, rfl, hlen, by omega, fun i c hc => ⟨a, rfl, hls i c hc, ?_⟩⟩
    have := World.block_lt_of_cell? W _ (hls i c hc)
    rwa [add_block_] at this
end
end Go.Proofs.YteigfmchnblkgaaGreatDoor.Laid
