/- The guards: zzFits5, zzFits4, zzFits2, zzFits1, epPairs. -/
import Derived.Test.YteigfmchnblkgaaGreatDoorMTLabNew
import Derived.Test.YteigfmchnblkgaaGreatDoorMTM24
import Derived.Test.YteigfmchnblkgaaGreatDoorMTM16
import Derived.Test.YteigfmchnblkgaaGreatDoorMTLabMg
namespace Go.Proofs.YteigfmchnblkgaaGreatDoor.Hand
open Go.RowKit Go.Maps Go.Proofs.YteigfmchnblkgaaGreatDoorW.PrintWords Go.Proofs.YteigfmchnblkgaaGreatDoorW.PrintLast Go.Proofs.YteigfmchnblkgaaGreatDoorW.PrintMore Go.Proofs.YteigfmchnblkgaaGreatDoor.Base
set_option linter.unusedVariables false
set_option linter.unusedSimpArgs false
set_option maxRecDepth 100000
theorem all_snoc {α : Type} {f : α → Bool} {l : List α} {i : Nat} {p : α} (hp : l[i]? = some p) (h : (l.take i).all f = true) (h2 : f p = true) : (l.take (i + 1)).all f = true := by
  rw [List.take_add_one, hp]; simp only [List.all_append] at *; rw [h]; simp [h2]
theorem all_not {α : Type} {f : α → Bool} {l : List α} {i : Nat} {p : α} (hp : l[i]? = some p) (h2 : f p = false) : l.all f = false := by
  rw [List.all_eq_false]; exact ⟨p, List.mem_of_getElem? hp, by rw [h2]; simp⟩
def sz (M : Nat) (p : ByteArray) : Bool := decide (p.size ≤ M)
def sz2 (M : Nat) (p : ByteArray × ByteArray) : Bool := sz M p.1 && sz M p.2
def fits1 (ls : List (ByteArray × ByteArray)) : Bool := decide (ls.length ≤ 2147483647) && ls.all (sz2 2147483647)
def pairsOk (ls : List (ByteArray × ByteArray)) : Bool := ls.all (sz2 100) && decide (ls.length ≤ 20)
theorem fits1_t {ls : List (ByteArray × ByteArray)} (h : fits1 ls = true) : ls.length ≤ 2147483647 ∧ ∀ p ∈ ls, p.1.size ≤ 2147483647 ∧ p.2.size ≤ 2147483647 := by
  unfold fits1 sz2 sz at h; simp only [Bool.and_eq_true, decide_eq_true_eq, List.all_eq_true] at h; exact h
theorem pairsOk_t {ls : List (ByteArray × ByteArray)} (h : pairsOk ls = true) : ls.length ≤ 20 ∧ ∀ p ∈ ls, p.1.size ≤ 100 ∧ p.2.size ≤ 100 := by
  unfold pairsOk sz2 sz at h; simp only [Bool.and_eq_true, decide_eq_true_eq, List.all_eq_true] at h; exact ⟨h.2, h.1⟩
set_option maxHeartbeats 8000000 in
theorem Fits2_calls (key op : ByteArray) (w : World) :
    Calls Tryz.prog 44 #[.agg #[.string key, .string op]] w fun e w' => e = .returned (.bool (sz2 2147483647 (key, op))) ∧ Below w.heap.size w w' := by
  have hbk := heap_alloc_new w (.cells #[.string key, .string op] 45)
  have HBA := Aside0.mk (below_alloc (Below.refl w.heap.size w) (.cells #[.string key, .string op] 45))
  obtain ⟨W1, hW1⟩ : ∃ W1, w.alloc (.cells #[.string key, .string op] 45) = W1 := ⟨_, rfl⟩
  rw [hW1] at hbk HBA
  have c0 : W1.cell? ⟨w.heap.size, 0, none⟩ = some (.string key) := (blk_cell hbk 0).trans rfl
  have c1 : W1.cell? ⟨w.heap.size, 1, none⟩ = some (.string op) := (blk_cell hbk 1).trans rfl
  obtain ⟨q, hq⟩ : ∃ q, sz2 2147483647 (key, op) = q := ⟨_, rfl⟩
  have HW := Aside0.mk hq.symm
  unfold sz2 at HW
  rw [hq]
  clear hbk hq
  by_cases hk : key.size ≤ 2147483647
  rotate_left
  · have HX : Aside0 (q = false) := ⟨by rw [HW.out, show sz 2147483647 key = false from decide_eq_false hk]; simp⟩
    have k0 : decide ((2147483647 : Int) < (key.size : Int)) = true := decide_eq_true (by omega)
    have k1 : decide (2147483647 < key.size) = true := decide_eq_true (by omega)
    go_enter Tryz.func44, Tryz.ntmps44
    go_wp2
    go_ret
    exact ⟨by rw [HX.out]; try rfl, HBA.out⟩
  have k0 : decide ((2147483647 : Int) < (key.size : Int)) = false := decide_eq_false (by omega)
  have k1 : decide (2147483647 < key.size) = false := decide_eq_false (by omega)
  by_cases ho : op.size ≤ 2147483647
  rotate_left
  · have HX : Aside0 (q = false) := ⟨by rw [HW.out, show sz 2147483647 op = false from decide_eq_false ho]; simp⟩
    have o0 : decide ((2147483647 : Int) < (op.size : Int)) = true := decide_eq_true (by omega)
    have o1 : decide (2147483647 < op.size) = true := decide_eq_true (by omega)
    go_enter Tryz.func44, Tryz.ntmps44
    go_wp2
    go_ret
    exact ⟨by rw [HX.out]; try rfl, HBA.out⟩
  have o0 : decide ((2147483647 : Int) < (op.size : Int)) = false := decide_eq_false (by omega)
  have o1 : decide (2147483647 < op.size) = false := decide_eq_false (by omega)
  have HX : Aside0 (q = true) := ⟨by rw [HW.out, show sz 2147483647 key = true from decide_eq_true hk, show sz 2147483647 op = true from decide_eq_true ho]; rfl⟩
  go_enter Tryz.func44, Tryz.ntmps44
  go_wp2
  go_ret
  exact ⟨by rw [HX.out]; try rfl, HBA.out⟩
set_option maxHeartbeats 8000000 in
theorem Fits1_calls (A : Option Addr) (c n : Nat) (ls : List (ByteArray × ByteArray)) (hn : ls.length = n) (w : World) (hC : PK.C w A n ls) :
    Calls Tryz.prog 13 #[.slice A n c] w fun e w' => e = .returned (.bool (fits1 ls)) ∧ Below w.heap.size w w' := by
  have HC := Aside0.mk hC
  have HLN := Aside0.mk hn
  have HW : Aside0 (fits1 ls = (decide (n ≤ 2147483647) && ls.all (sz2 2147483647))) := ⟨by unfold fits1; rw [hn]⟩
  obtain ⟨q, hq⟩ : ∃ q, fits1 ls = q := ⟨_, rfl⟩
  rw [hq] at HW ⊢
  have HB0 := Aside0.mk (Below.refl w.heap.size w)
  clear hC hn hq
  by_cases hb : n ≤ 2147483647
  rotate_left
  · have HX : Aside0 (q = false) := ⟨by rw [HW.out, show decide (n ≤ 2147483647) = false from decide_eq_false hb]; rfl⟩
    have b0 : decide ((2147483647 : Int) < (n : Int)) = true := decide_eq_true (by omega)
    have b1 : decide (2147483647 < n) = true := decide_eq_true (by omega)
    go_enter Tryz.func13, Tryz.ntmps13
    go_wp2
    go_ret
    exact ⟨by rw [HX.out]; try rfl, HB0.out⟩
  have HW2 : Aside0 (q = ls.all (sz2 2147483647)) := ⟨by rw [HW.out, show decide (n ≤ 2147483647) = true from decide_eq_true hb]; rfl⟩
  have b0 : decide ((2147483647 : Int) < (n : Int)) = false := decide_eq_false (by omega)
  have b1 : decide (2147483647 < n) = false := decide_eq_false (by omega)
  go_enter Tryz.func13, Tryz.ntmps13
  go_wp2
  go_loopg [10] (n) (fun k v10 w' => ∃ i : Nat, v10 = .int .i64 i ∧ Aside0 (k + i = n) ∧ Aside0 ((ls.take i).all (sz2 2147483647) = true) ∧ Aside0 (Below w.heap.size w w'))
  case atStart => exact ⟨0, rfl, ⟨by omega⟩, ⟨rfl⟩, HB0⟩
  case round =>
    obtain ⟨i, rfl, HI, HA, HB⟩ := hrel
    by_cases hil : i < n
    · obtain ⟨ad, rfl, hk0, hk1⟩ := pk_at (Kd.C_below HC.out HB.out) i hil
      obtain ⟨p, hp⟩ : ∃ p, ls[i]? = some p := ⟨_, List.getElem?_eq_getElem (by rw [HLN.out]; exact hil)⟩
      have hg : ls.getD i (⟨#[]⟩, ⟨#[]⟩) = p := by rw [List.getD_eq_getElem?_getD, hp]; rfl
      rw [hg] at hk0 hk1
      obtain ⟨pk, pv⟩ := p
      replace hk0 : wr.cell? (ad.add (i * 2)) = some (.string pk) := hk0
      replace hk1 : wr.cell? ⟨(ad.add (i * 2)).block, (ad.add (i * 2)).off + 1, none⟩ = some (.string pv) := hk1
      have hbk := heap_alloc_new wr (.cells #[.string pk, .string pv] 45)
      have HB1 := Aside0.mk (below_alloc HB.out (.cells #[.string pk, .string pv] 45))
      have d0 := (blk_cell hbk 0).trans (show _ = some (Value.string pk) from rfl)
      have d1 := (blk_cell hbk 1).trans (show _ = some (Value.string pv) from rfl)
      have H2 := Aside0.mk (Fits2_calls pk pv)
      obtain ⟨f, hf⟩ : ∃ f, sz2 2147483647 (pk, pv) = f := ⟨_, rfl⟩
      rw [hf] at H2
      cases f
      · have HX : Aside0 (q = false) := ⟨by rw [HW2.out]; exact all_not hp hf⟩
        clear hp hg hf hbk
        go_wp2_with (first | ((with_reducible refine (H2.out _).mono ?_); rintro e w2 ⟨rfl, hb⟩; have HB2 := Aside0.mk (below_step HB1.out hb); clear hb))
        go_ret
        exact ⟨by rw [HX.out]; try rfl, HB2.out⟩
      · have HA2 := Aside0.mk (all_snoc hp HA.out hf)
        clear hp hg hf hbk
        go_wp2_with (first | ((with_reducible refine (H2.out _).mono ?_); rintro e w2 ⟨rfl, hb⟩; have HB2 := Aside0.mk (below_step HB1.out hb); clear hb))
        go_roundg (n - (i + 1))
        case measure => have := HI.out; omega
        case rel => exact ⟨i + 1, by go_num, ⟨by omega⟩, HA2, HB2⟩
    · have HX : Aside0 (q = true) := ⟨by have h1 := HI.out; have := HA.out; rw [List.take_of_length_le (by rw [HLN.out]; omega)] at this; rw [HW2.out]; exact this⟩
      go_wp2
      go_ret
      exact ⟨by rw [HX.out]; try rfl, HB.out⟩
set_option maxHeartbeats 8000000 in
/-- epPairs over m lists of labels. -/
theorem epPairs_calls (b cc m : Nat) (As : Nat → Option Addr) (ns cs : Nat → Nat) (xs : Nat → List (ByteArray × ByteArray)) (w : World) (hm : m ≤ 10) (hn : ∀ i, i < m → (xs i).length = ns i) (hn2 : ∀ i, i < m → ns i ≤ 2147483647) (hk : ∀ i, i < m → w.cell? ⟨b, i, none⟩ = some (.slice (As i) (ns i) (cs i))) (hC : ∀ i, i < m → PK.C w (As i) (ns i) (xs i)) :
    Calls Tryz.prog 15 #[.slice (some ⟨b, 0, none⟩) m cc] w fun e w' => e = .returned (.bool ((List.range m).all fun i => pairsOk (xs i))) ∧ Below w.heap.size w w' := by
  have HC := Aside0.mk hC
  have HLN := Aside0.mk hn
  have HLE := Aside0.mk hn2
  have HK := Aside0.mk hk
  have HW : Aside0 (((List.range m).all fun i => pairsOk (xs i)) = ((List.range m).all fun i => pairsOk (xs i))) := ⟨rfl⟩
  obtain ⟨q, hq⟩ : ∃ q, ((List.range m).all fun i => pairsOk (xs i)) = q := ⟨_, rfl⟩
  have HQ := Aside0.mk hq
  rw [hq]
  have HB0 := Aside0.mk (Below.refl w.heap.size w)
  have HF := Aside0.mk (fun (i : Nat) (hi : i < m) (h : pairsOk (xs i) = false) => show q = false from by rw [← hq, List.all_eq_false]; exact ⟨i, List.mem_range.2 hi, by rw [h]; simp⟩)
  clear hC hn hn2 hk hq HW
  go_enter Tryz.func15, Tryz.ntmps15
  go_wp2
  go_loopg [9] (m) (fun k v9 w' => ∃ j : Nat, v9 = .int .i64 j ∧ Aside0 (k + j = m) ∧ Aside0 (∀ i, i < j → pairsOk (xs i) = true) ∧ Aside0 (Below w.heap.size w w'))
  case atStart => exact ⟨0, rfl, ⟨by omega⟩, ⟨fun i h => by omega⟩, HB0⟩
  case round =>
    obtain ⟨j, rfl, HJ, HAJ, HB⟩ := hrel
    by_cases hjm : j < m
    · have hkj := HK.out j hjm
      have HCJ := Aside0.mk (HC.out j hjm)
      have HLJ := Aside0.mk (HLN.out j hjm)
      have hnj := HLE.out j hjm
      have HFJ := Aside0.mk (HF.out j hjm)
      obtain ⟨A, hA⟩ : ∃ A, As j = A := ⟨_, rfl⟩
      obtain ⟨n, hn⟩ : ∃ n, ns j = n := ⟨_, rfl⟩
      obtain ⟨c, hc⟩ : ∃ c, cs j = c := ⟨_, rfl⟩
      obtain ⟨ls, hls⟩ : ∃ ls, xs j = ls := ⟨_, rfl⟩
      rw [hA, hn, hc] at hkj
      rw [hA, hn, hls] at HCJ
      rw [hn, hls] at HLJ
      rw [hn] at hnj
      rw [hls] at HFJ
      have hk2 : wr.cell? ((⟨b, 0, none⟩ : Addr).add j) = some (.slice A n c) := by rw [show ((⟨b, 0, none⟩ : Addr).add j) = ⟨b, j, none⟩ from by rw [Addr.add_lit]; simp]; exact (HB.out.cell (World.block_lt_of_cell? w _ hkj)).trans hkj
      have hk3 : wr.cell? ⟨b, j, none⟩ = some (.slice A n c) := (HB.out.cell (World.block_lt_of_cell? w _ hkj)).trans hkj
      have HPO : Aside0 (pairsOk (xs j) = pairsOk ls) := ⟨by rw [hls]⟩
      clear hA hn hc hls hkj
      generalize gk = go at *
      go_wp2
      go_loopg [15] (n) (fun k v15 w' => ∃ i : Nat, v15 = .int .i64 i ∧ Aside0 (k + i = n) ∧ Aside0 ((ls.take i).all (sz2 100) = true) ∧ Aside0 (Below w.heap.size w w'))
      case atStart => exact ⟨0, rfl, ⟨by omega⟩, ⟨rfl⟩, HB⟩
      case round =>
        clear HB hk2 hk3
        obtain ⟨i, rfl, HI, HA, HB⟩ := hrel
        by_cases hil : i < n
        · obtain ⟨ad, rfl, hk0, hk1⟩ := pk_at (Kd.C_below HCJ.out HB.out) i hil
          obtain ⟨p, hp⟩ : ∃ p, ls[i]? = some p := ⟨_, List.getElem?_eq_getElem (by rw [HLJ.out]; exact hil)⟩
          have hg : ls.getD i (⟨#[]⟩, ⟨#[]⟩) = p := by rw [List.getD_eq_getElem?_getD, hp]; rfl
          rw [hg] at hk0 hk1
          obtain ⟨pk, pv⟩ := p
          replace hk0 : wr.cell? (ad.add (i * 2)) = some (.string pk) := hk0
          replace hk1 : wr.cell? ⟨(ad.add (i * 2)).block, (ad.add (i * 2)).off + 1, none⟩ = some (.string pv) := hk1
          have hbk := heap_alloc_new wr (.cells #[.string pk, .string pv] 45)
          have HB1 := Aside0.mk (below_alloc HB.out (.cells #[.string pk, .string pv] 45))
          have d0 := (blk_cell hbk 0).trans (show _ = some (Value.string pk) from rfl)
          have d1 := (blk_cell hbk 1).trans (show _ = some (Value.string pv) from rfl)
          by_cases h1 : pk.size ≤ 100
          rotate_left
          · have HX : Aside0 (q = false) := ⟨HFJ.out (by unfold pairsOk; rw [all_not hp (show sz2 100 (pk, pv) = false from by unfold sz2; rw [show sz 100 pk = false from decide_eq_false h1]; rfl)]; rfl)⟩
            have a0 : decide ((100 : Int) < (pk.size : Int)) = true := decide_eq_true (by omega)
            have a1 : decide (100 < pk.size) = true := decide_eq_true (by omega)
            clear hp hg hbk
            go_wp2
            go_ret
            exact ⟨by rw [HX.out]; try rfl, HB1.out⟩
          have a0 : decide ((100 : Int) < (pk.size : Int)) = false := decide_eq_false (by omega)
          have a1 : decide (100 < pk.size) = false := decide_eq_false (by omega)
          by_cases h2 : pv.size ≤ 100
          rotate_left
          · have HX : Aside0 (q = false) := ⟨HFJ.out (by unfold pairsOk; rw [all_not hp (show sz2 100 (pk, pv) = false from by unfold sz2; rw [show sz 100 pv = false from decide_eq_false h2]; simp)]; rfl)⟩
            have b0 : decide ((100 : Int) < (pv.size : Int)) = true := decide_eq_true (by omega)
            have b1 : decide (100 < pv.size) = true := decide_eq_true (by omega)
            clear hp hg hbk
            go_wp2
            go_ret
            exact ⟨by rw [HX.out]; try rfl, HB1.out⟩
          have b0 : decide ((100 : Int) < (pv.size : Int)) = false := decide_eq_false (by omega)
          have b1 : decide (100 < pv.size) = false := decide_eq_false (by omega)
          have HA2 := Aside0.mk (all_snoc hp HA.out (show sz2 100 (pk, pv) = true from by unfold sz2; rw [show sz 100 pk = true from decide_eq_true h1, show sz 100 pv = true from decide_eq_true h2]; rfl))
          clear hp hg hbk
          go_wp2
          go_roundg (n - (i + 1))
          case measure => have := HI.out; omega
          case rel => exact ⟨i + 1, by go_num, ⟨by omega⟩, HA2, HB1⟩
        · have hal : ls.all (sz2 100) = true := by have h1 := HI.out; have := HA.out; rwa [List.take_of_length_le (by rw [HLJ.out]; omega)] at this
          by_cases h20 : n ≤ 20
          rotate_left
          · have HX : Aside0 (q = false) := ⟨HFJ.out (by unfold pairsOk; rw [hal, HLJ.out, show decide (n ≤ 20) = false from decide_eq_false h20]; rfl)⟩
            have a0 : decide ((20 : Int) < (n : Int)) = true := decide_eq_true (by omega)
            have a1 : decide (20 < n) = true := decide_eq_true (by omega)
            clear hal
            go_wp2
            go_ret
            exact ⟨by rw [HX.out]; try rfl, HB.out⟩
          have HAJ2 : Aside0 (∀ i, i < j + 1 → pairsOk (xs i) = true) := ⟨fun i h => by
          by_cases e : i = j
          · subst e; rw [HPO.out]; unfold pairsOk; rw [hal, HLJ.out, show decide (n ≤ 20) = true from decide_eq_true h20]; rfl
          · exact HAJ.out i (by omega)⟩
          have a0 : decide ((20 : Int) < (n : Int)) = false := decide_eq_false (by omega)
          have a1 : decide (20 < n) = false := decide_eq_false (by omega)
          clear hal
          go_wp2
          go_roundg (go - 1)
          case measure => have := HJ.out; omega
          case rel => exact ⟨j + 1, by go_num, ⟨by have := HJ.out; omega⟩, HAJ2, HB⟩
    · have HX : Aside0 (q = true) := ⟨by have h1 := HJ.out; rw [← HQ.out, List.all_eq_true]; intro i hi; exact HAJ.out i (by have := List.mem_range.1 hi; omega)⟩
      go_wp2
      go_ret
      exact ⟨by rw [HX.out]; try rfl, HB.out⟩
end Go.Proofs.YteigfmchnblkgaaGreatDoor.Hand

/- The law FnLabelsBoth. -/
namespace Go.Proofs.YteigfmchnblkgaaGreatDoor.Hand
open Go.RowKit Go.Maps Go.Proofs.YteigfmchnblkgaaGreatDoorW.PrintWords Go.Proofs.YteigfmchnblkgaaGreatDoorW.PrintLast Go.Proofs.YteigfmchnblkgaaGreatDoorW.PrintMore Go.Proofs.YteigfmchnblkgaaGreatDoor.Base
set_option linter.unusedVariables false
set_option linter.unusedSimpArgs false
set_option maxRecDepth 100000
theorem map_un (ls : List (ByteArray × ByteArray)) : (ls.map unP).map mkP = ls := by
  rw [List.map_map, show mkP ∘ unP = id from rfl, List.map_id]
end Go.Proofs.YteigfmchnblkgaaGreatDoor.Hand

/- The law FnLabelsMerge. -/
namespace Go.Proofs.YteigfmchnblkgaaGreatDoor.Hand
open Go.RowKit Go.Maps Go.Proofs.YteigfmchnblkgaaGreatDoorW.PrintWords Go.Proofs.YteigfmchnblkgaaGreatDoorW.PrintLast Go.Proofs.YteigfmchnblkgaaGreatDoorW.PrintMore Go.Proofs.YteigfmchnblkgaaGreatDoor.Base
set_option linter.unusedVariables false
set_option linter.unusedSimpArgs false
set_option maxRecDepth 100000
theorem pk_empty (W : World) (base : Nat) (hb : base ≤ W.heap.size) : PK.R 45 (W.alloc (.cells #[] 45)) base (fun _ => True) (.slice (some ⟨W.heap.size, 0, none⟩) 0 0) ([] : List (ByteArray × ByteArray)) :=
  pk_of_own (World.ownsRow_lit (base := base) (e := 45) (size := 2) W #[] 0 hb (by unfold maxLen; omega) rfl)
set_option maxHeartbeats 16000000 in
theorem LM_calls (A : Option Addr) (c n : Nat) (ls : List (ByteArray × ByteArray)) (hn : ls.length = n) (hnc : n ≤ c) (A2 : Option Addr) (c2 n2 : Nat) (l2 : List (ByteArray × ByteArray)) (hn2 : l2.length = n2) (hnc2 : n2 ≤ c2) (w : World) (hP : PK.C w A n ls) (hP2 : PK.C w A2 n2 l2) (hT : TV w) :
    Calls Tryz.prog 10 #[.slice A n c, .slice A2 n2 c2] w fun e w' => e = .returned (.bool true) ∧ Below w.heap.size w w' := by
  have HP := Aside0.mk hP
  have HQ := Aside0.mk hP2
  have HT := Aside0.mk hT
  have HL := Aside0.mk (And.intro hn hn2)
  have HBA := Aside0.mk (Below.refl w.heap.size w)
  have HF1 := Aside0.mk (fun (W : World) (hb : Below w.heap.size w W) => Fits1_calls A c n ls hn W (Kd.C_below hP hb))
  have HF2 := Aside0.mk (fun (W : World) (hb : Below w.heap.size w W) => Fits1_calls A2 c2 n2 l2 hn2 W (Kd.C_below hP2 hb))
  have HSE := Aside0.mk (fun (W : World) (hb : Below w.heap.size w W) => epSel_calls W (hT.below hb))
  clear hP hP2 hT hn hn2
  cases hf1 : fits1 ls
  · rw [hf1] at HF1
    clear hf1
    go_enter Tryz.func10, Tryz.ntmps10
    go_wp2_with (first | ((with_reducible refine (HF1.out _ HBA.out).mono ?_); rintro e w1 ⟨rfl, hb⟩; have HB1 := Aside0.mk (below_step HBA.out hb); clear hb HF1))
    go_ret
    exact ⟨rfl, HB1.out⟩
  rw [hf1] at HF1
  obtain ⟨hm1, hz1⟩ := fits1_t hf1
  rw [HL.out.1] at hm1
  clear hf1
  cases hf2 : fits1 l2
  · rw [hf2] at HF2
    clear hf2 hz1
    go_enter Tryz.func10, Tryz.ntmps10
    go_wp2_with (first | ((with_reducible refine (HF1.out _ HBA.out).mono ?_); rintro e w1 ⟨rfl, hb⟩; have HB1 := Aside0.mk (below_step HBA.out hb); clear hb HF1) | ((with_reducible refine (HF2.out _ HB1.out).mono ?_); rintro e w2 ⟨rfl, hb⟩; have HB2 := Aside0.mk (below_step HB1.out hb); clear hb HF2))
    go_ret
    exact ⟨rfl, HB2.out⟩
  rw [hf2] at HF2
  obtain ⟨hm2, hz2⟩ := fits1_t hf2
  rw [HL.out.2] at hm2
  clear hf2
  have HEP := Aside0.mk (fun (b : Nat) (W : World) (hb : Below w.heap.size w W) (hk : W.cell? ⟨b, 0, none⟩ = some (.slice A n c)) (hk2 : W.cell? ⟨b, 1, none⟩ = some (.slice A2 n2 c2)) => epPairs_calls b 2 2 (fun i => if i = 0 then A else A2) (fun i => if i = 0 then n else n2) (fun i => if i = 0 then c else c2) (fun i => if i = 0 then ls else l2) W (by omega)
    (fun i hi => by by_cases h : i = 0 <;> simp only [h, if_true, if_false]; exact HL.out.1; exact HL.out.2)
    (fun i hi => by by_cases h : i = 0 <;> simp only [h, if_true, if_false]; exact hm1; exact hm2)
    (fun i hi => by by_cases h : i = 0; (subst h; exact hk); (obtain rfl : i = 1 := by omega); exact hk2)
    (fun i hi => by by_cases h : i = 0 <;> simp only [h, if_true, if_false]; exact Kd.C_below HP.out hb; exact Kd.C_below HQ.out hb))
  rw [show ((List.range 2).all fun i => pairsOk (if i = 0 then ls else l2)) = (pairsOk ls && pairsOk l2) from by simp [List.range_succ]] at HEP
  cases hep : (pairsOk ls && pairsOk l2)
  · rw [hep] at HEP
    clear hep hz1 hz2 hm1 hm2
    go_enter Tryz.func10, Tryz.ntmps10
    go_wp2_with (first | ((with_reducible refine (HF1.out _ HBA.out).mono ?_); rintro e w1 ⟨rfl, hb⟩; have HB1 := Aside0.mk (below_step HBA.out hb); clear hb HF1) | ((with_reducible refine (HF2.out _ HB1.out).mono ?_); rintro e w2 ⟨rfl, hb⟩; have HB2 := Aside0.mk (below_step HB1.out hb); have hbk6 := heap_alloc_new w2 (.cells #[.slice A n c, .slice A2 n2 c2] 22); have HS6 := Aside0.mk ((blk_cell hbk6 0).trans (show _ = some (Value.slice A n c) from rfl)); have HS7 := Aside0.mk ((blk_cell hbk6 1).trans (show _ = some (Value.slice A2 n2 c2) from rfl)); have HB6 := Aside0.mk (below_alloc HB2.out (.cells #[.slice A n c, .slice A2 n2 c2] 22)); clear hb HF2 hbk6) | ((with_reducible refine (HEP.out _ _ HB6.out HS6.out HS7.out).mono ?_); rintro e w7 ⟨rfl, hb⟩; have HB7 := Aside0.mk (below_step HB6.out hb); clear hb HEP))
    go_ret
    exact ⟨rfl, HB7.out⟩
  rw [hep] at HEP
  obtain ⟨hq1, hq2⟩ := Bool.and_eq_true_iff.1 hep
  obtain ⟨hl1, hs1⟩ := pairsOk_t hq1
  obtain ⟨hl2, hs2⟩ := pairsOk_t hq2
  rw [HL.out.1] at hl1
  rw [HL.out.2] at hl2
  clear hep hq1 hq2
  have hln : (ls ++ l2).length = n + n2 := by rw [List.length_append, HL.out.1, HL.out.2]
  have HLM := Aside0.mk (fun (W : World) (hb : Below w.heap.size w W) => show Calls Tryz.prog 37 #[.slice A n c, .slice A2 n2 c2] W fun e w' => ∃ v : Value, e = .returned v ∧ PK.R 45 w' W.heap.size (fun _ => True) v ((keyL ((ls ++ l2).map unP)).map mkP) ∧ Below W.heap.size W w' from by
    have h := LMerge_calls A A2 c c2 ls l2 (by rw [HL.out.1]; omega) (by rw [HL.out.2]; omega) (fun p hp => by have := hs1 p hp; omega) (fun p hp => by have := hs2 p hp; omega) W (by rw [HL.out.1]; exact Kd.C_below HP.out hb) (by rw [HL.out.2]; exact Kd.C_below HQ.out hb)
    rw [HL.out.1, HL.out.2, ← List.map_append] at h
    exact h)
  have HKE := Aside0.mk (fun (AF : Option Addr) (cF : Nat) (W : World) (hC : PK.C W AF (n + n2) (ls ++ l2)) (hc : n + n2 ≤ cF) => show Calls Tryz.prog 33 #[.slice AF (n + n2) cF] W fun e w' => ∃ v : Value, e = .returned v ∧ PK.R 45 w' W.heap.size (fun _ => True) v ((keyL ((ls ++ l2).map unP)).map mkP) ∧ Below W.heap.size W w' from by
    have h := Keyed_calls AF cF ((ls ++ l2).map unP) (by rw [List.length_map, hln]; omega) W (by rw [map_un, List.length_map, hln]; exact hC) (by rw [List.length_map, hln]; exact hc)
    rw [List.length_map, hln] at h
    exact h)
  have hzl : ((keyL ((ls ++ l2).map unP)).map mkP).length ≤ 40 := by
    have := keyL_len ((ls ++ l2).map unP)
    rw [List.length_map] at this ⊢
    omega
  generalize (keyL ((ls ++ l2).map unP)).map mkP = zs at *
  have HSP := Aside0.mk (fun AX cX AY cY (W : World) (h1 : PK.C W AX zs.length zs) (h2 : PK.C W AY zs.length zs) => SamePairs_calls AX AY zs.length cX zs.length cY zs zs rfl rfl (by omega) (by omega) W h1 h2)
  rw [show decide (zs = zs) = true from by simp] at HSP
  have HLN : Aside0 ((ls ++ l2).length = n + n2 ∧ n ≤ 20 ∧ n2 ≤ 20 ∧ ls.length = n) := ⟨hln, hl1, hl2, HL.out.1⟩
  clear hln hzl hz1 hz2 hm1 hm2 hl1 hl2 hs1 hs2 hnc hnc2 HL
  go_enter Tryz.func10, Tryz.ntmps10
  go_wp2_with (first
    | ((with_reducible refine (HF1.out _ HBA.out).mono ?_); rintro e w1 ⟨rfl, hb⟩; have HB1 := Aside0.mk (below_step HBA.out hb); clear hb HF1)
    | ((with_reducible refine (HF2.out _ HB1.out).mono ?_); rintro e w2 ⟨rfl, hb⟩; have HB2 := Aside0.mk (below_step HB1.out hb); have hbk6 := heap_alloc_new w2 (.cells #[.slice A n c, .slice A2 n2 c2] 22); have HS6 := Aside0.mk ((blk_cell hbk6 0).trans (show _ = some (Value.slice A n c) from rfl)); have HS7 := Aside0.mk ((blk_cell hbk6 1).trans (show _ = some (Value.slice A2 n2 c2) from rfl)); have HB6 := Aside0.mk (below_alloc HB2.out (.cells #[.slice A n c, .slice A2 n2 c2] 22)); clear hb HF2 hbk6)
    | ((with_reducible refine (HEP.out _ _ HB6.out HS6.out HS7.out).mono ?_); rintro e w7 ⟨rfl, hb⟩; have HB7 := Aside0.mk (below_step HB6.out hb); clear hb HEP)
    | ((with_reducible refine (HLM.out _ HB7.out).mono ?_); rintro e w8 ⟨v8, rfl, hr, hb⟩; have HB8 := Aside0.mk (below_step HB7.out hb); (obtain ⟨AX, cX, eX⟩ := Kd.R_slice hr); subst eX; have HX8 := Aside0.mk (Kd.R_reads' hr).2.2; have HP8 := Aside0.mk (Kd.C_below HP.out HB8.out); have HQ8 := Aside0.mk (Kd.C_below HQ.out HB8.out); have HR9 := Aside0.mk (pk_empty w8 w8.heap.size (Nat.le_refl _)); have HB9 := Aside0.mk (below_alloc (Below.refl w8.heap.size w8) (.cells #[] 45)); have HP9 := Aside0.mk (Kd.C_below HP8.out HB9.out); clear hr hb HLM)
    | ((with_reducible refine gate_builtin (b := .append) (xs := #[.tmp 21, .tmp 22]) rfl ?_); (try (refine gate_guard (by rfl) ?_; dsimp only)); at_builtin; refine Kd.R_append_rows PK (w0 := w8) w8.heap.size rfl (.tmp 21) (.tmp 22) 22 45 (.agg #[.string ⟨#[]⟩, .string ⟨#[]⟩]) 32 rfl Tryz.underlying22 infoPr rfl (by decide) (by decide) (.slice (some ⟨w8.heap.size, 0, none⟩) 0 0) [] ls A n c (fun _ => True) (fun _ => False) rfl rfl ?aO ?aR (fun _ _ h => h) (fun _ h => h.elim) ?aF ?aB ?aS ?aL ?_; (case aR => exact HP9.out); (case aB => exact HB9.out); (case aF => exact (fun _ _ => trivial)); (case aO => exact HR9.out); (case aS => exact below_size HB9.out); (case aL => have := HLN.out; simp only [List.length_nil]; omega); intro v10 w10 ho hb hg hat; rw [List.nil_append] at ho; (obtain ⟨AE, cE, eE⟩ := Kd.R_slice ho); rw [HLN.out.2.2.2] at eE; subst eE; have HR10 := Aside0.mk ho; have HB10 := Aside0.mk hb; have HQ10 := Aside0.mk (Kd.C_below HQ8.out hb); clear ho hb hg hat)
    | ((with_reducible refine gate_builtin (b := .append) (xs := #[.tmp 23, .tmp 24]) rfl ?_); (try (refine gate_guard (by rfl) ?_; dsimp only)); at_builtin; refine Kd.R_append_rows PK (w0 := w8) w8.heap.size rfl (.tmp 23) (.tmp 24) 22 45 (.agg #[.string ⟨#[]⟩, .string ⟨#[]⟩]) 32 rfl Tryz.underlying22 infoPr rfl (by decide) (by decide) (.slice AE n cE) ls l2 A2 n2 c2 (fun _ => True) (fun _ => False) rfl rfl ?aO ?aR (fun _ _ h => h) (fun _ h => h.elim) ?aF ?aB ?aS ?aL ?_; (case aR => exact HQ10.out); (case aB => exact HB10.out); (case aF => exact (fun _ _ => trivial)); (case aO => exact HR10.out); (case aS => exact below_size HB10.out); (case aL => have := HLN.out; omega); intro v11 w11 ho hb hg hat; (obtain ⟨AF, cF, eF⟩ := Kd.R_slice ho); rw [HLN.out.1] at eF; subst eF; have hh := (Kd.R_reads' ho).2; (try rw [HLN.out.1] at hh); have HC11 := Aside0.mk hh; have HB11 := Aside0.mk (below_step HB8.out hb); have HX11 := Aside0.mk (Kd.C_below HX8.out hb); clear ho hb hg hat hh)
    | ((with_reducible refine (HKE.out _ _ _ HC11.out.2 HC11.out.1).mono ?_); rintro e w12 ⟨v12, rfl, hr, hb⟩; have HB12 := Aside0.mk (below_step HB11.out hb); (obtain ⟨AY, cY, eY⟩ := Kd.R_slice hr); subst eY; have HY12 := Aside0.mk (Kd.R_reads' hr).2.2; have HX12 := Aside0.mk (Kd.C_below HX11.out hb); clear hr hb HKE)
    | ((with_reducible refine (HSP.out _ _ _ _ _ HX12.out HY12.out).mono ?_); rintro e w13 ⟨rfl, hb⟩; have HB13 := Aside0.mk (below_step HB12.out hb); clear hb HSP)
    | ((with_reducible refine (HSE.out _ HB13.out).mono ?_); rintro e w14 ⟨rfl, hb⟩; have HB14 := Aside0.mk (below_step HB13.out hb); clear hb HSE))
  go_ret
  exact ⟨rfl, HB14.out⟩
end Go.Proofs.YteigfmchnblkgaaGreatDoor.Hand
