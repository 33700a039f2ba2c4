/- The guards: zzFits5, zzFits4, zzFits2, zzFits1, epPairs. -/
import Derived.Test.YteigfmchnblkgaaGreatDoorLBLabNew
import Derived.Laws.CopyOwn
import Derived.Below
import Derived.Test.YteigfmchnblkgaaGreatDoorLBM4
import Derived.Test.YteigfmchnblkgaaGreatDoorLBM9
import Derived.Test.YteigfmchnblkgaaGreatDoorLBLabSetOf
namespace Go.Proofs.YteigfmchnblkgaaGreatDoor.Hand
open Go.RowKit Go.Maps Go.Proofs.YteigfmchnblkgaaGreatDoorW.PrintWords Go.Proofs.YteigfmchnblkgaaGreatDoorW.PrintLast Go.Proofs.YteigfmchnblkgaaGreatDoorW.PrintMore Go.Proofs.YteigfmchnblkgaaGreatDoor.Base
set_option linter.unusedVariables false
set_option linter.unusedSimpArgs false
set_option maxRecDepth 100000
theorem all_snoc {α : Type} {f : α → Bool} {l : List α} {i : Nat} {p : α} (hp : l[i]? = some p) (h : (l.take i).all f = true) (h2 : f p = true) : (l.take (i + 1)).all f = true := by
  rw [List.take_add_one, hp]; simp only [List.all_append] at *; rw [h]; simp [h2]
theorem all_not {α : Type} {f : α → Bool} {l : List α} {i : Nat} {p : α} (hp : l[i]? = some p) (h2 : f p = false) : l.all f = false := by
  rw [List.all_eq_false]; exact ⟨p, List.mem_of_getElem? hp, by rw [h2]; simp⟩
def sz (M : Nat) (p : ByteArray) : Bool := decide (p.size ≤ M)
def sz2 (M : Nat) (p : ByteArray × ByteArray) : Bool := sz M p.1 && sz M p.2
def fits1 (ls : List (ByteArray × ByteArray)) : Bool := decide (ls.length ≤ 2147483647) && ls.all (sz2 2147483647)
def pairsOk (ls : List (ByteArray × ByteArray)) : Bool := ls.all (sz2 100) && decide (ls.length ≤ 20)
theorem fits1_t {ls : List (ByteArray × ByteArray)} (h : fits1 ls = true) : ls.length ≤ 2147483647 ∧ ∀ p ∈ ls, p.1.size ≤ 2147483647 ∧ p.2.size ≤ 2147483647 := by
  unfold fits1 sz2 sz at h; simp only [Bool.and_eq_true, decide_eq_true_eq, List.all_eq_true] at h; exact h
theorem pairsOk_t {ls : List (ByteArray × ByteArray)} (h : pairsOk ls = true) : ls.length ≤ 20 ∧ ∀ p ∈ ls, p.1.size ≤ 100 ∧ p.2.size ≤ 100 := by
  unfold pairsOk sz2 sz at h; simp only [Bool.and_eq_true, decide_eq_true_eq, List.all_eq_true] at h; exact ⟨h.2, h.1⟩
set_option maxHeartbeats 8000000 in
theorem Fits2_calls (key op : ByteArray) (w : World) :
    Calls Tryz.prog 44 #[.agg #[.string key, .string op]] w fun e w' => e = .returned (.bool (sz2 2147483647 (key, op))) ∧ Below w.heap.size w w' := by
  have hbk := heap_alloc_new w (.cells #[.string key, .string op] 45)
  have HBA := Aside0.mk (below_alloc (Below.refl w.heap.size w) (.cells #[.string key, .string op] 45))
  obtain ⟨W1, hW1⟩ : ∃ W1, w.alloc (.cells #[.string key, .string op] 45) = W1 := ⟨_, rfl⟩
  rw [hW1] at hbk HBA
  have c0 : W1.cell? ⟨w.heap.size, 0, none⟩ = some (.string key) := (blk_cell hbk 0).trans rfl
  have c1 : W1.cell? ⟨w.heap.size, 1, none⟩ = some (.string op) := (blk_cell hbk 1).trans rfl
  obtain ⟨q, hq⟩ : ∃ q, sz2 2147483647 (key, op) = q := ⟨_, rfl⟩
  have HW := Aside0.mk hq.symm
  unfold sz2 at HW
  rw [hq]
  clear hbk hq
  by_cases hk : key.size ≤ 2147483647
  rotate_left
  · have HX : Aside0 (q = false) := ⟨by rw [HW.out, show sz 2147483647 key = false from decide_eq_false hk]; simp⟩
    have k0 : decide ((2147483647 : Int) < (key.size : Int)) = true := decide_eq_true (by omega)
    have k1 : decide (2147483647 < key.size) = true := decide_eq_true (by omega)
    go_enter Tryz.func44, Tryz.ntmps44
    go_wp2
    go_ret
    exact ⟨by rw [HX.out]; try rfl, HBA.out⟩
  have k0 : decide ((2147483647 : Int) < (key.size : Int)) = false := decide_eq_false (by omega)
  have k1 : decide (2147483647 < key.size) = false := decide_eq_false (by omega)
  by_cases ho : op.size ≤ 2147483647
  rotate_left
  · have HX : Aside0 (q = false) := ⟨by rw [HW.out, show sz 2147483647 op = false from decide_eq_false ho]; simp⟩
    have o0 : decide ((2147483647 : Int) < (op.size : Int)) = true := decide_eq_true (by omega)
    have o1 : decide (2147483647 < op.size) = true := decide_eq_true (by omega)
    go_enter Tryz.func44, Tryz.ntmps44
    go_wp2
    go_ret
    exact ⟨by rw [HX.out]; try rfl, HBA.out⟩
  have o0 : decide ((2147483647 : Int) < (op.size : Int)) = false := decide_eq_false (by omega)
  have o1 : decide (2147483647 < op.size) = false := decide_eq_false (by omega)
  have HX : Aside0 (q = true) := ⟨by rw [HW.out, show sz 2147483647 key = true from decide_eq_true hk, show sz 2147483647 op = true from decide_eq_true ho]; rfl⟩
  go_enter Tryz.func44, Tryz.ntmps44
  go_wp2
  go_ret
  exact ⟨by rw [HX.out]; try rfl, HBA.out⟩
set_option maxHeartbeats 8000000 in
theorem Fits1_calls (A : Option Addr) (c n : Nat) (ls : List (ByteArray × ByteArray)) (hn : ls.length = n) (w : World) (hC : PK.C w A n ls) :
    Calls Tryz.prog 13 #[.slice A n c] w fun e w' => e = .returned (.bool (fits1 ls)) ∧ Below w.heap.size w w' := by
  have HC := Aside0.mk hC
  have HLN := Aside0.mk hn
  have HW : Aside0 (fits1 ls = (decide (n ≤ 2147483647) && ls.all (sz2 2147483647))) := ⟨by unfold fits1; rw [hn]⟩
  obtain ⟨q, hq⟩ : ∃ q, fits1 ls = q := ⟨_, rfl⟩
  rw [hq] at HW ⊢
  have HB0 := Aside0.mk (Below.refl w.heap.size w)
  clear hC hn hq
  by_cases hb : n ≤ 2147483647
  rotate_left
  · have HX : Aside0 (q = false) := ⟨by rw [HW.out, show decide (n ≤ 2147483647) = false from decide_eq_false hb]; rfl⟩
    have b0 : decide ((2147483647 : Int) < (n : Int)) = true := decide_eq_true (by omega)
    have b1 : decide (2147483647 < n) = true := decide_eq_true (by omega)
    go_enter Tryz.func13, Tryz.ntmps13
    go_wp2
    go_ret
    exact ⟨by rw [HX.out]; try rfl, HB0.out⟩
  have HW2 : Aside0 (q = ls.all (sz2 2147483647)) := ⟨by rw [HW.out, show decide (n ≤ 2147483647) = true from decide_eq_true hb]; rfl⟩
  have b0 : decide ((2147483647 : Int) < (n : Int)) = false := decide_eq_false (by omega)
  have b1 : decide (2147483647 < n) = false := decide_eq_false (by omega)
  go_enter Tryz.func13, Tryz.ntmps13
  go_wp2
  go_loopg [10] (n) (fun k v10 w' => ∃ i : Nat, v10 = .int .i64 i ∧ Aside0 (k + i = n) ∧ Aside0 ((ls.take i).all (sz2 2147483647) = true) ∧ Aside0 (Below w.heap.size w w'))
  case atStart => exact ⟨0, rfl, ⟨by omega⟩, ⟨rfl⟩, HB0⟩
  case round =>
    obtain ⟨i, rfl, HI, HA, HB⟩ := hrel
    by_cases hil : i < n
    · obtain ⟨ad, rfl, hk0, hk1⟩ := pk_at (Kd.C_below HC.out HB.out) i hil
      obtain ⟨p, hp⟩ : ∃ p, ls[i]? = some p := ⟨_, List.getElem?_eq_getElem (by rw [HLN.out]; exact hil)⟩
      have hg : ls.getD i (⟨#[]⟩, ⟨#[]⟩) = p := by rw [List.getD_eq_getElem?_getD, hp]; rfl
      rw [hg] at hk0 hk1
      obtain ⟨pk, pv⟩ := p
      replace hk0 : wr.cell? (ad.add (i * 2)) = some (.string pk) := hk0
      replace hk1 : wr.cell? ⟨(ad.add (i * 2)).block, (ad.add (i * 2)).off + 1, none⟩ = some (.string pv) := hk1
      have hbk := heap_alloc_new wr (.cells #[.string pk, .string pv] 45)
      have HB1 := Aside0.mk (below_alloc HB.out (.cells #[.string pk, .string pv] 45))
      have d0 := (blk_cell hbk 0).trans (show _ = some (Value.string pk) from rfl)
      have d1 := (blk_cell hbk 1).trans (show _ = some (Value.string pv) from rfl)
      have H2 := Aside0.mk (Fits2_calls pk pv)
      obtain ⟨f, hf⟩ : ∃ f, sz2 2147483647 (pk, pv) = f := ⟨_, rfl⟩
      rw [hf] at H2
      cases f
      · have HX : Aside0 (q = false) := ⟨by rw [HW2.out]; exact all_not hp hf⟩
        clear hp hg hf hbk
        go_wp2_with (first | ((with_reducible refine (H2.out _).mono ?_); rintro e w2 ⟨rfl, hb⟩; have HB2 := Aside0.mk (below_step HB1.out hb); clear hb))
        go_ret
        exact ⟨by rw [HX.out]; try rfl, HB2.out⟩
      · have HA2 := Aside0.mk (all_snoc hp HA.out hf)
        clear hp hg hf hbk
        go_wp2_with (first | ((with_reducible refine (H2.out _).mono ?_); rintro e w2 ⟨rfl, hb⟩; have HB2 := Aside0.mk (below_step HB1.out hb); clear hb))
        go_roundg (n - (i + 1))
        case measure => have := HI.out; omega
        case rel => exact ⟨i + 1, by go_num, ⟨by omega⟩, HA2, HB2⟩
    · have HX : Aside0 (q = true) := ⟨by have h1 := HI.out; have := HA.out; rw [List.take_of_length_le (by rw [HLN.out]; omega)] at this; rw [HW2.out]; exact this⟩
      go_wp2
      go_ret
      exact ⟨by rw [HX.out]; try rfl, HB.out⟩
set_option maxHeartbeats 8000000 in
/-- epPairs over m lists of labels. -/
theorem epPairs_calls (b cc m : Nat) (As : Nat → Option Addr) (ns cs : Nat → Nat) (xs : Nat → List (ByteArray × ByteArray)) (w : World) (hm : m ≤ 10) (hn : ∀ i, i < m → (xs i).length = ns i) (hn2 : ∀ i, i < m → ns i ≤ 2147483647) (hk : ∀ i, i < m → w.cell? ⟨b, i, none⟩ = some (.slice (As i) (ns i) (cs i))) (hC : ∀ i, i < m → PK.C w (As i) (ns i) (xs i)) :
    Calls Tryz.prog 15 #[.slice (some ⟨b, 0, none⟩) m cc] w fun e w' => e = .returned (.bool ((List.range m).all fun i => pairsOk (xs i))) ∧ Below w.heap.size w w' := by
  have HC := Aside0.mk hC
  have HLN := Aside0.mk hn
  have HLE := Aside0.mk hn2
  have HK := Aside0.mk hk
  have HW : Aside0 (((List.range m).all fun i => pairsOk (xs i)) = ((List.range m).all fun i => pairsOk (xs i))) := ⟨rfl⟩
  obtain ⟨q, hq⟩ : ∃ q, ((List.range m).all fun i => pairsOk (xs i)) = q := ⟨_, rfl⟩
  have HQ := Aside0.mk hq
  rw [hq]
  have HB0 := Aside0.mk (Below.refl w.heap.size w)
  have HF := Aside0.mk (fun (i : Nat) (hi : i < m) (h : pairsOk (xs i) = false) => show q = false from by rw [← hq, List.all_eq_false]; exact ⟨i, List.mem_range.2 hi, by rw [h]; simp⟩)
  clear hC hn hn2 hk hq HW
  go_enter Tryz.func15, Tryz.ntmps15
  go_wp2
  go_loopg [9] (m) (fun k v9 w' => ∃ j : Nat, v9 = .int .i64 j ∧ Aside0 (k + j = m) ∧ Aside0 (∀ i, i < j → pairsOk (xs i) = true) ∧ Aside0 (Below w.heap.size w w'))
  case atStart => exact ⟨0, rfl, ⟨by omega⟩, ⟨fun i h => by omega⟩, HB0⟩
  case round =>
    obtain ⟨j, rfl, HJ, HAJ, HB⟩ := hrel
    by_cases hjm : j < m
    · have hkj := HK.out j hjm
      have HCJ := Aside0.mk (HC.out j hjm)
      have HLJ := Aside0.mk (HLN.out j hjm)
      have hnj := HLE.out j hjm
      have HFJ := Aside0.mk (HF.out j hjm)
      obtain ⟨A, hA⟩ : ∃ A, As j = A := ⟨_, rfl⟩
      obtain ⟨n, hn⟩ : ∃ n, ns j = n := ⟨_, rfl⟩
      obtain ⟨c, hc⟩ : ∃ c, cs j = c := ⟨_, rfl⟩
      obtain ⟨ls, hls⟩ : ∃ ls, xs j = ls := ⟨_, rfl⟩
      rw [hA, hn, hc] at hkj
      rw [hA, hn, hls] at HCJ
      rw [hn, hls] at HLJ
      rw [hn] at hnj
      rw [hls] at HFJ
      have hk2 : wr.cell? ((⟨b, 0, none⟩ : Addr).add j) = some (.slice A n c) := by rw [show ((⟨b, 0, none⟩ : Addr).add j) = ⟨b, j, none⟩ from by rw [Addr.add_lit]; simp]; exact (HB.out.cell (World.block_lt_of_cell? w _ hkj)).trans hkj
      have hk3 : wr.cell? ⟨b, j, none⟩ = some (.slice A n c) := (HB.out.cell (World.block_lt_of_cell? w _ hkj)).trans hkj
      have HPO : Aside0 (pairsOk (xs j) = pairsOk ls) := ⟨by rw [hls]⟩
      clear hA hn hc hls hkj
      generalize gk = go at *
      go_wp2
      go_loopg [15] (n) (fun k v15 w' => ∃ i : Nat, v15 = .int .i64 i ∧ Aside0 (k + i = n) ∧ Aside0 ((ls.take i).all (sz2 100) = true) ∧ Aside0 (Below w.heap.size w w'))
      case atStart => exact ⟨0, rfl, ⟨by omega⟩, ⟨rfl⟩, HB⟩
      case round =>
        clear HB hk2 hk3
        obtain ⟨i, rfl, HI, HA, HB⟩ := hrel
        by_cases hil : i < n
        · obtain ⟨ad, rfl, hk0, hk1⟩ := pk_at (Kd.C_below HCJ.out HB.out) i hil
          obtain ⟨p, hp⟩ : ∃ p, ls[i]? = some p := ⟨_, List.getElem?_eq_getElem (by rw [HLJ.out]; exact hil)⟩
          have hg : ls.getD i (⟨#[]⟩, ⟨#[]⟩) = p := by rw [List.getD_eq_getElem?_getD, hp]; rfl
          rw [hg] at hk0 hk1
          obtain ⟨pk, pv⟩ := p
          replace hk0 : wr.cell? (ad.add (i * 2)) = some (.string pk) := hk0
          replace hk1 : wr.cell? ⟨(ad.add (i * 2)).block, (ad.add (i * 2)).off + 1, none⟩ = some (.string pv) := hk1
          have hbk := heap_alloc_new wr (.cells #[.string pk, .string pv] 45)
          have HB1 := Aside0.mk (below_alloc HB.out (.cells #[.string pk, .string pv] 45))
          have d0 := (blk_cell hbk 0).trans (show _ = some (Value.string pk) from rfl)
          have d1 := (blk_cell hbk 1).trans (show _ = some (Value.string pv) from rfl)
          by_cases h1 : pk.size ≤ 100
          rotate_left
          · have HX : Aside0 (q = false) := ⟨HFJ.out (by unfold pairsOk; rw [all_not hp (show sz2 100 (pk, pv) = false from by unfold sz2; rw [show sz 100 pk = false from decide_eq_false h1]; rfl)]; rfl)⟩
            have a0 : decide ((100 : Int) < (pk.size : Int)) = true := decide_eq_true (by omega)
            have a1 : decide (100 < pk.size) = true := decide_eq_true (by omega)
            clear hp hg hbk
            go_wp2
            go_ret
            exact ⟨by rw [HX.out]; try rfl, HB1.out⟩
          have a0 : decide ((100 : Int) < (pk.size : Int)) = false := decide_eq_false (by omega)
          have a1 : decide (100 < pk.size) = false := decide_eq_false (by omega)
          by_cases h2 : pv.size ≤ 100
          rotate_left
          · have HX : Aside0 (q = false) := ⟨HFJ.out (by unfold pairsOk; rw [all_not hp (show sz2 100 (pk, pv) = false from by unfold sz2; rw [show sz 100 pv = false from decide_eq_false h2]; simp)]; rfl)⟩
            have b0 : decide ((100 : Int) < (pv.size : Int)) = true := decide_eq_true (by omega)
            have b1 : decide (100 < pv.size) = true := decide_eq_true (by omega)
            clear hp hg hbk
            go_wp2
            go_ret
            exact ⟨by rw [HX.out]; try rfl, HB1.out⟩
          have b0 : decide ((100 : Int) < (pv.size : Int)) = false := decide_eq_false (by omega)
          have b1 : decide (100 < pv.size) = false := decide_eq_false (by omega)
          have HA2 := Aside0.mk (all_snoc hp HA.out (show sz2 100 (pk, pv) = true from by unfold sz2; rw [show sz 100 pk = true from decide_eq_true h1, show sz 100 pv = true from decide_eq_true h2]; rfl))
          clear hp hg hbk
          go_wp2
          go_roundg (n - (i + 1))
          case measure => have := HI.out; omega
          case rel => exact ⟨i + 1, by go_num, ⟨by omega⟩, HA2, HB1⟩
        · have hal : ls.all (sz2 100) = true := by have h1 := HI.out; have := HA.out; rwa [List.take_of_length_le (by rw [HLJ.out]; omega)] at this
          by_cases h20 : n ≤ 20
          rotate_left
          · have HX : Aside0 (q = false) := ⟨HFJ.out (by unfold pairsOk; rw [hal, HLJ.out, show decide (n ≤ 20) = false from decide_eq_false h20]; rfl)⟩
            have a0 : decide ((20 : Int) < (n : Int)) = true := decide_eq_true (by omega)
            have a1 : decide (20 < n) = true := decide_eq_true (by omega)
            clear hal
            go_wp2
            go_ret
            exact ⟨by rw [HX.out]; try rfl, HB.out⟩
          have HAJ2 : Aside0 (∀ i, i < j + 1 → pairsOk (xs i) = true) := ⟨fun i h => by
          by_cases e : i = j
          · subst e; rw [HPO.out]; unfold pairsOk; rw [hal, HLJ.out, show decide (n ≤ 20) = true from decide_eq_true h20]; rfl
          · exact HAJ.out i (by omega)⟩
          have a0 : decide ((20 : Int) < (n : Int)) = false := decide_eq_false (by omega)
          have a1 : decide (20 < n) = false := decide_eq_false (by omega)
          clear hal
          go_wp2
          go_roundg (go - 1)
          case measure => have := HJ.out; omega
          case rel => exact ⟨j + 1, by go_num, ⟨by have := HJ.out; omega⟩, HAJ2, HB⟩
    · have HX : Aside0 (q = true) := ⟨by have h1 := HJ.out; rw [← HQ.out, List.all_eq_true]; intro i hi; exact HAJ.out i (by have := List.mem_range.1 hi; omega)⟩
      go_wp2
      go_ret
      exact ⟨by rw [HX.out]; try rfl, HB.out⟩
end Go.Proofs.YteigfmchnblkgaaGreatDoor.Hand

/- copy within a row of elements of several cells. No program in sight. -/
namespace Go.Proofs.YteigfmchnblkgaaGreatDoor.Hand
open Go.RowKit
set_option linter.unusedVariables false
set_option linter.unusedSimpArgs false
theorem run_copy_row_k {P : Program} (w : World) (dT sT ty elem : TypeId) (g o dLen dCap : Nat) (a : Addr) (sLen sCap : Nat) (cur : Array Value) (t : TypeId) (cs : List Value) (k : Nat)
    (hu : P.underlying dT = some (.slice elem)) (hs : (P.info? elem).map (·.size) = some k)
    (hg : w.heap[g]? = some (.cells cur t (0, 0))) (hn : cs.length = Nat.min sLen dLen * k)
    (hsrc : ∀ j v, cs[j]? = some v → w.cell? (a.add j) = some v) (hfit : o + cs.length ≤ cur.size) (h1 : ∀ v ∈ cs, v.oneCell' = true) :
    (Builtin.copy_ #[dT, sT] ty #[.slice (some ⟨g, o, none⟩) dLen dCap, .slice (some a) sLen sCap]).run P w =
      .ok (goInt (Nat.min sLen dLen)) (w.setRow g (cur.toList.take o ++ cs ++ cur.toList.drop (o + cs.length)).toArray) := by
  have hl := run_loadCells_list (P := P) w a cs hsrc
  have hst := run_storeCells_at P g o t cs 0 cur w hg (by simpa using hfit) h1
  cases hq : P.info? elem with
  | none => simp [hq] at hs
  | some i =>
    have hi : i.size = k := by simpa [hq] using hs
    rw [hn] at hl
    simp [Builtin.copy_, run_underlying hu, Builtin.lenOf, Builtin.firstCells, sizeOf, typeInfo, hq, hi, hl, hst]
theorem run_copy_none_k {P : Program} (w : World) (dT sT ty elem : TypeId) (d a : Option Addr) (dLen dCap sLen sCap k : Nat) (hu : P.underlying dT = some (.slice elem)) (hs : (P.info? elem).map (·.size) = some k) (hn : Nat.min sLen dLen = 0) :
    (Builtin.copy_ #[dT, sT] ty #[.slice d dLen dCap, .slice a sLen sCap]).run P w = .ok (goInt 0) w := by
  cases hq : P.info? elem with
  | none => simp [hq] at hs
  | some i =>
    cases a with
    | none => cases d <;> simp [Builtin.copy_, run_underlying hu, Builtin.lenOf, Builtin.firstCells, sizeOf, typeInfo, hq, hn, storeCells]
    | some ad =>
      have hl := run_loadCells_list (P := P) w ad [] (by simp)
      simp only [List.length_nil] at hl
      cases d <;> simp [Builtin.copy_, run_underlying hu, Builtin.lenOf, Builtin.firstCells, sizeOf, typeInfo, hq, hn, hl, storeCells]
/-- 'copy(d, s)' in a region that draws, into a row of the call's own whose elements have k cells. -/
theorem step_copy_splice_k {P : Program} {ops : Array Oper} {o : Oper} {a : Act} {w : World} {K : Act → World → Prop} {Q : Exit → Act → World → Prop} {E : Prop} (hgd : o.guard = none) (d s : Operand) (dT sT : TypeId)
    (ho : o.op = .call { callee := .builtin .copy, args := #[d, s], argTypes := #[dT, sT] }) (elem : TypeId) (hu : P.underlying dT = some (.slice elem)) (k : Nat) (hsz : (P.info? elem).map (·.size) = some k)
    (dp sp : Option Addr) (dLen dCap sLen sCap : Nat) (hd : a.eval d = .slice dp dLen dCap) (hs : a.eval s = .slice sp sLen sCap)
    (g off : Nat) (cur : List Value) (t : TypeId) (hg : w.heap[g]? = some (.cells cur.toArray t (0, 0))) (cs : List Value) (hn : cs.length = Nat.min sLen dLen * k)
    (hpos : 0 < Nat.min sLen dLen → dp = some ⟨g, off, none⟩ ∧ ∃ ad, sp = some ad ∧ ∀ j v, cs[j]? = some v → w.cell? (ad.add j) = some v)
    (hfit : off + cs.length ≤ cur.length) (h1 : ∀ v ∈ cs, v.oneCell' = true) (B : Nat) (w0 : World) (hb : RowKit.Below B w0 w) (hBg : B ≤ g)
    (h : ∀ w', RowKit.Hid (w'.heap[g]? = some (.cells (splice cur off cs).toArray t (0, 0))) → RowKit.Below B w0 w' → w.grownBy w' (some g) → K (a.put o.dst (goInt (Nat.min sLen dLen))) w') :
    if Region.wanted o (yielded ops a.tmps) = true then Oper.wp P o a w K Q else E := by
  have hw : Region.wanted o (yielded ops a.tmps) = true := by simp [Region.wanted, hgd]
  rw [if_pos hw]
  by_cases h0 : Nat.min sLen dLen = 0
  · have hc0 : cs.length = 0 := by rw [hn, h0, Nat.zero_mul]
    obtain rfl : cs = [] := List.eq_nil_of_length_eq_zero hc0
    have hrun := run_copy_none_k (P := P) w dT sT o.type elem dp sp dLen dCap sLen sCap k hu hsz h0
    rw [h0] at h
    unfold Oper.wp
    simp [execOp, ho, resolve, invoke, builtin, hd, hs, hrun, Result.andThen]
    exact h w (show _ = _ by simpa [splice] using hg) hb (World.grownBy.refl _ _)
  · obtain ⟨rfl, ad, rfl, hsrc⟩ := hpos (by omega)
    have hrun := run_copy_row_k (P := P) w dT sT o.type elem g off dLen dCap ad sLen sCap cur.toArray t cs k hu hsz hg hn hsrc (by simpa using hfit) h1
    unfold Oper.wp
    simp [execOp, ho, resolve, invoke, builtin, hd, hs, hrun, Result.andThen]
    exact h _ (show _ = _ by simpa [splice] using setRow_heap w g _ _ t _ hg) (below_setRow hb hBg _) ⟨rfl, rfl, rfl, by simp [World.setRow], fun k hk hne => by
      have : g ≠ k := fun e => hne (by rw [e])
      simp [World.setRow, Array.getElem?_modify, this]⟩
end Go.Proofs.YteigfmchnblkgaaGreatDoor.Hand

/- Labels by their keys: the list that spec.Keyed makes; pairs of texts in a row of the call's own. -/
namespace Go.Proofs.YteigfmchnblkgaaGreatDoor.Hand
open Go.RowKit Go.Maps Go.Proofs.YteigfmchnblkgaaGreatDoorW.PrintWords Go.Proofs.YteigfmchnblkgaaGreatDoorW.PrintLast Go.Proofs.YteigfmchnblkgaaGreatDoorW.PrintMore Go.Proofs.YteigfmchnblkgaaGreatDoor.Base
open Go.Sort (ltStr)
set_option linter.unusedVariables false
set_option linter.unusedSimpArgs false
set_option maxRecDepth 100000
abbrev LP := L × L
def posK : List LP → L → Nat
  | [], _ => 0
  | y :: r, s => if ltStr y.1 s = true then posK r s + 1 else 0
def insK (out : List LP) (p : LP) : List LP := if (out[posK out p.1]?).map (·.1) = some p.1 then out.set (posK out p.1) p else out.take (posK out p.1) ++ p :: out.drop (posK out p.1)
/-- Labels by rising keys, of keys that stand twice the last one. -/
def keyL (l : List LP) : List LP := l.foldl insK []
theorem posK_le : ∀ (out : List LP) (s : L), posK out s ≤ out.length
  | [], _ => Nat.le_refl _
  | y :: r, s => by
    unfold posK
    split
    · have := posK_le r s; simp only [List.length_cons]; omega
    · exact Nat.zero_le _
theorem posK_lt : ∀ (out : List LP) (s : L) (k : Nat) (h : k < out.length), k < posK out s → ltStr out[k].1 s = true
  | y :: r, s, 0, h, hk => by
    unfold posK at hk
    split at hk
    · assumption
    · omega
  | y :: r, s, k + 1, h, hk => by
    unfold posK at hk
    split at hk
    · exact posK_lt r s k (by simpa using h) (by omega)
    · omega
theorem posK_at : ∀ (out : List LP) (s : L) (h : posK out s < out.length), ltStr out[posK out s].1 s = false
  | y :: r, s, h => by
    by_cases e : ltStr y.1 s = true
    · have hp : posK (y :: r) s = posK r s + 1 := by show (if _ then _ else _) = _; rw [if_pos e]
      have h2 : posK r s < r.length := by rw [hp] at h; simpa using h
      have := posK_at r s h2
      simp only [hp, List.getElem_cons_succ]
      exact this
    · have hp : posK (y :: r) s = 0 := by show (if _ then _ else _) = _; rw [if_neg e]
      simp only [hp, List.getElem_cons_zero]
      simpa using e
theorem keyL_len (l : List LP) : (keyL l).length ≤ l.length := by
  have h : ∀ (l out : List LP), (l.foldl insK out).length ≤ out.length + l.length := by
    intro l
    induction l with
    | nil => intro out; exact Nat.le_refl _
    | cons p l ih =>
      intro out
      have h1 := ih (insK out p)
      have h2 : (insK out p).length ≤ out.length + 1 := by
        unfold insK
        split
        · rw [List.length_set]; omega
        · rw [List.length_append, List.length_cons, List.length_take, List.length_drop]; omega
      rw [List.foldl_cons, List.length_cons]; omega
  simpa [keyL] using h l []
theorem keyL_snoc {l : List LP} {j : Nat} {p : LP} (h : l[j]? = some p) : keyL (l.take (j + 1)) = insK (keyL (l.take j)) p := by
  unfold keyL
  rw [List.take_add_one, h, List.foldl_append]; rfl
abbrev mkP (p : LP) : ByteArray × ByteArray := (mk p.1, mk p.2)
abbrev unP (p : ByteArray × ByteArray) : LP := (p.1.data.toList, p.2.data.toList)
/-- The cells of pairs. -/
def encP (xs : List (ByteArray × ByteArray)) : List Value := xs.flatMap fun p => [.string p.1, .string p.2]
theorem encP_len (xs : List (ByteArray × ByteArray)) : (encP xs).length = xs.length * 2 := by
  induction xs with
  | nil => rfl
  | cons p xs ih => rw [List.length_cons]; show (encP xs).length + 1 + 1 = _; rw [ih]; omega
theorem encP_take (xs : List (ByteArray × ByteArray)) (n : Nat) : (encP xs).take (n * 2) = encP (xs.take n) := by
  induction xs generalizing n with
  | nil => simp [encP]
  | cons p xs ih =>
    cases n with
    | zero => rfl
    | succ n =>
      show ([Value.string p.1, .string p.2] ++ encP xs).take ((n + 1) * 2) = [Value.string p.1, .string p.2] ++ encP (xs.take n)
      rw [← ih, show (n + 1) * 2 = n * 2 + 1 + 1 by omega]; rfl
theorem encP_drop (xs : List (ByteArray × ByteArray)) (n : Nat) : (encP xs).drop (n * 2) = encP (xs.drop n) := by
  induction xs generalizing n with
  | nil => simp [encP]
  | cons p xs ih =>
    cases n with
    | zero => rfl
    | succ n =>
      show ([Value.string p.1, .string p.2] ++ encP xs).drop ((n + 1) * 2) = encP (xs.drop n)
      rw [← ih, show (n + 1) * 2 = n * 2 + 1 + 1 by omega]; rfl
theorem encP_app (a b : List (ByteArray × ByteArray)) : encP (a ++ b) = encP a ++ encP b := by simp [encP]
theorem encP_one (v : Value) (xs : List (ByteArray × ByteArray)) (h : v ∈ encP xs) : v.oneCell' = true := by
  obtain ⟨p, _, hv⟩ := List.mem_flatMap.1 h
  rcases List.mem_cons.1 hv with e | hv
  · rw [e]; rfl
  · rw [List.mem_singleton.1 hv]; rfl
theorem pk_cs {w : World} {base : Nat} {ok : Nat → Prop} {p : ByteArray × ByteArray} {cs : List Value} (h : PK.M w base ok p cs) : cs = [.string p.1, .string p.2] := by
  obtain ⟨c0, c1, rfl, h0, h1⟩ := h
  have e0 : c0 = [.string p.1] := h0
  have e1 : c1 = [.string p.2] := h1
  rw [e0, e1]; rfl
theorem reps_enc {w : World} {base : Nat} {ok : Nat → Prop} : ∀ (xs : List (ByteArray × ByteArray)), Reps (PK.M w base ok) 2 xs (encP xs) := fun xs => by
  refine ⟨encP_len xs, fun j p hp => ?_⟩
  obtain ⟨hj, e⟩ := List.getElem?_eq_some_iff.1 hp
  rw [encP_drop, List.drop_eq_getElem_cons hj, e]
  exact ⟨[_], [_], rfl, rfl, rfl⟩
theorem enc_reps {w : World} {base : Nat} {ok : Nat → Prop} : ∀ (xs : List (ByteArray × ByteArray)) (inner : List Value), Reps (PK.M w base ok) 2 xs inner → inner = encP xs
  | [], inner, h => by
    have := h.1
    simpa [encP] using this
  | p :: xs, inner, h => by
    have hl := h.1
    have h0 := pk_cs (h.2 0 p rfl)
    rw [Nat.zero_mul, List.drop_zero] at h0
    have hr : Reps (PK.M w base ok) 2 xs (inner.drop 2) := by
      refine ⟨by rw [List.length_drop, hl, List.length_cons]; omega, fun j q hq => ?_⟩
      have := h.2 (j + 1) q hq
      rw [List.drop_drop]
      rw [show (j + 1) * 2 = 2 + j * 2 by omega] at this
      exact this
    have ih := enc_reps xs _ hr
    rw [← List.take_append_drop 2 inner, h0, ih]
    rfl
theorem pk_own {e : Nat} {w : World} {base : Nat} {ok : Nat → Prop} {v : Value} {xs : List (ByteArray × ByteArray)} (h : PK.R e w base ok v xs) : w.ownsRow base e 2 v xs.length (encP xs) := by
  obtain ⟨_, inner, ho, hr⟩ := h
  rw [← enc_reps xs inner hr]; exact ho
theorem pk_of_own {e : Nat} {w : World} {base : Nat} {v : Value} {xs : List (ByteArray × ByteArray)} (h : w.ownsRow base e 2 v xs.length (encP xs)) : PK.R e w base (fun _ => True) v xs := ⟨fun _ _ => trivial, encP xs, h, reps_enc xs⟩
/-- copy(out[p+1:], out[p:]) over an owned row of n + 1 pairs. -/
theorem shift_pk {e : Nat} {W : World} {base g cap n p : Nat} {xs : List (ByteArray × ByteArray)} (hR : PK.R e W base (fun _ => True) (.slice (some ⟨g, 0, none⟩) (n + 1) cap) xs) (hp : p ≤ n) :
    ∃ cur cs : List Value, cs.length = (n - p) * 2 ∧ n + 1 ≤ cap ∧ cur.length = cap * 2 ∧ base ≤ g ∧ W.heap[g]? = some (.cells cur.toArray e (0, 0)) ∧ (∀ j v, cs[j]? = some v → W.cell? ((⟨g, p * 2, none⟩ : Addr).add j) = some v) ∧ (∀ v ∈ cs, v.oneCell' = true) ∧
      ∀ W' : World, W'.heap[g]? = some (.cells (splice cur ((p + 1) * 2) cs).toArray e (0, 0)) → PK.R e W' base (fun _ => True) (.slice (some ⟨g, 0, none⟩) (n + 1) cap) (xs.take (p + 1) ++ (xs.drop p).take (n - p)) := by
  have hown := pk_own hR
  obtain ⟨hl, ⟨e0, _⟩ | ⟨g', cap', cur, e0, hbase, hcur, hn, hcm, hsz, htk⟩⟩ := hown
  · exact absurd e0 (by simp)
  · have hg : g' = g ∧ n + 1 = xs.length ∧ cap' = cap := by
      simp only [Value.slice.injEq, Option.some.injEq, Addr.mk.injEq] at e0
      exact ⟨e0.1.1.symm, e0.2.1, e0.2.2.symm⟩
    obtain ⟨rfl, hnx, rfl⟩ := hg
    have hxs : (cur.toList.take ((n + 1) * 2)) = encP xs := by rw [← htk, ← hnx]
    have hcl : cur.toList.length = cap' * 2 := by rw [Array.length_toList, hsz]
    have hcs : (cur.toList.drop (p * 2)).take ((n - p) * 2) = encP ((xs.drop p).take (n - p)) := by
      rw [← encP_take, ← encP_drop, ← hxs, List.drop_take, List.take_take]
      congr 1; omega
    refine ⟨cur.toList, (cur.toList.drop (p * 2)).take ((n - p) * 2), by rw [List.length_take, List.length_drop, hcl]; omega, by omega, hcl, hbase, by simpa using hcur, fun j v hv => ?_, fun v hv => ?_, fun W' hW' => pk_of_own ?_⟩
    · have hj : j < (n - p) * 2 := by
        have := (List.getElem?_eq_some_iff.1 hv).1
        rw [List.length_take] at this; omega
      rw [List.getElem?_take_of_lt hj, List.getElem?_drop] at hv
      rw [Addr.add_lit]
      simpa [World.cell?, hcur] using hv
    · rw [hcs] at hv; exact encP_one v _ hv
    · have hyl : (xs.take (p + 1) ++ (xs.drop p).take (n - p)).length = n + 1 := by simp; omega
      refine ⟨encP_len _, .inr ⟨g', cap', (splice cur.toList ((p + 1) * 2) ((cur.toList.drop (p * 2)).take ((n - p) * 2))).toArray, by rw [hyl], hbase, hW', by rw [hyl]; omega, hcm, ?_, ?_⟩⟩
      · rw [List.size_toArray]; unfold splice; simp only [List.length_append, List.length_take, List.length_drop, hcl]; omega
      · rw [hyl, List.toList_toArray]
        have e1 : (splice cur.toList ((p + 1) * 2) ((cur.toList.drop (p * 2)).take ((n - p) * 2))).take ((n + 1) * 2) = cur.toList.take ((p + 1) * 2) ++ (cur.toList.drop (p * 2)).take ((n - p) * 2) := by
          unfold splice
          rw [← List.append_assoc, List.take_append_of_le_length (by simp only [List.length_append, List.length_take, List.length_drop, hcl]; omega)]
          exact List.take_of_length_le (by simp only [List.length_append, List.length_take, List.length_drop, hcl]; omega)
        have e2 : cur.toList.take ((p + 1) * 2) = encP (xs.take (p + 1)) := by
          rw [← encP_take, ← hxs, List.take_take]
          congr 1; omega
        rw [e1, hcs, e2, encP_app]
/-- A pair of an owned row, set. -/
theorem put_pk {e : Nat} {W : World} {base g cap : Nat} {xs : List (ByteArray × ByteArray)} (hR : PK.R e W base (fun _ => True) (.slice (some ⟨g, 0, none⟩) xs.length cap) xs) (p : Nat) (hp : p < xs.length) (k t : ByteArray) :
    W.cell? ⟨g, p * 2, none⟩ = some (.string (xs[p]).1) ∧ W.cell? ⟨g, p * 2 + 1, none⟩ = some (.string (xs[p]).2) ∧ W.frozen? ⟨g, p * 2, none⟩ = false ∧ W.frozen? ⟨g, p * 2 + 1, none⟩ = false ∧
    (W.setCell ⟨g, p * 2, none⟩ (.string k)).cell? ⟨g, p * 2 + 1, none⟩ = some (.string (xs[p]).2) ∧ (W.setCell ⟨g, p * 2, none⟩ (.string k)).frozen? ⟨g, p * 2 + 1, none⟩ = false ∧ base ≤ g ∧
    PK.R e ((W.setCell ⟨g, p * 2, none⟩ (.string k)).setCell ⟨g, p * 2 + 1, none⟩ (.string t)) base (fun _ => True) (.slice (some ⟨g, 0, none⟩) xs.length cap) (xs.set p (k, t)) := by
  have hown := pk_own hR
  obtain ⟨hl, ⟨e0, _⟩ | ⟨g', cap', cur, e0, hbase, hcur, hn, hcm, hsz, htk⟩⟩ := hown
  · exact absurd e0 (by simp)
  · have hg : g' = g ∧ cap' = cap := by
      simp only [Value.slice.injEq, Option.some.injEq, Addr.mk.injEq] at e0
      exact ⟨e0.1.1.symm, e0.2.2.symm⟩
    obtain ⟨rfl, rfl⟩ := hg
    have hat : ∀ i, i < 2 → cur[p * 2 + i]? = (encP xs)[p * 2 + i]? := fun i hi => by
      rw [← htk, List.getElem?_take_of_lt (by omega), Array.getElem?_toList]
    have hpx : (encP xs).drop (p * 2) = [.string (xs[p]).1, .string (xs[p]).2] ++ encP (xs.drop (p + 1)) := by
      rw [encP_drop, List.drop_eq_getElem_cons hp]; rfl
    have h0 : cur[p * 2]? = some (.string (xs[p]).1) := by
      have := hat 0 (by omega)
      rw [Nat.add_zero] at this
      rw [this, show p * 2 = p * 2 + 0 from rfl, ← List.getElem?_drop, hpx]; rfl
    have h1 : cur[p * 2 + 1]? = some (.string (xs[p]).2) := by
      rw [hat 1 (by omega), ← List.getElem?_drop, hpx]; rfl
    have hput1 := blk_put hcur (p * 2) (.string k) (cs' := cur.setIfInBounds (p * 2) (.string k)) rfl
    have hput2 := blk_put hput1 (p * 2 + 1) (.string t) (cs' := (cur.setIfInBounds (p * 2) (.string k)).setIfInBounds (p * 2 + 1) (.string t)) rfl
    refine ⟨(blk_cell hcur _).trans h0, (blk_cell hcur _).trans h1, blk_frozen hcur _, blk_frozen hcur _, (blk_cell hput1 _).trans (by rw [Array.getElem?_setIfInBounds_ne (by omega)]; exact h1), blk_frozen hput1 _, hbase, pk_of_own ?_⟩
    refine ⟨by rw [encP_len, List.length_set], .inr ⟨g', cap', _, by rw [List.length_set], hbase, hput2, by rw [List.length_set]; exact hn, hcm, by rw [Array.size_setIfInBounds, Array.size_setIfInBounds]; exact hsz, ?_⟩⟩
    rw [List.length_set, Array.toList_setIfInBounds, Array.toList_setIfInBounds, List.take_set, List.take_set, htk]
    have e1 : encP xs = encP (xs.take p) ++ ([.string (xs[p]).1, .string (xs[p]).2] ++ encP (xs.drop (p + 1))) := by
      rw [← hpx, ← encP_take, List.take_append_drop]
    have e2 : xs.set p (k, t) = xs.take p ++ (k, t) :: xs.drop (p + 1) := List.set_eq_take_append_cons_drop .. |>.trans (if_pos hp)
    have hln : (encP (xs.take p)).length = p * 2 := by rw [encP_len, List.length_take]; congr 1; omega
    rw [e1, e2, encP_app]
    rw [List.set_append_right _ _ (by omega), hln, Nat.sub_self]
    rw [List.set_append_right _ _ (by omega), hln, show p * 2 + 1 - p * 2 = 1 by omega]
    rfl
end Go.Proofs.YteigfmchnblkgaaGreatDoor.Hand
