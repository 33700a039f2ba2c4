/- The guards: zzFits5, zzFits4, zzFits2, zzFits1, epPairs. -/
import Derived.Test.YthfjolafikgpoaaGreatDoorDLLabNew
import Derived.Test.YthfjolafikgpoaaGreatDoorDLLabWords
import Derived.Test.YthfjolafikgpoaaGreatDoorDLGSelB
import Derived.Test.YthfjolafikgpoaaGreatDoorDLM10
import Derived.Test.YthfjolafikgpoaaGreatDoorDLM18
import Derived.Test.YthfjolafikgpoaaGreatDoorDLGSelA
import Derived.Test.YthfjolafikgpoaaGreatDoorDLGParA
import Derived.Deep.QuietTactic
namespace Go.Proofs.YthfjolafikgpoaaGreatDoor.Hand
open Go.RowKit Go.Maps Go.Proofs.YthfjolafikgpoaaGreatDoorW.PrintWords Go.Proofs.YthfjolafikgpoaaGreatDoorW.PrintLast Go.Proofs.YthfjolafikgpoaaGreatDoorW.PrintMore Go.Proofs.YthfjolafikgpoaaGreatDoor.Base
set_option linter.unusedVariables false
set_option linter.unusedSimpArgs false
set_option maxRecDepth 100000
theorem all_snoc {α : Type} {f : α → Bool} {l : List α} {i : Nat} {p : α} (hp : l[i]? = some p) (h : (l.take i).all f = true) (h2 : f p = true) : (l.take (i + 1)).all f = true := by
  rw [List.take_add_one, hp]; simp only [List.all_append] at *; rw [h]; simp [h2]
theorem all_not {α : Type} {f : α → Bool} {l : List α} {i : Nat} {p : α} (hp : l[i]? = some p) (h2 : f p = false) : l.all f = false := by
  rw [List.all_eq_false]; exact ⟨p, List.mem_of_getElem? hp, by rw [h2]; simp⟩
def sz (M : Nat) (p : ByteArray) : Bool := decide (p.size ≤ M)
def sz2 (M : Nat) (p : ByteArray × ByteArray) : Bool := sz M p.1 && sz M p.2
def fits1 (ls : List (ByteArray × ByteArray)) : Bool := decide (ls.length ≤ 2147483647) && ls.all (sz2 2147483647)
def pairsOk (ls : List (ByteArray × ByteArray)) : Bool := ls.all (sz2 100) && decide (ls.length ≤ 20)
theorem fits1_t {ls : List (ByteArray × ByteArray)} (h : fits1 ls = true) : ls.length ≤ 2147483647 ∧ ∀ p ∈ ls, p.1.size ≤ 2147483647 ∧ p.2.size ≤ 2147483647 := by
  unfold fits1 sz2 sz at h; simp only [Bool.and_eq_true, decide_eq_true_eq, List.all_eq_true] at h; exact h
theorem pairsOk_t {ls : List (ByteArray × ByteArray)} (h : pairsOk ls = true) : ls.length ≤ 20 ∧ ∀ p ∈ ls, p.1.size ≤ 100 ∧ p.2.size ≤ 100 := by
  unfold pairsOk sz2 sz at h; simp only [Bool.and_eq_true, decide_eq_true_eq, List.all_eq_true] at h; exact ⟨h.2, h.1⟩
set_option maxHeartbeats 8000000 in
theorem Fits2_calls (key op : ByteArray) (w : World) :
    Calls Tryz.prog 52 #[.agg #[.string key, .string op]] w fun e w' => e = .returned (.bool (sz2 2147483647 (key, op))) ∧ Below w.heap.size w w' := by
  have hbk := heap_alloc_new w (.cells #[.string key, .string op] 42)
  have HBA := Aside0.mk (below_alloc (Below.refl w.heap.size w) (.cells #[.string key, .string op] 42))
  obtain ⟨W1, hW1⟩ : ∃ W1, w.alloc (.cells #[.string key, .string op] 42) = W1 := ⟨_, rfl⟩
  rw [hW1] at hbk HBA
  have c0 : W1.cell? ⟨w.heap.size, 0, none⟩ = some (.string key) := (blk_cell hbk 0).trans rfl
  have c1 : W1.cell? ⟨w.heap.size, 1, none⟩ = some (.string op) := (blk_cell hbk 1).trans rfl
  obtain ⟨q, hq⟩ : ∃ q, sz2 2147483647 (key, op) = q := ⟨_, rfl⟩
  have HW := Aside0.mk hq.symm
  unfold sz2 at HW
  rw [hq]
  clear hbk hq
  by_cases hk : key.size ≤ 2147483647
  rotate_left
  · have HX : Aside0 (q = false) := ⟨by rw [HW.out, show sz 2147483647 key = false from decide_eq_false hk]; simp⟩
    have k0 : decide ((2147483647 : Int) < (key.size : Int)) = true := decide_eq_true (by omega)
    have k1 : decide (2147483647 < key.size) = true := decide_eq_true (by omega)
    go_enter Tryz.func52, Tryz.ntmps52
    go_wp2
    go_ret
    exact ⟨by rw [HX.out]; try rfl, HBA.out⟩
  have k0 : decide ((2147483647 : Int) < (key.size : Int)) = false := decide_eq_false (by omega)
  have k1 : decide (2147483647 < key.size) = false := decide_eq_false (by omega)
  by_cases ho : op.size ≤ 2147483647
  rotate_left
  · have HX : Aside0 (q = false) := ⟨by rw [HW.out, show sz 2147483647 op = false from decide_eq_false ho]; simp⟩
    have o0 : decide ((2147483647 : Int) < (op.size : Int)) = true := decide_eq_true (by omega)
    have o1 : decide (2147483647 < op.size) = true := decide_eq_true (by omega)
    go_enter Tryz.func52, Tryz.ntmps52
    go_wp2
    go_ret
    exact ⟨by rw [HX.out]; try rfl, HBA.out⟩
  have o0 : decide ((2147483647 : Int) < (op.size : Int)) = false := decide_eq_false (by omega)
  have o1 : decide (2147483647 < op.size) = false := decide_eq_false (by omega)
  have HX : Aside0 (q = true) := ⟨by rw [HW.out, show sz 2147483647 key = true from decide_eq_true hk, show sz 2147483647 op = true from decide_eq_true ho]; rfl⟩
  go_enter Tryz.func52, Tryz.ntmps52
  go_wp2
  go_ret
  exact ⟨by rw [HX.out]; try rfl, HBA.out⟩
set_option maxHeartbeats 8000000 in
theorem Fits1_calls (A : Option Addr) (c n : Nat) (ls : List (ByteArray × ByteArray)) (hn : ls.length = n) (w : World) (hC : PK.C w A n ls) :
    Calls Tryz.prog 20 #[.slice A n c] w fun e w' => e = .returned (.bool (fits1 ls)) ∧ Below w.heap.size w w' := by
  have HC := Aside0.mk hC
  have HLN := Aside0.mk hn
  have HW : Aside0 (fits1 ls = (decide (n ≤ 2147483647) && ls.all (sz2 2147483647))) := ⟨by unfold fits1; rw [hn]⟩
  obtain ⟨q, hq⟩ : ∃ q, fits1 ls = q := ⟨_, rfl⟩
  rw [hq] at HW ⊢
  have HB0 := Aside0.mk (Below.refl w.heap.size w)
  clear hC hn hq
  by_cases hb : n ≤ 2147483647
  rotate_left
  · have HX : Aside0 (q = false) := ⟨by rw [HW.out, show decide (n ≤ 2147483647) = false from decide_eq_false hb]; rfl⟩
    have b0 : decide ((2147483647 : Int) < (n : Int)) = true := decide_eq_true (by omega)
    have b1 : decide (2147483647 < n) = true := decide_eq_true (by omega)
    go_enter Tryz.func20, Tryz.ntmps20
    go_wp2
    go_ret
    exact ⟨by rw [HX.out]; try rfl, HB0.out⟩
  have HW2 : Aside0 (q = ls.all (sz2 2147483647)) := ⟨by rw [HW.out, show decide (n ≤ 2147483647) = true from decide_eq_true hb]; rfl⟩
  have b0 : decide ((2147483647 : Int) < (n : Int)) = false := decide_eq_false (by omega)
  have b1 : decide (2147483647 < n) = false := decide_eq_false (by omega)
  go_enter Tryz.func20, Tryz.ntmps20
  go_wp2
  go_loopg [10] (n) (fun k v10 w' => ∃ i : Nat, v10 = .int .i64 i ∧ Aside0 (k + i = n) ∧ Aside0 ((ls.take i).all (sz2 2147483647) = true) ∧ Aside0 (Below w.heap.size w w'))
  case atStart => exact ⟨0, rfl, ⟨by omega⟩, ⟨rfl⟩, HB0⟩
  case round =>
    obtain ⟨i, rfl, HI, HA, HB⟩ := hrel
    by_cases hil : i < n
    · obtain ⟨ad, rfl, hk0, hk1⟩ := pk_at (Kd.C_below HC.out HB.out) i hil
      obtain ⟨p, hp⟩ : ∃ p, ls[i]? = some p := ⟨_, List.getElem?_eq_getElem (by rw [HLN.out]; exact hil)⟩
      have hg : ls.getD i (⟨#[]⟩, ⟨#[]⟩) = p := by rw [List.getD_eq_getElem?_getD, hp]; rfl
      rw [hg] at hk0 hk1
      obtain ⟨pk, pv⟩ := p
      replace hk0 : wr.cell? (ad.add (i * 2)) = some (.string pk) := hk0
      replace hk1 : wr.cell? ⟨(ad.add (i * 2)).block, (ad.add (i * 2)).off + 1, none⟩ = some (.string pv) := hk1
      have hbk := heap_alloc_new wr (.cells #[.string pk, .string pv] 42)
      have HB1 := Aside0.mk (below_alloc HB.out (.cells #[.string pk, .string pv] 42))
      have d0 := (blk_cell hbk 0).trans (show _ = some (Value.string pk) from rfl)
      have d1 := (blk_cell hbk 1).trans (show _ = some (Value.string pv) from rfl)
      have H2 := Aside0.mk (Fits2_calls pk pv)
      obtain ⟨f, hf⟩ : ∃ f, sz2 2147483647 (pk, pv) = f := ⟨_, rfl⟩
      rw [hf] at H2
      cases f
      · have HX : Aside0 (q = false) := ⟨by rw [HW2.out]; exact all_not hp hf⟩
        clear hp hg hf hbk
        go_wp2_with (first | ((with_reducible refine (H2.out _).mono ?_); rintro e w2 ⟨rfl, hb⟩; have HB2 := Aside0.mk (below_step HB1.out hb); clear hb))
        go_ret
        exact ⟨by rw [HX.out]; try rfl, HB2.out⟩
      · have HA2 := Aside0.mk (all_snoc hp HA.out hf)
        clear hp hg hf hbk
        go_wp2_with (first | ((with_reducible refine (H2.out _).mono ?_); rintro e w2 ⟨rfl, hb⟩; have HB2 := Aside0.mk (below_step HB1.out hb); clear hb))
        go_roundg (n - (i + 1))
        case measure => have := HI.out; omega
        case rel => exact ⟨i + 1, by go_num, ⟨by omega⟩, HA2, HB2⟩
    · have HX : Aside0 (q = true) := ⟨by have h1 := HI.out; have := HA.out; rw [List.take_of_length_le (by rw [HLN.out]; omega)] at this; rw [HW2.out]; exact this⟩
      go_wp2
      go_ret
      exact ⟨by rw [HX.out]; try rfl, HB.out⟩
set_option maxHeartbeats 8000000 in
/-- epPairs over m lists of labels. -/
theorem epPairs_calls (b cc m : Nat) (As : Nat → Option Addr) (ns cs : Nat → Nat) (xs : Nat → List (ByteArray × ByteArray)) (w : World) (hm : m ≤ 10) (hn : ∀ i, i < m → (xs i).length = ns i) (hn2 : ∀ i, i < m → ns i ≤ 2147483647) (hk : ∀ i, i < m → w.cell? ⟨b, i, none⟩ = some (.slice (As i) (ns i) (cs i))) (hC : ∀ i, i < m → PK.C w (As i) (ns i) (xs i)) :
    Calls Tryz.prog 21 #[.slice (some ⟨b, 0, none⟩) m cc] w fun e w' => e = .returned (.bool ((List.range m).all fun i => pairsOk (xs i))) ∧ Below w.heap.size w w' := by
  have HC := Aside0.mk hC
  have HLN := Aside0.mk hn
  have HLE := Aside0.mk hn2
  have HK := Aside0.mk hk
  have HW : Aside0 (((List.range m).all fun i => pairsOk (xs i)) = ((List.range m).all fun i => pairsOk (xs i))) := ⟨rfl⟩
  obtain ⟨q, hq⟩ : ∃ q, ((List.range m).all fun i => pairsOk (xs i)) = q := ⟨_, rfl⟩
  have HQ := Aside0.mk hq
  rw [hq]
  have HB0 := Aside0.mk (Below.refl w.heap.size w)
  have HF := Aside0.mk (fun (i : Nat) (hi : i < m) (h : pairsOk (xs i) = false) => show q = false from by rw [← hq, List.all_eq_false]; exact ⟨i, List.mem_range.2 hi, by rw [h]; simp⟩)
  clear hC hn hn2 hk hq HW
  go_enter Tryz.func21, Tryz.ntmps21
  go_wp2
  go_loopg [9] (m) (fun k v9 w' => ∃ j : Nat, v9 = .int .i64 j ∧ Aside0 (k + j = m) ∧ Aside0 (∀ i, i < j → pairsOk (xs i) = true) ∧ Aside0 (Below w.heap.size w w'))
  case atStart => exact ⟨0, rfl, ⟨by omega⟩, ⟨fun i h => by omega⟩, HB0⟩
  case round =>
    obtain ⟨j, rfl, HJ, HAJ, HB⟩ := hrel
    by_cases hjm : j < m
    · have hkj := HK.out j hjm
      have HCJ := Aside0.mk (HC.out j hjm)
      have HLJ := Aside0.mk (HLN.out j hjm)
      have hnj := HLE.out j hjm
      have HFJ := Aside0.mk (HF.out j hjm)
      obtain ⟨A, hA⟩ : ∃ A, As j = A := ⟨_, rfl⟩
      obtain ⟨n, hn⟩ : ∃ n, ns j = n := ⟨_, rfl⟩
      obtain ⟨c, hc⟩ : ∃ c, cs j = c := ⟨_, rfl⟩
      obtain ⟨ls, hls⟩ : ∃ ls, xs j = ls := ⟨_, rfl⟩
      rw [hA, hn, hc] at hkj
      rw [hA, hn, hls] at HCJ
      rw [hn, hls] at HLJ
      rw [hn] at hnj
      rw [hls] at HFJ
      have hk2 : wr.cell? ((⟨b, 0, none⟩ : Addr).add j) = some (.slice A n c) := by rw [show ((⟨b, 0, none⟩ : Addr).add j) = ⟨b, j, none⟩ from by rw [Addr.add_lit]; simp]; exact (HB.out.cell (World.block_lt_of_cell? w _ hkj)).trans hkj
      have hk3 : wr.cell? ⟨b, j, none⟩ = some (.slice A n c) := (HB.out.cell (World.block_lt_of_cell? w _ hkj)).trans hkj
      have HPO : Aside0 (pairsOk (xs j) = pairsOk ls) := ⟨by rw [hls]⟩
      clear hA hn hc hls hkj
      generalize gk = go at *
      go_wp2
      go_loopg [15] (n) (fun k v15 w' => ∃ i : Nat, v15 = .int .i64 i ∧ Aside0 (k + i = n) ∧ Aside0 ((ls.take i).all (sz2 100) = true) ∧ Aside0 (Below w.heap.size w w'))
      case atStart => exact ⟨0, rfl, ⟨by omega⟩, ⟨rfl⟩, HB⟩
      case round =>
        clear HB hk2 hk3
        obtain ⟨i, rfl, HI, HA, HB⟩ := hrel
        by_cases hil : i < n
        · obtain ⟨ad, rfl, hk0, hk1⟩ := pk_at (Kd.C_below HCJ.out HB.out) i hil
          obtain ⟨p, hp⟩ : ∃ p, ls[i]? = some p := ⟨_, List.getElem?_eq_getElem (by rw [HLJ.out]; exact hil)⟩
          have hg : ls.getD i (⟨#[]⟩, ⟨#[]⟩) = p := by rw [List.getD_eq_getElem?_getD, hp]; rfl
          rw [hg] at hk0 hk1
          obtain ⟨pk, pv⟩ := p
          replace hk0 : wr.cell? (ad.add (i * 2)) = some (.string pk) := hk0
          replace hk1 : wr.cell? ⟨(ad.add (i * 2)).block, (ad.add (i * 2)).off + 1, none⟩ = some (.string pv) := hk1
          have hbk := heap_alloc_new wr (.cells #[.string pk, .string pv] 42)
          have HB1 := Aside0.mk (below_alloc HB.out (.cells #[.string pk, .string pv] 42))
          have d0 := (blk_cell hbk 0).trans (show _ = some (Value.string pk) from rfl)
          have d1 := (blk_cell hbk 1).trans (show _ = some (Value.string pv) from rfl)
          by_cases h1 : pk.size ≤ 100
          rotate_left
          · have HX : Aside0 (q = false) := ⟨HFJ.out (by unfold pairsOk; rw [all_not hp (show sz2 100 (pk, pv) = false from by unfold sz2; rw [show sz 100 pk = false from decide_eq_false h1]; rfl)]; rfl)⟩
            have a0 : decide ((100 : Int) < (pk.size : Int)) = true := decide_eq_true (by omega)
            have a1 : decide (100 < pk.size) = true := decide_eq_true (by omega)
            clear hp hg hbk
            go_wp2
            go_ret
            exact ⟨by rw [HX.out]; try rfl, HB1.out⟩
          have a0 : decide ((100 : Int) < (pk.size : Int)) = false := decide_eq_false (by omega)
          have a1 : decide (100 < pk.size) = false := decide_eq_false (by omega)
          by_cases h2 : pv.size ≤ 100
          rotate_left
          · have HX : Aside0 (q = false) := ⟨HFJ.out (by unfold pairsOk; rw [all_not hp (show sz2 100 (pk, pv) = false from by unfold sz2; rw [show sz 100 pv = false from decide_eq_false h2]; simp)]; rfl)⟩
            have b0 : decide ((100 : Int) < (pv.size : Int)) = true := decide_eq_true (by omega)
            have b1 : decide (100 < pv.size) = true := decide_eq_true (by omega)
            clear hp hg hbk
            go_wp2
            go_ret
            exact ⟨by rw [HX.out]; try rfl, HB1.out⟩
          have b0 : decide ((100 : Int) < (pv.size : Int)) = false := decide_eq_false (by omega)
          have b1 : decide (100 < pv.size) = false := decide_eq_false (by omega)
          have HA2 := Aside0.mk (all_snoc hp HA.out (show sz2 100 (pk, pv) = true from by unfold sz2; rw [show sz 100 pk = true from decide_eq_true h1, show sz 100 pv = true from decide_eq_true h2]; rfl))
          clear hp hg hbk
          go_wp2
          go_roundg (n - (i + 1))
          case measure => have := HI.out; omega
          case rel => exact ⟨i + 1, by go_num, ⟨by omega⟩, HA2, HB1⟩
        · have hal : ls.all (sz2 100) = true := by have h1 := HI.out; have := HA.out; rwa [List.take_of_length_le (by rw [HLJ.out]; omega)] at this
          by_cases h20 : n ≤ 20
          rotate_left
          · have HX : Aside0 (q = false) := ⟨HFJ.out (by unfold pairsOk; rw [hal, HLJ.out, show decide (n ≤ 20) = false from decide_eq_false h20]; rfl)⟩
            have a0 : decide ((20 : Int) < (n : Int)) = true := decide_eq_true (by omega)
            have a1 : decide (20 < n) = true := decide_eq_true (by omega)
            clear hal
            go_wp2
            go_ret
            exact ⟨by rw [HX.out]; try rfl, HB.out⟩
          have HAJ2 : Aside0 (∀ i, i < j + 1 → pairsOk (xs i) = true) := ⟨fun i h => by
          by_cases e : i = j
          · subst e; rw [HPO.out]; unfold pairsOk; rw [hal, HLJ.out, show decide (n ≤ 20) = true from decide_eq_true h20]; rfl
          · exact HAJ.out i (by omega)⟩
          have a0 : decide ((20 : Int) < (n : Int)) = false := decide_eq_false (by omega)
          have a1 : decide (20 < n) = false := decide_eq_false (by omega)
          clear hal
          go_wp2
          go_roundg (go - 1)
          case measure => have := HJ.out; omega
          case rel => exact ⟨j + 1, by go_num, ⟨by have := HJ.out; omega⟩, HAJ2, HB⟩
    · have HX : Aside0 (q = true) := ⟨by have h1 := HJ.out; rw [← HQ.out, List.all_eq_true]; intro i hi; exact HAJ.out i (by have := List.mem_range.1 hi; omega)⟩
      go_wp2
      go_ret
      exact ⟨by rw [HX.out]; try rfl, HB.out⟩
end Go.Proofs.YthfjolafikgpoaaGreatDoor.Hand

/- spec.Words, over any requirements. (Printed by wordsn.py out of LabWords.) -/
namespace Go.Proofs.YthfjolafikgpoaaGreatDoor.Hand
open Go.RowKit Go.Maps Go.Proofs.YthfjolafikgpoaaGreatDoorW.PrintWords Go.Proofs.YthfjolafikgpoaaGreatDoorW.PrintLast Go.Proofs.YthfjolafikgpoaaGreatDoorW.PrintMore Go.Proofs.YthfjolafikgpoaaGreatDoor.Base
set_option linter.unusedVariables false
set_option linter.unusedSimpArgs false
set_option maxRecDepth 100000
theorem mk_size (x : L) : (mk x).size = x.length := rfl
theorem mk_toList (x : L) : (mk x).toList = x := by rw [toList_eq]; rfl
theorem kq_at2 {w : World} {A : Option Addr} {n : Nat} {l : List Rq} (h : KQ.C w A n (rqV l)) (i : Nat) (h1 : i < n) (r : Rq) (hr : l[i]? = some r) :
    ∃ (ad : Addr) (B : Option Addr) (c : Nat), A = some ad ∧ w.cell? (ad.add (i * 3)) = some (.string (mk r.1)) ∧ w.cell? ⟨(ad.add (i * 3)).block, (ad.add (i * 3)).off + 1, none⟩ = some (.string (mk r.2.1)) ∧ w.cell? ⟨(ad.add (i * 3)).block, (ad.add (i * 3)).off + 2, none⟩ = some (.slice B r.2.2.length c) ∧ r.2.2.length ≤ c ∧ Kd.C Kd.string w B r.2.2.length (r.2.2.map mk) := by
  obtain ⟨ad, c, e, hl, ⟨c0, c1, hc, k0, c2, c3, hc2, k2, B, cc, hc3, hcc, hC⟩, hat⟩ := Kd.C_get h (mk r.1, mk r.2.1, r.2.2.map mk) (i : Int) (by omega) (by omega)
  rw [Int.toNat_natCast] at k0 k2 hC hat hc3 hcc
  have hx : (rqV l).getD i (mk r.1, mk r.2.1, r.2.2.map mk) = (mk r.1, mk r.2.1, r.2.2.map mk) := by
    rw [List.getD_eq_getElem?_getD, rqV, List.getElem?_map, hr]; rfl
  rw [hx] at k0 k2 hC hc3 hcc
  have k0' : c0 = [.string (mk r.1)] := k0
  have k2' : c2 = [.string (mk r.2.1)] := k2
  simp only [List.length_map] at hC hc3 hcc
  subst k0' k2' hc3 hc2
  subst hc
  refine ⟨ad, B, cc, e, hat 0 _ rfl, ?_, ?_, (by first | exact hcc | omega), hC⟩
  · show w.cell? ((ad.add (i * 3)).add 1) = _
    rw [add_add]; exact hat 1 _ rfl
  · show w.cell? ((ad.add (i * 3)).add 2) = _
    rw [add_add]; exact hat 2 _ rfl
end Go.Proofs.YthfjolafikgpoaaGreatDoor.Hand

/- Arguments that are requirements, bytes, texts: opened to what the walks ask for. -/
set_option maxRecDepth 100000
namespace Go.Proofs.YthfjolafikgpoaaGreatDoor.Laid
open Go.Joins Go.ChangeShapes Go.WideShapes Go.RowKit Go.Deep Go.ChangeAt Go.Proofs.YthfjolafikgpoaaGreatDoorW.PrintWords Go.Proofs.YthfjolafikgpoaaGreatDoor.Hand Go.Proofs.YthfjolafikgpoaaGreatDoor.Base
section
variable {H : Type} {enc : TypeId × Value → H} {W : World}
theorem open_text {r : Reach} {b0 : Nat} {v : Value} {d : DataW H} {p : List MemPlace} (hv : Value.okWide Tryz.prog W r b0 9 v) (h : DataW.Trod enc Tryz.prog W 0 (fun _ => true) true 9 v d p) : ∃ s : ByteArray, v = .string s := by
  obtain ⟨a, rfl, _⟩ := Go.ChangeMaps.open_string Tryz.underlying9 hv h
  exact ⟨a, rfl⟩
end
end Go.Proofs.YthfjolafikgpoaaGreatDoor.Laid

/- impl.Token in memory. -/
namespace Go.Proofs.YthfjolafikgpoaaGreatDoor.Hand
open Go.RowKit Go.Proofs.YthfjolafikgpoaaGreatDoor.PFnSelDecidesLabels Go.Proofs.YthfjolafikgpoaaGreatDoorW.PrintWords Go.Proofs.YthfjolafikgpoaaGreatDoorW.PrintLast Go.Proofs.YthfjolafikgpoaaGreatDoorW.PrintMore Go.Proofs.YthfjolafikgpoaaGreatDoor.Base
set_option linter.unusedVariables false
set_option linter.unusedSimpArgs false
set_option maxRecDepth 100000

theorem infoIT : (Tryz.prog.info? 136).map (fun i => (i.zero, i.size, i.bytes)) = some (some (.agg #[.int .i64 0, .string ⟨#[]⟩]), 2, 24) := by kernel_rfl
end Go.Proofs.YthfjolafikgpoaaGreatDoor.Hand

/- The reference's reader of tokens: its state in memory; peek and next. -/
namespace Go.Proofs.YthfjolafikgpoaaGreatDoor.Hand
open Go.RowKit Go.Maps Go.Proofs.YthfjolafikgpoaaGreatDoorW.PrintWords Go.Proofs.YthfjolafikgpoaaGreatDoorW.PrintLast Go.Proofs.YthfjolafikgpoaaGreatDoorW.PrintMore Go.Proofs.YthfjolafikgpoaaGreatDoor.Base
set_option linter.unusedVariables false
set_option linter.unusedSimpArgs false
set_option maxRecDepth 100000
/-- The reader's block rb: the tokens T (whose block is one of the first B), and its place among them. -/
def EX (w : World) (rb B : Nat) (T : List Tk) (p : Nat) : Prop :=
  rb < B ∧ ∃ (A : Option Addr) (c : Nat), w.heap[rb]? = some (.cells #[.slice A T.length c, .int .i64 (p : Int)] 105 (0, 0)) ∧ KT.R 136 w 0 (fun k => k ≠ rb ∧ k < B) (.slice A T.length c) (toksV T)
theorem EX.lt {w : World} {rb B p : Nat} {T : List Tk} (h : EX w rb B T p) : rb < w.heap.size := by obtain ⟨_, A, c, h1, _⟩ := h; exact blk_lt h1
theorem EX.below {w w' : World} {rb B p : Nat} {T : List Tk} (h : EX w rb B T p) (hb : Below B w w') : EX w' rb B T p := by
  obtain ⟨h0, A, c, h1, h2⟩ := h
  exact ⟨h0, A, c, (hb.block rb h0).trans h1, Kd.R_step h2 (fun k hk _ => hb.block k hk.2)⟩
theorem EX.belowS {w w' : World} {rb B p : Nat} {T : List Tk} (h : EX w rb B T p) (hb : Below w.heap.size w w') : EX w' rb B T p := by
  obtain ⟨h0, A, c, h1, h2⟩ := h
  exact ⟨h0, A, c, (hb.block rb (blk_lt h1)).trans h1, Kd.R_below h2 hb⟩
theorem EX.set {w : World} {rb B p : Nat} {T : List Tk} (h : EX w rb B T p) (q : Nat) : EX (w.setCell ⟨rb, 1, none⟩ (.int .i64 (q : Int))) rb B T q := by
  obtain ⟨h0, A, c, h1, h2⟩ := h
  exact ⟨h0, A, c, blk_put h1 1 (.int .i64 (q : Int)) rfl, Kd.R_far (p := ⟨rb, 1, none⟩) h2 (fun k hk => hk.1) _⟩
theorem ex_cells {w : World} {rb B p : Nat} {T : List Tk} (h : EX w rb B T p) :
    ∃ (A : Option Addr) (c : Nat), w.cell? ⟨rb, 0, none⟩ = some (.slice A T.length c) ∧ w.cell? ⟨rb, 1, none⟩ = some (.int .i64 (p : Int)) ∧ w.frozen? ⟨rb, 1, none⟩ = false ∧ T.length ≤ c ∧ KT.C w A T.length (toksV T) := by
  obtain ⟨h0, A, c, h1, h2⟩ := h
  obtain ⟨A', c', e, hl, hr⟩ := Kd.R_reads h2
  rw [List.length_map] at e hl hr
  simp only [Value.slice.injEq] at e
  obtain ⟨rfl, _, rfl⟩ := e
  exact ⟨A, c, (blk_cell h1 0).trans rfl, (blk_cell h1 1).trans rfl, blk_frozen h1 1, hl, hr⟩
abbrev vkb (nm : Bool) (k : Nat) : Nat := bif nm then vk k else k
set_option maxHeartbeats 4000000 in
theorem peek_calls (rb B p : Nat) (T ts : List Tk) (k : Nat) (s : L) (hT : T.length ≤ 1000000) (ht : T.drop p = (k, s) :: ts) (nm : Bool) (w : World) (h : EX w rb B T p) :
    Calls Tryz.prog 61 #[.pointer (some ⟨rb, 0, none⟩), .bool nm] w fun e w' => e = .returned (.int .i64 ((vkb nm k : Nat) : Int)) ∧ ∃ q, w' = w.drewN q := by
  obtain ⟨A, c, h1, h2, h3, hc, hC⟩ := ex_cells h
  obtain ⟨ad, rfl, k0, k1⟩ := px_tok hC ht
  have hp : p < T.length := by
    have := congrArg List.length ht
    rw [List.length_drop, List.length_cons] at this; omega
  obtain ⟨n, hn⟩ : ∃ n, T.length = n := ⟨_, rfl⟩
  rw [hn] at h1 hp hc hT
  clear hn h hC ht h3 k1
  cases nm with
  | false =>
    go_enter Tryz.func61, Tryz.ntmps61
    go_wp2
    go_quiet (fail)
    go_wp2
    go_ret
    exact ⟨rfl, _, rfl⟩
  | true =>
    by_cases e9 : k = 9
    · have HV : Aside0 (vkb true k = 8) := ⟨by show vk k = 8; unfold vk; rw [if_pos (Or.inl e9)]⟩
      subst e9
      go_enter Tryz.func61, Tryz.ntmps61
      go_wp2
      go_quiet (fail)
      go_wp2
      go_ret
      exact ⟨by rw [HV.out]; rfl, _, rfl⟩
    by_cases e12 : k = 12
    · have HV : Aside0 (vkb true k = 8) := ⟨by show vk k = 8; unfold vk; rw [if_pos (Or.inr e12)]⟩
      subst e12
      go_enter Tryz.func61, Tryz.ntmps61
      go_wp2
      go_quiet (fail)
      go_wp2
      go_ret
      exact ⟨by rw [HV.out]; rfl, _, rfl⟩
    have HV : Aside0 (vkb true k = k) := ⟨vk_id e9 e12⟩
    have f9 : ((k : Int) == 9) = false := by rw [beq_eq_false_iff_ne]; omega
    have f12 : ((k : Int) == 12) = false := by rw [beq_eq_false_iff_ne]; omega
    clear e9 e12
    go_enter Tryz.func61, Tryz.ntmps61
    go_wp2
    go_quiet (fail)
    go_wp2
    go_ret
    exact ⟨by rw [HV.out]; rfl, _, rfl⟩
/-- Where next leaves the reader. -/
abbrev stp (p : Nat) (ts : List Tk) : Nat := if ts = [] then p else p + 1
set_option maxHeartbeats 4000000 in
theorem next_calls (rb B p : Nat) (T ts : List Tk) (k : Nat) (s : L) (hT : T.length ≤ 1000000) (ht : T.drop p = (k, s) :: ts) (nm : Bool) (w : World) (h : EX w rb B T p) :
    Calls Tryz.prog 63 #[.pointer (some ⟨rb, 0, none⟩), .bool nm] w fun e w' => e = .returned (.tuple #[.int .i64 ((vkb nm k : Nat) : Int), .string (mk s)]) ∧ EX w' rb B T (stp p ts) ∧ Kb w w' rb := by
  have hp : p + 1 + ts.length = T.length := by
    have := congrArg List.length ht
    rw [List.length_drop, List.length_cons] at this; omega
  have HPK := Aside0.mk (fun q => peek_calls rb B p T ts k s hT ht nm (w.drewN q) (h.belowS (pw_below_drewN (Below.refl _ _) q)))
  have HX := Aside0.mk h
  obtain ⟨A, c, h1, h2, h3, hc, hC⟩ := ex_cells h
  obtain ⟨ad, rfl, k0, k1⟩ := px_tok hC ht
  obtain ⟨n, hn⟩ : ∃ n, T.length = n := ⟨_, rfl⟩
  rw [hn] at h1 hp hc hT
  obtain ⟨K, hK⟩ : ∃ K, vkb nm k = K := ⟨_, rfl⟩
  rw [hK] at HPK ⊢
  obtain ⟨sv, hsv⟩ : ∃ sv, mk s = sv := ⟨_, rfl⟩
  rw [hsv] at k1 ⊢
  have hw1 : IntKind.i64.wrap ((n : Int) - 1) = (n : Int) - 1 := by rw [IntKind.wrap_i64]; omega
  clear hn h hC ht hK hsv k0
  cases ts with
  | nil =>
    have hlt : ((p : Int) < (n : Int) - 1) = False := eq_false (by simp at hp; omega)
    have HS : Aside0 (stp p ([] : List Tk) = p) := ⟨if_pos rfl⟩
    rw [HS.out]
    have hpn : p < n := by simp at hp; omega
    clear hp
    go_enter Tryz.func63, Tryz.ntmps63
    go_wp2
    go_quiet (first | (go_at_call_of 61 (Value.bool nm); exact Calls.quiet_of (HPK.out _)))
    go_wp2
    go_quiet (fail)
    go_wp2
    go_ret2
    exact ⟨rfl, by first | exact HX.out.belowS (pw_below_drewN (Below.refl _ _) _) | exact HX.out.belowS (pw_below_drewN (pw_below_drewN (Below.refl _ _) _) _), by first | exact (Kb.refl _ _).drewN _ | exact ((Kb.refl _ _).drewN _).drewN _⟩
  | cons t ts =>
    have hlt : ((p : Int) < (n : Int) - 1) = True := eq_true (by simp at hp; omega)
    have HS : Aside0 (stp p (t :: ts) = p + 1) := ⟨if_neg (by simp)⟩
    rw [HS.out]
    have hpn : p < n := by simp at hp; omega
    have hw2 : IntKind.i64.wrap ((p : Int) + 1) = (p : Int) + 1 := by rw [IntKind.wrap_i64]; omega
    have e0 : ((p + 1 : Nat) : Int) = (p : Int) + 1 := by omega
    have HE0 := Aside0.mk e0
    clear hp e0
    go_enter Tryz.func63, Tryz.ntmps63
    go_wp2
    go_quiet (first | (go_at_call_of 61 (Value.bool nm); exact Calls.quiet_of (HPK.out _)))
    go_wp2
    go_quiet (fail)
    go_wp2
    go_ret2
    rw [← HE0.out]
    refine ⟨rfl, by first | exact (HX.out.belowS (pw_below_drewN (Below.refl _ _) _)).set _ | exact (HX.out.belowS (pw_below_drewN (pw_below_drewN (Below.refl _ _) _) _)).set _, by first | exact ((Kb.refl _ _).drewN _).trans (Kb.set _ _ _ _) | exact (((Kb.refl _ _).drewN _).drewN _).trans (Kb.set _ _ _ _)⟩
end Go.Proofs.YthfjolafikgpoaaGreatDoor.Hand
