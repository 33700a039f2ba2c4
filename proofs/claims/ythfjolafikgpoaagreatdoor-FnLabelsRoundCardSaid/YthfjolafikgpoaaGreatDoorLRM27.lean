/- The guards: zzFits5, zzFits4, zzFits2, zzFits1, epPairs. -/
import Derived.Test.YthfjolafikgpoaaGreatDoorLRLabNew
import Derived.Test.YthfjolafikgpoaaGreatDoorLRM26
import Derived.Test.YthfjolafikgpoaaGreatDoorLRM18
import Derived.Test.YthfjolafikgpoaaGreatDoorLRLabStr
namespace Go.Proofs.YthfjolafikgpoaaGreatDoor.Hand
open Go.RowKit Go.Maps Go.Proofs.YthfjolafikgpoaaGreatDoorW.PrintWords Go.Proofs.YthfjolafikgpoaaGreatDoorW.PrintLast Go.Proofs.YthfjolafikgpoaaGreatDoorW.PrintMore Go.Proofs.YthfjolafikgpoaaGreatDoor.Base
set_option linter.unusedVariables false
set_option linter.unusedSimpArgs false
set_option maxRecDepth 100000
theorem all_snoc {α : Type} {f : α → Bool} {l : List α} {i : Nat} {p : α} (hp : l[i]? = some p) (h : (l.take i).all f = true) (h2 : f p = true) : (l.take (i + 1)).all f = true := by
  rw [List.take_add_one, hp]; simp only [List.all_append] at *; rw [h]; simp [h2]
theorem all_not {α : Type} {f : α → Bool} {l : List α} {i : Nat} {p : α} (hp : l[i]? = some p) (h2 : f p = false) : l.all f = false := by
  rw [List.all_eq_false]; exact ⟨p, List.mem_of_getElem? hp, by rw [h2]; simp⟩
def sz (M : Nat) (p : ByteArray) : Bool := decide (p.size ≤ M)
def sz2 (M : Nat) (p : ByteArray × ByteArray) : Bool := sz M p.1 && sz M p.2
def fits1 (ls : List (ByteArray × ByteArray)) : Bool := decide (ls.length ≤ 2147483647) && ls.all (sz2 2147483647)
def pairsOk (ls : List (ByteArray × ByteArray)) : Bool := ls.all (sz2 100) && decide (ls.length ≤ 20)
theorem fits1_t {ls : List (ByteArray × ByteArray)} (h : fits1 ls = true) : ls.length ≤ 2147483647 ∧ ∀ p ∈ ls, p.1.size ≤ 2147483647 ∧ p.2.size ≤ 2147483647 := by
  unfold fits1 sz2 sz at h; simp only [Bool.and_eq_true, decide_eq_true_eq, List.all_eq_true] at h; exact h
theorem pairsOk_t {ls : List (ByteArray × ByteArray)} (h : pairsOk ls = true) : ls.length ≤ 20 ∧ ∀ p ∈ ls, p.1.size ≤ 100 ∧ p.2.size ≤ 100 := by
  unfold pairsOk sz2 sz at h; simp only [Bool.and_eq_true, decide_eq_true_eq, List.all_eq_true] at h; exact ⟨h.2, h.1⟩
set_option maxHeartbeats 8000000 in
theorem Fits2_calls (key op : ByteArray) (w : World) :
    Calls Tryz.prog 52 #[.agg #[.string key, .string op]] w fun e w' => e = .returned (.bool (sz2 2147483647 (key, op))) ∧ Below w.heap.size w w' := by
  have hbk := heap_alloc_new w (.cells #[.string key, .string op] 42)
  have HBA := Aside0.mk (below_alloc (Below.refl w.heap.size w) (.cells #[.string key, .string op] 42))
  obtain ⟨W1, hW1⟩ : ∃ W1, w.alloc (.cells #[.string key, .string op] 42) = W1 := ⟨_, rfl⟩
  rw [hW1] at hbk HBA
  have c0 : W1.cell? ⟨w.heap.size, 0, none⟩ = some (.string key) := (blk_cell hbk 0).trans rfl
  have c1 : W1.cell? ⟨w.heap.size, 1, none⟩ = some (.string op) := (blk_cell hbk 1).trans rfl
  obtain ⟨q, hq⟩ : ∃ q, sz2 2147483647 (key, op) = q := ⟨_, rfl⟩
  have HW := Aside0.mk hq.symm
  unfold sz2 at HW
  rw [hq]
  clear hbk hq
  by_cases hk : key.size ≤ 2147483647
  rotate_left
  · have HX : Aside0 (q = false) := ⟨by rw [HW.out, show sz 2147483647 key = false from decide_eq_false hk]; simp⟩
    have k0 : decide ((2147483647 : Int) < (key.size : Int)) = true := decide_eq_true (by omega)
    have k1 : decide (2147483647 < key.size) = true := decide_eq_true (by omega)
    go_enter Tryz.func52, Tryz.ntmps52
    go_wp2
    go_ret
    exact ⟨by rw [HX.out]; try rfl, HBA.out⟩
  have k0 : decide ((2147483647 : Int) < (key.size : Int)) = false := decide_eq_false (by omega)
  have k1 : decide (2147483647 < key.size) = false := decide_eq_false (by omega)
  by_cases ho : op.size ≤ 2147483647
  rotate_left
  · have HX : Aside0 (q = false) := ⟨by rw [HW.out, show sz 2147483647 op = false from decide_eq_false ho]; simp⟩
    have o0 : decide ((2147483647 : Int) < (op.size : Int)) = true := decide_eq_true (by omega)
    have o1 : decide (2147483647 < op.size) = true := decide_eq_true (by omega)
    go_enter Tryz.func52, Tryz.ntmps52
    go_wp2
    go_ret
    exact ⟨by rw [HX.out]; try rfl, HBA.out⟩
  have o0 : decide ((2147483647 : Int) < (op.size : Int)) = false := decide_eq_false (by omega)
  have o1 : decide (2147483647 < op.size) = false := decide_eq_false (by omega)
  have HX : Aside0 (q = true) := ⟨by rw [HW.out, show sz 2147483647 key = true from decide_eq_true hk, show sz 2147483647 op = true from decide_eq_true ho]; rfl⟩
  go_enter Tryz.func52, Tryz.ntmps52
  go_wp2
  go_ret
  exact ⟨by rw [HX.out]; try rfl, HBA.out⟩
set_option maxHeartbeats 8000000 in
theorem Fits1_calls (A : Option Addr) (c n : Nat) (ls : List (ByteArray × ByteArray)) (hn : ls.length = n) (w : World) (hC : PK.C w A n ls) :
    Calls Tryz.prog 20 #[.slice A n c] w fun e w' => e = .returned (.bool (fits1 ls)) ∧ Below w.heap.size w w' := by
  have HC := Aside0.mk hC
  have HLN := Aside0.mk hn
  have HW : Aside0 (fits1 ls = (decide (n ≤ 2147483647) && ls.all (sz2 2147483647))) := ⟨by unfold fits1; rw [hn]⟩
  obtain ⟨q, hq⟩ : ∃ q, fits1 ls = q := ⟨_, rfl⟩
  rw [hq] at HW ⊢
  have HB0 := Aside0.mk (Below.refl w.heap.size w)
  clear hC hn hq
  by_cases hb : n ≤ 2147483647
  rotate_left
  · have HX : Aside0 (q = false) := ⟨by rw [HW.out, show decide (n ≤ 2147483647) = false from decide_eq_false hb]; rfl⟩
    have b0 : decide ((2147483647 : Int) < (n : Int)) = true := decide_eq_true (by omega)
    have b1 : decide (2147483647 < n) = true := decide_eq_true (by omega)
    go_enter Tryz.func20, Tryz.ntmps20
    go_wp2
    go_ret
    exact ⟨by rw [HX.out]; try rfl, HB0.out⟩
  have HW2 : Aside0 (q = ls.all (sz2 2147483647)) := ⟨by rw [HW.out, show decide (n ≤ 2147483647) = true from decide_eq_true hb]; rfl⟩
  have b0 : decide ((2147483647 : Int) < (n : Int)) = false := decide_eq_false (by omega)
  have b1 : decide (2147483647 < n) = false := decide_eq_false (by omega)
  go_enter Tryz.func20, Tryz.ntmps20
  go_wp2
  go_loopg [10] (n) (fun k v10 w' => ∃ i : Nat, v10 = .int .i64 i ∧ Aside0 (k + i = n) ∧ Aside0 ((ls.take i).all (sz2 2147483647) = true) ∧ Aside0 (Below w.heap.size w w'))
  case atStart => exact ⟨0, rfl, ⟨by omega⟩, ⟨rfl⟩, HB0⟩
  case round =>
    obtain ⟨i, rfl, HI, HA, HB⟩ := hrel
    by_cases hil : i < n
    · obtain ⟨ad, rfl, hk0, hk1⟩ := pk_at (Kd.C_below HC.out HB.out) i hil
      obtain ⟨p, hp⟩ : ∃ p, ls[i]? = some p := ⟨_, List.getElem?_eq_getElem (by rw [HLN.out]; exact hil)⟩
      have hg : ls.getD i (⟨#[]⟩, ⟨#[]⟩) = p := by rw [List.getD_eq_getElem?_getD, hp]; rfl
      rw [hg] at hk0 hk1
      obtain ⟨pk, pv⟩ := p
      replace hk0 : wr.cell? (ad.add (i * 2)) = some (.string pk) := hk0
      replace hk1 : wr.cell? ⟨(ad.add (i * 2)).block, (ad.add (i * 2)).off + 1, none⟩ = some (.string pv) := hk1
      have hbk := heap_alloc_new wr (.cells #[.string pk, .string pv] 42)
      have HB1 := Aside0.mk (below_alloc HB.out (.cells #[.string pk, .string pv] 42))
      have d0 := (blk_cell hbk 0).trans (show _ = some (Value.string pk) from rfl)
      have d1 := (blk_cell hbk 1).trans (show _ = some (Value.string pv) from rfl)
      have H2 := Aside0.mk (Fits2_calls pk pv)
      obtain ⟨f, hf⟩ : ∃ f, sz2 2147483647 (pk, pv) = f := ⟨_, rfl⟩
      rw [hf] at H2
      cases f
      · have HX : Aside0 (q = false) := ⟨by rw [HW2.out]; exact all_not hp hf⟩
        clear hp hg hf hbk
        go_wp2_with (first | ((with_reducible refine (H2.out _).mono ?_); rintro e w2 ⟨rfl, hb⟩; have HB2 := Aside0.mk (below_step HB1.out hb); clear hb))
        go_ret
        exact ⟨by rw [HX.out]; try rfl, HB2.out⟩
      · have HA2 := Aside0.mk (all_snoc hp HA.out hf)
        clear hp hg hf hbk
        go_wp2_with (first | ((with_reducible refine (H2.out _).mono ?_); rintro e w2 ⟨rfl, hb⟩; have HB2 := Aside0.mk (below_step HB1.out hb); clear hb))
        go_roundg (n - (i + 1))
        case measure => have := HI.out; omega
        case rel => exact ⟨i + 1, by go_num, ⟨by omega⟩, HA2, HB2⟩
    · have HX : Aside0 (q = true) := ⟨by have h1 := HI.out; have := HA.out; rw [List.take_of_length_le (by rw [HLN.out]; omega)] at this; rw [HW2.out]; exact this⟩
      go_wp2
      go_ret
      exact ⟨by rw [HX.out]; try rfl, HB.out⟩
set_option maxHeartbeats 8000000 in
/-- epPairs over m lists of labels. -/
theorem epPairs_calls (b cc m : Nat) (As : Nat → Option Addr) (ns cs : Nat → Nat) (xs : Nat → List (ByteArray × ByteArray)) (w : World) (hm : m ≤ 10) (hn : ∀ i, i < m → (xs i).length = ns i) (hn2 : ∀ i, i < m → ns i ≤ 2147483647) (hk : ∀ i, i < m → w.cell? ⟨b, i, none⟩ = some (.slice (As i) (ns i) (cs i))) (hC : ∀ i, i < m → PK.C w (As i) (ns i) (xs i)) :
    Calls Tryz.prog 21 #[.slice (some ⟨b, 0, none⟩) m cc] w fun e w' => e = .returned (.bool ((List.range m).all fun i => pairsOk (xs i))) ∧ Below w.heap.size w w' := by
  have HC := Aside0.mk hC
  have HLN := Aside0.mk hn
  have HLE := Aside0.mk hn2
  have HK := Aside0.mk hk
  have HW : Aside0 (((List.range m).all fun i => pairsOk (xs i)) = ((List.range m).all fun i => pairsOk (xs i))) := ⟨rfl⟩
  obtain ⟨q, hq⟩ : ∃ q, ((List.range m).all fun i => pairsOk (xs i)) = q := ⟨_, rfl⟩
  have HQ := Aside0.mk hq
  rw [hq]
  have HB0 := Aside0.mk (Below.refl w.heap.size w)
  have HF := Aside0.mk (fun (i : Nat) (hi : i < m) (h : pairsOk (xs i) = false) => show q = false from by rw [← hq, List.all_eq_false]; exact ⟨i, List.mem_range.2 hi, by rw [h]; simp⟩)
  clear hC hn hn2 hk hq HW
  go_enter Tryz.func21, Tryz.ntmps21
  go_wp2
  go_loopg [9] (m) (fun k v9 w' => ∃ j : Nat, v9 = .int .i64 j ∧ Aside0 (k + j = m) ∧ Aside0 (∀ i, i < j → pairsOk (xs i) = true) ∧ Aside0 (Below w.heap.size w w'))
  case atStart => exact ⟨0, rfl, ⟨by omega⟩, ⟨fun i h => by omega⟩, HB0⟩
  case round =>
    obtain ⟨j, rfl, HJ, HAJ, HB⟩ := hrel
    by_cases hjm : j < m
    · have hkj := HK.out j hjm
      have HCJ := Aside0.mk (HC.out j hjm)
      have HLJ := Aside0.mk (HLN.out j hjm)
      have hnj := HLE.out j hjm
      have HFJ := Aside0.mk (HF.out j hjm)
      obtain ⟨A, hA⟩ : ∃ A, As j = A := ⟨_, rfl⟩
      obtain ⟨n, hn⟩ : ∃ n, ns j = n := ⟨_, rfl⟩
      obtain ⟨c, hc⟩ : ∃ c, cs j = c := ⟨_, rfl⟩
      obtain ⟨ls, hls⟩ : ∃ ls, xs j = ls := ⟨_, rfl⟩
      rw [hA, hn, hc] at hkj
      rw [hA, hn, hls] at HCJ
      rw [hn, hls] at HLJ
      rw [hn] at hnj
      rw [hls] at HFJ
      have hk2 : wr.cell? ((⟨b, 0, none⟩ : Addr).add j) = some (.slice A n c) := by rw [show ((⟨b, 0, none⟩ : Addr).add j) = ⟨b, j, none⟩ from by rw [Addr.add_lit]; simp]; exact (HB.out.cell (World.block_lt_of_cell? w _ hkj)).trans hkj
      have hk3 : wr.cell? ⟨b, j, none⟩ = some (.slice A n c) := (HB.out.cell (World.block_lt_of_cell? w _ hkj)).trans hkj
      have HPO : Aside0 (pairsOk (xs j) = pairsOk ls) := ⟨by rw [hls]⟩
      clear hA hn hc hls hkj
      generalize gk = go at *
      go_wp2
      go_loopg [15] (n) (fun k v15 w' => ∃ i : Nat, v15 = .int .i64 i ∧ Aside0 (k + i = n) ∧ Aside0 ((ls.take i).all (sz2 100) = true) ∧ Aside0 (Below w.heap.size w w'))
      case atStart => exact ⟨0, rfl, ⟨by omega⟩, ⟨rfl⟩, HB⟩
      case round =>
        clear HB hk2 hk3
        obtain ⟨i, rfl, HI, HA, HB⟩ := hrel
        by_cases hil : i < n
        · obtain ⟨ad, rfl, hk0, hk1⟩ := pk_at (Kd.C_below HCJ.out HB.out) i hil
          obtain ⟨p, hp⟩ : ∃ p, ls[i]? = some p := ⟨_, List.getElem?_eq_getElem (by rw [HLJ.out]; exact hil)⟩
          have hg : ls.getD i (⟨#[]⟩, ⟨#[]⟩) = p := by rw [List.getD_eq_getElem?_getD, hp]; rfl
          rw [hg] at hk0 hk1
          obtain ⟨pk, pv⟩ := p
          replace hk0 : wr.cell? (ad.add (i * 2)) = some (.string pk) := hk0
          replace hk1 : wr.cell? ⟨(ad.add (i * 2)).block, (ad.add (i * 2)).off + 1, none⟩ = some (.string pv) := hk1
          have hbk := heap_alloc_new wr (.cells #[.string pk, .string pv] 42)
          have HB1 := Aside0.mk (below_alloc HB.out (.cells #[.string pk, .string pv] 42))
          have d0 := (blk_cell hbk 0).trans (show _ = some (Value.string pk) from rfl)
          have d1 := (blk_cell hbk 1).trans (show _ = some (Value.string pv) from rfl)
          by_cases h1 : pk.size ≤ 100
          rotate_left
          · have HX : Aside0 (q = false) := ⟨HFJ.out (by unfold pairsOk; rw [all_not hp (show sz2 100 (pk, pv) = false from by unfold sz2; rw [show sz 100 pk = false from decide_eq_false h1]; rfl)]; rfl)⟩
            have a0 : decide ((100 : Int) < (pk.size : Int)) = true := decide_eq_true (by omega)
            have a1 : decide (100 < pk.size) = true := decide_eq_true (by omega)
            clear hp hg hbk
            go_wp2
            go_ret
            exact ⟨by rw [HX.out]; try rfl, HB1.out⟩
          have a0 : decide ((100 : Int) < (pk.size : Int)) = false := decide_eq_false (by omega)
          have a1 : decide (100 < pk.size) = false := decide_eq_false (by omega)
          by_cases h2 : pv.size ≤ 100
          rotate_left
          · have HX : Aside0 (q = false) := ⟨HFJ.out (by unfold pairsOk; rw [all_not hp (show sz2 100 (pk, pv) = false from by unfold sz2; rw [show sz 100 pv = false from decide_eq_false h2]; simp)]; rfl)⟩
            have b0 : decide ((100 : Int) < (pv.size : Int)) = true := decide_eq_true (by omega)
            have b1 : decide (100 < pv.size) = true := decide_eq_true (by omega)
            clear hp hg hbk
            go_wp2
            go_ret
            exact ⟨by rw [HX.out]; try rfl, HB1.out⟩
          have b0 : decide ((100 : Int) < (pv.size : Int)) = false := decide_eq_false (by omega)
          have b1 : decide (100 < pv.size) = false := decide_eq_false (by omega)
          have HA2 := Aside0.mk (all_snoc hp HA.out (show sz2 100 (pk, pv) = true from by unfold sz2; rw [show sz 100 pk = true from decide_eq_true h1, show sz 100 pv = true from decide_eq_true h2]; rfl))
          clear hp hg hbk
          go_wp2
          go_roundg (n - (i + 1))
          case measure => have := HI.out; omega
          case rel => exact ⟨i + 1, by go_num, ⟨by omega⟩, HA2, HB1⟩
        · have hal : ls.all (sz2 100) = true := by have h1 := HI.out; have := HA.out; rwa [List.take_of_length_le (by rw [HLJ.out]; omega)] at this
          by_cases h20 : n ≤ 20
          rotate_left
          · have HX : Aside0 (q = false) := ⟨HFJ.out (by unfold pairsOk; rw [hal, HLJ.out, show decide (n ≤ 20) = false from decide_eq_false h20]; rfl)⟩
            have a0 : decide ((20 : Int) < (n : Int)) = true := decide_eq_true (by omega)
            have a1 : decide (20 < n) = true := decide_eq_true (by omega)
            clear hal
            go_wp2
            go_ret
            exact ⟨by rw [HX.out]; try rfl, HB.out⟩
          have HAJ2 : Aside0 (∀ i, i < j + 1 → pairsOk (xs i) = true) := ⟨fun i h => by
          by_cases e : i = j
          · subst e; rw [HPO.out]; unfold pairsOk; rw [hal, HLJ.out, show decide (n ≤ 20) = true from decide_eq_true h20]; rfl
          · exact HAJ.out i (by omega)⟩
          have a0 : decide ((20 : Int) < (n : Int)) = false := decide_eq_false (by omega)
          have a1 : decide (20 < n) = false := decide_eq_false (by omega)
          clear hal
          go_wp2
          go_roundg (go - 1)
          case measure => have := HJ.out; omega
          case rel => exact ⟨j + 1, by go_num, ⟨by have := HJ.out; omega⟩, HAJ2, HB⟩
    · have HX : Aside0 (q = true) := ⟨by have h1 := HJ.out; rw [← HQ.out, List.all_eq_true]; intro i hi; exact HAJ.out i (by have := List.mem_range.1 hi; omega)⟩
      go_wp2
      go_ret
      exact ⟨by rw [HX.out]; try rfl, HB.out⟩
end Go.Proofs.YthfjolafikgpoaaGreatDoor.Hand

/- The law FnLabelsBoth. -/
namespace Go.Proofs.YthfjolafikgpoaaGreatDoor.Hand
open Go.RowKit Go.Maps Go.Proofs.YthfjolafikgpoaaGreatDoorW.PrintWords Go.Proofs.YthfjolafikgpoaaGreatDoorW.PrintLast Go.Proofs.YthfjolafikgpoaaGreatDoorW.PrintMore Go.Proofs.YthfjolafikgpoaaGreatDoor.Base
set_option linter.unusedVariables false
set_option linter.unusedSimpArgs false
set_option maxRecDepth 100000
/-- One label of the first list against the second. -/
def FB (mb : List LP) (p : ByteArray × ByteArray) : Bool := cfV p.2.data.toList (mget mb p.1.data.toList)
def GB (mb : List LP) (p : ByteArray × ByteArray) : Bool := mget mb p.1.data.toList == some p.2.data.toList
theorem unP_mkP (p : LP) : unP (mkP p) = p := by obtain ⟨x, y⟩ := p; simp [mk]
theorem any_un (xs : List LP) (f : LP → Bool) : (xs.map mkP).any (fun p => f (unP p)) = xs.any f := by
  rw [List.any_map]; congr 1
theorem all_un (xs : List LP) (f : LP → Bool) : (xs.map mkP).all (fun p => f (unP p)) = xs.all f := by
  rw [List.all_map]; congr 1
theorem map_mkP_inj {a b : List LP} : a.map mkP = b.map mkP ↔ a = b := by
  constructor
  · intro h
    have := congrArg (List.map unP) h
    rwa [List.map_map, List.map_map, show unP ∘ mkP = id from by funext p; exact unP_mkP p, List.map_id, List.map_id] at this
  · rintro rfl; rfl
theorem both_eq (ls l2 : List (ByteArray × ByteArray)) : bothV ls l2 = .tuple #[.bool (((keyL (ls.map unP)).map mkP).any (FB (labRev l2))), .bool (decide ((keyL (ls.map unP)).map mkP = (keyL (l2.map unP)).map mkP)), .bool (decide (((keyL (l2.map unP)).map mkP).length = 0) || ((keyL (ls.map unP)).map mkP).all (GB (labRev l2)))] := by
  unfold bothV
  have h1 := conf_key (ls.map unP) (labRev l2)
  have h2 := all_key (ls.map unP) (labRev l2)
  have h3 := eq_key (ls.map unP) (l2.map unP)
  have h4 := none_key (l2.map unP)
  rw [labRev_un ls, h1, labRev_un l2, h3, h4, ← labRev_un l2, h2]
  rw [show ((keyL (ls.map unP)).map mkP).any (FB (labRev l2)) = (keyL (ls.map unP)).any (fun p => cfV p.2 (mget (labRev l2) p.1)) from any_un _ (fun q : LP => cfV q.2 (mget (labRev l2) q.1))]
  rw [show ((keyL (ls.map unP)).map mkP).all (GB (labRev l2)) = (keyL (ls.map unP)).all (fun p => mget (labRev l2) p.1 == some p.2) from all_un _ (fun q : LP => mget (labRev l2) q.1 == some q.2)]
  rw [List.length_map, show decide ((keyL (ls.map unP)).map mkP = (keyL (l2.map unP)).map mkP) = decide (keyL (ls.map unP) = keyL (l2.map unP)) from by rw [decide_eq_decide]; exact map_mkP_inj]
end Go.Proofs.YthfjolafikgpoaaGreatDoor.Hand

/- The law FnLabelsText. -/
namespace Go.Proofs.YthfjolafikgpoaaGreatDoor.Hand
open Go.RowKit Go.Maps Go.Proofs.YthfjolafikgpoaaGreatDoorW.PrintWords Go.Proofs.YthfjolafikgpoaaGreatDoorW.PrintLast Go.Proofs.YthfjolafikgpoaaGreatDoorW.PrintMore Go.Proofs.YthfjolafikgpoaaGreatDoor.Base
open Go.Sort (ltStr)
set_option linter.unusedVariables false
set_option linter.unusedSimpArgs false
set_option maxRecDepth 100000
theorem kv_inj {a b c d : L} (ha : (61 : UInt8) ∉ a) (hc : (61 : UInt8) ∉ c) (h : a ++ 61 :: b = c ++ 61 :: d) : a = c ∧ b = d := by
  induction a generalizing c with
  | nil =>
    cases c with
    | nil => exact ⟨rfl, by simpa using h⟩
    | cons x c =>
      simp only [List.nil_append, List.cons_append, List.cons.injEq] at h
      exact absurd (by rw [← h.1]; simp) hc
  | cons y a ih =>
    cases c with
    | nil =>
      simp only [List.nil_append, List.cons_append, List.cons.injEq] at h
      exact absurd (by rw [h.1]; simp) ha
    | cons x c =>
      simp only [List.cons_append, List.cons.injEq] at h
      obtain ⟨rfl, h⟩ := h
      obtain ⟨rfl, rfl⟩ := ih (fun hm => ha (by simp [hm])) (c := c) (fun hm => hc (by simp [hm])) h
      exact ⟨rfl, rfl⟩
theorem kv_nodup {xs : List LP} (hs : SK xs) (hk : ∀ p ∈ xs, (61 : UInt8) ∉ p.1) : (xs.map kv).Nodup := by
  have h := nodup_keys (sk_keys hs)
  unfold List.Nodup at *
  rw [List.pairwise_map]
  refine h.imp_of_mem (fun {a b} ha hb hne e => hne ?_)
  obtain ⟨e1, e2⟩ := kv_inj (hk a ha) (hk b hb) e
  obtain ⟨a1, a2⟩ := a
  obtain ⟨b1, b2⟩ := b
  obtain rfl : a1 = b1 := e1
  obtain rfl : a2 = b2 := e2
  rfl
theorem insS_mem' {out : List L} {s x : L} (h : x ∈ insS out s) : x = s ∨ x ∈ out := by
  unfold insS at h
  split at h
  · exact .inr h
  · rcases List.mem_append.1 h with h | h
    · exact .inr (List.mem_of_mem_take h)
    · rcases List.mem_cons.1 h with h | h
      · exact .inl h
      · exact .inr (List.mem_of_mem_drop h)
theorem foldl_nodup : ∀ (l out : List L), l.Nodup → (∀ x ∈ l, x ∉ out) → (l.foldl insS out).length = out.length + l.length
  | [], out, _, _ => rfl
  | s :: l, out, h, hd => by
    obtain ⟨h1, h2⟩ := List.nodup_cons.1 h
    have hl : (insS out s).length = out.length + 1 := by
      unfold insS
      split
      · rename_i e
        exact absurd (List.mem_of_getElem? e) (hd s (by simp))
      · rw [List.length_append, List.length_cons, List.length_take, List.length_drop]; omega
    rw [List.foldl_cons, foldl_nodup l (insS out s) h2 (fun x hx hm => by
      rcases insS_mem' hm with e | e
      · exact h1 (e ▸ hx)
      · exact hd x (by simp [hx]) e), hl, List.length_cons]
    omega
theorem setL_nodup {l : List L} (h : l.Nodup) : (setL l).length = l.length := by
  have := foldl_nodup l [] h (fun x _ hm => by simp at hm)
  simpa [setL] using this
theorem setL_all {l : List L} (h : l.Nodup) : Asc (setL l) ∧ (setL l).Perm l := by
  obtain ⟨h1, _, h3⟩ := foldl_perm l [] List.Pairwise.nil
  have h4 := h3 (by have := setL_nodup h; simpa [setL] using this)
  rw [List.nil_append] at h4
  exact ⟨h1, h4⟩
end Go.Proofs.YthfjolafikgpoaaGreatDoor.Hand
