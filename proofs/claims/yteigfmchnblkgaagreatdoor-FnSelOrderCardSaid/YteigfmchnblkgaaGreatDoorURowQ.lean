/- Arguments that are requirements, bytes, texts: opened to what the walks ask for. -/
import Derived.Test.YteigfmchnblkgaaGreatDoorURowReq
import Derived.Test.YteigfmchnblkgaaGreatDoorUGap
import Derived.Test.YteigfmchnblkgaaGreatDoorUSpWords
set_option maxRecDepth 100000
namespace Go.Proofs.YteigfmchnblkgaaGreatDoor.Laid
open Go.Joins Go.ChangeShapes Go.WideShapes Go.RowKit Go.Deep Go.ChangeAt Go.Proofs.YteigfmchnblkgaaGreatDoorW.PrintWords Go.Proofs.YteigfmchnblkgaaGreatDoor.Hand Go.Proofs.YteigfmchnblkgaaGreatDoor.Base
section
variable {H : Type} {enc : TypeId × Value → H} {W : World}
theorem open_reqs {v : Value} {d : DataW H} {p : List MemPlace} (h : DataW.Trod enc Tryz.prog W 0 (fun _ => true) true 26 v d p) (hs : ∃ b len cap, v = .slice b len cap) :
    ∃ (A : Option Addr) (c n : Nat) (l : List Rq), v = .slice A n c ∧ l.length = n ∧ n ≤ c ∧ c ≤ 9223372036854775807 ∧ KQ.C W A n (rqV l) := by
  obtain ⟨b, len, cap, rfl⟩ := hs
  obtain ⟨fuel, hf⟩ := h
  have hf' : DataW.trod enc Tryz.prog W 0 (fun _ => true) true fuel 26 [.slice b len cap] = some (d, p) := by simpa [Value.cells] using hf
  rcases open_slice_fields (e := 31) Tryz.underlying26 Tryz.underlying31 (by kernel_rfl) (by kernel_rfl) hf' with ⟨hcs, _⟩ | ⟨a, len', cap', m, D, Pl, hcs, _, hl, hm, hmm, _, hi⟩
  · simp only [List.cons.injEq, Value.slice.injEq, and_true] at hcs
    obtain ⟨rfl, rfl, rfl⟩ := hcs
    exact ⟨none, 0, 0, [], rfl, rfl, Nat.le_refl _, by decide, ⟨rfl, by decide, fun h => absurd h (Nat.lt_irrefl 0)⟩⟩
  · simp only [List.cons.injEq, Value.slice.injEq, and_true] at hcs
    obtain ⟨rfl, rfl, rfl⟩ := hcs
    simp only [if_true] at hmm
    unfold maxLen at hm
    have each : ∀ i, i < len → ∃ (q : ByteArray × ByteArray × List ByteArray) (B : Option Addr) (cc : Nat), W.cell? (a.add (i * 3)) = some (.string q.1) ∧ W.cell? (a.add (i * 3 + 1)) = some (.string q.2.1) ∧ W.cell? (a.add (i * 3 + 2)) = some (.slice B q.2.2.length cc) ∧ q.2.2.length ≤ cc ∧ Kd.C Kd.string W B q.2.2.length q.2.2 := by
      intro i him
      obtain ⟨ys, n, _, _, _, hfe⟩ := hi i (by omega)
      obtain ⟨v0, y0, hc0, _, h0⟩ := hfe 0 _ rfl
      obtain ⟨v1, y1, hc1, _, h1⟩ := hfe 1 _ rfl
      obtain ⟨v2, y2, hc2, _, h2⟩ := hfe 2 _ rfl
      obtain ⟨x, e0, _, _⟩ := DataW.trod_string Tryz.underlying9 h0
      obtain ⟨y, e1, _, _⟩ := DataW.trod_string Tryz.underlying9 h1
      obtain ⟨B, cc, n2, vs, e2, hl2, hcc, hC⟩ := c_of_strings h2
      simp only [List.cons.injEq, and_true] at e0 e1 e2
      subst e0 e1 e2
      subst hl2
      exact ⟨(x, y, vs), B, cc, hc0, hc1, hc2, hcc, hC⟩
    have ex : ∃ ls : List (ByteArray × ByteArray × List ByteArray), ls.length = len ∧ ∀ (j : Nat) q, ls[j]? = some q → ∃ (B : Option Addr) (cc : Nat), W.cell? (a.add (j * 3)) = some (.string q.1) ∧ W.cell? (a.add (j * 3 + 1)) = some (.string q.2.1) ∧ W.cell? (a.add (j * 3 + 2)) = some (.slice B q.2.2.length cc) ∧ q.2.2.length ≤ cc ∧ Kd.C Kd.string W B q.2.2.length q.2.2 := by
      refine ⟨List.ofFn (n := len) (fun i => (each i.1 i.2).choose), by simp, fun j q hq => ?_⟩
      obtain ⟨hj, e⟩ := List.getElem?_eq_some_iff.1 hq
      have hjl : j < len := by simpa using hj
      rw [List.getElem_ofFn] at e
      rw [← e]
      exact (each j hjl).choose_spec
    obtain ⟨ls, hlen, hls⟩ := ex
    have hrq : rqV (ls.map fun q => (q.1.data.toList, q.2.1.data.toList, vL q.2.2)) = ls := by
      unfold rqV
      rw [List.map_map]
      refine (List.map_congr_left (g := id) fun q _ => ?_).trans (List.map_id ls)
      show (mk q.1.data.toList, mk q.2.1.data.toList, (vL q.2.2).map mk) = q
      rw [mk_vL]; rfl
    refine ⟨some a, cap, len, ls.map fun q => (q.1.data.toList, q.2.1.data.toList, vL q.2.2), rfl, by rw [List.length_map, hlen], hl, by omega, ?_⟩
    rw [hrq]
    refine ⟨hlen, by omega, fun _ => ⟨a, rfl, fun j q hq => ?_⟩⟩
    obtain ⟨B, cc, c0, c1, c2, hcc, hC⟩ := hls j q hq
    refine ⟨[.string q.1, .string q.2.1, .slice B q.2.2.length cc], rfl, ⟨[_], [_, _], rfl, rfl, [_], [_], rfl, rfl, B, cc, rfl, hcc, hC⟩, fun i u hu => ?_⟩
    match i, hu with
    | 0, hu => obtain rfl : Value.string q.1 = u := by simpa using hu
               exact c0
    | 1, hu => obtain rfl : Value.string q.2.1 = u := by simpa using hu
               exact c1
    | 2, hu => obtain rfl : Value.slice B q.2.2.length cc = u := by simpa using hu
               exact c2
theorem open_text {r : Reach} {b0 : Nat} {v : Value} {d : DataW H} {p : List MemPlace} (hv : Value.okWide Tryz.prog W r b0 9 v) (h : DataW.Trod enc Tryz.prog W 0 (fun _ => true) true 9 v d p) : ∃ s : ByteArray, v = .string s := by
  obtain ⟨a, rfl, _⟩ := Go.ChangeMaps.open_string Tryz.underlying9 hv h
  exact ⟨a, rfl⟩
theorem byte_of {n : Int} (h : (Lit.int .u8 n).wf = true) : ∃ c : UInt8, (c.toNat : Int) = n := by
  have h1 : 0 ≤ n ∧ n ≤ 255 := by
    unfold Lit.wf at h
    simp only [Bool.and_eq_true, decide_eq_true_eq] at h
    exact ⟨h.1, h.2⟩
  refine ⟨UInt8.ofNat n.toNat, ?_⟩
  have : (UInt8.ofNat n.toNat).toNat = n.toNat % 256 := by simp
  rw [this]; omega
theorem open_bytes {v : Value} {d : DataW H} {p : List MemPlace} (h : DataW.Trod enc Tryz.prog W 0 (fun _ => true) true 37 v d p) (hs : ∃ b len cap, v = .slice b len cap) :
    ∃ (A : Option Addr) (c n : Nat) (cs : L), v = .slice A n c ∧ Bts W A n cs := by
  obtain ⟨b, len, cap, rfl⟩ := hs
  obtain ⟨fuel, hf⟩ := h
  have hf' : DataW.trod enc Tryz.prog W 0 (fun _ => true) true fuel 37 [.slice b len cap] = some (d, p) := by simpa [Value.cells] using hf
  rcases open_slice Tryz.underlying37 hf' with ⟨hcs, _⟩ | ⟨a, len', cap', m, n, D, Pl, hcs, _, hl, hm, hmm, _, hi⟩
  · simp only [List.cons.injEq, Value.slice.injEq, and_true] at hcs
    obtain ⟨rfl, rfl, rfl⟩ := hcs
    exact ⟨none, 0, 0, [], rfl, rfl, by decide, fun i c hc => by simp at hc⟩
  · simp only [List.cons.injEq, Value.slice.injEq, and_true] at hcs
    obtain ⟨rfl, rfl, rfl⟩ := hcs
    simp only [if_true] at hmm
    unfold maxLen at hm
    have each : ∀ i, i < len → ∃ c : UInt8, W.cell? (a.add i) = some (.int .u8 (c.toNat : Int)) := by
      intro i him
      obtain ⟨cs', hc, ht'⟩ := hi i (by omega)
      obtain ⟨x, e0, _, hwf⟩ := DataW.trod_int Tryz.underlying5 ht'
      subst e0
      obtain ⟨c, rfl⟩ := byte_of hwf
      obtain ⟨_, hcl, hat⟩ := World.cells?_some hc
      have h0 := hat 0 (by rw [show Tryz.prog.cellsOf 5 = 1 by kernel_rfl]; omega)
      refine ⟨c, ?_⟩
      rw [show Tryz.prog.cellsOf 5 = 1 by kernel_rfl] at h0
      have e : (a.add (i * 1)).add 0 = a.add i := by rw [Deep.add_add, Nat.mul_one, Nat.add_zero]
      rw [e] at h0
      exact h0
    have ex : ∃ ls : L, ls.length = len ∧ ∀ (j : Nat) c, ls[j]? = some c → W.cell? (a.add j) = some (.int .u8 (c.toNat : Int)) := by
      refine ⟨List.ofFn (n := len) (fun i => (each i.1 i.2).choose), by simp, fun j q hq => ?_⟩
      obtain ⟨hj, e⟩ := List.getElem?_eq_some_iff.1 hq
      have hjl : j < len := by simpa using hj
      rw [List.getElem_ofFn] at e
      rw [← e]
      exact (each j hjl).choose_spec
    obtain ⟨ls, hlen, hls⟩ := ex
    refine ⟨some a, cap, len, ls, rfl, hlen, by omega, fun i c hc => ⟨a, rfl, hls i c hc, ?_⟩⟩
    have := World.block_lt_of_cell? W _ (hls i c hc)
    rwa [add_block_] at this
end
end Go.Proofs.YteigfmchnblkgaaGreatDoor.Laid
