/- Arguments that are a requirement, labels: opened to what the walks ask for. -/
import Derived.Test.YteigfmchnblkgaaGreatDoorUGLabA
import Derived.Lib.SmallJoins
import Derived.Deep.Slices
import Derived.Deep.Fields
import Derived.ChangeSame
import Derived.WalkKit
import Derived.ProofKit
import Derived.OpenShut
import Derived.SliceStrings
import Derived.Carry
set_option maxRecDepth 100000
namespace Go.Proofs.YteigfmchnblkgaaGreatDoor.Laid
open Go.Joins Go.ChangeShapes Go.WideShapes Go.RowKit Go.Deep Go.ChangeAt Go.Proofs.YteigfmchnblkgaaGreatDoorW.PrintWords Go.Proofs.YteigfmchnblkgaaGreatDoor.Hand
section
variable {H : Type} {enc : TypeId × Value → H} {P : Program} {w : World} {base : Nat} {spare : Nat → Bool} {held : Bool}
theorem open_slice_fields {t e : TypeId} {fs : Array Field} {fuel : Nat} {cs : List Value} {x : DataW H × List MemPlace} (ht : P.underlying t = some (.slice e)) (he : P.underlying e = some (.struct fs))
    (hone : oneCellFields P fs = true) (hC : P.cellsOf e = fs.size) (h : DataW.trod enc P w base spare held fuel t cs = some x) :
    (cs = [.slice none 0 0] ∧ x = (.nil, [])) ∨
    ∃ (a : Addr) (len cap m : Nat) (D : Nat → DataW H) (Pl : Nat → List MemPlace), cs = [.slice (some a) len cap] ∧ base ≤ a.block ∧ len ≤ cap ∧ cap ≤ maxLen ∧ m = (if spare a.block then cap else len) ∧
      x = (.slice ((List.range len).map D) ((List.range (m - len)).map fun j => D (len + j)), MemPlace.row a (m * fs.size) ++ (List.range m).flatMap Pl) ∧
      ∀ i, i < m → ∃ (ys : List (DataW H × List MemPlace)) (n : Nat), D i = .agg (ys.map (·.1)) ∧ Pl i = ys.flatMap (·.2) ∧ ys.length = fs.size ∧
        ∀ (j : Nat) (f : Field), fs[j]? = some f → ∃ (v : Value) (y : DataW H × List MemPlace), w.cell? (a.add (i * fs.size + j)) = some v ∧ ys[j]? = some y ∧ DataW.trod enc P w base spare held n f.type [v] = some y := by
  rcases open_slice ht h with h0 | ⟨a, len, cap, m, n, D, Pl, hcs, hb, hl, hm, hmm, hx, hi⟩
  · exact .inl h0
  · refine .inr ⟨a, len, cap, m, D, Pl, hcs, hb, hl, hm, hmm, by rw [hC] at hx; exact hx, fun i him => ?_⟩
    obtain ⟨cs', hc, ht'⟩ := hi i him
    rw [hC] at hc
    obtain ⟨ys, n', hn', hy, hlen, hyl, hf⟩ := DataW.trod_struct he ht'
    obtain ⟨_, hcl, hat⟩ := World.cells?_some hc
    simp only [Prod.mk.injEq] at hy
    refine ⟨ys, n', hy.1, hy.2, hyl, fun j f hj => ?_⟩
    obtain ⟨ho, hk⟩ := hone_of hone j f hj
    have hjl : j < fs.size := (Array.getElem?_eq_some_iff.1 hj).1
    have hcell := hat j hjl
    have hv : cs'[j]? = some (cs'[j]'(by omega)) := List.getElem?_eq_getElem (by omega)
    have h1 := hf j f hj
    rw [ho, hk] at h1
    have hone' : (cs'.drop j).take 1 = [cs'[j]'(by omega)] := by
      rw [List.drop_eq_getElem_cons (by omega)]
      rfl
    rw [hone'] at h1
    have hys : ys[j]? = some (ys[j]'(by omega)) := List.getElem?_eq_getElem (by omega)
    refine ⟨_, _, ?_, hys, h1.trans hys⟩
    rw [← Go.Deep.add_add, hcell, hv]
end
section
variable {H : Type} {enc : TypeId × Value → H} {W : World}
theorem c_of_strings {fuel : Nat} {cs : List Value} {x : DataW H × List MemPlace} (h : DataW.trod enc Tryz.prog W 0 (fun _ => true) true fuel 29 cs = some x) :
    ∃ (A : Option Addr) (c n : Nat) (vs : List ByteArray), cs = [.slice A n c] ∧ vs.length = n ∧ n ≤ c ∧ Kd.C Kd.string W A n vs := by
  rcases open_strings (e := 9) Tryz.underlying29 Tryz.underlying9 (by kernel_rfl) h with ⟨hcs, _⟩ | ⟨a, len, cap, ss, hcs, _, hl, hm, hz, _, hcell, _⟩
  · exact ⟨none, 0, 0, [], hcs, rfl, Nat.le_refl _, Kd.C_nil _ _⟩
  · simp only [if_true] at hz
    unfold maxLen at hm
    refine ⟨some a, cap, len, ss.take len, hcs, by simp; omega, hl, ?_⟩
    refine Kd.C_of_reads (d := ByteArray.empty) ⟨by simp; omega, by omega, fun _ => ⟨a, rfl, fun j hj => ?_⟩⟩
    rw [hcell j (by omega)]
    congr 2
    rw [List.getD_eq_getElem?_getD, List.getD_eq_getElem?_getD, List.getElem?_take_of_lt hj]
theorem open_pairs {v : Value} {d : DataW H} {p : List MemPlace} (h : DataW.Trod enc Tryz.prog W 0 (fun _ => true) true 22 v d p) (hs : ∃ b len cap, v = .slice b len cap) :
    ∃ (A : Option Addr) (c n : Nat) (ls : List (ByteArray × ByteArray)), v = .slice A n c ∧ ls.length = n ∧ n ≤ c ∧ PK.C W A n ls := by
  obtain ⟨b, len, cap, rfl⟩ := hs
  obtain ⟨fuel, hf⟩ := h
  have hf' : DataW.trod enc Tryz.prog W 0 (fun _ => true) true fuel 22 [.slice b len cap] = some (d, p) := by simpa [Value.cells] using hf
  rcases open_slice_fields (e := 45) Tryz.underlying22 Tryz.underlying45 (by kernel_rfl) (by kernel_rfl) hf' with ⟨hcs, _⟩ | ⟨a, len', cap', m, D, Pl, hcs, _, hl, hm, hmm, _, hi⟩
  · simp only [List.cons.injEq, Value.slice.injEq, and_true] at hcs
    obtain ⟨rfl, rfl, rfl⟩ := hcs
    exact ⟨none, 0, 0, [], rfl, rfl, Nat.le_refl _, ⟨rfl, by decide, fun h => absurd h (Nat.lt_irrefl 0)⟩⟩
  · simp only [List.cons.injEq, Value.slice.injEq, and_true] at hcs
    obtain ⟨rfl, rfl, rfl⟩ := hcs
    simp only [if_true] at hmm
    unfold maxLen at hm
    have each : ∀ i, i < len → ∃ q : ByteArray × ByteArray, W.cell? (a.add (i * 2)) = some (.string q.1) ∧ W.cell? (a.add (i * 2 + 1)) = some (.string q.2) := by
      intro i him
      obtain ⟨ys, n, _, _, _, hfe⟩ := hi i (by omega)
      obtain ⟨v0, y0, hc0, _, h0⟩ := hfe 0 _ rfl
      obtain ⟨v1, y1, hc1, _, h1⟩ := hfe 1 _ rfl
      obtain ⟨x, e0, _, _⟩ := DataW.trod_string Tryz.underlying9 h0
      obtain ⟨y, e1, _, _⟩ := DataW.trod_string Tryz.underlying9 h1
      simp only [List.cons.injEq, and_true] at e0 e1
      subst e0 e1
      exact ⟨(x, y), hc0, hc1⟩
    have ex : ∃ ls : List (ByteArray × ByteArray), ls.length = len ∧ ∀ (j : Nat) q, ls[j]? = some q → W.cell? (a.add (j * 2)) = some (.string q.1) ∧ W.cell? (a.add (j * 2 + 1)) = some (.string q.2) := by
      refine ⟨List.ofFn (n := len) (fun i => (each i.1 i.2).choose), by simp, fun j q hq => ?_⟩
      obtain ⟨hj, e⟩ := List.getElem?_eq_some_iff.1 hq
      have hjl : j < len := by simpa using hj
      rw [List.getElem_ofFn] at e
      rw [← e]
      exact (each j hjl).choose_spec
    obtain ⟨ls, hlen, hls⟩ := ex
    refine ⟨some a, cap, len, ls, rfl, hlen, hl, hlen, by omega, fun _ => ⟨a, rfl, fun j q hq => ⟨[.string q.1, .string q.2], rfl, ⟨[_], [_], rfl, rfl, rfl⟩, fun i u hu => ?_⟩⟩⟩
    obtain ⟨c0, c1⟩ := hls j q hq
    match i, hu with
    | 0, hu => obtain rfl : Value.string q.1 = u := by simpa using hu
               exact c0
    | 1, hu => obtain rfl : Value.string q.2 = u := by simpa using hu
               exact c1
end
end Go.Proofs.YteigfmchnblkgaaGreatDoor.Laid
