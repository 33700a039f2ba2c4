/- Plain lemmas on byte lists, byte arrays and 'eventually' over rounds. No program in sight. -/
import Derived.Test.YteigfmchnblkgaaDoorHd
import Derived.Lib.Strings
namespace Go.Proofs.YteigfmchnblkgaaDoor.Base
open Go.RowKit Go.Proofs.YteigfmchnblkgaaDoorW.PrintWords

abbrev L := List UInt8

/-- A byte array out of a list. -/
def mk (x : L) : ByteArray := ⟨x.toArray⟩

theorem toList_eq (s : ByteArray) : s.toList = s.data.toList := ByteArray.toList_eq s
theorem mk_toList (x : L) : (mk x).toList = x := by rw [toList_eq]; rfl
theorem mk_size (x : L) : (mk x).size = x.length := by simp [mk, ByteArray.size]
theorem mk_append (x y : L) : mk x ++ mk y = mk (x ++ y) := by
  apply ByteArray.ext; simp [mk]
theorem mk_of (s : ByteArray) : s = mk s.data.toList := rfl
theorem nil_app (q : ByteArray) : mk [] ++ q = q := by rw [mk_of q, mk_append]; rfl
theorem exists_mk (s : ByteArray) : ∃ x, s = mk x ∧ s.size = x.length := ⟨_, mk_of s, Lib.size_eq s⟩
theorem mk_inj {x y : L} (h : mk x = mk y) : x = y := by
  have := congrArg ByteArray.toList h; simpa [mk_toList] using this
theorem extract_mk (x : L) (a b : Nat) : (mk x).extract a b = mk ((x.take b).drop a) := by
  apply ByteArray.ext
  simp [mk, List.drop_take]
theorem bt_mk (x : L) (i : Int) : bt (mk x) i = ((x.getD i.toNat 0).toNat : Int) := by
  unfold bt
  split
  · rename_i h
    rw [mk_size] at h
    simp [mk, List.getD_eq_getElem?_getD, List.getElem?_eq_getElem h]
    rfl
  · rename_i h
    rw [mk_size] at h
    simp [List.getD_eq_getElem?_getD, List.getElem?_eq_none (Nat.le_of_not_lt h)]
theorem rd_mk (l : List L) (i : Int) : rdOf ByteArray.empty (l.map mk) i = mk (l.getD i.toNat []) := by
  unfold rdOf
  simp only [List.getD_eq_getElem?_getD, List.getElem?_map]
  cases l[i.toNat]? <;> rfl

section
variable {α β : Type}
theorem Ev.pos {c : Prop} [Decidable c] {f g : Nat → Option α} {r : α} (h : c) (k : Ev f r) : Ev (fun n => if c then f n else g n) r := by
  simpa only [if_pos h] using k
theorem Ev.neg {c : Prop} [Decidable c] {f g : Nat → Option α} {r : α} (h : ¬ c) (k : Ev g r) : Ev (fun n => if c then f n else g n) r := by
  simpa only [if_neg h] using k
end
theorem wrap_id {i : Int} (h0 : -9223372036854775808 ≤ i) (h : i ≤ 9223372036854775807) : wrap64 i = i := by
  unfold wrap64; omega
end Go.Proofs.YteigfmchnblkgaaDoor.Base
