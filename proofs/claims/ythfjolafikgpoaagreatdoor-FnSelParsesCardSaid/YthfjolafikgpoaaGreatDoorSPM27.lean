/- (*labels.Requirement).String. (Printed by strreq.py.) -/
import Derived.Test.YthfjolafikgpoaaGreatDoorSPM26
namespace Go.Proofs.YthfjolafikgpoaaGreatDoor.Hand
open Go.RowKit Go.Proofs.YthfjolafikgpoaaGreatDoorW.PrintWords Go.Proofs.YthfjolafikgpoaaGreatDoorW.PrintLast Go.Proofs.YthfjolafikgpoaaGreatDoorW.PrintMore Go.Proofs.YthfjolafikgpoaaGreatDoor.Base
set_option linter.unusedVariables false
set_option linter.unusedSimpArgs false
set_option maxRecDepth 100000
structure BufSt (w W : World) (s : ByteArray) (k : Nat) : Prop where
 be : Below w.heap.size w W
 st : W.heap[w.heap.size]? = some (.cells #[.string s] 274 (0, 0))
 sz : s.size ≤ k * 20000000
theorem BufSt.calls {w W : World} {s : ByteArray} {k : Nat} (t : ByteArray) (h : BufSt w W s k) (hk : k ≤ 20) (ht : t.size ≤ 20000000) :
   Calls Tryz.prog 220 #[.pointer (some ⟨w.heap.size, 0, none⟩), .string t] W fun e W' => e = .returned (.tuple #[]) ∧ BufSt w W' (s ++ t) (k + 1) := by
 refine (BufW_calls w.heap.size s t (by have := h.sz; omega) W h.st).mono ?_
 rintro e w' ⟨rfl, rfl⟩
 refine ⟨rfl, below_set h.be (Nat.le_refl _), ?_, by have := h.sz; rw [ByteArray.size_append]; omega⟩
 exact blk_put h.st 0 _ (cs' := #[.string (s ++ t)]) rfl
theorem BufSt.new (w : World) : BufSt w (w.alloc (.cells #[.string ⟨#[]⟩] 274)) ⟨#[]⟩ 0 := ⟨below_alloc (Below.refl _ _) _, heap_alloc_new w _, by decide⟩
theorem empty_app (s : ByteArray) : (⟨#[]⟩ : ByteArray) ++ s = s := by
 apply ByteArray.ext; simp [ByteArray.data_append]
theorem BufSt.on {w W W' : World} {s : ByteArray} {k : Nat} (h : BufSt w W s k) (hb : Below W.heap.size W W') : BufSt w W' s k :=
 ⟨below_step h.be hb, (hb.block _ (blk_lt h.st)).trans h.st, h.sz⟩
def textM (x : L) (key m : ByteArray) : ByteArray :=
 if x = [105, 110] then key ++ ⟨#[32, 105, 110, 32]⟩ ++ ⟨#[40]⟩ ++ m ++ ⟨#[41]⟩
 else if x = [110, 111, 116, 105, 110] then key ++ ⟨#[32, 110, 111, 116, 105, 110, 32]⟩ ++ ⟨#[40]⟩ ++ m ++ ⟨#[41]⟩
 else if x = [103, 116] then key ++ ⟨#[62]⟩ ++ m
 else if x = [108, 116] then key ++ ⟨#[60]⟩ ++ m
 else if x = [101, 120, 105, 115, 116, 115] then key
 else if x = [33] then ⟨#[33]⟩ ++ key
 else key ++ ⟨x.toArray⟩ ++ m
theorem join_one (v : ByteArray) : joinB ⟨#[44]⟩ [v] = v := by unfold joinB; simp only [List.foldl_nil]; exact empty_app v
theorem one_us (v : ByteArray) : [v.data.toList].Perm (vL [v]) ∧ Asc [v.data.toList] ∧ joinB ⟨#[44]⟩ ([v.data.toList].map mk) = v :=
 ⟨List.Perm.refl _, List.pairwise_singleton _ _, by simp only [List.map_cons, List.map_nil]; rw [← mk_of v]; exact join_one v⟩
end Go.Proofs.YthfjolafikgpoaaGreatDoor.Hand
