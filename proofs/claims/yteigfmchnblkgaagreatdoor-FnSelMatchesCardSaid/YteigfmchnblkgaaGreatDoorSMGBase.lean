import Derived.Test.YteigfmchnblkgaaGreatDoorSMHd
import Derived.Lib.Strings
/- Plain lemmas on byte lists, byte arrays and 'eventually' over rounds. No program in sight. -/
namespace Go.Proofs.YteigfmchnblkgaaGreatDoor.Base
open Go.RowKit Go.Proofs.YteigfmchnblkgaaGreatDoorW.PrintWords

abbrev L := List UInt8

/-- A byte array out of a list. -/
def mk (x : L) : ByteArray := ⟨x.toArray⟩

theorem toList_eq (s : ByteArray) : s.toList = s.data.toList := ByteArray.toList_eq s
theorem mk_toList (x : L) : (mk x).toList = x := by rw [toList_eq]; rfl
theorem mk_size (x : L) : (mk x).size = x.length := by simp [mk, ByteArray.size]
theorem mk_of (s : ByteArray) : s = mk s.data.toList := rfl
theorem exists_mk (s : ByteArray) : ∃ x, s = mk x ∧ s.size = x.length := ⟨_, mk_of s, Lib.size_eq s⟩
theorem extract_mk (x : L) (a b : Nat) : (mk x).extract a b = mk ((x.take b).drop a) := by
  apply ByteArray.ext
  simp [mk, List.drop_take]
theorem bt_mk (x : L) (i : Int) : bt (mk x) i = ((x.getD i.toNat 0).toNat : Int) := by
  unfold bt
  split
  · rename_i h
    rw [mk_size] at h
    simp [mk, List.getD_eq_getElem?_getD, List.getElem?_eq_getElem h]
    rfl
  · rename_i h
    rw [mk_size] at h
    simp [List.getD_eq_getElem?_getD, List.getElem?_eq_none (Nat.le_of_not_lt h)]
theorem rd_mk (l : List L) (i : Int) : rdOf ByteArray.empty (l.map mk) i = mk (l.getD i.toNat []) := by
  unfold rdOf
  simp only [List.getD_eq_getElem?_getD, List.getElem?_map]
  cases l[i.toNat]? <;> rfl

section
variable {α β : Type}
theorem Ev.pos {c : Prop} [Decidable c] {f g : Nat → Option α} {r : α} (h : c) (k : Ev f r) : Ev (fun n => if c then f n else g n) r := by
  simpa only [if_pos h] using k
end
theorem wrap_id {i : Int} (h0 : -9223372036854775808 ≤ i) (h : i ≤ 9223372036854775807) : wrap64 i = i := by
  unfold wrap64; omega
end Go.Proofs.YteigfmchnblkgaaGreatDoor.Base

/- Plain lemmas on clean paths: pieces of a list of bytes, the fold that cleans them, what is joined. No program in sight. -/
namespace Go.Proofs.YteigfmchnblkgaaGreatDoor.Base
open Go.RowKit Go.Proofs.YteigfmchnblkgaaGreatDoorW.PrintWords

/-- Something ahead of the first piece. -/
def glue (pre : L) : List L → List L
  | [] => [pre]
  | p :: r => (pre ++ p) :: r

/-- The parts of a text between signs. -/
def pieces (c : UInt8) : L → List L
  | [] => [[]]
  | b :: t => if b = c then [] :: pieces c t else glue [b] (pieces c t)

theorem glue_glue (a b : L) (ps : List L) : glue a (glue b ps) = glue (a ++ b) ps := by cases ps <;> simp [glue]
theorem pieces_ne (c : UInt8) (x : L) : pieces c x ≠ [] := by
  cases x with
  | nil => simp [pieces]
  | cons b t => unfold pieces; split; simp; cases pieces c t <;> simp [glue]
theorem glue_nil {ps : List L} (h : ps ≠ []) : glue [] ps = ps := by cases ps with | nil => exact absurd rfl h | cons p r => simp [glue]
theorem glue_pieces_nil (c : UInt8) (x : L) : glue [] (pieces c x) = pieces c x := glue_nil (pieces_ne c x)

/-- One part of a path is taken. -/
def pstep (ro : Bool) (l : List L) (s : L) : List L :=
  if s = [] ∨ s = [46] then l
  else if s = [46, 46] ∧ 0 < l.length ∧ l.getD (l.length - 1) [] ≠ [46, 46] then l.take (l.length - 1)
  else if s = [46, 46] ∧ ro = true then l else l ++ [s]

def rooted (x : L) : Bool := x.head? == some 47
def parts (x : L) : List L := (pieces 47 x).foldl (pstep (rooted x)) []
theorem pieces_le (c : UInt8) (x : L) : ∀ p ∈ pieces c x, p.length ≤ x.length := by
  induction x with
  | nil => simp [pieces]
  | cons b t ih =>
    intro p hp
    unfold pieces at hp
    split at hp
    · rcases List.mem_cons.1 hp with rfl | hp
      · simp
      · have := ih p hp; simp; omega
    · cases hq : pieces c t with
      | nil => rw [hq] at hp; simp [glue] at hp; subst hp; simp
      | cons q r =>
        rw [hq] at hp ih
        simp only [glue, List.mem_cons] at hp
        rcases hp with rfl | hp
        · have := ih q (by simp); simp; omega
        · have := ih p (by simp [hp]); simp; omega
theorem pieces_len (c : UInt8) (x : L) : (pieces c x).length ≤ x.length + 1 := by
  induction x with
  | nil => simp [pieces]
  | cons b t ih =>
    unfold pieces
    split
    · simp; omega
    · cases hq : pieces c t with
      | nil => simp [glue]
      | cons q r => rw [hq] at ih; simp [glue] at ih ⊢; omega
/-- The state of the first loop: what is left folds to the same. -/
def Inv (x : L) (l : List L) (f i : Nat) : Prop :=
  (∀ p ∈ l, p.length ≤ x.length) ∧ l.length ≤ i ∧ ((i ≤ x.length ∧ f ≤ i ∧ (glue ((x.take i).drop f) (pieces 47 (x.drop i))).foldl (pstep (rooted x)) l = parts x) ∨ (i = x.length + 1 ∧ l = parts x))

theorem drop_cons {x : L} {i : Nat} (h : i < x.length) : x.drop i = x.getD i 0 :: x.drop (i + 1) := by
  rw [List.getD_eq_getElem?_getD, List.getElem?_eq_getElem h, Option.getD_some]; exact List.drop_eq_getElem_cons h
theorem take_drop_snoc {x : L} {f i : Nat} (h : i < x.length) (hf : f ≤ i) : (x.take (i + 1)).drop f = (x.take i).drop f ++ [x.getD i 0] := by
  rw [List.take_succ_eq_append_getElem h, List.drop_append_of_le_length (by simp; omega), List.getD_eq_getElem?_getD, List.getElem?_eq_getElem h, Option.getD_some]
theorem Inv.next {x : L} {l : List L} {f i : Nat} (h : Inv x l f i) (hi : i < x.length) (hne : x.getD i 0 ≠ 47) : Inv x l f (i + 1) := by
  obtain ⟨h1, h2, ⟨_, hf, h3⟩ | ⟨h3, _⟩⟩ := h
  · refine ⟨h1, by omega, .inl ⟨by omega, by omega, ?_⟩⟩
    rw [← h3, drop_cons hi, take_drop_snoc hi hf, pieces, if_neg hne, glue_glue]
  · omega
theorem Inv.done {x : L} {l : List L} {f i : Nat} (h : Inv x l f i) (hi : x.length < i) : l = parts x := by
  obtain ⟨_, _, ⟨h3, _⟩ | ⟨_, h3⟩⟩ := h
  · omega
  · exact h3
theorem byte_eq {b c : UInt8} (h : b = c) : (((b.toNat : Nat) : Int) != ((c.toNat : Nat) : Int)) = false := by
  subst h; simp
end Go.Proofs.YteigfmchnblkgaaGreatDoor.Base
