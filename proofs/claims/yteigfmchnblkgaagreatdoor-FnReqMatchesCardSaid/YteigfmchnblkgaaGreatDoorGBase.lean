import Derived.Test.YteigfmchnblkgaaGreatDoorHd
import Derived.Lib.Strings
/- Plain lemmas on byte lists, byte arrays and 'eventually' over rounds. No program in sight. -/
namespace Go.Proofs.YteigfmchnblkgaaGreatDoor.Base
open Go.RowKit Go.Proofs.YteigfmchnblkgaaGreatDoorW.PrintWords

abbrev L := List UInt8

/-- A byte array out of a list. -/
def mk (x : L) : ByteArray := ⟨x.toArray⟩

theorem toList_eq (s : ByteArray) : s.toList = s.data.toList := ByteArray.toList_eq s
theorem mk_toList (x : L) : (mk x).toList = x := by rw [toList_eq]; rfl
theorem mk_size (x : L) : (mk x).size = x.length := by simp [mk, ByteArray.size]
theorem mk_append (x y : L) : mk x ++ mk y = mk (x ++ y) := by
  apply ByteArray.ext; simp [mk]
theorem mk_of (s : ByteArray) : s = mk s.data.toList := rfl
theorem nil_app (q : ByteArray) : mk [] ++ q = q := by rw [mk_of q, mk_append]; rfl
theorem exists_mk (s : ByteArray) : ∃ x, s = mk x ∧ s.size = x.length := ⟨_, mk_of s, Lib.size_eq s⟩
theorem mk_inj {x y : L} (h : mk x = mk y) : x = y := by
  have := congrArg ByteArray.toList h; simpa [mk_toList] using this
theorem extract_mk (x : L) (a b : Nat) : (mk x).extract a b = mk ((x.take b).drop a) := by
  apply ByteArray.ext
  simp [mk, List.drop_take]
theorem bt_mk (x : L) (i : Int) : bt (mk x) i = ((x.getD i.toNat 0).toNat : Int) := by
  unfold bt
  split
  · rename_i h
    rw [mk_size] at h
    simp [mk, List.getD_eq_getElem?_getD, List.getElem?_eq_getElem h]
    rfl
  · rename_i h
    rw [mk_size] at h
    simp [List.getD_eq_getElem?_getD, List.getElem?_eq_none (Nat.le_of_not_lt h)]
theorem rd_mk (l : List L) (i : Int) : rdOf ByteArray.empty (l.map mk) i = mk (l.getD i.toNat []) := by
  unfold rdOf
  simp only [List.getD_eq_getElem?_getD, List.getElem?_map]
  cases l[i.toNat]? <;> rfl

section
variable {α β : Type}
theorem Ev.pos {c : Prop} [Decidable c] {f g : Nat → Option α} {r : α} (h : c) (k : Ev f r) : Ev (fun n => if c then f n else g n) r := by
  simpa only [if_pos h] using k
theorem Ev.neg {c : Prop} [Decidable c] {f g : Nat → Option α} {r : α} (h : ¬ c) (k : Ev g r) : Ev (fun n => if c then f n else g n) r := by
  simpa only [if_neg h] using k
end
theorem wrap_id {i : Int} (h0 : -9223372036854775808 ≤ i) (h : i ≤ 9223372036854775807) : wrap64 i = i := by
  unfold wrap64; omega
end Go.Proofs.YteigfmchnblkgaaGreatDoor.Base

/- Plain lemmas on clean paths: pieces of a list of bytes, the fold that cleans them, what is joined. No program in sight. -/
namespace Go.Proofs.YteigfmchnblkgaaGreatDoor.Base
open Go.RowKit Go.Proofs.YteigfmchnblkgaaGreatDoorW.PrintWords

/-- Something ahead of the first piece. -/
def glue (pre : L) : List L → List L
  | [] => [pre]
  | p :: r => (pre ++ p) :: r

/-- The parts of a text between signs. -/
def pieces (c : UInt8) : L → List L
  | [] => [[]]
  | b :: t => if b = c then [] :: pieces c t else glue [b] (pieces c t)

theorem glue_glue (a b : L) (ps : List L) : glue a (glue b ps) = glue (a ++ b) ps := by cases ps <;> simp [glue]
theorem pieces_ne (c : UInt8) (x : L) : pieces c x ≠ [] := by
  cases x with
  | nil => simp [pieces]
  | cons b t => unfold pieces; split; simp; cases pieces c t <;> simp [glue]
theorem glue_nil {ps : List L} (h : ps ≠ []) : glue [] ps = ps := by cases ps with | nil => exact absurd rfl h | cons p r => simp [glue]
theorem glue_pieces_nil (c : UInt8) (x : L) : glue [] (pieces c x) = pieces c x := glue_nil (pieces_ne c x)

/-- One part of a path is taken. -/
def pstep (ro : Bool) (l : List L) (s : L) : List L :=
  if s = [] ∨ s = [46] then l
  else if s = [46, 46] ∧ 0 < l.length ∧ l.getD (l.length - 1) [] ≠ [46, 46] then l.take (l.length - 1)
  else if s = [46, 46] ∧ ro = true then l else l ++ [s]

def joinL (sep : L) : List L → L
  | [] => []
  | [a] => a
  | a :: b :: t => a ++ sep ++ joinL sep (b :: t)

theorem joinL_snoc (sep : L) (l : List L) (a : L) : joinL sep (l ++ [a]) = if l = [] then a else joinL sep l ++ sep ++ a := by
  induction l with
  | nil => simp [joinL]
  | cons p t ih =>
    cases t with
    | nil => simp [joinL]
    | cons q r =>
      rw [if_neg (by simp)]
      rw [if_neg (by simp)] at ih
      simp only [List.cons_append, joinL] at ih ⊢
      rw [ih]
      simp [List.append_assoc]

def finish (ro : Bool) (out : L) : L := if ro = true then 47 :: out else if out = [] then [46] else out
def rooted (x : L) : Bool := x.head? == some 47
def parts (x : L) : List L := (pieces 47 x).foldl (pstep (rooted x)) []
def clean (x : L) : L := if x = [] then [46] else finish (rooted x) (joinL [47] (parts x))

/-- How long what is joined may be. -/
theorem joinL_le (sep : L) (m : Nat) (l : List L) (h : ∀ p ∈ l, p.length ≤ m) : (joinL sep l).length ≤ l.length * (m + sep.length) := by
  induction l with
  | nil => simp [joinL]
  | cons a t ih =>
    cases t with
    | nil => have := h a (by simp); simp [joinL]; omega
    | cons b r =>
      have h1 := h a (by simp)
      have h2 := ih (fun p hp => h p (by simp [hp]))
      simp only [joinL, List.length_append, List.length_cons] at h2 ⊢
      rw [Nat.add_mul] 
      omega
theorem pieces_le (c : UInt8) (x : L) : ∀ p ∈ pieces c x, p.length ≤ x.length := by
  induction x with
  | nil => simp [pieces]
  | cons b t ih =>
    intro p hp
    unfold pieces at hp
    split at hp
    · rcases List.mem_cons.1 hp with rfl | hp
      · simp
      · have := ih p hp; simp; omega
    · cases hq : pieces c t with
      | nil => rw [hq] at hp; simp [glue] at hp; subst hp; simp
      | cons q r =>
        rw [hq] at hp ih
        simp only [glue, List.mem_cons] at hp
        rcases hp with rfl | hp
        · have := ih q (by simp); simp; omega
        · have := ih p (by simp [hp]); simp; omega
theorem pieces_len (c : UInt8) (x : L) : (pieces c x).length ≤ x.length + 1 := by
  induction x with
  | nil => simp [pieces]
  | cons b t ih =>
    unfold pieces
    split
    · simp; omega
    · cases hq : pieces c t with
      | nil => simp [glue]
      | cons q r => rw [hq] at ih; simp [glue] at ih ⊢; omega
theorem pstep_mem (ro : Bool) (l : List L) (s : L) : ∀ p ∈ pstep ro l s, p ∈ l ∨ p = s := by
  intro p hp
  unfold pstep at hp
  split at hp
  · exact .inl hp
  · split at hp
    · exact .inl (List.mem_of_mem_take hp)
    · split at hp
      · exact .inl hp
      · simpa using hp
theorem pstep_len (ro : Bool) (l : List L) (s : L) : (pstep ro l s).length ≤ l.length + 1 := by
  unfold pstep
  split
  · omega
  · split
    · simp; omega
    · split <;> simp
/-- The state of the first loop: what is left folds to the same. -/
def Inv (x : L) (l : List L) (f i : Nat) : Prop :=
  (∀ p ∈ l, p.length ≤ x.length) ∧ l.length ≤ i ∧ ((i ≤ x.length ∧ f ≤ i ∧ (glue ((x.take i).drop f) (pieces 47 (x.drop i))).foldl (pstep (rooted x)) l = parts x) ∨ (i = x.length + 1 ∧ l = parts x))

theorem Inv.start (x : L) : Inv x [] 0 0 := ⟨by simp, by simp, .inl ⟨by omega, by omega, by simp [glue_pieces_nil, parts]⟩⟩
theorem drop_cons {x : L} {i : Nat} (h : i < x.length) : x.drop i = x.getD i 0 :: x.drop (i + 1) := by
  rw [List.getD_eq_getElem?_getD, List.getElem?_eq_getElem h, Option.getD_some]; exact List.drop_eq_getElem_cons h
theorem take_drop_snoc {x : L} {f i : Nat} (h : i < x.length) (hf : f ≤ i) : (x.take (i + 1)).drop f = (x.take i).drop f ++ [x.getD i 0] := by
  rw [List.take_succ_eq_append_getElem h, List.drop_append_of_le_length (by simp; omega), List.getD_eq_getElem?_getD, List.getElem?_eq_getElem h, Option.getD_some]
theorem Inv.next {x : L} {l : List L} {f i : Nat} (h : Inv x l f i) (hi : i < x.length) (hne : x.getD i 0 ≠ 47) : Inv x l f (i + 1) := by
  obtain ⟨h1, h2, ⟨_, hf, h3⟩ | ⟨h3, _⟩⟩ := h
  · refine ⟨h1, by omega, .inl ⟨by omega, by omega, ?_⟩⟩
    rw [← h3, drop_cons hi, take_drop_snoc hi hf, pieces, if_neg hne, glue_glue]
  · omega
theorem Inv.sep {x : L} {l : List L} {f i : Nat} (h : Inv x l f i) (hi : i ≤ x.length) (hs : i = x.length ∨ x.getD i 0 = 47) : Inv x (pstep (rooted x) l ((x.take i).drop f)) (i + 1) (i + 1) := by
  obtain ⟨h1, h2, ⟨_, hf, h3⟩ | ⟨h3, _⟩⟩ := h
  · refine ⟨fun p hp => ?_, ?_, ?_⟩
    · rcases pstep_mem _ _ _ p hp with hp | rfl
      · exact h1 p hp
      · simp; omega
    · have := pstep_len (rooted x) l ((x.take i).drop f); omega
    · by_cases he : i = x.length
      · refine .inr ⟨by omega, ?_⟩
        rw [← h3, he]; simp [pieces, glue]
      · have hlt : i < x.length := by omega
        have hb : x.getD i 0 = 47 := by rcases hs with h | h; exact absurd h he; exact h
        refine .inl ⟨by omega, by omega, ?_⟩
        have e : (x.take (i + 1)).drop (i + 1) = [] := List.drop_eq_nil_of_le (by simp; omega)
        rw [← h3, drop_cons hlt, pieces, if_pos hb, e, glue_pieces_nil]
        simp [glue]
  · omega
theorem Inv.done {x : L} {l : List L} {f i : Nat} (h : Inv x l f i) (hi : x.length < i) : l = parts x := by
  obtain ⟨_, _, ⟨h3, _⟩ | ⟨_, h3⟩⟩ := h
  · omega
  · exact h3
theorem Inv.le {x : L} {l : List L} {f i : Nat} (h : Inv x l f i) : l.length ≤ i ∧ i ≤ x.length + 1 ∧ (i ≤ x.length → f ≤ i) ∧ (∀ p ∈ l, p.length ≤ x.length) := by
  obtain ⟨h1, h2, ⟨h3, h4, _⟩ | ⟨h3, _⟩⟩ := h
  · exact ⟨h2, by omega, fun _ => h4, h1⟩
  · exact ⟨h2, by omega, fun _ => by omega, h1⟩

/-- The cases of a part. -/
theorem pstep_cases (ro : Bool) (l : List L) (s : L) :
    (s = [] ∧ pstep ro l s = l) ∨ (s = [46] ∧ pstep ro l s = l) ∨ (s = [46, 46] ∧ 0 < l.length ∧ l.getD (l.length - 1) [] ≠ [46, 46] ∧ pstep ro l s = l.take (l.length - 1)) ∨
    (s = [46, 46] ∧ (l.length = 0 ∨ 0 < l.length ∧ l.getD (l.length - 1) [] = [46, 46]) ∧ ro = true ∧ pstep ro l s = l) ∨
    (s = [46, 46] ∧ (l.length = 0 ∨ 0 < l.length ∧ l.getD (l.length - 1) [] = [46, 46]) ∧ ro = false ∧ pstep ro l s = l ++ [s]) ∨
    (s ≠ [] ∧ s ≠ [46] ∧ s ≠ [46, 46] ∧ pstep ro l s = l ++ [s]) := by
  unfold pstep
  by_cases h1 : s = []
  · exact .inl ⟨h1, by rw [if_pos (.inl h1)]⟩
  by_cases h2 : s = [46]
  · exact .inr (.inl ⟨h2, by rw [if_pos (.inr h2)]⟩)
  rw [if_neg (by simp [h1, h2])]
  by_cases h3 : s = [46, 46]
  · by_cases h4 : 0 < l.length ∧ l.getD (l.length - 1) [] ≠ [46, 46]
    · exact .inr (.inr (.inl ⟨h3, h4.1, h4.2, by rw [if_pos ⟨h3, h4⟩]⟩))
    · have h5 : l.length = 0 ∨ 0 < l.length ∧ l.getD (l.length - 1) [] = [46, 46] := by
        by_cases h0 : l.length = 0
        · exact .inl h0
        · refine .inr ⟨by omega, Classical.byContradiction fun hn => h4 ⟨by omega, hn⟩⟩
      rw [if_neg (fun h => h4 h.2)]
      cases ro with
      | true => exact .inr (.inr (.inr (.inl ⟨h3, h5, rfl, by rw [if_pos ⟨h3, rfl⟩]⟩)))
      | false => exact .inr (.inr (.inr (.inr (.inl ⟨h3, h5, rfl, by rw [if_neg (by simp)]⟩))))
  · refine .inr (.inr (.inr (.inr (.inr ⟨h1, h2, h3, ?_⟩))))
    rw [if_neg (fun h => h3 h.1), if_neg (fun h => h3 h.1)]
/-- What is joined of the first n, and one more. -/
theorem joinL_take (sep : L) (l : List L) (n : Nat) (h : n < l.length) : joinL sep (l.take (n + 1)) = if n = 0 then l.getD n [] else joinL sep (l.take n) ++ sep ++ l.getD n [] := by
  rw [List.take_succ_eq_append_getElem h, joinL_snoc, List.getD_eq_getElem?_getD, List.getElem?_eq_getElem h, Option.getD_some]
  by_cases hn : n = 0
  · subst hn; simp
  · rw [if_neg hn, if_neg (by intro h0; have := congrArg List.length h0; rw [List.length_take, List.length_nil] at this; omega)]
theorem rooted_head (x : L) (h : x ≠ []) : ((((x.getD 0 0).toNat : Nat) : Int) == 47) = rooted x := by
  cases x with
  | nil => exact absurd rfl h
  | cons b t =>
    simp only [List.getD_cons_zero, rooted, List.head?_cons]
    rw [Bool.eq_iff_iff, beq_iff_eq, beq_iff_eq]
    constructor
    · intro h; rw [show b = 47 from UInt8.toNat_inj.1 (by simpa using (by omega : b.toNat = 47))]
    · intro h; injection h with h; subst h; rfl
theorem byte_ne {b c : UInt8} (h : b ≠ c) : (((b.toNat : Nat) : Int) != ((c.toNat : Nat) : Int)) = true := by
  rw [bne_iff_ne]; intro e; exact h (UInt8.toNat_inj.1 (by omega))
theorem byte_eq {b c : UInt8} (h : b = c) : (((b.toNat : Nat) : Int) != ((c.toNat : Nat) : Int)) = false := by
  subst h; simp
end Go.Proofs.YteigfmchnblkgaaGreatDoor.Base
