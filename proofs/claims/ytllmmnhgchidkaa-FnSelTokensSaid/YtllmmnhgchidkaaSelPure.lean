/- Tokens of a selector's text, over lists of bytes. No program in sight. -/
import Derived.Test.YtllmmnhgchidkaaBase
namespace Go.Proofs.Ytllmmnhgchidkaa.Hand
open Go.Proofs.Ytllmmnhgchidkaa.Base
set_option linter.unusedVariables false
set_option linter.unusedSimpArgs false

def isWs (c : UInt8) : Bool := c == 32 || c == 9 || c == 13 || c == 10
def isSp (c : UInt8) : Bool := c == 61 || c == 33 || c == 40 || c == 41 || c == 44 || c == 62 || c == 60
def isWd (c : UInt8) : Bool := !(isSp c || isWs c)
/-- The kind of a sign, or of a word that is one. -/
def tokOf (l : L) : Option Nat :=
  if l = [41] then some 2 else if l = [44] then some 3 else if l = [33] then some 4 else if l = [61, 61] then some 5 else if l = [61] then some 6 else if l = [62] then some 7
  else if l = [105, 110] then some 9 else if l = [60] then some 10 else if l = [33, 61] then some 11 else if l = [110, 111, 116, 105, 110] then some 12 else if l = [40] then some 13 else none
def wsLen (x : L) : Nat := (x.takeWhile isWs).length
def wdLen (x : L) : Nat := (x.takeWhile isWd).length
def symLen (x : L) : Nat := if x.take 2 = [61, 61] ∨ x.take 2 = [33, 61] then 2 else 1
/-- The next token, from a sign or a word on: its kind, and its length. -/
def lexAt (x : L) : Nat × Nat := match x with
  | [] => (1, 0)
  | c :: r => if isSp c then ((tokOf ((c :: r).take (symLen (c :: r)))).getD 0, symLen (c :: r)) else ((tokOf ((c :: r).take (wdLen (c :: r)))).getD 8, wdLen (c :: r))
/-- The next token: its kind, its text, and how many bytes were read. -/
def lexL (x : L) : Nat × L × Nat :=
  let y := x.drop (wsLen x)
  ((lexAt y).1, y.take (lexAt y).2, wsLen x + (lexAt y).2)
theorem wsLen_le (x : L) : wsLen x ≤ x.length := (List.takeWhile_sublist _).length_le
theorem wdLen_le (x : L) : wdLen x ≤ x.length := (List.takeWhile_sublist _).length_le
theorem ws_cons (c : UInt8) (r : L) : wsLen (c :: r) = if isWs c then wsLen r + 1 else 0 := by
  unfold wsLen; rw [List.takeWhile_cons]; split <;> simp
theorem wd_cons (c : UInt8) (r : L) : wdLen (c :: r) = if isWd c then wdLen r + 1 else 0 := by
  unfold wdLen; rw [List.takeWhile_cons]; split <;> simp
theorem ws_head : ∀ (x : L) (c : UInt8) (r : L), x.drop (wsLen x) = c :: r → isWs c = false := by
  intro x
  induction x with
  | nil => intro c r h; simp [wsLen] at h
  | cons a l ih =>
    intro c r h
    rw [ws_cons] at h
    by_cases e : isWs a = true
    · rw [if_pos e, List.drop_succ_cons] at h; exact ih c r h
    · rw [if_neg e, List.drop_zero] at h
      injection h with h1 h2; subst h1; simpa using e
theorem symLen_le {c : UInt8} {r : L} : symLen (c :: r) ≤ (c :: r).length := by
  unfold symLen
  split
  · rename_i h
    cases r with
    | nil => simp at h
    | cons d r => simp
  · simp
theorem sym_pos (x : L) : 1 ≤ symLen x := by unfold symLen; split <;> omega
theorem sp_tok {c : UInt8} (h : isSp c = true) : ∃ k, tokOf [c] = some k ∧ k ≠ 0 ∧ k ≠ 1 := by
  unfold isSp at h
  simp only [Bool.or_eq_true, beq_iff_eq] at h
  rcases h with (((((rfl | rfl) | rfl) | rfl) | rfl) | rfl) | rfl
  · exact ⟨6, by decide⟩
  · exact ⟨4, by decide⟩
  · exact ⟨13, by decide⟩
  · exact ⟨2, by decide⟩
  · exact ⟨3, by decide⟩
  · exact ⟨7, by decide⟩
  · exact ⟨10, by decide⟩
theorem sp_byte {c : UInt8} (h : isSp c = true) : c = 61 ∨ c = 33 ∨ c = 40 ∨ c = 41 ∨ c = 44 ∨ c = 62 ∨ c = 60 := by
  unfold isSp at h
  simp only [Bool.or_eq_true, beq_iff_eq] at h
  rcases h with (((((h | h) | h) | h) | h) | h) | h <;> simp [h]
theorem tok_two (c d : UInt8) : tokOf [c, d] = if c = 61 ∧ d = 61 then some 5 else if c = 33 ∧ d = 61 then some 11 else if c = 105 ∧ d = 110 then some 9 else none := by
  unfold tokOf
  simp
  by_cases h1 : c = 61 ∧ d = 61
  · simp [h1]
  · simp only [h1, if_false]
    by_cases h2 : c = 105 ∧ d = 110
    · obtain ⟨rfl, rfl⟩ := h2; simp
    · simp only [h2, if_false]
theorem tok_three (c d e : UInt8) : tokOf [c, d, e] = none := by
  unfold tokOf; simp
/-- A sign that two bytes make. -/
theorem sym_two {c d : UInt8} {r : L} : symLen (c :: d :: r) = if (c = 61 ∨ c = 33) ∧ d = 61 then 2 else 1 := by
  unfold symLen
  simp only [List.take_succ_cons, List.take_zero, List.cons.injEq, and_true]
  by_cases h : (c = 61 ∨ c = 33) ∧ d = 61
  · rw [if_pos h, if_pos]
    rcases h with ⟨h | h, h2⟩ <;> simp [h, h2]
  · rw [if_neg h, if_neg]
    rintro (⟨h1, h2⟩ | ⟨h1, h2⟩)
    · exact h ⟨.inl h1, h2⟩
    · exact h ⟨.inr h1, h2⟩
theorem sym_one {c : UInt8} : symLen [c] = 1 := by unfold symLen; simp
theorem lexAt_le (x : L) : (lexAt x).2 ≤ x.length := by
  cases x with
  | nil => simp [lexAt]
  | cons c r =>
    unfold lexAt
    split
    · simp
    · rename_i h1; injection h1 with h1 h2; subst h1; subst h2
      split
      · exact symLen_le
      · exact wdLen_le _
theorem lexL_le (x : L) : (lexL x).2.2 ≤ x.length := by
  have h1 := lexAt_le (x.drop (wsLen x))
  have h2 := wsLen_le x
  rw [List.length_drop] at h1
  show wsLen x + (lexAt (x.drop (wsLen x))).2 ≤ x.length
  omega
/-- A word that is no sign. -/
theorem lexL_pos (x : L) (h : (lexL x).1 ≠ 1) : 1 ≤ (lexL x).2.2 := by
  show 1 ≤ wsLen x + (lexAt (x.drop (wsLen x))).2
  have hk : (lexAt (x.drop (wsLen x))).1 ≠ 1 := h
  cases e : x.drop (wsLen x) with
  | nil => rw [e] at hk; exact absurd rfl hk
  | cons c r =>
    have hw := ws_head x c r e
    by_cases hs : isSp c = true
    · have : (lexAt (c :: r)).2 = symLen (c :: r) := by unfold lexAt; simp [hs]
      rw [this]; have := sym_pos (c :: r); omega
    · have : (lexAt (c :: r)).2 = wdLen (c :: r) := by unfold lexAt; simp [hs]
      rw [this, wd_cons, if_pos (by simp [isWd, hs, hw])]; omega
/-- The tokens from a place on, the last of which is the end. -/
def tokensL (x : L) : List (Nat × L) :=
  if h : (lexL x).1 = 1 then [(1, [])] else ((lexL x).1, (lexL x).2.1) :: tokensL (x.drop (lexL x).2.2)
termination_by x.length
decreasing_by
  have h1 := lexL_pos x h
  have h2 := lexL_le x
  simp only [List.length_drop]
  omega
theorem tokens_end {x : L} (h : (lexL x).1 = 1) : tokensL x = [(1, [])] := by rw [tokensL, dif_pos h]
theorem tokens_more {x : L} (h : (lexL x).1 ≠ 1) : tokensL x = ((lexL x).1, (lexL x).2.1) :: tokensL (x.drop (lexL x).2.2) := by rw [tokensL, dif_neg h]
theorem tok_ne_one (l : L) : tokOf l ≠ some 1 := by
  unfold tokOf
  repeat (split; · simp)
  simp
theorem lexAt_one {c : UInt8} {r : L} : (lexAt (c :: r)).1 ≠ 1 := by
  unfold lexAt
  simp only
  split
  · rename_i h
    intro e
    cases ht : tokOf ((c :: r).take (symLen (c :: r))) with
    | none => rw [ht] at e; simp at e
    | some k => rw [ht] at e; simp at e; subst e; exact tok_ne_one _ ht
  · intro e
    cases ht : tokOf ((c :: r).take (wdLen (c :: r))) with
    | none => rw [ht] at e; simp at e
    | some k => rw [ht] at e; simp at e; subst e; exact tok_ne_one _ ht
theorem tokens_len : ∀ (n : Nat) (x : L), x.length ≤ n → (tokensL x).length ≤ n + 1 := by
  intro n
  induction n with
  | zero =>
    intro x h
    have : x = [] := List.eq_nil_of_length_eq_zero (by omega)
    subst this
    rw [tokens_end (by simp [lexL, lexAt, wsLen])]; simp
  | succ n ih =>
    intro x h
    by_cases e : (lexL x).1 = 1
    · rw [tokens_end e]; simp
    · rw [tokens_more e, List.length_cons]
      have h1 := lexL_pos x e
      have := ih (x.drop (lexL x).2.2) (by simp only [List.length_drop]; omega)
      omega
end Go.Proofs.Ytllmmnhgchidkaa.Hand
