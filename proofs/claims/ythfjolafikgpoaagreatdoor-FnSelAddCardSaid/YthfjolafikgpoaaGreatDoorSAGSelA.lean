/- Tokens of a selector's text, over lists of bytes. No program in sight. -/
import Derived.Test.YthfjolafikgpoaaGreatDoorSAM4
import Derived.Test.YthfjolafikgpoaaGreatDoorSAGPk
import Derived.WalkMore
import Derived.BigQuiet
namespace Go.Proofs.YthfjolafikgpoaaGreatDoor.Hand
open Go.Proofs.YthfjolafikgpoaaGreatDoor.Base
set_option linter.unusedVariables false
set_option linter.unusedSimpArgs false
def isWs (c : UInt8) : Bool := c == 32 || c == 9 || c == 13 || c == 10
def isSp (c : UInt8) : Bool := c == 61 || c == 33 || c == 40 || c == 41 || c == 44 || c == 62 || c == 60
def isWd (c : UInt8) : Bool := !(isSp c || isWs c)
def tokOf (l : L) : Option Nat :=
 if l = [41] then some 2 else if l = [44] then some 3 else if l = [33] then some 4 else if l = [61, 61] then some 5 else if l = [61] then some 6 else if l = [62] then some 7
 else if l = [105, 110] then some 9 else if l = [60] then some 10 else if l = [33, 61] then some 11 else if l = [110, 111, 116, 105, 110] then some 12 else if l = [40] then some 13 else none
def wsLen (x : L) : Nat := (x.takeWhile isWs).length
def wdLen (x : L) : Nat := (x.takeWhile isWd).length
def symLen (x : L) : Nat := if x.take 2 = [61, 61] ∨ x.take 2 = [33, 61] then 2 else 1
def lexAt (x : L) : Nat × Nat := match x with
 | [] => (1, 0)
 | c :: r => if isSp c then ((tokOf ((c :: r).take (symLen (c :: r)))).getD 0, symLen (c :: r)) else ((tokOf ((c :: r).take (wdLen (c :: r)))).getD 8, wdLen (c :: r))
def lexL (x : L) : Nat × L × Nat :=
 let y := x.drop (wsLen x)
 ((lexAt y).1, y.take (lexAt y).2, wsLen x + (lexAt y).2)
theorem wsLen_le (x : L) : wsLen x ≤ x.length := (List.takeWhile_sublist _).length_le
theorem wdLen_le (x : L) : wdLen x ≤ x.length := (List.takeWhile_sublist _).length_le
theorem ws_cons (c : UInt8) (r : L) : wsLen (c :: r) = if isWs c then wsLen r + 1 else 0 := by
 unfold wsLen; rw [List.takeWhile_cons]; split <;> simp
theorem wd_cons (c : UInt8) (r : L) : wdLen (c :: r) = if isWd c then wdLen r + 1 else 0 := by
 unfold wdLen; rw [List.takeWhile_cons]; split <;> simp
theorem ws_head : ∀ (x : L) (c : UInt8) (r : L), x.drop (wsLen x) = c :: r → isWs c = false := by
 intro x
 induction x with
 | nil => intro c r h; simp [wsLen] at h
 | cons a l ih =>
   intro c r h
   rw [ws_cons] at h
   by_cases e : isWs a = true
   · rw [if_pos e, List.drop_succ_cons] at h; exact ih c r h
   · rw [if_neg e, List.drop_zero] at h
     injection h with h1 h2; subst h1; simpa using e
theorem symLen_le {c : UInt8} {r : L} : symLen (c :: r) ≤ (c :: r).length := by
 unfold symLen
 split
 · rename_i h
   cases r with
   | nil => simp at h
   | cons d r => simp
 · simp
theorem sym_pos (x : L) : 1 ≤ symLen x := by unfold symLen; split <;> omega
theorem sp_tok {c : UInt8} (h : isSp c = true) : ∃ k, tokOf [c] = some k ∧ k ≠ 0 ∧ k ≠ 1 := by
 unfold isSp at h
 simp only [Bool.or_eq_true, beq_iff_eq] at h
 rcases h with (((((rfl | rfl) | rfl) | rfl) | rfl) | rfl) | rfl
 · exact ⟨6, by decide⟩
 · exact ⟨4, by decide⟩
 · exact ⟨13, by decide⟩
 · exact ⟨2, by decide⟩
 · exact ⟨3, by decide⟩
 · exact ⟨7, by decide⟩
 · exact ⟨10, by decide⟩
theorem sp_byte {c : UInt8} (h : isSp c = true) : c = 61 ∨ c = 33 ∨ c = 40 ∨ c = 41 ∨ c = 44 ∨ c = 62 ∨ c = 60 := by
 unfold isSp at h
 simp only [Bool.or_eq_true, beq_iff_eq] at h
 rcases h with (((((h | h) | h) | h) | h) | h) | h <;> simp [h]
theorem tok_two (c d : UInt8) : tokOf [c, d] = if c = 61 ∧ d = 61 then some 5 else if c = 33 ∧ d = 61 then some 11 else if c = 105 ∧ d = 110 then some 9 else none := by
 unfold tokOf
 simp
 by_cases h1 : c = 61 ∧ d = 61
 · simp [h1]
 · simp only [h1, if_false]
   by_cases h2 : c = 105 ∧ d = 110
   · obtain ⟨rfl, rfl⟩ := h2; simp
   · simp only [h2, if_false]
theorem tok_three (c d e : UInt8) : tokOf [c, d, e] = none := by
 unfold tokOf; simp
theorem sym_two {c d : UInt8} {r : L} : symLen (c :: d :: r) = if (c = 61 ∨ c = 33) ∧ d = 61 then 2 else 1 := by
 unfold symLen
 simp only [List.take_succ_cons, List.take_zero, List.cons.injEq, and_true]
 by_cases h : (c = 61 ∨ c = 33) ∧ d = 61
 · rw [if_pos h, if_pos]
   rcases h with ⟨h | h, h2⟩ <;> simp [h, h2]
 · rw [if_neg h, if_neg]
   rintro (⟨h1, h2⟩ | ⟨h1, h2⟩)
   · exact h ⟨.inl h1, h2⟩
   · exact h ⟨.inr h1, h2⟩
theorem sym_one {c : UInt8} : symLen [c] = 1 := by unfold symLen; simp
theorem lexAt_le (x : L) : (lexAt x).2 ≤ x.length := by
 cases x with
 | nil => simp [lexAt]
 | cons c r =>
   unfold lexAt
   split
   · simp
   · rename_i h1; injection h1 with h1 h2; subst h1; subst h2
     split
     · exact symLen_le
     · exact wdLen_le _
theorem lexL_le (x : L) : (lexL x).2.2 ≤ x.length := by
 have h1 := lexAt_le (x.drop (wsLen x))
 have h2 := wsLen_le x
 rw [List.length_drop] at h1
 show wsLen x + (lexAt (x.drop (wsLen x))).2 ≤ x.length
 omega
theorem lexL_pos (x : L) (h : (lexL x).1 ≠ 1) : 1 ≤ (lexL x).2.2 := by
 show 1 ≤ wsLen x + (lexAt (x.drop (wsLen x))).2
 have hk : (lexAt (x.drop (wsLen x))).1 ≠ 1 := h
 cases e : x.drop (wsLen x) with
 | nil => rw [e] at hk; exact absurd rfl hk
 | cons c r =>
   have hw := ws_head x c r e
   by_cases hs : isSp c = true
   · have : (lexAt (c :: r)).2 = symLen (c :: r) := by unfold lexAt; simp [hs]
     rw [this]; have := sym_pos (c :: r); omega
   · have : (lexAt (c :: r)).2 = wdLen (c :: r) := by unfold lexAt; simp [hs]
     rw [this, wd_cons, if_pos (by simp [isWd, hs, hw])]; omega
def tokensL (x : L) : List (Nat × L) :=
 if h : (lexL x).1 = 1 then [(1, [])] else ((lexL x).1, (lexL x).2.1) :: tokensL (x.drop (lexL x).2.2)
termination_by x.length
decreasing_by
 have h1 := lexL_pos x h
 have h2 := lexL_le x
 simp only [List.length_drop]
 omega
theorem tokens_end {x : L} (h : (lexL x).1 = 1) : tokensL x = [(1, [])] := by rw [tokensL, dif_pos h]
theorem tokens_more {x : L} (h : (lexL x).1 ≠ 1) : tokensL x = ((lexL x).1, (lexL x).2.1) :: tokensL (x.drop (lexL x).2.2) := by rw [tokensL, dif_neg h]
theorem tok_ne_one (l : L) : tokOf l ≠ some 1 := by
 unfold tokOf
 repeat (split; · simp)
 simp
theorem lexAt_one {c : UInt8} {r : L} : (lexAt (c :: r)).1 ≠ 1 := by
 unfold lexAt
 simp only
 split
 · rename_i h
   intro e
   cases ht : tokOf ((c :: r).take (symLen (c :: r))) with
   | none => rw [ht] at e; simp at e
   | some k => rw [ht] at e; simp at e; subst e; exact tok_ne_one _ ht
 · intro e
   cases ht : tokOf ((c :: r).take (wdLen (c :: r))) with
   | none => rw [ht] at e; simp at e
   | some k => rw [ht] at e; simp at e; subst e; exact tok_ne_one _ ht
theorem tokens_len : ∀ (n : Nat) (x : L), x.length ≤ n → (tokensL x).length ≤ n + 1 := by
 intro n
 induction n with
 | zero =>
   intro x h
   have : x = [] := List.eq_nil_of_length_eq_zero (by omega)
   subst this
   rw [tokens_end (by simp [lexL, lexAt, wsLen])]; simp
 | succ n ih =>
   intro x h
   by_cases e : (lexL x).1 = 1
   · rw [tokens_end e]; simp
   · rw [tokens_more e, List.length_cons]
     have h1 := lexL_pos x e
     have := ih (x.drop (lexL x).2.2) (by simp only [List.length_drop]; omega)
     omega
end Go.Proofs.YthfjolafikgpoaaGreatDoor.Hand
namespace Go.Proofs.YthfjolafikgpoaaGreatDoor.Hand
open Go.RowKit Go.Proofs.YthfjolafikgpoaaGreatDoor.PFnSelDecidesLabels Go.Proofs.YthfjolafikgpoaaGreatDoorW.PrintWords Go.Proofs.YthfjolafikgpoaaGreatDoorW.PrintLast Go.Proofs.YthfjolafikgpoaaGreatDoorW.PrintMore Go.Proofs.YthfjolafikgpoaaGreatDoor.Base
set_option linter.unusedVariables false
set_option linter.unusedSimpArgs false
set_option maxRecDepth 100000
theorem byte_eq (c : UInt8) (n : Nat) (h : n < 256) : ((c.toNat : Int) = (n : Int)) ↔ c = UInt8.ofNat n := by
 constructor
 · intro e
   apply UInt8.toNat_inj.1
   have h2 : (UInt8.ofNat n).toNat = n := by simp; omega
   omega
 · rintro rfl
   simp; omega
theorem isWs_f (c : UInt8) : labels_isWhitespace.f (c.toNat : Int) = some (isWs c) := by
 have h1 : ((c.toNat : Int) = 32) ↔ c = 32 := byte_eq c 32 (by decide)
 have h2 : ((c.toNat : Int) = 9) ↔ c = 9 := byte_eq c 9 (by decide)
 have h3 : ((c.toNat : Int) = 13) ↔ c = 13 := byte_eq c 13 (by decide)
 have h4 : ((c.toNat : Int) = 10) ↔ c = 10 := byte_eq c 10 (by decide)
 have h5 : ((c.toNat : Int) == 10) = (c == 10) := by
  rw [Bool.eq_iff_iff, beq_iff_eq, beq_iff_eq]; exact h4
 unfold labels_isWhitespace.f isWs
 rw [h5]
 by_cases e1 : c = 32
 · rw [if_pos (h1.2 e1)]; simp [e1]
 rw [if_neg (fun h => e1 (h1.1 h))]
 by_cases e2 : c = 9
 · rw [if_pos (h2.2 e2)]; simp [e2]
 rw [if_neg (fun h => e2 (h2.1 h))]
 by_cases e3 : c = 13
 · rw [if_pos (h3.2 e3)]; simp [e3]
 rw [if_neg (fun h => e3 (h3.1 h))]
 simp [e1, e2, e3]
theorem isSp_f (c : UInt8) : labels_isSpecialSymbol.f (c.toNat : Int) = some (isSp c) := by
 have h1 : ((c.toNat : Int) = 61) ↔ c = 61 := byte_eq c 61 (by decide)
 have h2 : ((c.toNat : Int) = 33) ↔ c = 33 := byte_eq c 33 (by decide)
 have h3 : ((c.toNat : Int) = 40) ↔ c = 40 := byte_eq c 40 (by decide)
 have h4 : ((c.toNat : Int) = 41) ↔ c = 41 := byte_eq c 41 (by decide)
 have h5 : ((c.toNat : Int) = 44) ↔ c = 44 := byte_eq c 44 (by decide)
 have h6 : ((c.toNat : Int) = 62) ↔ c = 62 := byte_eq c 62 (by decide)
 have h7 : ((c.toNat : Int) = 60) ↔ c = 60 := byte_eq c 60 (by decide)
 unfold labels_isSpecialSymbol.f isSp
 by_cases e1 : c = 61
 · rw [if_pos (h1.2 e1)]; simp [e1]
 rw [if_neg (fun h => e1 (h1.1 h))]
 by_cases e2 : c = 33
 · rw [if_pos (h2.2 e2)]; simp [e2]
 rw [if_neg (fun h => e2 (h2.1 h))]
 by_cases e3 : c = 40
 · rw [if_pos (h3.2 e3)]; simp [e3]
 rw [if_neg (fun h => e3 (h3.1 h))]
 by_cases e4 : c = 41
 · rw [if_pos (h4.2 e4)]; simp [e4]
 rw [if_neg (fun h => e4 (h4.1 h))]
 by_cases e5 : c = 44
 · rw [if_pos (h5.2 e5)]; simp [e5]
 rw [if_neg (fun h => e5 (h5.1 h))]
 by_cases e6 : c = 62
 · rw [if_pos (h6.2 e6)]; simp [e6]
 rw [if_neg (fun h => e6 (h6.1 h))]
 by_cases e7 : c = 60
 · rw [if_pos (h7.2 e7)]; simp [e7]
 rw [if_neg (fun h => e7 (h7.1 h))]
 simp [e1, e2, e3, e4, e5, e6, e7]
theorem isSp_calls (c : UInt8) (w : World) : Calls Tryz.prog 169 #[.int .u8 (c.toNat : Int)] w fun e w' => e = .returned (.bool (isSp c)) ∧ Drawn0 w w' := labels_isSpecialSymbol.calls _ _ w (isSp_f c)
theorem isWs_calls (c : UInt8) (w : World) : Calls Tryz.prog 186 #[.int .u8 (c.toNat : Int)] w fun e w' => e = .returned (.bool (isWs c)) ∧ Drawn0 w w' := labels_isWhitespace.calls _ _ w (isWs_f c)
theorem tok_calls (l : L) (w : World) : Calls Tryz.prog 187 #[.string (mk l)] w fun e w' => e = .returned (.tuple #[.int .i64 (((tokOf l).getD 0 : Nat) : Int), .bool (tokOf l).isSome]) ∧ Drawn0 w w' := by
 refine labels_string2token.calls _ _ _ w ?_
 unfold labels_string2token.f tokOf
 simp only [mk_toList]
 by_cases h0 : l = [41]
 · subst h0; rfl
 by_cases h1 : l = [44]
 · subst h1; rfl
 by_cases h2 : l = [33]
 · subst h2; rfl
 by_cases h3 : l = [61, 61]
 · subst h3; rfl
 by_cases h4 : l = [61]
 · subst h4; rfl
 by_cases h5 : l = [62]
 · subst h5; rfl
 by_cases h6 : l = [105, 110]
 · subst h6; rfl
 by_cases h7 : l = [60]
 · subst h7; rfl
 by_cases h8 : l = [33, 61]
 · subst h8; rfl
 by_cases h9 : l = [110, 111, 116, 105, 110]
 · subst h9; rfl
 by_cases h10 : l = [40]
 · subst h10; rfl
 simp only [h0, h1, h2, h3, h4, h5, h6, h7, h8, h9, h10, if_false]
 rfl
def nx (x : L) (j : Nat) : Nat := if j < x.length then j + 1 else j
structure LX (w0 w W : World) (g : Nat) (x : L) (p : Nat) : Prop where
 st : IsS151 w0 W g (mk x) (p : Int)
 be : Below w0.heap.size w0 W
 ke : KeepBut w W g none
theorem LX.drawn {w0 w W W' : World} {g : Nat} {x : L} {p : Nat} (h : LX w0 w W g x p) (hd : Drawn0 W W') : LX w0 w W' g x p := by
 obtain ⟨n, rfl⟩ := hd
 exact ⟨h.st.drewN n, pw_below_drewN h.be n, keep_drewN h.ke n⟩
theorem LX.alloc {w0 w W : World} {g : Nat} {x : L} {p : Nat} (h : LX w0 w W g x p) (o : Obj) : LX w0 w (W.alloc o) g x p :=
 ⟨h.st.alloc o, below_alloc h.be o, keep_alloc h.ke o⟩
theorem LX.trans {w0 w W W' : World} {g : Nat} {x : L} {p q : Nat} (h : LX w0 w W g x p) (k : LX w0 W W' g x q) : LX w0 w W' g x q :=
 ⟨k.st, k.be, h.ke.trans k.ke (.inl rfl)⟩
theorem LX.new {w0 w : World} {g : Nat} {x : L} {p : Nat} (h1 : IsS151 w0 w g (Base.mk x) (p : Int)) (h2 : Below w0.heap.size w0 w) : LX w0 w w g x p := ⟨h1, h2, KeepBut.refl _ _ _⟩
theorem read_calls (x : L) (hx : x.length ≤ 1000000) (g j : Nat) (hj : j ≤ x.length) (w0 w W : World) (h : LX w0 w W g x j) :
   Calls Tryz.prog 168 #[.pointer (some ⟨g, 0, none⟩)] W fun e W' => e = .returned (.int .u8 ((x.getD j 0).toNat : Int)) ∧ LX w0 w W' g x (nx x j) ∧ KeepBut W W' g none := by
 have hf : labels_Lexer_read.f (mk x) (j : Int) = some (((x.getD j 0).toNat : Int), mk x, ((nx x j : Nat) : Int)) := by
  unfold labels_Lexer_read.f nx
  rw [mk_size]
  by_cases hl : j < x.length
  · rw [if_pos (by omega), if_pos (by omega), if_pos hl, bt_mk, Int.toNat_natCast, wrap_id (by omega) (by omega)]; simp
  · rw [if_neg (by omega), if_neg hl]
    have : x.getD j 0 = 0 := by rw [List.getD_eq_getElem?_getD, List.getElem?_eq_none (by omega)]; rfl
    rw [this]; rfl
 refine (labels_Lexer_read.calls g _ _ _ _ _ w0 W h.st h.be hf).mono ?_
 rintro e W' ⟨rfl, h1, h2, h3⟩
 exact ⟨rfl, ⟨h1, h2, h.ke.trans h3 (.inl rfl)⟩, h3⟩
theorem unread_calls (x : L) (hx : x.length ≤ 1000000) (g j : Nat) (hj : j + 1 ≤ x.length) (w0 w W : World) (h : LX w0 w W g x (j + 1)) :
   Calls Tryz.prog 170 #[.pointer (some ⟨g, 0, none⟩)] W fun e W' => e = .returned (.tuple #[]) ∧ LX w0 w W' g x j ∧ KeepBut W W' g none := by
 have hf : labels_Lexer_unread.f (mk x) ((j + 1 : Nat) : Int) = some (mk x, (j : Int)) := by
  unfold labels_Lexer_unread.f
  rw [show (((j + 1 : Nat) : Int) - 1) = (j : Int) by omega, wrap_id (by omega) (by omega)]
 refine (labels_Lexer_unread.calls g _ _ _ _ w0 W h.st h.be hf).mono ?_
 rintro e W' ⟨rfl, h1, h2, h3⟩
 exact ⟨rfl, ⟨h1, h2, h.ke.trans h3 (.inl rfl)⟩, h3⟩
theorem drop_getD {x : L} {j : Nat} (h : j < x.length) : x.drop j = x.getD j 0 :: x.drop (j + 1) := by
 rw [List.drop_eq_getElem_cons h]; simp [List.getD_eq_getElem?_getD, List.getElem?_eq_getElem h]
theorem skip_ev (x : L) (hx : x.length ≤ 1000000) (hz : ∀ b ∈ x, b ≠ 0) : ∀ (d j : Nat), j + d = x.length →
   Ev (fun k => labels_Lexer_skipWhiteSpaces.l0 k ((x.getD j 0).toNat : Int) (mk x) ((nx x j : Nat) : Int)) (((x.getD (j + wsLen (x.drop j)) 0).toNat : Int), mk x, ((nx x (j + wsLen (x.drop j)) : Nat) : Int)) := by
 intro d
 induction d with
 | zero =>
   intro j hj
   have e0 : x.drop j = [] := List.drop_eq_nil_of_le (by omega)
   have e1 : x.getD j 0 = 0 := by rw [List.getD_eq_getElem?_getD, List.getElem?_eq_none (by omega)]; rfl
   have ew : wsLen (x.drop j) = 0 := by rw [e0]; rfl
   rw [ew, Nat.add_zero]
   refine Ev.step (f := fun _ => some (((x.getD j 0).toNat : Int), mk x, ((nx x j : Nat) : Int))) (fun k => ?_) (Ev.now _)
   simp only [labels_Lexer_skipWhiteSpaces.l0]
   rw [isWs_f, e1]
   rfl
 | succ d ih =>
   intro j hj
   have hl : j < x.length := by omega
   rw [drop_getD hl, ws_cons]
   by_cases e : isWs (x.getD j 0) = true
   · rw [if_pos e]
     have h1 := ih (j + 1) (by omega)
     rw [show j + (wsLen (x.drop (j + 1)) + 1) = j + 1 + wsLen (x.drop (j + 1)) by omega]
     refine Ev.step (fun k => ?_) h1
     simp only [labels_Lexer_skipWhiteSpaces.l0]
     rw [isWs_f, e]
     simp only [Option.bind_some, if_true]
     have hf : labels_Lexer_read.f (mk x) ((nx x j : Nat) : Int) = some (((x.getD (j + 1) 0).toNat : Int), mk x, ((nx x (j + 1) : Nat) : Int)) := by
      have hn : nx x j = j + 1 := by unfold nx; rw [if_pos hl]
      rw [hn]
      unfold labels_Lexer_read.f nx
      rw [mk_size]
      by_cases hl2 : j + 1 < x.length
      · rw [if_pos (by omega), if_pos (by omega), if_pos hl2, bt_mk, Int.toNat_natCast, wrap_id (by omega) (by omega)]; simp
      · rw [if_neg (by omega), if_neg hl2]
        have : x.getD (j + 1) 0 = 0 := by rw [List.getD_eq_getElem?_getD, List.getElem?_eq_none (by omega)]; rfl
        rw [this]; rfl
     rw [hf]
     rfl
   · have ew : (if isWs (x.getD j 0) = true then wsLen (x.drop (j + 1)) + 1 else 0) = 0 := if_neg e
     rw [ew, Nat.add_zero]
     refine Ev.step (f := fun _ => some (((x.getD j 0).toNat : Int), mk x, ((nx x j : Nat) : Int))) (fun k => ?_) (Ev.now _)
     simp only [labels_Lexer_skipWhiteSpaces.l0]
     rw [isWs_f, Bool.eq_false_iff.2 e]
     rfl
theorem skip_calls (x : L) (hx : x.length ≤ 1000000) (hz : ∀ b ∈ x, b ≠ 0) (g j : Nat) (hj : j ≤ x.length) (w0 w W : World) (h : LX w0 w W g x (nx x j)) :
   Calls Tryz.prog 167 #[.pointer (some ⟨g, 0, none⟩), .int .u8 ((x.getD j 0).toNat : Int)] W fun e W' => e = .returned (.int .u8 ((x.getD (j + wsLen (x.drop j)) 0).toNat : Int)) ∧ LX w0 w W' g x (nx x (j + wsLen (x.drop j))) ∧ KeepBut W W' g none := by
 obtain ⟨k, hk⟩ := (skip_ev x hx hz (x.length - j) j (by omega)).rounds
 refine (labels_Lexer_skipWhiteSpaces.calls k g _ _ _ _ _ _ w0 W h.st h.be hk).mono ?_
 rintro e W' ⟨rfl, h1, h2, h3⟩
 exact ⟨rfl, ⟨h1, h2, h.ke.trans h3 (.inl rfl)⟩, h3⟩
end Go.Proofs.YthfjolafikgpoaaGreatDoor.Hand
namespace Go.Proofs.YthfjolafikgpoaaGreatDoor.Hand
open Go.RowKit Go.Proofs.YthfjolafikgpoaaGreatDoorW.PrintWords Go.Proofs.YthfjolafikgpoaaGreatDoorW.PrintLast Go.Proofs.YthfjolafikgpoaaGreatDoorW.PrintMore Go.Proofs.YthfjolafikgpoaaGreatDoor.Base
set_option linter.unusedVariables false
set_option linter.unusedSimpArgs false
set_option maxRecDepth 100000
theorem infoB : (Tryz.prog.info? 5).map (fun i => (i.zero, i.size, i.bytes)) = some (some (.int .u8 0), 1, 1) := by kernel_rfl
abbrev bytesL (l : L) : List Int := l.map fun b => (b.toNat : Int)
theorem str_bytes (l : L) : strOfNums (bytesL l) = mk l := by
 unfold strOfNums mk bytesL
 rw [List.map_map, show ((fun n : Int => UInt8.ofNat n.toNat) ∘ fun b : UInt8 => (b.toNat : Int)) = id from funext fun b => by simp, List.map_id]
theorem take_wd {x : L} {m : Nat} (h : m < x.length) (hm : m ≤ wdLen x) : (isWd (x.getD m 0) = true ↔ m + 1 ≤ wdLen x) := by
 induction x generalizing m with
 | nil => simp at h
 | cons c r ih =>
   rw [wd_cons] at hm ⊢
   cases m with
   | zero =>
     show isWd c = true ↔ _
     by_cases e : isWd c = true
     · simp [e]
     · simp [e]
   | succ m =>
     by_cases e : isWd c = true
     · rw [if_pos e] at hm ⊢
       have := ih (m := m) (by simpa using h) (by omega)
       rw [show (c :: r).getD (m + 1) 0 = r.getD m 0 from rfl, this]; omega
     · rw [if_neg e] at hm; omega
set_option maxHeartbeats 4000000 in
theorem scanID_calls (x : L) (hx : x.length ≤ 1000000) (hz : ∀ b ∈ x, b ≠ 0) (g i : Nat) (hi : i ≤ x.length) (w0 w : World) (h : LX w0 w w g x i) :
   Calls Tryz.prog 172 #[.pointer (some ⟨g, 0, none⟩)] w fun e w' => e = .returned (.tuple #[.int .i64 (((tokOf ((x.drop i).take (wdLen (x.drop i)))).getD 8 : Nat) : Int), .string (mk ((x.drop i).take (wdLen (x.drop i))))]) ∧ LX w0 w w' g x (i + wdLen (x.drop i)) := by
 have HX := Aside0.mk h
 have hg : g < w.heap.size := h.st.lt
 have h0 : w0.heap.size ≤ w.heap.size := h.be.size
 clear h
 obtain ⟨y, hy⟩ : ∃ y, x.drop i = y := ⟨_, rfl⟩
 have HY := Aside0.mk hy
 have hyl : i + y.length = x.length := by rw [← hy, List.length_drop]; omega
 have hyd : ∀ m, x.getD (i + m) 0 = y.getD m 0 := fun m => by rw [← hy, List.getD_eq_getElem?_getD, List.getD_eq_getElem?_getD, List.getElem?_drop]
 rw [hy]
 clear hy
 go_enter Tryz.func172, Tryz.ntmps172
 go_wp2
 go_step3
 go_wp2
 go_step3
 go_wp2
 go_loopg [4] (y.length) (fun k v4 w' => ∃ m : Nat, Aside0 (k + m = y.length ∧ m ≤ wdLen y) ∧ Aside0 (LX w0 w w' g x (i + m)) ∧ Aside0 ((Kd.int .u8).R 5 w' w0.heap.size (fun k => w.heap.size ≤ k) v4 (bytesL (y.take m))))
 case atStart => exact ⟨0, ⟨by omega, Nat.zero_le _⟩, HX, ⟨Kd.R_nil _ _ _ _ _⟩⟩
 case round =>
  clear HX
  obtain ⟨m, HM, HX, HR⟩ := hrel
  have hm1 := HM.out.1
  have hm2 := HM.out.2
  have HRD := Aside0.mk (read_calls x hx g (i + m) (by omega) w0 w wr HX.out)
  by_cases hml : m < y.length
  · have hne : y.getD m 0 ≠ 0 := by
     rw [← hyd]
     have : i + m < x.length := by omega
     rw [List.getD_eq_getElem?_getD, List.getElem?_eq_getElem this]
     exact hz _ (List.getElem_mem this)
    rw [hyd, show nx x (i + m) = i + m + 1 from if_pos (by omega)] at HRD
    obtain ⟨c, hc⟩ : ∃ c, y.getD m 0 = c := ⟨_, rfl⟩
    rw [hc] at HRD hne
    have hc0 : (((c.toNat : Int)) == 0) = false := by
     rw [beq_eq_false_iff_ne]; intro e; apply hne; apply UInt8.toNat_inj.1
     have : (0 : UInt8).toNat = 0 := rfl
     omega
    have HSP := Aside0.mk (isSp_calls c)
    have HWS := Aside0.mk (isWs_calls c)
    have hwd := take_wd hml hm2
    rw [hc] at hwd
    by_cases hw : isWd c = true
    · have hs : isSp c = false ∧ isWs c = false := by unfold isWd at hw; simpa using hw
      rw [hs.1] at HSP
      rw [hs.2] at HWS
      have hm3 := hwd.1 hw
      have HNEW : Aside0 (bytesL (y.take m) ++ [(c.toNat : Int)] = bytesL (y.take (m + 1))) := ⟨by
       have : y.take (m + 1) = y.take m ++ [c] := by
        rw [List.take_add_one]; congr 1
        rw [List.getElem?_eq_getElem hml, ← hc, List.getD_eq_getElem?_getD, List.getElem?_eq_getElem hml]; rfl
       rw [this, bytesL, bytesL, List.map_append]; rfl⟩
      clear hs hwd hne
      go_wp2_with (first | ((with_reducible refine (HRD.out).mono ?_); rintro e wE ⟨rfl, hI, hk⟩; have HR2 := Aside0.mk (Kd.R_keep HR.out hk (fun k hk' => by omega)); have HX2 := Aside0.mk hI; clear hI hk) | ((with_reducible refine (HSP.out _).mono ?_); rintro e wS ⟨rfl, hd⟩; have HR3 := Aside0.mk (Kd.R_below HR2.out hd.below); have HX3 := Aside0.mk (HX2.out.drawn hd); clear hd) | ((with_reducible refine (HWS.out _).mono ?_); rintro e wT ⟨rfl, hd⟩; have HR4 := Aside0.mk (Kd.R_below HR3.out hd.below); have HX4 := Aside0.mk (HX3.out.drawn hd); clear hd) | ((with_reducible refine gate_builtin (b := .append) (xs := #[.tmp 11, .tmp 13]) rfl ?_); (try (refine gate_guard (by rfl) ?_; dsimp only)); at_builtin; refine Kd.R_append (Kd.int .u8) (w0 := w0) (w0.heap.size) rfl (.tmp 11) (.tmp 13) 23 5 (.int .u8 0) 1 rfl Tryz.underlying23 infoB rfl (by decide) (by decide) (u4) (bytesL (y.take m)) ((c.toNat : Int)) [.int .u8 (c.toNat : Int)] (fun k => w.heap.size ≤ k) (fun _ => False) rfl (by first | rfl | (simp [Act.eval]; done)) ?aP (fun _ hk => hk.elim) ?aF ?aO ?aB ?aS ?aL ?_; (case aP => exact rfl); (case aF => exact (fun k hk => Nat.le_trans HX4.out.ke.1 hk)); (case aO => exact HR4.out); (case aB => exact HX4.out.be); (case aS => exact HX4.out.be.size); (case aL => (simp [bytesL]; omega)); intro vN wN ho hb hg hat; rw [HNEW.out] at ho; have HR5 := Aside0.mk ho; have HX5 : Aside0 (LX w0 w wN g x (i + m + 1)) := ⟨HX4.out.st.grown hg (fun e => by have := HR4.out.1 g e.symm; omega), hb, HX4.out.ke.trans (KeepBut.of_grown hg g) (by cases e : u4.ownBlock; exact .inl rfl; exact .inr ⟨_, rfl, HR4.out.1 _ e⟩)⟩; clear ho hb hg hat))
      go_roundg (gk - 1)
      case measure => omega
      case rel => exact ⟨m + 1, ⟨by omega, hm3⟩, HX5, HR5⟩
    · have hme : m = wdLen y := by
       have : ¬ (m + 1 ≤ wdLen y) := fun h => hw (hwd.2 h)
       omega
      have hsw : isSp c = true ∨ (isSp c = false ∧ isWs c = true) := by
       unfold isWd at hw
       cases h1 : isSp c
       · rw [h1] at hw; simp at hw; exact .inr ⟨rfl, hw⟩
       · exact .inl rfl
      obtain ⟨A, cp, hv⟩ := Kd.R_slice HR.out
      obtain ⟨q, hq⟩ : ∃ q, (bytesL (y.take m)).length = q := ⟨_, rfl⟩
      rw [hq] at hv
      subst hv
      have HQ := Aside0.mk hq; clear hq
      have HME := Aside0.mk hme
      clear hwd hw hne HM hme
      rcases hsw with hs | ⟨hs, hs2⟩
      · rw [hs] at HSP
        clear HWS
        have HT := Aside0.mk (tok_calls (y.take m))
        cases htk : tokOf (y.take m) with
        | none =>
          rw [htk] at HT
          have HTK2 : Aside0 ((tokOf (y.take m)).getD 8 = 8) := ⟨by rw [htk]; rfl⟩
          clear htk
          simp only [Option.getD_none, Option.getD_some, Option.isSome_none, Option.isSome_some] at HT
          go_wp2_with (first | ((with_reducible refine (HRD.out).mono ?_); rintro e wE ⟨rfl, hI, hk⟩; have HR2 := Aside0.mk (Kd.R_keep HR.out hk (fun k hk' => by omega)); have HX2 := Aside0.mk hI; clear hI hk) | ((with_reducible refine (HSP.out _).mono ?_); rintro e wS ⟨rfl, hd⟩; have HR3 := Aside0.mk (Kd.R_below HR2.out hd.below); have HX3 := Aside0.mk (HX2.out.drawn hd); clear hd) | ((with_reducible refine (unread_calls x hx g (i + m) (by omega) w0 w _ HX3.out).mono ?_); rintro e wE ⟨rfl, hI, hk⟩; have HRE := Aside0.mk (Kd.R_keep HR3.out hk (fun k hk' => by omega)); have HXE := Aside0.mk hI; clear hI hk; have hst := Kd.C_string (P := Tryz.prog) (src := 23) (dst := 9) (c := cp) Tryz.underlying23 Tryz.underlying5 Tryz.underlying9 (Kd.R_reads' HRE.out).2.2; rw [str_bytes, HQ.out] at hst))
          go_wp2_with (first | ((with_reducible refine (HT.out _).mono ?_); rintro e wF ⟨rfl, hd⟩; have HXF := Aside0.mk (HXE.out.drawn hd); clear hd))
          rw [Exit.noGoto_ret]
          go_ret2
          exact ⟨by first | (rw [← HME.out, HTK2.out]; done) | (rw [← HME.out, HTK2.out]; rfl), by rw [← HME.out]; exact HXF.out⟩
        | some kk =>
          rw [htk] at HT
          have HTK2 : Aside0 ((tokOf (y.take m)).getD 8 = kk) := ⟨by rw [htk]; rfl⟩
          clear htk
          simp only [Option.getD_none, Option.getD_some, Option.isSome_none, Option.isSome_some] at HT
          go_wp2_with (first | ((with_reducible refine (HRD.out).mono ?_); rintro e wE ⟨rfl, hI, hk⟩; have HR2 := Aside0.mk (Kd.R_keep HR.out hk (fun k hk' => by omega)); have HX2 := Aside0.mk hI; clear hI hk) | ((with_reducible refine (HSP.out _).mono ?_); rintro e wS ⟨rfl, hd⟩; have HR3 := Aside0.mk (Kd.R_below HR2.out hd.below); have HX3 := Aside0.mk (HX2.out.drawn hd); clear hd) | ((with_reducible refine (unread_calls x hx g (i + m) (by omega) w0 w _ HX3.out).mono ?_); rintro e wE ⟨rfl, hI, hk⟩; have HRE := Aside0.mk (Kd.R_keep HR3.out hk (fun k hk' => by omega)); have HXE := Aside0.mk hI; clear hI hk; have hst := Kd.C_string (P := Tryz.prog) (src := 23) (dst := 9) (c := cp) Tryz.underlying23 Tryz.underlying5 Tryz.underlying9 (Kd.R_reads' HRE.out).2.2; rw [str_bytes, HQ.out] at hst))
          go_wp2_with (first | ((with_reducible refine (HT.out _).mono ?_); rintro e wF ⟨rfl, hd⟩; have HXF := Aside0.mk (HXE.out.drawn hd); clear hd))
          rw [Exit.noGoto_ret]
          go_ret2
          exact ⟨by first | (rw [← HME.out, HTK2.out]; done) | (rw [← HME.out, HTK2.out]; rfl), by rw [← HME.out]; exact HXF.out⟩
      · rw [hs] at HSP
        rw [hs2] at HWS
        have HT := Aside0.mk (tok_calls (y.take m))
        cases htk : tokOf (y.take m) with
        | none =>
          rw [htk] at HT
          have HTK2 : Aside0 ((tokOf (y.take m)).getD 8 = 8) := ⟨by rw [htk]; rfl⟩
          clear htk
          simp only [Option.getD_none, Option.getD_some, Option.isSome_none, Option.isSome_some] at HT
          go_wp2_with (first | ((with_reducible refine (HRD.out).mono ?_); rintro e wE ⟨rfl, hI, hk⟩; have HR2 := Aside0.mk (Kd.R_keep HR.out hk (fun k hk' => by omega)); have HX2 := Aside0.mk hI; clear hI hk) | ((with_reducible refine (HSP.out _).mono ?_); rintro e wS ⟨rfl, hd⟩; have HR3 := Aside0.mk (Kd.R_below HR2.out hd.below); have HX3 := Aside0.mk (HX2.out.drawn hd); clear hd) | ((with_reducible refine (HWS.out _).mono ?_); rintro e wT ⟨rfl, hd⟩; have HR4 := Aside0.mk (Kd.R_below HR3.out hd.below); have HX4 := Aside0.mk (HX3.out.drawn hd); clear hd) | ((with_reducible refine (unread_calls x hx g (i + m) (by omega) w0 w _ HX4.out).mono ?_); rintro e wE ⟨rfl, hI, hk⟩; have HRE := Aside0.mk (Kd.R_keep HR4.out hk (fun k hk' => by omega)); have HXE := Aside0.mk hI; clear hI hk; have hst := Kd.C_string (P := Tryz.prog) (src := 23) (dst := 9) (c := cp) Tryz.underlying23 Tryz.underlying5 Tryz.underlying9 (Kd.R_reads' HRE.out).2.2; rw [str_bytes, HQ.out] at hst))
          go_wp2_with (first | ((with_reducible refine (HT.out _).mono ?_); rintro e wF ⟨rfl, hd⟩; have HXF := Aside0.mk (HXE.out.drawn hd); clear hd))
          rw [Exit.noGoto_ret]
          go_ret2
          exact ⟨by first | (rw [← HME.out, HTK2.out]; done) | (rw [← HME.out, HTK2.out]; rfl), by rw [← HME.out]; exact HXF.out⟩
        | some kk =>
          rw [htk] at HT
          have HTK2 : Aside0 ((tokOf (y.take m)).getD 8 = kk) := ⟨by rw [htk]; rfl⟩
          clear htk
          simp only [Option.getD_none, Option.getD_some, Option.isSome_none, Option.isSome_some] at HT
          go_wp2_with (first | ((with_reducible refine (HRD.out).mono ?_); rintro e wE ⟨rfl, hI, hk⟩; have HR2 := Aside0.mk (Kd.R_keep HR.out hk (fun k hk' => by omega)); have HX2 := Aside0.mk hI; clear hI hk) | ((with_reducible refine (HSP.out _).mono ?_); rintro e wS ⟨rfl, hd⟩; have HR3 := Aside0.mk (Kd.R_below HR2.out hd.below); have HX3 := Aside0.mk (HX2.out.drawn hd); clear hd) | ((with_reducible refine (HWS.out _).mono ?_); rintro e wT ⟨rfl, hd⟩; have HR4 := Aside0.mk (Kd.R_below HR3.out hd.below); have HX4 := Aside0.mk (HX3.out.drawn hd); clear hd) | ((with_reducible refine (unread_calls x hx g (i + m) (by omega) w0 w _ HX4.out).mono ?_); rintro e wE ⟨rfl, hI, hk⟩; have HRE := Aside0.mk (Kd.R_keep HR4.out hk (fun k hk' => by omega)); have HXE := Aside0.mk hI; clear hI hk; have hst := Kd.C_string (P := Tryz.prog) (src := 23) (dst := 9) (c := cp) Tryz.underlying23 Tryz.underlying5 Tryz.underlying9 (Kd.R_reads' HRE.out).2.2; rw [str_bytes, HQ.out] at hst))
          go_wp2_with (first | ((with_reducible refine (HT.out _).mono ?_); rintro e wF ⟨rfl, hd⟩; have HXF := Aside0.mk (HXE.out.drawn hd); clear hd))
          rw [Exit.noGoto_ret]
          go_ret2
          exact ⟨by first | (rw [← HME.out, HTK2.out]; done) | (rw [← HME.out, HTK2.out]; rfl), by rw [← HME.out]; exact HXF.out⟩
  · have hme : m = wdLen y := by have := wdLen_le y; omega
    obtain ⟨A, cp, hv⟩ := Kd.R_slice HR.out
    obtain ⟨q, hq⟩ : ∃ q, (bytesL (y.take m)).length = q := ⟨_, rfl⟩
    rw [hq] at hv
    subst hv
    have HQ := Aside0.mk hq; clear hq
    have hme2 : m = y.length := by omega
    have e0 : x.getD (i + m) 0 = 0 := by rw [List.getD_eq_getElem?_getD, List.getElem?_eq_none (by omega)]; rfl
    rw [e0, show nx x (i + m) = i + m from if_neg (by omega)] at HRD
    have HME := Aside0.mk hme
    clear hme HM e0
    simp only [show ((0 : UInt8).toNat : Int) = 0 from rfl] at HRD
    clear hme2 hml hm1 hm2 hyl
    have HT := Aside0.mk (tok_calls (y.take m))
    cases htk : tokOf (y.take m) with
    | none =>
      rw [htk] at HT
      have HTK2 : Aside0 ((tokOf (y.take m)).getD 8 = 8) := ⟨by rw [htk]; rfl⟩
      clear htk
      simp only [Option.getD_none, Option.getD_some, Option.isSome_none, Option.isSome_some] at HT
      go_wp2_with (first | ((with_reducible refine (HRD.out).mono ?_); rintro e wE ⟨rfl, hI, hk⟩; have HRE := Aside0.mk (Kd.R_keep HR.out hk (fun k hk' => by omega)); have HXE := Aside0.mk hI; clear hI hk; have hst := Kd.C_string (P := Tryz.prog) (src := 23) (dst := 9) (c := cp) Tryz.underlying23 Tryz.underlying5 Tryz.underlying9 (Kd.R_reads' HRE.out).2.2; rw [str_bytes, HQ.out] at hst))
      go_wp2_with (first | ((with_reducible refine (HT.out _).mono ?_); rintro e wF ⟨rfl, hd⟩; have HXF := Aside0.mk (HXE.out.drawn hd); clear hd))
      rw [Exit.noGoto_ret]
      go_ret2
      exact ⟨by first | (rw [← HME.out, HTK2.out]; done) | (rw [← HME.out, HTK2.out]; rfl), by rw [← HME.out]; exact HXF.out⟩
    | some kk =>
      rw [htk] at HT
      have HTK2 : Aside0 ((tokOf (y.take m)).getD 8 = kk) := ⟨by rw [htk]; rfl⟩
      clear htk
      simp only [Option.getD_none, Option.getD_some, Option.isSome_none, Option.isSome_some] at HT
      go_wp2_with (first | ((with_reducible refine (HRD.out).mono ?_); rintro e wE ⟨rfl, hI, hk⟩; have HRE := Aside0.mk (Kd.R_keep HR.out hk (fun k hk' => by omega)); have HXE := Aside0.mk hI; clear hI hk; have hst := Kd.C_string (P := Tryz.prog) (src := 23) (dst := 9) (c := cp) Tryz.underlying23 Tryz.underlying5 Tryz.underlying9 (Kd.R_reads' HRE.out).2.2; rw [str_bytes, HQ.out] at hst))
      go_wp2_with (first | ((with_reducible refine (HT.out _).mono ?_); rintro e wF ⟨rfl, hd⟩; have HXF := Aside0.mk (HXE.out.drawn hd); clear hd))
      rw [Exit.noGoto_ret]
      go_ret2
      exact ⟨by first | (rw [← HME.out, HTK2.out]; done) | (rw [← HME.out, HTK2.out]; rfl), by rw [← HME.out]; exact HXF.out⟩
theorem symLen_two (x : L) : symLen x ≤ 2 := by unfold symLen; split <;> omega
theorem sym_of_two {x : L} (h : symLen x = 2) : x.take 2 = [61, 61] ∨ x.take 2 = [33, 61] := by
 unfold symLen at h
 split at h
 · assumption
 · omega
theorem sym_take {c : UInt8} {r : L} (h : isSp c = true) {m : Nat} (h1 : 1 ≤ m) (h2 : m ≤ symLen (c :: r)) : ∃ k, tokOf ((c :: r).take m) = some k ∧ k ≠ 0 ∧ k ≠ 1 := by
 have h3 := symLen_two (c :: r)
 by_cases e : m = 1
 · subst e; exact sp_tok h
 · obtain rfl : m = 2 := by omega
   rcases sym_of_two (x := c :: r) (by omega) with e | e
   · rw [e]; exact ⟨5, by decide⟩
   · rw [e]; exact ⟨11, by decide⟩
theorem sym_stop {c : UInt8} {r : L} {m : Nat} (h1 : 1 ≤ m) (h2 : m ≤ symLen (c :: r)) (hs : m = (c :: r).length ∨ isSp ((c :: r).getD m 0) = false ∨ tokOf ((c :: r).take (m + 1)) = none) : m = symLen (c :: r) := by
 have h3 := symLen_two (c :: r)
 by_cases e : m = 1
 · subst e
   by_cases e2 : symLen (c :: r) = 2
   · exfalso
     cases r with
     | nil => rw [sym_one] at e2; omega
     | cons d r =>
       rcases sym_of_two e2 with e | e
       · simp only [List.take_succ_cons, List.take_zero, List.cons.injEq, and_true] at e
         obtain ⟨rfl, rfl⟩ := e
         rcases hs with hs | hs | hs
         · simp at hs
         · exact absurd (show isSp 61 = false from hs) (by decide)
         · exact absurd (show tokOf [61, 61] = none from hs) (by decide)
       · simp only [List.take_succ_cons, List.take_zero, List.cons.injEq, and_true] at e
         obtain ⟨rfl, rfl⟩ := e
         rcases hs with hs | hs | hs
         · simp at hs
         · exact absurd (show isSp 61 = false from hs) (by decide)
         · exact absurd (show tokOf [33, 61] = none from hs) (by decide)
   · omega
 · omega
theorem sym_more {c : UInt8} {r : L} (h : isSp c = true) {m k : Nat} (hl : m < (c :: r).length) (hs : isSp ((c :: r).getD m 0) = true) (h2 : m ≤ symLen (c :: r)) (ht : tokOf ((c :: r).take (m + 1)) = some k) : m + 1 ≤ symLen (c :: r) := by
 have h3 := symLen_two (c :: r)
 have h4 := sym_pos (c :: r)
 have : m = 0 ∨ m = 1 ∨ m = 2 := by omega
 rcases this with rfl | rfl | rfl
 · omega
 · cases r with
   | nil => simp at hl
   | cons d r =>
     simp only [List.take_succ_cons, List.take_zero] at ht
     rw [tok_two] at ht
     rw [sym_two]
     by_cases e1 : c = 61 ∧ d = 61
     · rw [if_pos ⟨.inl e1.1, e1.2⟩]; omega
     · rw [if_neg e1] at ht
       by_cases e2 : c = 33 ∧ d = 61
       · rw [if_pos ⟨.inr e2.1, e2.2⟩]; omega
       · rw [if_neg e2] at ht
         by_cases e3 : c = 105 ∧ d = 110
         · obtain ⟨rfl, _⟩ := e3; exact absurd h (by decide)
         · rw [if_neg e3] at ht; exact absurd ht (by simp)
 · exfalso
   cases r with
   | nil => simp at hl
   | cons d r =>
     cases r with
     | nil => simp at hl
     | cons e r =>
       simp only [List.take_succ_cons, List.take_zero] at ht
       rw [tok_three] at ht; exact absurd ht (by simp)
theorem LX.far {w0 w W : World} {g : Nat} {x : L} {p : Nat} (h : LX w0 w W g x p) (hg : g < w.heap.size) (h0 : w0.heap.size ≤ w.heap.size) {b : Nat} (hb : w.heap.size ≤ b) (j : Nat) (v : Value) : LX w0 w (W.setCell ⟨b, j, none⟩ v) g x p :=
 ⟨h.st.far (p := ⟨b, j, none⟩) (show g ≠ b by omega) v, below_set h.be (show w0.heap.size ≤ b by omega), keep_far h.ke (p := ⟨b, j, none⟩) hb v⟩
theorem run_store2 {P : Program} {W : World} {b e : Nat} {c0 c1 v0 v1 : Value} (t : TypeId) (h : W.heap[b]? = some (.cells #[c0, c1] e (0, 0))) (ht : (P.info? t).map (·.size) = some 2) (h0 : v0.oneCell' = true) (h1 : v1.oneCell' = true) :
   (Instr.storeAt t (.pointer (some ⟨b, 0, none⟩)) (.agg #[v0, v1])).run P W = .ok () ((W.setCell ⟨b, 0, none⟩ v0).setCell ⟨b, 1, none⟩ v1) := by
 have := run_store_run (P := P) (o := 0) t (.agg #[v0, v1]) [v0, v1] h rfl ht (by simp) (by simp [h0, h1])
 rw [this]; rfl
theorem store2_event {P : Program} {ops : Array Oper} {rest : List Oper} {o : Oper} {a : Act} {Q : Exit → Act → World → Prop} {W : World} {b e : Nat} {c0 c1 v0 v1 : Value} (hgd : o.guard = none) {t : TypeId} {p : Tmp} {v : Operand} (ho : o.op = .store t (.tmp p) v) (hN : o.dst = none)
   (hp : a.eval (.tmp p) = .pointer (some ⟨b, 0, none⟩)) (hv : a.eval v = .agg #[v0, v1]) (h : W.heap[b]? = some (.cells #[c0, c1] e (0, 0))) (ht : (P.info? t).map (·.size) = some 2) (h0 : v0.oneCell' = true) (h1 : v1.oneCell' = true)
   (k : ∀ w', w' = (W.setCell ⟨b, 0, none⟩ v0).setCell ⟨b, 1, none⟩ v1 → wpList P ops Q rest a w') : wpList P ops Q (o :: rest) a W := by
 refine store_event hgd ho hN ?_ k
 unfold execOp
 simp only [ho, hp, hv, Sem.run_bind, run_store2 (P := P) t h ht h0 h1, Sem.run_pure, Result.andThen_ok]
structure SX (w0 w W : World) (g : Nat) (x : L) (p b : Nat) (kk : Int) (lit : ByteArray) (v : Value) (l : L) : Prop where
 lx : LX w0 w W g x p
 bk : W.heap[b]? = some (.cells #[.int .i64 kk, .string lit] 203 (0, 0))
 ro : (Kd.int .u8).R 5 W w0.heap.size (fun k => w.heap.size ≤ k) v (bytesL l)
section
variable {w0 w W W' : World} {g : Nat} {x : L} {p b : Nat} {kk : Int} {lit : ByteArray} {v : Value} {l : L}
theorem SX.keep {q : Nat} (h : SX w0 w W g x p b kk lit v l) (hg : g < w.heap.size) (hb : w.heap.size ≤ b) (h1 : LX w0 w W' g x q) (hk : KeepBut W W' g none) : SX w0 w W' g x q b kk lit v l :=
 ⟨h1, hk.blk h.bk (by omega) (by simp), Kd.R_keep h.ro hk (fun k hk' => by omega)⟩
theorem SX.drawn (h : SX w0 w W g x p b kk lit v l) (hd : Drawn0 W W') : SX w0 w W' g x p b kk lit v l := by
 refine ⟨h.lx.drawn hd, ?_, Kd.R_below h.ro hd.below⟩
 rw [hd.below.block b (blk_lt h.bk)]; exact h.bk
theorem SX.put (h : SX w0 w W g x p b kk lit v l) (hg : g < w.heap.size) (h0 : w0.heap.size ≤ w.heap.size) (hb : w.heap.size ≤ b) (k2 : Int) (l2 : ByteArray) :
   SX w0 w ((W.setCell ⟨b, 0, none⟩ (.int .i64 k2)).setCell ⟨b, 1, none⟩ (.string l2)) g x p b k2 l2 v l := by
 have hq : ∀ q, q ∈ 5 :: (Kd.int .u8).E → q ≠ 203 := by intro q hq; simp [Kd.int, Kd.scalar] at hq; omega
 have hb1 := blk_put h.bk 0 (.int .i64 k2) (cs' := #[.int .i64 k2, .string lit]) rfl
 refine ⟨(h.lx.far hg h0 hb _ _).far hg h0 hb _ _, blk_put hb1 1 (.string l2) rfl, ?_⟩
 exact Kd.R_set (Kd.R_set h.ro h.bk hq 0 _) hb1 hq 1 _
theorem SX.grown (h : SX w0 w W g x p b kk lit v l) (hg : g < w.heap.size) {v1 : Value} {l1 : L} (hw : W.grownBy W' v.ownBlock) (hb : Below w0.heap.size w0 W') (ho : (Kd.int .u8).R 5 W' w0.heap.size (fun k => w.heap.size ≤ k) v1 (bytesL l1)) : SX w0 w W' g x p b kk lit v1 l1 := by
 refine ⟨⟨h.lx.st.grown hw (fun e => by have := h.ro.1 g e.symm; omega), hb, h.lx.ke.trans (KeepBut.of_grown hw g) ?_⟩, ?_, ho⟩
 · cases e : v.ownBlock
   · exact .inl rfl
   · exact .inr ⟨_, rfl, h.ro.1 _ e⟩
 · exact blk_grown h.bk hw (Kd.R_ne h.ro h.bk (by decide))
end
theorem read_sx {w0 w W : World} {g : Nat} {x : L} {j b : Nat} {kk : Int} {lit : ByteArray} {v : Value} {l : L} (hx : x.length ≤ 1000000) (hj : j ≤ x.length) (hg : g < w.heap.size) (hb : w.heap.size ≤ b) (h : SX w0 w W g x j b kk lit v l) :
   Calls Tryz.prog 168 #[.pointer (some ⟨g, 0, none⟩)] W fun e W' => e = .returned (.int .u8 ((x.getD j 0).toNat : Int)) ∧ SX w0 w W' g x (nx x j) b kk lit v l := by
 refine (read_calls x hx g j hj w0 w W h.lx).mono ?_
 rintro e W' ⟨rfl, h1, h2⟩
 exact ⟨rfl, h.keep hg hb h1 h2⟩
theorem unread_sx {w0 w W : World} {g : Nat} {x : L} {j b : Nat} {kk : Int} {lit : ByteArray} {v : Value} {l : L} (hx : x.length ≤ 1000000) (hj : j + 1 ≤ x.length) (hg : g < w.heap.size) (hb : w.heap.size ≤ b) (h : SX w0 w W g x (j + 1) b kk lit v l) :
   Calls Tryz.prog 170 #[.pointer (some ⟨g, 0, none⟩)] W fun e W' => e = .returned (.tuple #[]) ∧ SX w0 w W' g x j b kk lit v l := by
 refine (unread_calls x hx g j hj w0 w W h.lx).mono ?_
 rintro e W' ⟨rfl, h1, h2⟩
 exact ⟨rfl, h.keep hg hb h1 h2⟩
set_option maxHeartbeats 4000000 in
theorem scanSym_calls (x : L) (hx : x.length ≤ 1000000) (hz : ∀ b ∈ x, b ≠ 0) (g i : Nat) (hi : i ≤ x.length) (c0 : UInt8) (r : L) (hy : x.drop i = c0 :: r) (hsp : isSp c0 = true) (w0 w : World) (h : LX w0 w w g x i) :
   Calls Tryz.prog 171 #[.pointer (some ⟨g, 0, none⟩)] w fun e w' => e = .returned (.tuple #[.int .i64 (((tokOf ((c0 :: r).take (symLen (c0 :: r)))).getD 0 : Nat) : Int), .string (mk ((c0 :: r).take (symLen (c0 :: r))))]) ∧ LX w0 w w' g x (i + symLen (c0 :: r)) := by
 have HX := Aside0.mk h
 have hg : g < w.heap.size := h.st.lt
 have h0 : w0.heap.size ≤ w.heap.size := h.be.size
 clear h
 obtain ⟨y, hyy⟩ : ∃ y, c0 :: r = y := ⟨_, rfl⟩
 rw [hyy] at hy ⊢
 have hyl : i + y.length = x.length := by rw [← hy, List.length_drop]; omega
 have hyd : ∀ m, x.getD (i + m) 0 = y.getD m 0 := fun m => by rw [← hy, List.getD_eq_getElem?_getD, List.getD_eq_getElem?_getD, List.getElem?_drop]
 have HTAKE : Aside0 (∀ m, 1 ≤ m → m ≤ symLen y → ∃ k, tokOf (y.take m) = some k ∧ k ≠ 0 ∧ k ≠ 1) := ⟨by rw [← hyy]; exact fun m h1 h2 => sym_take hsp h1 h2⟩
 have HSTOP : Aside0 (∀ m, 1 ≤ m → m ≤ symLen y → (m = y.length ∨ isSp (y.getD m 0) = false ∨ tokOf (y.take (m + 1)) = none) → m = symLen y) := ⟨by rw [← hyy]; exact fun m h1 h2 hs => sym_stop h1 h2 hs⟩
 have HMORE : Aside0 (∀ m k, m < y.length → isSp (y.getD m 0) = true → m ≤ symLen y → tokOf (y.take (m + 1)) = some k → m + 1 ≤ symLen y) := ⟨by rw [← hyy]; exact fun m k hl hs h2 ht => sym_more hsp hl hs h2 ht⟩
 have HFIRST : Aside0 (1 ≤ y.length ∧ y.getD 0 0 = c0 ∧ ∃ k, tokOf (y.take 1) = some k) := ⟨by rw [← hyy]; exact ⟨by simp, rfl, by obtain ⟨k, h1, _⟩ := sp_tok hsp; exact ⟨k, h1⟩⟩⟩
 have HP := Aside0.mk (sym_pos y)
 have HTWO := Aside0.mk (symLen_two y)
 clear hy hyy
 go_enter Tryz.func171, Tryz.ntmps171
 go_wp2
 go_step3
 go_wp2
 go_step3
 go_wp2
 go_loopg [5] (y.length) (fun k v5 w' => ∃ (m : Nat) (kk : Int) (lit : ByteArray), Aside0 (k + m = y.length ∧ m ≤ symLen y ∧ (m = 0 → kk = 0) ∧ (1 ≤ m → kk = (((tokOf (y.take m)).getD 0 : Nat) : Int) ∧ lit = mk (y.take m))) ∧ Aside0 (SX w0 w w' g x (i + m) w.heap.size kk lit v5 (y.take m)))
 case atStart =>
  refine ⟨0, 0, ⟨#[]⟩, ⟨by omega, Nat.zero_le _, fun _ => rfl, fun h => by omega⟩, ⟨LX.alloc HX.out _, heap_alloc_new w (.cells #[.int .i64 0, .string ⟨#[]⟩] 203), Kd.R_nil _ _ _ _ _⟩⟩
 case round =>
  clear HX
  obtain ⟨m, kk, lit, HM, HS⟩ := hrel
  have hm1 := HM.out.1
  have hm2 := HM.out.2.1
  have HG := Aside0.mk hg
  have H00 := Aside0.mk h0
  have hpos : 1 ≤ m → kk ≠ 0 ∧ (kk == 0) = false ∧ (kk != 0) = true := fun h => by
   obtain ⟨k, h1, h2, _⟩ := HTAKE.out m h hm2
   have h3 := (HM.out.2.2.2 h).1
   rw [h1] at h3
   have h4 : kk ≠ 0 := by rw [h3]; simp; exact h2
   exact ⟨h4, by simpa using h4, by simpa using h4⟩
  have HRD := Aside0.mk (read_sx hx (by omega) hg (Nat.le_refl _) HS.out)
  by_cases hml : m < y.length
  · have hne : y.getD m 0 ≠ 0 := by
     rw [← hyd]
     have : i + m < x.length := by omega
     rw [List.getD_eq_getElem?_getD, List.getElem?_eq_getElem this]
     exact hz _ (List.getElem_mem this)
    rw [hyd, show nx x (i + m) = i + m + 1 from if_pos (by omega)] at HRD
    obtain ⟨c, hc⟩ : ∃ c, y.getD m 0 = c := ⟨_, rfl⟩
    rw [hc] at HRD hne
    have hc0_ : (((c.toNat : Int)) == 0) = false := by
     rw [beq_eq_false_iff_ne]; intro e; apply hne; apply UInt8.toNat_inj.1
     have : (0 : UInt8).toNat = 0 := rfl
     omega
    have HSP := Aside0.mk (isSp_calls c)
    have HNEW : Aside0 (bytesL (y.take m) ++ [(c.toNat : Int)] = bytesL (y.take (m + 1))) := ⟨by
     have : y.take (m + 1) = y.take m ++ [c] := by
      rw [List.take_add_one]; congr 1
      rw [List.getElem?_eq_getElem hml, ← hc, List.getD_eq_getElem?_getD, List.getElem?_eq_getElem hml]; rfl
     rw [this, bytesL, bytesL, List.map_append]; rfl⟩
    obtain ⟨q, hq⟩ : ∃ q, (bytesL (y.take (m + 1))).length = q := ⟨_, rfl⟩
    have HQN := Aside0.mk hq
    clear hq hne
    by_cases hs : isSp c = true
    · rw [hs] at HSP
      have HT := Aside0.mk (tok_calls (y.take (m + 1)))
      cases htk : tokOf (y.take (m + 1)) with
      | none =>
        have hm0 : 1 ≤ m := by
         rcases Nat.eq_zero_or_pos m with e | e
         · subst e; obtain ⟨k, h⟩ := HFIRST.out.2.2; rw [h] at htk; cases htk
         · exact e
        have HME := Aside0.mk (HSTOP.out m hm0 hm2 (.inr (.inr htk)))
        have HKL := Aside0.mk (HM.out.2.2.2 hm0)
        obtain ⟨_, hk1, hk2⟩ := hpos hm0
        rw [htk] at HT
        simp only [Option.getD_none, Option.isSome_none] at HT
        clear htk hpos hc HM HSTOP HMORE HTAKE HFIRST
        go_wp2_with (first | ((with_reducible refine (HRD.out).mono ?_); rintro e wE ⟨rfl, hI⟩; have HSE := Aside0.mk hI; clear hI) | ((with_reducible refine (HSP.out _).mono ?_); rintro e wS ⟨rfl, hd⟩; have HSS := Aside0.mk (HSE.out.drawn hd); clear hd) | ((with_reducible refine gate_builtin (b := .append) (xs := #[.tmp 20, .tmp 22]) rfl ?_); (try (refine gate_guard (by rfl) ?_; dsimp only)); at_builtin; refine Kd.R_append (Kd.int .u8) (w0 := w0) (w0.heap.size) rfl (.tmp 20) (.tmp 22) 23 5 (.int .u8 0) 1 rfl Tryz.underlying23 infoB rfl (by decide) (by decide) (u5) (bytesL (y.take m)) ((c.toNat : Int)) [.int .u8 (c.toNat : Int)] (fun k => w.heap.size ≤ k) (fun _ => False) rfl (by first | rfl | (simp [Act.eval]; done)) ?aP (fun _ hk => hk.elim) ?aF ?aO ?aB ?aS ?aL ?_; (case aP => exact rfl); (case aF => exact (fun k hk => Nat.le_trans HSS.out.lx.ke.1 hk)); (case aO => exact HSS.out.ro); (case aB => exact HSS.out.lx.be); (case aS => exact HSS.out.lx.be.size); (case aL => (simp [bytesL]; omega)); intro vN wN ho hb hg hat; rw [HNEW.out] at ho; have HSA := Aside0.mk (SX.grown HSS.out HG.out hg hb ho); clear ho hat hb hg; obtain ⟨AA, cA, hvA⟩ := Kd.R_slice HSA.out.ro; rw [HQN.out] at hvA; subst hvA; have hst := Kd.C_string (P := Tryz.prog) (src := 23) (dst := 9) (c := cA) Tryz.underlying23 Tryz.underlying5 Tryz.underlying9 (Kd.R_reads' HSA.out.ro).2.2; rw [str_bytes, HQN.out] at hst))
        go_wp2_with (first | ((with_reducible refine (HT.out _).mono ?_); rintro e wT ⟨rfl, hd⟩; have HST := Aside0.mk (HSA.out.drawn hd); clear hd hst; have hc0 : wT.cell? ⟨w.heap.size, 0, none⟩ = some (.int .i64 kk) := (blk_cell HST.out.bk 0).trans rfl; have hc1 : wT.cell? ⟨w.heap.size, 1, none⟩ = some (.string lit) := (blk_cell HST.out.bk 1).trans rfl))
        go_wp2_with (first | ((with_reducible refine (unread_sx hx (by omega) hg (Nat.le_refl _) HST.out).mono ?_); rintro e wU ⟨rfl, hI⟩; have HSU := Aside0.mk hI; clear hI; have hc0 : wU.cell? ⟨w.heap.size, 0, none⟩ = some (.int .i64 kk) := (blk_cell HSU.out.bk 0).trans rfl; have hc1 : wU.cell? ⟨w.heap.size, 1, none⟩ = some (.string lit) := (blk_cell HSU.out.bk 1).trans rfl))
        go_wp2
        try (go_quiet (fail))
        try go_wp2
        rw [Exit.noGoto_ret]
        go_ret2
        exact ⟨by rw [← HME.out, HKL.out.1, HKL.out.2]; first | done | rfl, by rw [← HME.out]; first | exact HSU.out.lx | exact HSU.out.lx.drawn ⟨⟨_, rfl⟩⟩⟩
      | some k =>
        have hm3 := HMORE.out m k hml (by rw [hc]; exact hs) hm2 htk
        rw [htk] at HT
        simp only [Option.getD_some, Option.isSome_some] at HT
        have HTK := Aside0.mk htk
        clear htk hpos hc HM HSTOP HMORE HTAKE HFIRST
        go_wp2_with (first | ((with_reducible refine (HRD.out).mono ?_); rintro e wE ⟨rfl, hI⟩; have HSE := Aside0.mk hI; clear hI) | ((with_reducible refine (HSP.out _).mono ?_); rintro e wS ⟨rfl, hd⟩; have HSS := Aside0.mk (HSE.out.drawn hd); clear hd) | ((with_reducible refine gate_builtin (b := .append) (xs := #[.tmp 20, .tmp 22]) rfl ?_); (try (refine gate_guard (by rfl) ?_; dsimp only)); at_builtin; refine Kd.R_append (Kd.int .u8) (w0 := w0) (w0.heap.size) rfl (.tmp 20) (.tmp 22) 23 5 (.int .u8 0) 1 rfl Tryz.underlying23 infoB rfl (by decide) (by decide) (u5) (bytesL (y.take m)) ((c.toNat : Int)) [.int .u8 (c.toNat : Int)] (fun k => w.heap.size ≤ k) (fun _ => False) rfl (by first | rfl | (simp [Act.eval]; done)) ?aP (fun _ hk => hk.elim) ?aF ?aO ?aB ?aS ?aL ?_; (case aP => exact rfl); (case aF => exact (fun k hk => Nat.le_trans HSS.out.lx.ke.1 hk)); (case aO => exact HSS.out.ro); (case aB => exact HSS.out.lx.be); (case aS => exact HSS.out.lx.be.size); (case aL => (simp [bytesL]; omega)); intro vN wN ho hb hg hat; rw [HNEW.out] at ho; have HSA := Aside0.mk (SX.grown HSS.out HG.out hg hb ho); clear ho hat hb hg; obtain ⟨AA, cA, hvA⟩ := Kd.R_slice HSA.out.ro; rw [HQN.out] at hvA; subst hvA; have hst := Kd.C_string (P := Tryz.prog) (src := 23) (dst := 9) (c := cA) Tryz.underlying23 Tryz.underlying5 Tryz.underlying9 (Kd.R_reads' HSA.out.ro).2.2; rw [str_bytes, HQN.out] at hst))
        go_wp2_with (first | ((with_reducible refine (HT.out _).mono ?_); rintro e wT ⟨rfl, hd⟩; have HST := Aside0.mk (HSA.out.drawn hd); clear hd hst; have hst := Kd.C_string (P := Tryz.prog) (src := 23) (dst := 9) (c := cA) Tryz.underlying23 Tryz.underlying5 Tryz.underlying9 (Kd.R_reads' HST.out.ro).2.2; rw [str_bytes, HQN.out] at hst; have hf0 : wT.frozen? ⟨w.heap.size, 0, none⟩ = false := blk_frozen HST.out.bk 0; have hf1 : wT.frozen? ⟨w.heap.size, 1, none⟩ = false := blk_frozen HST.out.bk 1) | ((with_reducible refine gate_store (t := 203) (p := 4) rfl ?_); refine store2_event (t := 203) (p := 4) (v := ?vo) (v0 := .int .i64 (k : Int)) (v1 := .string (mk (y.take (m + 1)))) ?a1 ?a2 ?a3 ?a4 ?a5 HST.out.bk ?a6 ?a7 ?a8 ?_; (case a1 => rfl); (case a2 => rfl); (case a3 => rfl); (case a4 => rfl); (case a5 => rfl); (case a6 => kernel_rfl); (case a7 => rfl); (case a8 => rfl); intro w2 hw; have HSF : Aside0 (SX w0 w w2 g x (i + m + 1) w.heap.size (k : Int) (mk (y.take (m + 1))) (.slice AA q cA) (y.take (m + 1))) := ⟨by rw [hw]; exact HST.out.put HG.out H00.out (Nat.le_refl _) _ _⟩; clear hw HST))
        go_roundg (gk - 1)
        case measure => omega
        case rel => exact ⟨m + 1, k, mk (y.take (m + 1)), ⟨by omega, hm3, fun h => by omega, fun _ => ⟨by rw [HTK.out]; rfl, rfl⟩⟩, HSF⟩
    · have hs' : isSp c = false := by simpa using hs
      have hm0 : 1 ≤ m := by
       rcases Nat.eq_zero_or_pos m with e | e
       · subst e; rw [HFIRST.out.2.1] at hc; subst hc; exact absurd hsp hs
       · exact e
      have HME := Aside0.mk (HSTOP.out m hm0 hm2 (.inr (.inl (by rw [hc]; exact hs'))))
      have HKL := Aside0.mk (HM.out.2.2.2 hm0)
      obtain ⟨_, hk1, hk2⟩ := hpos hm0
      rw [hs'] at HSP
      clear hpos hc HM HSTOP HMORE HTAKE HFIRST HNEW HQN hs hs'
      go_wp2_with (first | ((with_reducible refine (HRD.out).mono ?_); rintro e wE ⟨rfl, hI⟩; have HSE := Aside0.mk hI; clear hI) | ((with_reducible refine (HSP.out _).mono ?_); rintro e wS ⟨rfl, hd⟩; have HSS := Aside0.mk (HSE.out.drawn hd); clear hd) | ((with_reducible refine (unread_sx hx (by omega) hg (Nat.le_refl _) HSS.out).mono ?_); rintro e wU ⟨rfl, hI⟩; have HSU := Aside0.mk hI; clear hI; have hc0 : wU.cell? ⟨w.heap.size, 0, none⟩ = some (.int .i64 kk) := (blk_cell HSU.out.bk 0).trans rfl; have hc1 : wU.cell? ⟨w.heap.size, 1, none⟩ = some (.string lit) := (blk_cell HSU.out.bk 1).trans rfl))
      go_wp2
      try (go_quiet (fail))
      try go_wp2
      rw [Exit.noGoto_ret]
      go_ret2
      exact ⟨by rw [← HME.out, HKL.out.1, HKL.out.2]; first | done | rfl, by rw [← HME.out]; first | exact HSU.out.lx | exact HSU.out.lx.drawn ⟨⟨_, rfl⟩⟩⟩
  · have hm0 : 1 ≤ m := by have := HFIRST.out.1; omega
    have HME := Aside0.mk (HSTOP.out m hm0 hm2 (.inl (by omega)))
    have HKL := Aside0.mk (HM.out.2.2.2 hm0)
    obtain ⟨_, hk1, hk2⟩ := hpos hm0
    have e0 : x.getD (i + m) 0 = 0 := by rw [List.getD_eq_getElem?_getD, List.getElem?_eq_none (by omega)]; rfl
    rw [e0, show nx x (i + m) = i + m from if_neg (by omega)] at HRD
    simp only [show ((0 : UInt8).toNat : Int) = 0 from rfl] at HRD
    clear hpos HM HSTOP HMORE HTAKE HFIRST e0 hml hm1 hm2 hyl
    go_wp2_with (first | ((with_reducible refine (HRD.out).mono ?_); rintro e wE ⟨rfl, hI⟩; have HSE := Aside0.mk hI; clear hI; have hc0 : wE.cell? ⟨w.heap.size, 0, none⟩ = some (.int .i64 kk) := (blk_cell HSE.out.bk 0).trans rfl; have hc1 : wE.cell? ⟨w.heap.size, 1, none⟩ = some (.string lit) := (blk_cell HSE.out.bk 1).trans rfl))
    go_wp2
    try (go_quiet (fail))
    try go_wp2
    rw [Exit.noGoto_ret]
    go_ret2
    exact ⟨by rw [← HME.out, HKL.out.1, HKL.out.2]; first | done | rfl, by rw [← HME.out]; first | exact HSE.out.lx | exact HSE.out.lx.drawn ⟨⟨_, rfl⟩⟩⟩
theorem LX.self {w0 w W : World} {g : Nat} {x : L} {p : Nat} (h : LX w0 w W g x p) : LX w0 W W g x p := LX.new h.st h.be
set_option maxHeartbeats 4000000 in
theorem Lex_calls (x : L) (hx : x.length ≤ 1000000) (hz : ∀ b ∈ x, b ≠ 0) (g i : Nat) (hi : i ≤ x.length) (w0 w : World) (h : LX w0 w w g x i) :
   Calls Tryz.prog 144 #[.pointer (some ⟨g, 0, none⟩)] w fun e w' => e = .returned (.tuple #[.int .i64 (((lexL (x.drop i)).1 : Nat) : Int), .string (mk (lexL (x.drop i)).2.1)]) ∧ LX w0 w w' g x (i + (lexL (x.drop i)).2.2) := by
 have HRD := Aside0.mk (read_calls x hx g i hi w0 w w h)
 have HSK := Aside0.mk (fun (W : World) (h : LX w0 w W g x (nx x i)) => skip_calls x hx hz g i hi w0 w W h)
 obtain ⟨b0, hb0⟩ : ∃ b0, x.getD i 0 = b0 := ⟨_, rfl⟩
 rw [hb0] at HRD HSK
 clear hb0
 obtain ⟨j, hj⟩ : ∃ j, i + wsLen (x.drop i) = j := ⟨_, rfl⟩
 have hjl : j ≤ x.length := by have := wsLen_le (x.drop i); rw [List.length_drop] at this; omega
 have hdd : (x.drop i).drop (wsLen (x.drop i)) = x.drop j := by rw [List.drop_drop, hj]
 rw [hj] at HSK
 have hlex : lexL (x.drop i) = ((lexAt (x.drop j)).1, (x.drop j).take (lexAt (x.drop j)).2, wsLen (x.drop i) + (lexAt (x.drop j)).2) := by
  unfold lexL; rw [hdd]
 clear h
 by_cases hjx : j < x.length
 · have hdr := drop_getD hjx
   have hne : x.getD j 0 ≠ 0 := by
    rw [List.getD_eq_getElem?_getD, List.getElem?_eq_getElem hjx]
    exact hz _ (List.getElem_mem hjx)
   obtain ⟨c, hc⟩ : ∃ c, x.getD j 0 = c := ⟨_, rfl⟩
   obtain ⟨r, hr⟩ : ∃ r, x.drop (j + 1) = r := ⟨_, rfl⟩
   rw [hc, hr] at hdr
   rw [hc] at HSK hne
   rw [show nx x j = j + 1 from if_pos hjx] at HSK
   have hc0 : (((c.toNat : Int)) == 0) = false := by
    rw [beq_eq_false_iff_ne]; intro e; apply hne; apply UInt8.toNat_inj.1
    have : (0 : UInt8).toNat = 0 := rfl
    omega
   have HSP := Aside0.mk (isSp_calls c)
   by_cases hs : isSp c = true
   · have hat : lexAt (x.drop j) = ((tokOf ((c :: r).take (symLen (c :: r)))).getD 0, symLen (c :: r)) := by rw [hdr]; unfold lexAt; simp [hs]
     have HL : Aside0 ((lexL (x.drop i)).1 = (tokOf ((c :: r).take (symLen (c :: r)))).getD 0 ∧ (lexL (x.drop i)).2.1 = (c :: r).take (symLen (c :: r)) ∧ i + (lexL (x.drop i)).2.2 = j + symLen (c :: r)) := ⟨by rw [hlex, hat, hdr]; exact ⟨rfl, rfl, by simp only; omega⟩⟩
     have HSC := Aside0.mk (fun (W : World) (h : LX w0 W W g x j) => scanSym_calls x hx hz g j hjl c r hdr hs w0 W h)
     rw [hs] at HSP
     clear hlex hat hdr hdd hc hr hne hs hj
     go_enter Tryz.func144, Tryz.ntmps144
     go_wp2_with (first | ((with_reducible refine (HRD.out).mono ?_); rintro e w1 ⟨rfl, hI, hk⟩; have H1 := Aside0.mk hI; clear hI hk) | ((with_reducible refine (HSK.out _ H1.out).mono ?_); rintro e w2 ⟨rfl, hI, hk⟩; have H2 := Aside0.mk hI; clear hI hk H1 HSK) | ((with_reducible refine (HSP.out _).mono ?_); rintro e w3 ⟨rfl, hd⟩; have H3 := Aside0.mk (H2.out.drawn hd); clear hd H2) | ((with_reducible refine (unread_calls x hx g j (by omega) w0 w _ H3.out).mono ?_); rintro e w4 ⟨rfl, hI, hk⟩; have H4 := Aside0.mk hI; clear hI hk H3) | ((with_reducible refine (HSC.out _ H4.out.self).mono ?_); rintro e w5 ⟨rfl, hI⟩; have H5 := Aside0.mk (H4.out.trans hI); clear hI H4 HSC))
     go_ret2
     exact ⟨by rw [HL.out.1, HL.out.2.1]; rfl, by rw [HL.out.2.2]; exact H5.out⟩
   · have hs' : isSp c = false := by simpa using hs
     have hat : lexAt (x.drop j) = ((tokOf ((x.drop j).take (wdLen (x.drop j)))).getD 8, wdLen (x.drop j)) := by rw [hdr]; unfold lexAt; simp [hs']
     have HL : Aside0 ((lexL (x.drop i)).1 = (tokOf ((x.drop j).take (wdLen (x.drop j)))).getD 8 ∧ (lexL (x.drop i)).2.1 = (x.drop j).take (wdLen (x.drop j)) ∧ i + (lexL (x.drop i)).2.2 = j + wdLen (x.drop j)) := ⟨by rw [hlex, hat]; exact ⟨rfl, rfl, by simp only; omega⟩⟩
     have HSC := Aside0.mk (fun (W : World) (h : LX w0 W W g x j) => scanID_calls x hx hz g j hjl w0 W h)
     rw [hs'] at HSP
     clear hlex hat hdr hdd hc hr hne hs hs' hj
     go_enter Tryz.func144, Tryz.ntmps144
     go_wp2_with (first | ((with_reducible refine (HRD.out).mono ?_); rintro e w1 ⟨rfl, hI, hk⟩; have H1 := Aside0.mk hI; clear hI hk) | ((with_reducible refine (HSK.out _ H1.out).mono ?_); rintro e w2 ⟨rfl, hI, hk⟩; have H2 := Aside0.mk hI; clear hI hk H1 HSK) | ((with_reducible refine (HSP.out _).mono ?_); rintro e w3 ⟨rfl, hd⟩; have H3 := Aside0.mk (H2.out.drawn hd); clear hd H2) | ((with_reducible refine (unread_calls x hx g j (by omega) w0 w _ H3.out).mono ?_); rintro e w4 ⟨rfl, hI, hk⟩; have H4 := Aside0.mk hI; clear hI hk H3) | ((with_reducible refine (HSC.out _ H4.out.self).mono ?_); rintro e w5 ⟨rfl, hI⟩; have H5 := Aside0.mk (H4.out.trans hI); clear hI H4 HSC))
     go_ret2
     exact ⟨by rw [HL.out.1, HL.out.2.1]; rfl, by rw [HL.out.2.2]; exact H5.out⟩
 · have e0 : x.getD j 0 = 0 := by rw [List.getD_eq_getElem?_getD, List.getElem?_eq_none (by omega)]; rfl
   have ed : x.drop j = [] := List.drop_eq_nil_of_le (by omega)
   rw [e0, show nx x j = j from if_neg hjx] at HSK
   simp only [show ((0 : UInt8).toNat : Int) = 0 from rfl] at HSK
   have HL : Aside0 ((lexL (x.drop i)).1 = 1 ∧ (lexL (x.drop i)).2.1 = [] ∧ i + (lexL (x.drop i)).2.2 = j) := ⟨by rw [hlex, ed]; exact ⟨rfl, rfl, hj⟩⟩
   clear hlex hdd ed e0 hj hjx
   go_enter Tryz.func144, Tryz.ntmps144
   go_wp2_with (first | ((with_reducible refine (HRD.out).mono ?_); rintro e w1 ⟨rfl, hI, hk⟩; have H1 := Aside0.mk hI; clear hI hk) | ((with_reducible refine (HSK.out _ H1.out).mono ?_); rintro e w2 ⟨rfl, hI, hk⟩; have H2 := Aside0.mk hI; clear hI hk H1 HSK))
   go_ret2
   exact ⟨by rw [HL.out.1, HL.out.2.1]; rfl, by rw [HL.out.2.2]; exact H2.out⟩
theorem infoSI : (Tryz.prog.info? 203).map (fun i => (i.zero, i.size, i.bytes)) = some (some (.agg #[.int .i64 0, .string ⟨#[]⟩]), 2, 24) := by kernel_rfl
abbrev KT : Kd (Int × ByteArray) := Kd.pair (Kd.int .i64) Kd.string
abbrev toksV (l : List (Nat × L)) : List (Int × ByteArray) := l.map fun t => ((t.1 : Int), mk t.2)
theorem kt_at {w : World} {A : Option Addr} {n : Nat} {xs : List (Int × ByteArray)} (h : KT.C w A n xs) (i : Nat) (h1 : i < n) :
   ∃ ad, A = some ad ∧ w.cell? (ad.add (i * 2)) = some (.int .i64 (xs.getD i (0, ⟨#[]⟩)).1) ∧ w.cell? (ad.add (i * 2 + 1)) = some (.string (xs.getD i (0, ⟨#[]⟩)).2) := by
 obtain ⟨ad, c, e, hl, ⟨c0, c1, hc, k0, k1⟩, hat⟩ := Kd.C_get h (0, ⟨#[]⟩) (i : Int) (by omega) (by omega)
 have k0' : c0 = [.int .i64 (xs.getD (i : Int).toNat (0, ⟨#[]⟩)).1] := k0
 have k1' : c1 = [.string (xs.getD (i : Int).toNat (0, ⟨#[]⟩)).2] := k1
 subst k0' k1'
 subst hc
 rw [Int.toNat_natCast] at hat
 exact ⟨ad, e, hat 0 _ rfl, hat 1 _ rfl⟩
theorem lexL_lit_end {x : L} (h : (lexL x).1 = 1) : (lexL x).2.1 = [] := by
 have h1 : (lexAt (x.drop (wsLen x))).1 = 1 := h
 show (x.drop (wsLen x)).take (lexAt (x.drop (wsLen x))).2 = []
 cases e : x.drop (wsLen x) with
 | nil => simp
 | cons c r => rw [e] at h1; exact absurd h1 lexAt_one
set_option maxHeartbeats 4000000 in
theorem scan_calls (x : L) (hx : x.length ≤ 1000000) (hz : ∀ b ∈ x, b ≠ 0) (g pb : Nat) (w0 w : World) (h : LX w0 w w g x 0) (hp : w.heap[pb]? = some (.cells #[.pointer (some ⟨g, 0, none⟩), .slice none 0 0, .int .i64 0] 154 (0, 0))) (hb : w0.heap.size ≤ pb) (hne : pb ≠ g) :
   Calls Tryz.prog 115 #[.pointer (some ⟨pb, 0, none⟩)] w fun e w' => e = .returned (.tuple #[]) ∧ ∃ v, w'.heap[pb]? = some (.cells #[.pointer (some ⟨g, 0, none⟩), v, .int .i64 0] 154 (0, 0)) ∧ KT.R 203 w' w0.heap.size (fun k => w.heap.size ≤ k) v (toksV (tokensL x)) ∧ Below w0.heap.size w0 w' := by
 have HX := Aside0.mk h
 have HPB := Aside0.mk hp
 have hg : g < w.heap.size := h.st.lt
 have h0 : w0.heap.size ≤ w.heap.size := h.be.size
 have hpl : pb < w.heap.size := blk_lt hp
 have HN := Aside0.mk (And.intro hg (And.intro h0 (And.intro hpl (And.intro hb hne))))
 have hT : ∀ q, q ∈ 203 :: KT.E → q ≠ 154 := by intro q hq; simp [KT, Kd.pair, Kd.int, Kd.string, Kd.scalar] at hq; omega
 clear h hp
 go_enter Tryz.func115, Tryz.ntmps115
 go_wp2
 go_loopg [] (x.length) (fun k w' => ∃ (i : Nat) (l : List (Nat × L)) (v : Value), Aside0 (k + i = x.length ∧ l ++ tokensL (x.drop i) = tokensL x) ∧ Aside0 (LX w0 w' w' g x i) ∧ Aside0 (w'.heap[pb]? = some (.cells #[.pointer (some ⟨g, 0, none⟩), v, .int .i64 0] 154 (0, 0))) ∧ Aside0 (w.heap.size ≤ w'.heap.size) ∧ Aside0 (KT.R 203 w' w0.heap.size (fun k => w.heap.size ≤ k) v (toksV l)))
 case atStart => exact ⟨0, [], .slice none 0 0, ⟨by omega, rfl⟩, HX, HPB, ⟨Nat.le_refl _⟩, ⟨Kd.R_nil _ _ _ _ _⟩⟩
 case round =>
  clear HX HPB
  obtain ⟨i, l, v, HM, HX, HPB, HS, HR⟩ := hrel
  have hi : i ≤ x.length := by have := HM.out.1; omega
  have HL := Aside0.mk (Lex_calls x hx hz g i hi w0 wr HX.out)
  obtain ⟨kk, hkk⟩ : ∃ kk, (lexL (x.drop i)).1 = kk := ⟨_, rfl⟩
  obtain ⟨lit, hlit⟩ : ∃ lit, (lexL (x.drop i)).2.1 = lit := ⟨_, rfl⟩
  obtain ⟨n, hn⟩ : ∃ n, (lexL (x.drop i)).2.2 = n := ⟨_, rfl⟩
  rw [hkk, hlit, hn] at HL
  have hcp : wr.cell? ⟨pb, 0, none⟩ = some (.pointer (some ⟨g, 0, none⟩)) := (blk_cell HPB.out 0).trans rfl
  have hlen : l.length ≤ 1000001 := by
   have h1 := tokens_len x.length x (Nat.le_refl _)
   have h2 := congrArg List.length HM.out.2
   rw [List.length_append] at h2
   omega
  have HNEW : Aside0 (toksV l ++ [((kk : Int), mk lit)] = toksV (l ++ [(kk, lit)])) := ⟨by simp [toksV]⟩
  have HLEN : Aside0 ((toksV l).length ≤ 1000001) := ⟨by simp only [toksV, List.length_map]; exact hlen⟩
  by_cases hend : kk = 1
  · have hk1 : (((kk : Nat) : Int) == 1) = true := by subst hend; rfl
    have HT : Aside0 (l ++ [(kk, lit)] = tokensL x) := ⟨by
     rw [← HM.out.2, tokens_end (by rw [hkk, hend])]
     have : lit = [] := by
      rw [← hlit]
      exact lexL_lit_end (by rw [hkk, hend])
     rw [this, hend]⟩
    clear hend hkk hlit hn HM
    go_wp2_with (first | ((with_reducible refine (HL.out).mono ?_); rintro e w1 ⟨rfl, hI⟩; have HX1 := Aside0.mk hI.self; have HP1 := Aside0.mk (hI.ke.blk HPB.out HN.out.2.2.2.2 (by simp)); have HR1 := Aside0.mk (Kd.R_keep HR.out hI.ke (fun k hk => by have := HN.out.1; omega)); have HS1 := Aside0.mk (Nat.le_trans HS.out hI.ke.1); clear hI; have hc1 : w1.cell? ⟨pb, 1, none⟩ = some v := (blk_cell HP1.out 1).trans rfl) | ((with_reducible refine gate_builtin (b := .append) (xs := #[.tmp 16, .tmp 20]) rfl ?_); (try (refine gate_guard (by rfl) ?_; dsimp only)); at_builtin; refine Kd.R_append (KT) (w0 := w0) (w0.heap.size) rfl (.tmp 16) (.tmp 20) 152 203 (.agg #[.int .i64 0, .string ⟨#[]⟩]) 24 rfl Tryz.underlying152 infoSI rfl (by decide) (by decide) (v) (toksV l) (((kk : Int), mk lit)) [.int .i64 (kk : Int), .string (mk lit)] (fun k => w.heap.size ≤ k) (fun _ => False) rfl (by first | rfl | (simp [Act.eval]; done)) ?aP (fun _ hk => hk.elim) ?aF ?aO ?aB ?aS ?aL ?_; (case aP => exact ⟨[_], [_], rfl, rfl, rfl⟩); (case aF => exact (fun k hk => Nat.le_trans HS1.out hk)); (case aO => exact HR1.out); (case aB => exact HX1.out.be); (case aS => exact HX1.out.be.size); (case aL => have := HLEN.out; omega); intro vN wN ho hb hg hat; rw [HNEW.out] at ho; have HR2 := Aside0.mk ho; have HX2 : Aside0 (LX w0 wN wN g x (i + n)) := ⟨LX.new (HX1.out.st.grown hg (fun e => by have := HR1.out.1 g e.symm; have := HN.out.1; omega)) hb⟩; have HP2 := Aside0.mk (blk_grown HP1.out hg (Kd.R_ne HR1.out HP1.out (by decide))); have HS2 := Aside0.mk (Nat.le_trans HS1.out hg.size); clear ho hb hg hat; obtain ⟨AN, cN, hvN⟩ := Kd.R_slice HR2.out; obtain ⟨qN, hqN⟩ : ∃ q, (toksV (l ++ [(kk, lit)])).length = q := ⟨_, rfl⟩; rw [hqN] at hvN; clear hqN; subst hvN; have hc2 : wN.cell? ⟨pb, 1, none⟩ = some v := (blk_cell HP2.out 1).trans rfl; have hf2 : wN.frozen? ⟨pb, 1, none⟩ = false := blk_frozen HP2.out 1))
    have HP3 := Aside0.mk (blk_put HP2.out 1 (.slice AN qN cN) (cs' := #[.pointer (some ⟨g, 0, none⟩), .slice AN qN cN, .int .i64 0]) rfl)
    have HX3 : Aside0 (LX w0 (wN.setCell ⟨pb, 1, none⟩ (.slice AN qN cN)) (wN.setCell ⟨pb, 1, none⟩ (.slice AN qN cN)) g x (i + n)) := ⟨LX.new (HX2.out.st.far (p := ⟨pb, 1, none⟩) (Ne.symm HN.out.2.2.2.2) _) (below_set HX2.out.be HN.out.2.2.2.1)⟩
    have HR3 := Aside0.mk (Kd.R_set HR2.out HP2.out hT 1 (.slice AN qN cN))
    have HS3 : Aside0 (w.heap.size ≤ (wN.setCell ⟨pb, 1, none⟩ (.slice AN qN cN)).heap.size) := ⟨by have := HS2.out; simpa [World.setCell] using this⟩
    go_wp2
    first | refine bodyPost_ret (results_none rfl _ _ _) rfl ?_ | go_end0
    exact ⟨rfl, _, HP3.out, by rw [← HT.out]; exact HR3.out, HX3.out.be⟩
  · have hk1 : (((kk : Nat) : Int) == 1) = false := by rw [beq_eq_false_iff_ne]; omega
    have HT : Aside0 (l ++ [(kk, lit)] ++ tokensL (x.drop (i + n)) = tokensL x) := ⟨by
     rw [← HM.out.2, tokens_more (x := x.drop i) (by rw [hkk]; exact hend), hkk, hlit, hn, List.drop_drop]; simp⟩
    have hn1 : 1 ≤ n := by rw [← hn]; exact lexL_pos _ (by rw [hkk]; exact hend)
    have hn2 : i + n ≤ x.length := by have := lexL_le (x.drop i); rw [hn, List.length_drop] at this; omega
    have HM1 := Aside0.mk HM.out.1
    clear hend hkk hlit hn HM
    go_wp2_with (first | ((with_reducible refine (HL.out).mono ?_); rintro e w1 ⟨rfl, hI⟩; have HX1 := Aside0.mk hI.self; have HP1 := Aside0.mk (hI.ke.blk HPB.out HN.out.2.2.2.2 (by simp)); have HR1 := Aside0.mk (Kd.R_keep HR.out hI.ke (fun k hk => by have := HN.out.1; omega)); have HS1 := Aside0.mk (Nat.le_trans HS.out hI.ke.1); clear hI; have hc1 : w1.cell? ⟨pb, 1, none⟩ = some v := (blk_cell HP1.out 1).trans rfl) | ((with_reducible refine gate_builtin (b := .append) (xs := #[.tmp 16, .tmp 20]) rfl ?_); (try (refine gate_guard (by rfl) ?_; dsimp only)); at_builtin; refine Kd.R_append (KT) (w0 := w0) (w0.heap.size) rfl (.tmp 16) (.tmp 20) 152 203 (.agg #[.int .i64 0, .string ⟨#[]⟩]) 24 rfl Tryz.underlying152 infoSI rfl (by decide) (by decide) (v) (toksV l) (((kk : Int), mk lit)) [.int .i64 (kk : Int), .string (mk lit)] (fun k => w.heap.size ≤ k) (fun _ => False) rfl (by first | rfl | (simp [Act.eval]; done)) ?aP (fun _ hk => hk.elim) ?aF ?aO ?aB ?aS ?aL ?_; (case aP => exact ⟨[_], [_], rfl, rfl, rfl⟩); (case aF => exact (fun k hk => Nat.le_trans HS1.out hk)); (case aO => exact HR1.out); (case aB => exact HX1.out.be); (case aS => exact HX1.out.be.size); (case aL => have := HLEN.out; omega); intro vN wN ho hb hg hat; rw [HNEW.out] at ho; have HR2 := Aside0.mk ho; have HX2 : Aside0 (LX w0 wN wN g x (i + n)) := ⟨LX.new (HX1.out.st.grown hg (fun e => by have := HR1.out.1 g e.symm; have := HN.out.1; omega)) hb⟩; have HP2 := Aside0.mk (blk_grown HP1.out hg (Kd.R_ne HR1.out HP1.out (by decide))); have HS2 := Aside0.mk (Nat.le_trans HS1.out hg.size); clear ho hb hg hat; obtain ⟨AN, cN, hvN⟩ := Kd.R_slice HR2.out; obtain ⟨qN, hqN⟩ : ∃ q, (toksV (l ++ [(kk, lit)])).length = q := ⟨_, rfl⟩; rw [hqN] at hvN; clear hqN; subst hvN; have hc2 : wN.cell? ⟨pb, 1, none⟩ = some v := (blk_cell HP2.out 1).trans rfl; have hf2 : wN.frozen? ⟨pb, 1, none⟩ = false := blk_frozen HP2.out 1))
    have HP3 := Aside0.mk (blk_put HP2.out 1 (.slice AN qN cN) (cs' := #[.pointer (some ⟨g, 0, none⟩), .slice AN qN cN, .int .i64 0]) rfl)
    have HX3 : Aside0 (LX w0 (wN.setCell ⟨pb, 1, none⟩ (.slice AN qN cN)) (wN.setCell ⟨pb, 1, none⟩ (.slice AN qN cN)) g x (i + n)) := ⟨LX.new (HX2.out.st.far (p := ⟨pb, 1, none⟩) (Ne.symm HN.out.2.2.2.2) _) (below_set HX2.out.be HN.out.2.2.2.1)⟩
    have HR3 := Aside0.mk (Kd.R_set HR2.out HP2.out hT 1 (.slice AN qN cN))
    have HS3 : Aside0 (w.heap.size ≤ (wN.setCell ⟨pb, 1, none⟩ (.slice AN qN cN)).heap.size) := ⟨by have := HS2.out; simpa [World.setCell] using this⟩
    go_wp2
    go_roundg (x.length - (i + n))
    case measure => have := HM1.out; omega
    case rel => exact ⟨i + n, l ++ [(kk, lit)], _, ⟨by omega, HT.out⟩, HX3, HP3, HS3, HR3⟩
end Go.Proofs.YthfjolafikgpoaaGreatDoor.Hand
