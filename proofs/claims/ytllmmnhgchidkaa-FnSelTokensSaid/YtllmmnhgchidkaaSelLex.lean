/- The lexer of selectors: its printed parts over lists of bytes, and scanIDOrKeyword. -/
import Derived.Test.YtllmmnhgchidkaaSelPure
import Derived.Test.YtllmmnhgchidkaaPFnSelTokensx1
namespace Go.Proofs.Ytllmmnhgchidkaa.Hand
open Go.RowKit Go.Proofs.Ytllmmnhgchidkaa.PFnSelTokens Go.Proofs.YtllmmnhgchidkaaW.PrintWords Go.Proofs.YtllmmnhgchidkaaW.PrintLast Go.Proofs.YtllmmnhgchidkaaW.PrintMore Go.Proofs.Ytllmmnhgchidkaa.Base
set_option linter.unusedVariables false
set_option linter.unusedSimpArgs false
set_option maxRecDepth 100000

theorem byte_eq (c : UInt8) (n : Nat) (h : n < 256) : ((c.toNat : Int) = (n : Int)) ↔ c = UInt8.ofNat n := by
  constructor
  · intro e
    apply UInt8.toNat_inj.1
    have h2 : (UInt8.ofNat n).toNat = n := by simp; omega
    omega
  · rintro rfl
    simp; omega
theorem isWs_f (c : UInt8) : labels_isWhitespace.f (c.toNat : Int) = some (isWs c) := by
  have h1 : ((c.toNat : Int) = 32) ↔ c = 32 := byte_eq c 32 (by decide)
  have h2 : ((c.toNat : Int) = 9) ↔ c = 9 := byte_eq c 9 (by decide)
  have h3 : ((c.toNat : Int) = 13) ↔ c = 13 := byte_eq c 13 (by decide)
  have h4 : ((c.toNat : Int) = 10) ↔ c = 10 := byte_eq c 10 (by decide)
  have h5 : ((c.toNat : Int) == 10) = (c == 10) := by
    rw [Bool.eq_iff_iff, beq_iff_eq, beq_iff_eq]; exact h4
  unfold labels_isWhitespace.f isWs
  rw [h5]
  by_cases e1 : c = 32
  · rw [if_pos (h1.2 e1)]; simp [e1]
  rw [if_neg (fun h => e1 (h1.1 h))]
  by_cases e2 : c = 9
  · rw [if_pos (h2.2 e2)]; simp [e2]
  rw [if_neg (fun h => e2 (h2.1 h))]
  by_cases e3 : c = 13
  · rw [if_pos (h3.2 e3)]; simp [e3]
  rw [if_neg (fun h => e3 (h3.1 h))]
  simp [e1, e2, e3]
theorem isSp_f (c : UInt8) : labels_isSpecialSymbol.f (c.toNat : Int) = some (isSp c) := by
  have h1 : ((c.toNat : Int) = 61) ↔ c = 61 := byte_eq c 61 (by decide)
  have h2 : ((c.toNat : Int) = 33) ↔ c = 33 := byte_eq c 33 (by decide)
  have h3 : ((c.toNat : Int) = 40) ↔ c = 40 := byte_eq c 40 (by decide)
  have h4 : ((c.toNat : Int) = 41) ↔ c = 41 := byte_eq c 41 (by decide)
  have h5 : ((c.toNat : Int) = 44) ↔ c = 44 := byte_eq c 44 (by decide)
  have h6 : ((c.toNat : Int) = 62) ↔ c = 62 := byte_eq c 62 (by decide)
  have h7 : ((c.toNat : Int) = 60) ↔ c = 60 := byte_eq c 60 (by decide)
  unfold labels_isSpecialSymbol.f isSp
  by_cases e1 : c = 61
  · rw [if_pos (h1.2 e1)]; simp [e1]
  rw [if_neg (fun h => e1 (h1.1 h))]
  by_cases e2 : c = 33
  · rw [if_pos (h2.2 e2)]; simp [e2]
  rw [if_neg (fun h => e2 (h2.1 h))]
  by_cases e3 : c = 40
  · rw [if_pos (h3.2 e3)]; simp [e3]
  rw [if_neg (fun h => e3 (h3.1 h))]
  by_cases e4 : c = 41
  · rw [if_pos (h4.2 e4)]; simp [e4]
  rw [if_neg (fun h => e4 (h4.1 h))]
  by_cases e5 : c = 44
  · rw [if_pos (h5.2 e5)]; simp [e5]
  rw [if_neg (fun h => e5 (h5.1 h))]
  by_cases e6 : c = 62
  · rw [if_pos (h6.2 e6)]; simp [e6]
  rw [if_neg (fun h => e6 (h6.1 h))]
  by_cases e7 : c = 60
  · rw [if_pos (h7.2 e7)]; simp [e7]
  rw [if_neg (fun h => e7 (h7.1 h))]
  simp [e1, e2, e3, e4, e5, e6, e7]
theorem isSp_calls (c : UInt8) (w : World) : Calls Try.prog 81 #[.int .u8 (c.toNat : Int)] w fun e w' => e = .returned (.bool (isSp c)) ∧ Drawn0 w w' := labels_isSpecialSymbol.calls _ _ w (isSp_f c)
theorem isWs_calls (c : UInt8) (w : World) : Calls Try.prog 85 #[.int .u8 (c.toNat : Int)] w fun e w' => e = .returned (.bool (isWs c)) ∧ Drawn0 w w' := labels_isWhitespace.calls _ _ w (isWs_f c)
theorem tok_calls (l : L) (w : World) : Calls Try.prog 86 #[.string (mk l)] w fun e w' => e = .returned (.tuple #[.int .i64 (((tokOf l).getD 0 : Nat) : Int), .bool (tokOf l).isSome]) ∧ Drawn0 w w' := by
  refine labels_string2token.calls _ _ _ w ?_
  unfold labels_string2token.f tokOf
  simp only [mk_toList]
  by_cases h0 : l = [41]
  · subst h0; rfl
  by_cases h1 : l = [44]
  · subst h1; rfl
  by_cases h2 : l = [33]
  · subst h2; rfl
  by_cases h3 : l = [61, 61]
  · subst h3; rfl
  by_cases h4 : l = [61]
  · subst h4; rfl
  by_cases h5 : l = [62]
  · subst h5; rfl
  by_cases h6 : l = [105, 110]
  · subst h6; rfl
  by_cases h7 : l = [60]
  · subst h7; rfl
  by_cases h8 : l = [33, 61]
  · subst h8; rfl
  by_cases h9 : l = [110, 111, 116, 105, 110]
  · subst h9; rfl
  by_cases h10 : l = [40]
  · subst h10; rfl
  simp only [h0, h1, h2, h3, h4, h5, h6, h7, h8, h9, h10, if_false]
  rfl
/-- Where the lexer stands behind a read. -/
def nx (x : L) (j : Nat) : Nat := if j < x.length then j + 1 else j
theorem nx_le {x : L} {j : Nat} (h : j ≤ x.length) : nx x j ≤ x.length := by unfold nx; split <;> omega
/-- The lexer's state, and what a call of it has left as it was. -/
structure LX (w0 w W : World) (g : Nat) (x : L) (p : Nat) : Prop where
  st : IsS95 w0 W g (mk x) (p : Int)
  be : Below w0.heap.size w0 W
  ke : KeepBut w W g none
theorem LX.drawn {w0 w W W' : World} {g : Nat} {x : L} {p : Nat} (h : LX w0 w W g x p) (hd : Drawn0 W W') : LX w0 w W' g x p := by
  obtain ⟨n, rfl⟩ := hd
  exact ⟨h.st.drewN n, pw_below_drewN h.be n, keep_drewN h.ke n⟩
theorem LX.alloc {w0 w W : World} {g : Nat} {x : L} {p : Nat} (h : LX w0 w W g x p) (o : Obj) : LX w0 w (W.alloc o) g x p :=
  ⟨h.st.alloc o, below_alloc h.be o, keep_alloc h.ke o⟩
theorem LX.trans {w0 w W W' : World} {g : Nat} {x : L} {p q : Nat} (h : LX w0 w W g x p) (k : LX w0 W W' g x q) : LX w0 w W' g x q :=
  ⟨k.st, k.be, h.ke.trans k.ke (.inl rfl)⟩
theorem LX.new {w0 w : World} {g : Nat} {x : L} {p : Nat} (h1 : IsS95 w0 w g (Base.mk x) (p : Int)) (h2 : Below w0.heap.size w0 w) : LX w0 w w g x p := ⟨h1, h2, KeepBut.refl _ _ _⟩
theorem read_calls (x : L) (hx : x.length ≤ 1000000) (g j : Nat) (hj : j ≤ x.length) (w0 w W : World) (h : LX w0 w W g x j) :
    Calls Try.prog 80 #[.pointer (some ⟨g, 0, none⟩)] W fun e W' => e = .returned (.int .u8 ((x.getD j 0).toNat : Int)) ∧ LX w0 w W' g x (nx x j) ∧ KeepBut W W' g none := by
  have hf : labels_Lexer_read.f (mk x) (j : Int) = some (((x.getD j 0).toNat : Int), mk x, ((nx x j : Nat) : Int)) := by
    unfold labels_Lexer_read.f nx
    rw [mk_size]
    by_cases hl : j < x.length
    · rw [if_pos (by omega), if_pos (by omega), if_pos hl, bt_mk, Int.toNat_natCast, wrap_id (by omega) (by omega)]; simp
    · rw [if_neg (by omega), if_neg hl]
      have : x.getD j 0 = 0 := by rw [List.getD_eq_getElem?_getD, List.getElem?_eq_none (by omega)]; rfl
      rw [this]; rfl
  refine (labels_Lexer_read.calls g _ _ _ _ _ w0 W h.st h.be hf).mono ?_
  rintro e W' ⟨rfl, h1, h2, h3⟩
  exact ⟨rfl, ⟨h1, h2, h.ke.trans h3 (.inl rfl)⟩, h3⟩
theorem unread_calls (x : L) (hx : x.length ≤ 1000000) (g j : Nat) (hj : j + 1 ≤ x.length) (w0 w W : World) (h : LX w0 w W g x (j + 1)) :
    Calls Try.prog 82 #[.pointer (some ⟨g, 0, none⟩)] W fun e W' => e = .returned (.tuple #[]) ∧ LX w0 w W' g x j ∧ KeepBut W W' g none := by
  have hf : labels_Lexer_unread.f (mk x) ((j + 1 : Nat) : Int) = some (mk x, (j : Int)) := by
    unfold labels_Lexer_unread.f
    rw [show (((j + 1 : Nat) : Int) - 1) = (j : Int) by omega, wrap_id (by omega) (by omega)]
  refine (labels_Lexer_unread.calls g _ _ _ _ w0 W h.st h.be hf).mono ?_
  rintro e W' ⟨rfl, h1, h2, h3⟩
  exact ⟨rfl, ⟨h1, h2, h.ke.trans h3 (.inl rfl)⟩, h3⟩
theorem drop_getD {x : L} {j : Nat} (h : j < x.length) : x.drop j = x.getD j 0 :: x.drop (j + 1) := by
  rw [List.drop_eq_getElem_cons h]; simp [List.getD_eq_getElem?_getD, List.getElem?_eq_getElem h]
theorem skip_ev (x : L) (hx : x.length ≤ 1000000) (hz : ∀ b ∈ x, b ≠ 0) : ∀ (d j : Nat), j + d = x.length →
    Ev (fun k => labels_Lexer_skipWhiteSpaces.l0 k ((x.getD j 0).toNat : Int) (mk x) ((nx x j : Nat) : Int)) (((x.getD (j + wsLen (x.drop j)) 0).toNat : Int), mk x, ((nx x (j + wsLen (x.drop j)) : Nat) : Int)) := by
  intro d
  induction d with
  | zero =>
    intro j hj
    have e0 : x.drop j = [] := List.drop_eq_nil_of_le (by omega)
    have e1 : x.getD j 0 = 0 := by rw [List.getD_eq_getElem?_getD, List.getElem?_eq_none (by omega)]; rfl
    have ew : wsLen (x.drop j) = 0 := by rw [e0]; rfl
    rw [ew, Nat.add_zero]
    refine Ev.step (f := fun _ => some (((x.getD j 0).toNat : Int), mk x, ((nx x j : Nat) : Int))) (fun k => ?_) (Ev.now _)
    simp only [labels_Lexer_skipWhiteSpaces.l0]
    rw [isWs_f, e1]
    rfl
  | succ d ih =>
    intro j hj
    have hl : j < x.length := by omega
    rw [drop_getD hl, ws_cons]
    by_cases e : isWs (x.getD j 0) = true
    · rw [if_pos e]
      have h1 := ih (j + 1) (by omega)
      rw [show j + (wsLen (x.drop (j + 1)) + 1) = j + 1 + wsLen (x.drop (j + 1)) by omega]
      refine Ev.step (fun k => ?_) h1
      simp only [labels_Lexer_skipWhiteSpaces.l0]
      rw [isWs_f, e]
      simp only [Option.bind_some, if_true]
      have hf : labels_Lexer_read.f (mk x) ((nx x j : Nat) : Int) = some (((x.getD (j + 1) 0).toNat : Int), mk x, ((nx x (j + 1) : Nat) : Int)) := by
        have hn : nx x j = j + 1 := by unfold nx; rw [if_pos hl]
        rw [hn]
        unfold labels_Lexer_read.f nx
        rw [mk_size]
        by_cases hl2 : j + 1 < x.length
        · rw [if_pos (by omega), if_pos (by omega), if_pos hl2, bt_mk, Int.toNat_natCast, wrap_id (by omega) (by omega)]; simp
        · rw [if_neg (by omega), if_neg hl2]
          have : x.getD (j + 1) 0 = 0 := by rw [List.getD_eq_getElem?_getD, List.getElem?_eq_none (by omega)]; rfl
          rw [this]; rfl
      rw [hf]
      rfl
    · have ew : (if isWs (x.getD j 0) = true then wsLen (x.drop (j + 1)) + 1 else 0) = 0 := if_neg e
      rw [ew, Nat.add_zero]
      refine Ev.step (f := fun _ => some (((x.getD j 0).toNat : Int), mk x, ((nx x j : Nat) : Int))) (fun k => ?_) (Ev.now _)
      simp only [labels_Lexer_skipWhiteSpaces.l0]
      rw [isWs_f, Bool.eq_false_iff.2 e]
      rfl
theorem skip_calls (x : L) (hx : x.length ≤ 1000000) (hz : ∀ b ∈ x, b ≠ 0) (g j : Nat) (hj : j ≤ x.length) (w0 w W : World) (h : LX w0 w W g x (nx x j)) :
    Calls Try.prog 79 #[.pointer (some ⟨g, 0, none⟩), .int .u8 ((x.getD j 0).toNat : Int)] W fun e W' => e = .returned (.int .u8 ((x.getD (j + wsLen (x.drop j)) 0).toNat : Int)) ∧ LX w0 w W' g x (nx x (j + wsLen (x.drop j))) ∧ KeepBut W W' g none := by
  obtain ⟨k, hk⟩ := (skip_ev x hx hz (x.length - j) j (by omega)).rounds
  refine (labels_Lexer_skipWhiteSpaces.calls k g _ _ _ _ _ _ w0 W h.st h.be hk).mono ?_
  rintro e W' ⟨rfl, h1, h2, h3⟩
  exact ⟨rfl, ⟨h1, h2, h.ke.trans h3 (.inl rfl)⟩, h3⟩
end Go.Proofs.Ytllmmnhgchidkaa.Hand
