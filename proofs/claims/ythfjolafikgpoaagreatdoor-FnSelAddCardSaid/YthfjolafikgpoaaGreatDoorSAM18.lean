/- Requirements as text, with blanks by choices: the tokens of that text, and what the parser makes of them. No program in sight. -/
import Derived.Test.YthfjolafikgpoaaGreatDoorSAGParA
import Derived.Test.YthfjolafikgpoaaGreatDoorSAGParB
namespace Go.Proofs.YthfjolafikgpoaaGreatDoor.Hand
open Go.RowKit Go.Proofs.YthfjolafikgpoaaGreatDoor.Base
set_option linter.unusedVariables false
set_option linter.unusedSimpArgs false
set_option maxRecDepth 100000
inductive Pc where
 | gap : Pc
 | str : L → Pc
def blankL (c : UInt8) : L := if c.toNat % 4 = 0 then [] else if c.toNat % 4 = 1 then [32] else if c.toNat % 4 = 2 then [32, 32] else [9]
def gapL (cs : L) : L := match cs with | [] => [] | c :: _ => blankL c
theorem gapL_ws (cs : L) : (gapL cs).all isWs = true := by
 cases cs with
 | nil => rfl
 | cons c r =>
   show (blankL c).all isWs = true
   unfold blankL
   repeat (first | rfl | split)
def outL : List Pc → L → L
 | [], _ => []
 | .gap :: ps, cs => gapL cs ++ outL ps cs.tail
 | .str p :: ps, cs => p ++ outL ps cs
def restL : List Pc → L → L
 | [], cs => cs
 | .gap :: ps, cs => restL ps cs.tail
 | .str _ :: ps, cs => restL ps cs
theorem outL_app (a b : List Pc) : ∀ cs, outL (a ++ b) cs = outL a cs ++ outL b (restL a cs) := by
 induction a with
 | nil => intro cs; rfl
 | cons p a ih => intro cs; cases p with
   | gap => show gapL cs ++ outL (a ++ b) cs.tail = (gapL cs ++ outL a cs.tail) ++ _; rw [ih]; simp [restL]
   | str q => show q ++ outL (a ++ b) cs = (q ++ outL a cs) ++ _; rw [ih]; simp [restL]
def hdP : List Pc → Option UInt8
 | [] => none
 | .gap :: ps => hdP ps
 | .str p :: ps => p.head?
def okP : List Pc → Bool
 | [] => true
 | .gap :: ps => okP ps
 | .str [] :: _ => false
 | .str (c :: r) :: ps => okP ps && (if isWs c then (c == 32 && r == []) else if isSp c then (if c = 61 ∨ c = 33 then r == [61] || (r == [] && !(hdP ps == some 61)) else r == []) else r.all isWd && (match hdP ps with | none => true | some d => !isWd d))
def tokP : List Pc → List Tk
 | [] => []
 | .gap :: ps => tokP ps
 | .str p :: ps => if (p.headD 0) = 32 then tokP ps else ((tokOf p).getD 8, p) :: tokP ps
theorem tkw_ws {c : UInt8} {r : L} (h : isWs c = true) : tokensL (c :: r) = tokensL r := by
 have h1 : lexL (c :: r) = ((lexL r).1, (lexL r).2.1, (lexL r).2.2 + 1) := by
  have h1 : wsLen (c :: r) = wsLen r + 1 := by rw [ws_cons, if_pos h]
  unfold lexL
  rw [h1, List.drop_succ_cons]
  simp only [Prod.mk.injEq, true_and]
  omega
 by_cases e : (lexL r).1 = 1
 · rw [tokens_end (x := r) e, tokens_end]; rw [h1]; exact e
 · rw [tokens_more (x := r) e, tokens_more (by rw [h1]; exact e), h1]; simp
theorem tkw_blank : ∀ {b : L} (x : L), b.all isWs = true → tokensL (b ++ x) = tokensL x
 | [], x, _ => rfl
 | c :: b, x, h => by
   simp only [List.all_cons, Bool.and_eq_true] at h
   rw [List.cons_append, tkw_ws h.1]; exact tkw_blank x h.2
theorem tkw_at {c : UInt8} {r : L} (h : isWs c = false) : tokensL (c :: r) = ((lexAt (c :: r)).1, (c :: r).take (lexAt (c :: r)).2) :: tokensL ((c :: r).drop (lexAt (c :: r)).2) := by
 have h0 : wsLen (c :: r) = 0 := by rw [ws_cons, h]; rfl
 have h1 : lexL (c :: r) = ((lexAt (c :: r)).1, (c :: r).take (lexAt (c :: r)).2, (lexAt (c :: r)).2) := by
  unfold lexL; rw [h0]; simp
 have h2 : (lexL (c :: r)).1 ≠ 1 := by
  rw [h1]
  show (lexAt (c :: r)).1 ≠ 1
  unfold lexAt
  split
  · exact fun e => by rename_i e1; cases e1
  · rename_i c' r' e1
    injection e1 with e1 e2; subst e1; subst e2
    split
    · cases ht : tokOf (List.take (symLen (c :: r)) (c :: r)) with
      | none => simp
      | some k => intro e; simp at e; subst e; exact tok_ne_one _ ht
    · cases ht : tokOf (List.take (wdLen (c :: r)) (c :: r)) with
      | none => simp
      | some k => intro e; simp at e; subst e; exact tok_ne_one _ ht
 rw [tokens_more h2, h1]
theorem wdLen_word : ∀ (p x : L), p.all isWd = true → wdLen (p ++ x) = p.length + wdLen x
 | [], x, _ => by simp
 | c :: p, x, h => by
   simp only [List.all_cons, Bool.and_eq_true] at h
   rw [List.cons_append, wd_cons, if_pos h.1, wdLen_word p x h.2, List.length_cons]; omega
theorem isWd_not {c : UInt8} (h : isWd c = true) : isSp c = false ∧ isWs c = false := by
 unfold isWd at h; simpa using h
theorem tkw_word {c : UInt8} {p x : L} (hc : isWd c = true) (hp : p.all isWd = true) (hx : wdLen x = 0) : tokensL ((c :: p) ++ x) = ((tokOf (c :: p)).getD 8, c :: p) :: tokensL x := by
 obtain ⟨h1, h2⟩ := isWd_not hc
 have hw : wdLen ((c :: p) ++ x) = (c :: p).length := by rw [wdLen_word _ _ (by simp [hc, hp]), hx]; rfl
 have hl : lexAt ((c :: p) ++ x) = ((tokOf (c :: p)).getD 8, (c :: p).length) := by
  rw [List.cons_append] at hw ⊢
  unfold lexAt
  simp only [h1, Bool.false_eq_true, if_false]
  rw [hw, ← List.cons_append, List.take_left']
  rfl
 rw [List.cons_append, tkw_at h2, ← List.cons_append, hl]
 simp
theorem tkw_sign {c : UInt8} {x : L} (hc : isSp c = true) (hs : symLen (c :: x) = 1) : tokensL ([c] ++ x) = ((tokOf [c]).getD 8, [c]) :: tokensL x := by
 have h2 : isWs c = false := by
  rcases sp_byte hc with h | h | h | h | h | h | h <;> subst h <;> rfl
 have hl : lexAt (c :: x) = ((tokOf [c]).getD 8, 1) := by
  unfold lexAt
  simp only [hc, if_true, hs]
  obtain ⟨k, hk, _⟩ := sp_tok hc
  simp [hk]
 rw [List.singleton_append, tkw_at h2, hl]
 simp
theorem tkw_two {c : UInt8} {x : L} (hc : c = 61 ∨ c = 33) : tokensL ([c, 61] ++ x) = ((tokOf [c, 61]).getD 8, [c, 61]) :: tokensL x := by
 have hs : isSp c = true := by rcases hc with h | h <;> subst h <;> rfl
 have h2 : isWs c = false := by rcases hc with h | h <;> subst h <;> rfl
 have hy : symLen (c :: 61 :: x) = 2 := by rw [sym_two, if_pos ⟨hc, rfl⟩]
 have hl : lexAt (c :: 61 :: x) = ((tokOf [c, 61]).getD 8, 2) := by
  unfold lexAt
  simp only [hs, if_true, hy]
  rcases hc with h | h <;> subst h <;> rfl
 rw [show [c, 61] ++ x = c :: 61 :: x from rfl, tkw_at h2, hl]
 simp
theorem out_head : ∀ (ps : List Pc) (cs : L), okP ps = true → (outL ps cs = [] ∧ hdP ps = none) ∨ ∃ d t, outL ps cs = d :: t ∧ (isWs d = true ∨ hdP ps = some d)
 | [], cs, _ => .inl ⟨rfl, rfl⟩
 | .gap :: ps, cs, h => by
   have h1 := gapL_ws cs
   rcases hg : gapL cs with _ | ⟨d, t⟩
   · rcases out_head ps cs.tail h with ⟨e, e2⟩ | ⟨d, t, e, e2⟩
     · exact .inl ⟨by show gapL cs ++ _ = _; rw [hg, e]; rfl, e2⟩
     · exact .inr ⟨d, t, by show gapL cs ++ _ = _; rw [hg, e]; rfl, e2⟩
   · rw [hg] at h1
     simp only [List.all_cons, Bool.and_eq_true] at h1
     exact .inr ⟨d, t ++ outL ps cs.tail, by show gapL cs ++ _ = _; rw [hg]; rfl, .inl h1.1⟩
 | .str [] :: ps, cs, h => by cases h
 | .str (c :: r) :: ps, cs, h => .inr ⟨c, r ++ outL ps cs, rfl, .inr rfl⟩
theorem ws_not_wd {c : UInt8} (h : isWs c = true) : isWd c = false := by unfold isWd; rw [h]; simp
theorem tokens_pcs : ∀ (ps : List Pc) (cs : L), okP ps = true → tokensL (outL ps cs) = tokP ps ++ [(1, [])]
 | [], cs, _ => tokens_end rfl
 | .gap :: ps, cs, h => by
   show tokensL (gapL cs ++ _) = _
   rw [tkw_blank _ (gapL_ws cs)]
   exact tokens_pcs ps cs.tail h
 | .str [] :: ps, cs, h => by cases h
 | .str (c :: r) :: ps, cs, h => by
   unfold okP at h
   simp only [Bool.and_eq_true] at h
   obtain ⟨h0, h⟩ := h
   have ih := tokens_pcs ps cs h0
   have hh := out_head ps cs h0
   show tokensL ((c :: r) ++ outL ps cs) = _
   by_cases hw : isWs c = true
   · rw [if_pos hw] at h
     simp only [Bool.and_eq_true, beq_iff_eq] at h
     obtain ⟨rfl, rfl⟩ := h
     rw [List.singleton_append, tkw_ws hw, ih]
     rfl
   · rw [if_neg hw] at h
     have hw' : isWs c = false := by simpa using hw
     have h32 : c ≠ 32 := fun e => by subst e; exact hw rfl
     show _ = (if ((c :: r).headD 0) = 32 then tokP ps else _) ++ _
     rw [if_neg (by simpa using h32)]
     by_cases hs : isSp c = true
     · rw [if_pos hs] at h
       by_cases he : c = 61 ∨ c = 33
       · rw [if_pos he] at h
         simp only [Bool.or_eq_true, Bool.and_eq_true, beq_iff_eq, Bool.not_eq_true'] at h
         rcases h with h | ⟨h, h2⟩
         · subst h; rw [tkw_two he, ih]; rfl
         · subst h
           have hy : symLen (c :: outL ps cs) = 1 := by
            rcases hh with ⟨e, _⟩ | ⟨d, t, e, e2⟩
            · rw [e]; exact sym_one
            · rw [e, sym_two, if_neg]
              rintro ⟨_, rfl⟩
              rcases e2 with e2 | e2
              · cases e2
              · rw [e2] at h2; simp at h2
           rw [tkw_sign hs hy, ih]; rfl
       · rw [if_neg he] at h
         obtain rfl : r = [] := by simpa using h
         have hy : symLen (c :: outL ps cs) = 1 := by
          rcases hh with ⟨e, _⟩ | ⟨d, t, e, e2⟩
          · rw [e]; exact sym_one
          · rw [e, sym_two, if_neg (fun h => he h.1)]
         rw [tkw_sign hs hy, ih]; rfl
     · rw [if_neg hs] at h
       simp only [Bool.and_eq_true] at h
       have hwd : isWd c = true := by unfold isWd; rw [hw']; simpa using hs
       have hy : wdLen (outL ps cs) = 0 := by
        rcases hh with ⟨e, _⟩ | ⟨d, t, e, e2⟩
        · rw [e]; rfl
        · rw [e, wd_cons]
          rcases e2 with e2 | e2
          · rw [ws_not_wd e2]; rfl
          · rw [e2] at h
            have := h.2
            simp only [Bool.not_eq_true'] at this
            rw [this]; rfl
       rw [tkw_word hwd h.1 hy, ih]; rfl
def isWord (p : L) : Bool := !(p == []) && p.all isWd
def kW (p : L) : Nat := (tokOf p).getD 8
theorem kW_vk {p : L} (h : isWord p = true) : vk (kW p) = 8 := by
 unfold isWord at h
 simp only [Bool.and_eq_true] at h
 have h2 := h.2
 unfold kW tokOf
 by_cases e1 : p = [41]
 · subst e1; cases h2
 by_cases e2 : p = [44]
 · subst e2; cases h2
 by_cases e3 : p = [33]
 · subst e3; cases h2
 by_cases e4 : p = [61, 61]
 · subst e4; cases h2
 by_cases e5 : p = [61]
 · subst e5; cases h2
 by_cases e6 : p = [62]
 · subst e6; cases h2
 by_cases e7 : p = [60]
 · subst e7; cases h2
 by_cases e8 : p = [33, 61]
 · subst e8; cases h2
 by_cases e9 : p = [40]
 · subst e9; cases h2
 simp only [e1, e2, e3, e4, e5, e6, e7, e8, e9, if_false]
 by_cases e10 : p = [105, 110]
 · simp [e10, vk]
 by_cases e11 : p = [110, 111, 116, 105, 110]
 · simp [e11, vk]
 simp [e10, e11, vk]
def tkV : List L → List Tk
 | [] => []
 | v :: r => (kW v, v) :: r.flatMap fun s => [(3, [44]), (kW s, s)]
abbrev oIn (op : L) : Prop := op = [105, 110] ∨ op = [110, 111, 116, 105, 110]
def toksR (key op : L) (vs : List L) : List Tk :=
 if op = [33] then [(4, [33]), (kW key, key)]
 else if op = [101, 120, 105, 115, 116, 115] then [(kW key, key)]
 else if oIn op then (kW key, key) :: (kW op, op) :: (13, [40]) :: (tkV vs ++ [(2, [41])])
 else if op = [103, 116] then [(kW key, key), (7, [62]), (kW (vs.headD []), vs.headD [])]
 else if op = [108, 116] then [(kW key, key), (10, [60]), (kW (vs.headD []), vs.headD [])]
 else [(kW key, key), (kW op, op), (kW (vs.headD []), vs.headD [])]
def tkF (r : Rq) : List Tk := (3, [44]) :: toksR r.1 r.2.1 r.2.2
def toksAll : List Rq → List Tk
 | [] => []
 | r :: l => toksR r.1 r.2.1 r.2.2 ++ l.flatMap tkF
def pcsV : List L → List Pc
 | [] => []
 | v :: r => .str v :: .gap :: r.flatMap fun s => [.str [44], .gap, .str s, .gap]
def pcsR (key op : L) (vs : List L) : List Pc :=
 if op = [33] then [.str [33], .gap, .str key]
 else if op = [101, 120, 105, 115, 116, 115] then [.str key]
 else if oIn op then [.str key, .str [32], .gap, .str op, .gap, .str [40], .gap] ++ (pcsV vs ++ [.str [41]])
 else if op = [103, 116] then [.str key, .gap, .str [62], .gap, .str (vs.headD [])]
 else if op = [108, 116] then [.str key, .gap, .str [60], .gap, .str (vs.headD [])]
 else [.str key, .gap, .str op, .gap, .str (vs.headD [])]
def pcF (r : Rq) : List Pc := .str [44] :: .gap :: (pcsR r.1 r.2.1 r.2.2 ++ [.gap])
def pcsAll : List Rq → List Pc
 | [] => []
 | r :: l => pcsR r.1 r.2.1 r.2.2 ++ .gap :: l.flatMap pcF
def pcwV : List L → List Pc
 | [] => []
 | v :: r => .str v :: r.flatMap fun s => [.str [44], .str s]
def pcwR (key op : L) (vs : List L) : List Pc :=
 if op = [33] then [.str [33], .str key]
 else if op = [101, 120, 105, 115, 116, 115] then [.str key]
 else if oIn op then [.str key, .str [32], .str op, .str [32], .str [40]] ++ (pcwV vs ++ [.str [41]])
 else if op = [103, 116] then [.str key, .str [62], .str (vs.headD [])]
 else if op = [108, 116] then [.str key, .str [60], .str (vs.headD [])]
 else [.str key, .str op, .str (vs.headD [])]
def pcwF (r : Rq) : List Pc := .str [44] :: pcwR r.1 r.2.1 r.2.2
def pcwAll : List Rq → List Pc
 | [] => []
 | r :: l => pcwR r.1 r.2.1 r.2.2 ++ l.flatMap pcwF
def safeP (ps : List Pc) : Bool := match hdP ps with | none => true | some d => !isWd d && !(d == 61)
theorem okP_word {p : L} {ps : List Pc} (h : isWord p = true) (h1 : okP ps = true) (h2 : (match hdP ps with | none => true | some d => !isWd d) = true) : okP (.str p :: ps) = true := by
 unfold isWord at h
 simp only [Bool.and_eq_true] at h
 cases p with
 | nil => simp at h
 | cons c r =>
   have h3 := h.2
   simp only [List.all_cons, Bool.and_eq_true] at h3
   obtain ⟨a, b⟩ := isWd_not h3.1
   unfold okP
   simp only [h1, b, a, Bool.false_eq_true, if_false, h3.2, Bool.true_and]
   exact h2
theorem tokP_word {p : L} {ps : List Pc} (h : isWord p = true) : tokP (.str p :: ps) = (kW p, p) :: tokP ps := by
 unfold isWord at h
 simp only [Bool.and_eq_true] at h
 cases p with
 | nil => simp at h
 | cons c r =>
   have h3 := h.2
   simp only [List.all_cons, Bool.and_eq_true] at h3
   show (if c = 32 then tokP ps else _) = _
   rw [if_neg (fun e => by subst e; exact absurd h3.1 (by decide))]
   rfl
theorem hdP_word {p : L} {ps : List Pc} (h : isWord p = true) : ∃ d, hdP (.str p :: ps) = some d ∧ isWd d = true ∧ d ≠ 61 := by
 unfold isWord at h
 simp only [Bool.and_eq_true] at h
 cases p with
 | nil => simp at h
 | cons c r =>
   have h3 := h.2
   simp only [List.all_cons, Bool.and_eq_true] at h3
   exact ⟨c, rfl, h3.1, fun e => by subst e; exact absurd h3.1 (by decide)⟩
theorem hdP_str {c : UInt8} {r : L} {ps : List Pc} : hdP (.str (c :: r) :: ps) = some c := rfl
theorem safe_wd {ps : List Pc} (h : safeP ps = true) : (match hdP ps with | none => true | some d => !isWd d) = true := by
 unfold safeP at h
 cases e : hdP ps with
 | none => rfl
 | some d => rw [e] at h; simp only [Bool.and_eq_true] at h; exact h.1
theorem okP_comma {ps : List Pc} : okP (.str [44] :: ps) = okP ps := by rw [okP]; simp [isWs, isSp]
theorem okP_open {ps : List Pc} : okP (.str [40] :: ps) = okP ps := by rw [okP]; simp [isWs, isSp]
theorem okP_close {ps : List Pc} : okP (.str [41] :: ps) = okP ps := by rw [okP]; simp [isWs, isSp]
theorem okP_gt {ps : List Pc} : okP (.str [62] :: ps) = okP ps := by rw [okP]; simp [isWs, isSp]
theorem okP_lt {ps : List Pc} : okP (.str [60] :: ps) = okP ps := by rw [okP]; simp [isWs, isSp]
theorem okP_sp {ps : List Pc} : okP (.str [32] :: ps) = okP ps := by rw [okP]; simp [isWs, isSp]
theorem okP_eq2 {ps : List Pc} : okP (.str [61, 61] :: ps) = okP ps := by rw [okP]; simp [isWs, isSp]
theorem okP_ne {ps : List Pc} : okP (.str [33, 61] :: ps) = okP ps := by rw [okP]; simp [isWs, isSp]
theorem okP_eq {ps : List Pc} (h : hdP ps ≠ some 61) : okP (.str [61] :: ps) = okP ps := by rw [okP]; simp [isWs, isSp, h]
theorem okP_not {ps : List Pc} (h : hdP ps ≠ some 61) : okP (.str [33] :: ps) = okP ps := by rw [okP]; simp [isWs, isSp, h]
end Go.Proofs.YthfjolafikgpoaaGreatDoor.Hand
namespace Go.Proofs.YthfjolafikgpoaaGreatDoor.Hand
open Go.RowKit Go.Maps Go.Proofs.YthfjolafikgpoaaGreatDoorW.PrintWords Go.Proofs.YthfjolafikgpoaaGreatDoorW.PrintLast Go.Proofs.YthfjolafikgpoaaGreatDoorW.PrintMore Go.Proofs.YthfjolafikgpoaaGreatDoor.Base
set_option linter.unusedVariables false
set_option linter.unusedSimpArgs false
set_option maxRecDepth 100000
end Go.Proofs.YthfjolafikgpoaaGreatDoor.Hand
