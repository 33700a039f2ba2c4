/- utf8's first and last rune of ASCII; labels.zzIsSpace, labels.zzTrimSpace over blanks. -/
import Derived.Test.YthfjolafikgpoaaGreatDoorLRM4
import Derived.Test.YthfjolafikgpoaaGreatDoorLRM28
import Derived.Test.YthfjolafikgpoaaGreatDoorLRGParA
import Derived.Test.YthfjolafikgpoaaGreatDoorLRGParB
namespace Go.Proofs.YthfjolafikgpoaaGreatDoor.Hand
open Go.RowKit Go.Proofs.YthfjolafikgpoaaGreatDoor.PFnSelDecidesLabels Go.Proofs.YthfjolafikgpoaaGreatDoorW.PrintWords Go.Proofs.YthfjolafikgpoaaGreatDoorW.PrintLast Go.Proofs.YthfjolafikgpoaaGreatDoorW.PrintMore Go.Proofs.YthfjolafikgpoaaGreatDoor.Base
set_option linter.unusedVariables false
set_option linter.unusedSimpArgs false
set_option maxRecDepth 100000
theorem byte_of {s : ByteArray} {x : L} (hx : s = mk x) (i : Nat) (h : i < s.size) : ((s[i]'h).toNat : Int) = ((x.getD i 0).toNat : Int) := by
  have e : ((s[i]'h).toNat : Int) = bt s i := bt_at s i h
  rw [e, hx, bt_mk, Int.toNat_natCast]
set_option maxHeartbeats 2000000 in
theorem Dec_calls (c : UInt8) (x : L) (hc : c.toNat < 128) (w : World) :
    Calls Tryz.prog 107 #[.string (mk (c :: x))] w fun e w' => e = .returned (.tuple #[.int .i32 (c.toNat : Int), .int .i64 1]) ∧ w = w' := by
  obtain ⟨s, hs⟩ : ∃ s, mk (c :: x) = s := ⟨_, rfl⟩
  have h0 : 0 < s.size := by rw [← hs, mk_size]; simp
  have hb := byte_of hs.symm 0 h0
  rw [List.getD_cons_zero] at hb
  have he : (s.toList == ([] : List UInt8)) = false := by rw [← hs, mk_toList]; rfl
  obtain ⟨b, hbb⟩ : ∃ b, s[0]'h0 = b := ⟨_, rfl⟩
  have hbn : ((b.toNat : Nat) : Int) = (c.toNat : Int) := by rw [← hbb]; exact hb
  have hbc : b = c := UInt8.toNat_inj.1 (by omega)
  subst hbc
  have hlt : decide (((b.toNat : Nat) : Int) < 128) = true := decide_eq_true (by omega)
  have hlt2 : decide (b.toNat < 128) = true := decide_eq_true hc
  have hw : IntKind.i32.wrap ((b.toNat : Nat) : Int) = (b.toNat : Int) := by simp [IntKind.wrap, IntKind.bits, IntKind.signed]; omega
  rw [hs]
  clear hs hb hbn
  go_enter Tryz.func107, Tryz.ntmps107
  go_wp2
  go_ret2
  exact ⟨rfl, rfl⟩
set_option maxHeartbeats 2000000 in
theorem DecLast_calls (c : UInt8) (x : L) (hc : c.toNat < 128) (hx : x.length ≤ 1000000) (w : World) :
    Calls Tryz.prog 109 #[.string (mk (x ++ [c]))] w fun e w' => e = .returned (.tuple #[.int .i32 (c.toNat : Int), .int .i64 1]) ∧ w = w' := by
  obtain ⟨s, hs⟩ : ∃ s, mk (x ++ [c]) = s := ⟨_, rfl⟩
  have hsz : s.size = x.length + 1 := by rw [← hs, mk_size]; simp
  obtain ⟨n, hn⟩ : ∃ n, x.length = n := ⟨_, rfl⟩
  rw [hn] at hsz hx
  have h0 : n < s.size := by omega
  have hb := byte_of hs.symm n h0
  rw [show (x ++ [c]).getD n 0 = c from by rw [List.getD_eq_getElem?_getD, ← hn]; simp] at hb
  obtain ⟨b, hbb⟩ : ∃ b, s[n]'h0 = b := ⟨_, rfl⟩
  have hbn : ((b.toNat : Nat) : Int) = (c.toNat : Int) := by rw [← hbb]; exact hb
  have hbc : b = c := UInt8.toNat_inj.1 (by omega)
  subst hbc
  have hlt : decide (((b.toNat : Nat) : Int) < 128) = true := decide_eq_true (by omega)
  have hlt2 : decide (b.toNat < 128) = true := decide_eq_true hc
  have hw : IntKind.i32.wrap ((b.toNat : Nat) : Int) = (b.toNat : Int) := by simp [IntKind.wrap, IntKind.bits, IntKind.signed]; omega
  rw [hs]
  clear hs hb hbn hn
  have hz0 : (((s.size : Nat) : Int) == 0) = false := by rw [beq_eq_false_iff_ne]; omega
  have hz1 : ((s.size : Nat) : Int) - 1 = (n : Int) := by omega
  go_enter Tryz.func109, Tryz.ntmps109
  go_wp2
  go_ret2
  exact ⟨rfl, rfl⟩
/-- A blank. -/
def isBl (c : UInt8) : Bool := c == 32 || c == 9
/-- What no blank is, of ASCII. -/
def isSolid (c : UInt8) : Bool := decide (33 ≤ c.toNat) && decide (c.toNat < 128)
theorem sp_bl {c : UInt8} (h : isBl c = true) (w : World) : Calls Tryz.prog 108 #[.int .i32 (c.toNat : Int)] w fun e w' => e = .returned (.bool true) ∧ Drawn0 w w' := by
  unfold isBl at h
  rw [Bool.or_eq_true, beq_iff_eq, beq_iff_eq] at h
  rcases h with rfl | rfl
  · exact labels_zzIsSpace.calls _ true w (by decide)
  · exact labels_zzIsSpace.calls _ true w (by decide)
theorem sp_solid {c : UInt8} (h : isSolid c = true) (w : World) : Calls Tryz.prog 108 #[.int .i32 (c.toNat : Int)] w fun e w' => e = .returned (.bool false) ∧ Drawn0 w w' := by
  unfold isSolid at h
  rw [Bool.and_eq_true, decide_eq_true_eq, decide_eq_true_eq] at h
  obtain ⟨h1, h2⟩ := h
  refine labels_zzIsSpace.calls _ false w ?_
  unfold labels_zzIsSpace.f
  rw [if_neg (by omega), if_neg (by omega), if_neg (by omega), if_neg (by omega), if_neg (by omega), if_neg (by omega), if_neg (by omega), if_neg (by omega), if_neg (by omega), if_neg (by omega), if_neg (by omega), if_neg (by omega), if_neg (by omega), if_neg (by omega), if_neg (by omega)]
theorem bl_lt {c : UInt8} (h : isBl c = true) : c.toNat < 128 := by
  unfold isBl at h
  rw [Bool.or_eq_true, beq_iff_eq, beq_iff_eq] at h
  rcases h with rfl | rfl <;> decide
theorem solid_lt {c : UInt8} (h : isSolid c = true) : c.toNat < 128 := by
  unfold isSolid at h
  rw [Bool.and_eq_true, decide_eq_true_eq, decide_eq_true_eq] at h
  exact h.2
theorem drawn_tr {a b c : World} (h : Drawn0 a b) (k : Drawn0 b c) : Drawn0 a c := by
  obtain ⟨n, rfl⟩ := h
  obtain ⟨m, rfl⟩ := k
  exact ⟨n + m, by simp [World.drewN, Nat.add_assoc]⟩
set_option maxHeartbeats 4000000 in
theorem Trim_calls (a y b : L) (ha : a.all isBl = true) (hb : b.all isBl = true) (c d : UInt8) (y1 y2 : L) (hy1 : y = c :: y1) (hy2 : y = y2 ++ [d]) (hc : isSolid c = true) (hd : isSolid d = true) (hz : (a ++ y ++ b).length ≤ 100000) (w : World) :
    Calls Tryz.prog 93 #[.string (mk (a ++ y ++ b))] w fun e w' => e = .returned (.string (mk y)) ∧ Drawn0 w w' := by
  have HA := Aside0.mk (And.intro ha hb)
  have HY := Aside0.mk (And.intro hy1 hy2)
  have HC := Aside0.mk (And.intro hc hd)
  have HZ : Aside0 (a.length + y.length + b.length ≤ 100000) := ⟨by simpa [Nat.add_assoc] using hz⟩
  have HD0 : Aside0 (Drawn0 w w) := ⟨⟨0, rfl⟩⟩
  obtain ⟨s0, hs0⟩ : ∃ s0, mk (a ++ y ++ b) = s0 := ⟨_, rfl⟩
  have HS0 := Aside0.mk hs0
  rw [hs0]
  clear ha hb hy1 hy2 hc hd hz hs0
  go_enter Tryz.func93, Tryz.ntmps93
  go_wp2
  go_loopg [0, 3, 4] (a.length) (fun g v0 v3 v4 w' => ∃ (j : Nat) (s : ByteArray), v0 = .string s ∧ Aside0 (s = mk (a.drop j ++ y ++ b)) ∧ Aside0 (g + j = a.length) ∧ Aside0 (Drawn0 w w'))
  case atStart => exact ⟨0, s0, rfl, ⟨by rw [← HS0.out, List.drop_zero]⟩, ⟨by omega⟩, HD0⟩
  case round =>
    obtain ⟨j, s, rfl, HS, HJ, HDR⟩ := hrel
    clear HS0
    have hj : j ≤ a.length := by have := HJ.out; omega
    by_cases hlt : j < a.length
    · obtain ⟨q, hq⟩ : ∃ q, a[j] = q := ⟨_, rfl⟩
      have hql : isBl q = true := by rw [← hq]; exact List.all_eq_true.1 HA.out.1 _ (List.getElem_mem _)
      have hcons : a.drop j ++ y ++ b = q :: (a.drop (j + 1) ++ y ++ b) := by rw [List.drop_eq_getElem_cons hlt, hq]; rfl
      have hs := HS.out
      rw [hcons] at hs
      have HDC := Aside0.mk (Dec_calls q (a.drop (j + 1) ++ y ++ b) (bl_lt hql))
      rw [← hs] at HDC
      have HSP := Aside0.mk (fun W => sp_bl hql W)
      have he : (s.toList == ([] : List UInt8)) = false := by rw [hs, mk_toList]; rfl
      have h1 : 1 ≤ s.size := by rw [hs, mk_size]; simp
      have HNX : Aside0 (s.extract 1 s.size = mk (a.drop (j + 1) ++ y ++ b)) := ⟨by rw [hs, extract_mk, mk_size, List.take_length]; rfl⟩
      clear hcons hs hq HS
      go_wp2_with (first | ((with_reducible refine (HDC.out _).mono ?_); rintro e w2 ⟨rfl, rfl⟩) | ((with_reducible refine (HSP.out _).mono ?_); rintro e w2 ⟨rfl, hdr⟩; have HDR2 := Aside0.mk (drawn_tr HDR.out hdr); clear hdr))
      go_roundg (a.length - (j + 1))
      case measure => have := HJ.out; omega
      case rel => exact ⟨j + 1, _, rfl, HNX, ⟨by omega⟩, HDR2⟩
    · have hje : j = a.length := by omega
      have hs := HS.out
      rw [hje, List.drop_length, List.nil_append] at hs
      have hcons : y ++ b = c :: (y1 ++ b) := by rw [HY.out.1]; rfl
      have hs2 := hs
      rw [hcons] at hs
      have HDC := Aside0.mk (Dec_calls c (y1 ++ b) (solid_lt HC.out.1))
      rw [← hs] at HDC
      have HSP := Aside0.mk (fun W => sp_solid HC.out.1 W)
      have he : (s.toList == ([] : List UInt8)) = false := by rw [hs, mk_toList]; rfl
      have HS2 := Aside0.mk hs2
      clear hcons hs hs2 HS
      go_wp2_with (first | ((with_reducible refine (HDC.out _).mono ?_); rintro e w2 ⟨rfl, rfl⟩) | ((with_reducible refine (HSP.out _).mono ?_); rintro e w2 ⟨rfl, hdr⟩; have HDR2 := Aside0.mk (drawn_tr HDR.out hdr); clear hdr))
      clear HDR HJ HSP HDC he
      generalize gk = go at *
      go_loopg [0, 5, 6] (b.length) (fun g v0 v5 v6 w' => ∃ (s : ByteArray), v0 = .string s ∧ Aside0 (s = mk (y ++ b.take g)) ∧ Aside0 (g ≤ b.length) ∧ Aside0 (Drawn0 w w'))
      case atStart => exact ⟨s, rfl, ⟨by rw [HS2.out, List.take_length]⟩, ⟨Nat.le_refl _⟩, HDR2⟩
      case round =>
        obtain ⟨s, rfl, HS, HJ, HDR⟩ := hrel
        clear HS2 HDR2
        cases hg : gk with
        | zero =>
          subst hg
          have hs := HS.out
          rw [List.take_zero, List.append_nil] at hs
          have hs3 := hs
          rw [HY.out.2] at hs
          have HDC := Aside0.mk (DecLast_calls d y2 (solid_lt HC.out.2) (by have := HZ.out; have h9 := congrArg List.length HY.out.2; simp at h9; omega))
          rw [← hs] at HDC
          have HSP := Aside0.mk (fun W => sp_solid HC.out.2 W)
          have he : (s.toList == ([] : List UInt8)) = false := by rw [hs, mk_toList, beq_eq_false_iff_ne]; simp
          have HS3 := Aside0.mk hs3
          clear hs hs3 HS
          go_wp2_with (first | ((with_reducible refine (HDC.out _).mono ?_); rintro e w2 ⟨rfl, rfl⟩) | ((with_reducible refine (HSP.out _).mono ?_); rintro e w2 ⟨rfl, hdr⟩; have HDR2 := Aside0.mk (drawn_tr HDR.out hdr); clear hdr))
          go_ret
          exact ⟨by rw [HS3.out]; rfl, HDR2.out⟩
        | succ m =>
          subst hg
          have hm : m < b.length := by have := HJ.out; omega
          obtain ⟨q, hq⟩ : ∃ q, b[m] = q := ⟨_, rfl⟩
          have hql : isBl q = true := by rw [← hq]; exact List.all_eq_true.1 HA.out.2 _ (List.getElem_mem _)
          have hsn : y ++ b.take (m + 1) = (y ++ b.take m) ++ [q] := by rw [List.take_succ_eq_append_getElem hm, hq, List.append_assoc]
          have hs := HS.out
          rw [hsn] at hs
          have hln : (y ++ b.take m).length ≤ 100000 := by rw [List.length_append, List.length_take]; have := HZ.out; omega
          have HDC := Aside0.mk (DecLast_calls q (y ++ b.take m) (bl_lt hql) (by omega))
          rw [← hs] at HDC
          have HSP := Aside0.mk (fun W => sp_bl hql W)
          have he : (s.toList == ([] : List UInt8)) = false := by rw [hs, mk_toList, beq_eq_false_iff_ne]; simp
          obtain ⟨n, hn⟩ : ∃ n, (y ++ b.take m).length = n := ⟨_, rfl⟩
          have hsz : s.size = n + 1 := by rw [hs, mk_size, List.length_append, hn]; rfl
          have hz1 : ((s.size : Nat) : Int) - 1 = (n : Int) := by omega
          have HNX : Aside0 (s.extract 0 n = mk (y ++ b.take m)) := ⟨by rw [hs, extract_mk, List.drop_zero, ← hn, List.take_left]⟩
          have hn2 : n ≤ 100000 := by omega
          clear hsn hs hq HS hn hln
          go_wp2_with (first | ((with_reducible refine (HDC.out _).mono ?_); rintro e w2 ⟨rfl, rfl⟩) | ((with_reducible refine (HSP.out _).mono ?_); rintro e w2 ⟨rfl, hdr⟩; have HDR2 := Aside0.mk (drawn_tr HDR.out hdr); clear hdr))
          go_roundg m
          case measure => omega
          case rel => exact ⟨_, rfl, HNX, ⟨by omega⟩, HDR2⟩
end Go.Proofs.YthfjolafikgpoaaGreatDoor.Hand

/- Requirements as text, with blanks by choices: the tokens of that text, and what the parser makes of them. No program in sight. -/
namespace Go.Proofs.YthfjolafikgpoaaGreatDoor.Hand
open Go.RowKit Go.Proofs.YthfjolafikgpoaaGreatDoor.Base
set_option linter.unusedVariables false
set_option linter.unusedSimpArgs false
set_option maxRecDepth 100000
/-- A piece of a text: a gap by choice, or bytes. -/
inductive Pc where
  | gap : Pc
  | str : L → Pc
/-- A blank by its choice. -/
def blankL (c : UInt8) : L := if c.toNat % 4 = 0 then [] else if c.toNat % 4 = 1 then [32] else if c.toNat % 4 = 2 then [32, 32] else [9]
def gapL (cs : L) : L := match cs with | [] => [] | c :: _ => blankL c
theorem gapL_ws (cs : L) : (gapL cs).all isWs = true := by
  cases cs with
  | nil => rfl
  | cons c r =>
    show (blankL c).all isWs = true
    unfold blankL
    repeat (first | rfl | split)
/-- The text of pieces. -/
def outL : List Pc → L → L
  | [], _ => []
  | .gap :: ps, cs => gapL cs ++ outL ps cs.tail
  | .str p :: ps, cs => p ++ outL ps cs
def restL : List Pc → L → L
  | [], cs => cs
  | .gap :: ps, cs => restL ps cs.tail
  | .str _ :: ps, cs => restL ps cs
theorem outL_app (a b : List Pc) : ∀ cs, outL (a ++ b) cs = outL a cs ++ outL b (restL a cs) := by
  induction a with
  | nil => intro cs; rfl
  | cons p a ih => intro cs; cases p with
    | gap => show gapL cs ++ outL (a ++ b) cs.tail = (gapL cs ++ outL a cs.tail) ++ _; rw [ih]; simp [restL]
    | str q => show q ++ outL (a ++ b) cs = (q ++ outL a cs) ++ _; rw [ih]; simp [restL]
/-- The first byte of the first piece that is no gap. -/
def hdP : List Pc → Option UInt8
  | [] => none
  | .gap :: ps => hdP ps
  | .str p :: ps => p.head?
def okP : List Pc → Bool
  | [] => true
  | .gap :: ps => okP ps
  | .str [] :: _ => false
  | .str (c :: r) :: ps => okP ps && (if isWs c then (c == 32 && r == []) else if isSp c then (if c = 61 ∨ c = 33 then r == [61] || (r == [] && !(hdP ps == some 61)) else r == []) else r.all isWd && (match hdP ps with | none => true | some d => !isWd d))
def tokP : List Pc → List Tk
  | [] => []
  | .gap :: ps => tokP ps
  | .str p :: ps => if (p.headD 0) = 32 then tokP ps else ((tokOf p).getD 8, p) :: tokP ps
theorem tkw_ws {c : UInt8} {r : L} (h : isWs c = true) : tokensL (c :: r) = tokensL r := by
  have h1 : lexL (c :: r) = ((lexL r).1, (lexL r).2.1, (lexL r).2.2 + 1) := by
    have h1 : wsLen (c :: r) = wsLen r + 1 := by rw [ws_cons, if_pos h]
    unfold lexL
    rw [h1, List.drop_succ_cons]
    simp only [Prod.mk.injEq, true_and]
    omega
  by_cases e : (lexL r).1 = 1
  · rw [tokens_end (x := r) e, tokens_end]; rw [h1]; exact e
  · rw [tokens_more (x := r) e, tokens_more (by rw [h1]; exact e), h1]; simp
theorem tkw_blank : ∀ {b : L} (x : L), b.all isWs = true → tokensL (b ++ x) = tokensL x
  | [], x, _ => rfl
  | c :: b, x, h => by
    simp only [List.all_cons, Bool.and_eq_true] at h
    rw [List.cons_append, tkw_ws h.1]; exact tkw_blank x h.2
theorem tkw_at {c : UInt8} {r : L} (h : isWs c = false) : tokensL (c :: r) = ((lexAt (c :: r)).1, (c :: r).take (lexAt (c :: r)).2) :: tokensL ((c :: r).drop (lexAt (c :: r)).2) := by
  have h0 : wsLen (c :: r) = 0 := by rw [ws_cons, h]; rfl
  have h1 : lexL (c :: r) = ((lexAt (c :: r)).1, (c :: r).take (lexAt (c :: r)).2, (lexAt (c :: r)).2) := by
    unfold lexL; rw [h0]; simp
  have h2 : (lexL (c :: r)).1 ≠ 1 := by
    rw [h1]
    show (lexAt (c :: r)).1 ≠ 1
    unfold lexAt
    split
    · exact fun e => by rename_i e1; cases e1
    · rename_i c' r' e1
      injection e1 with e1 e2; subst e1; subst e2
      split
      · cases ht : tokOf (List.take (symLen (c :: r)) (c :: r)) with
        | none => simp
        | some k => intro e; simp at e; subst e; exact tok_ne_one _ ht
      · cases ht : tokOf (List.take (wdLen (c :: r)) (c :: r)) with
        | none => simp
        | some k => intro e; simp at e; subst e; exact tok_ne_one _ ht
  rw [tokens_more h2, h1]
theorem wdLen_word : ∀ (p x : L), p.all isWd = true → wdLen (p ++ x) = p.length + wdLen x
  | [], x, _ => by simp
  | c :: p, x, h => by
    simp only [List.all_cons, Bool.and_eq_true] at h
    rw [List.cons_append, wd_cons, if_pos h.1, wdLen_word p x h.2, List.length_cons]; omega
theorem isWd_not {c : UInt8} (h : isWd c = true) : isSp c = false ∧ isWs c = false := by
  unfold isWd at h; simpa using h
theorem tkw_word {c : UInt8} {p x : L} (hc : isWd c = true) (hp : p.all isWd = true) (hx : wdLen x = 0) : tokensL ((c :: p) ++ x) = ((tokOf (c :: p)).getD 8, c :: p) :: tokensL x := by
  obtain ⟨h1, h2⟩ := isWd_not hc
  have hw : wdLen ((c :: p) ++ x) = (c :: p).length := by rw [wdLen_word _ _ (by simp [hc, hp]), hx]; rfl
  have hl : lexAt ((c :: p) ++ x) = ((tokOf (c :: p)).getD 8, (c :: p).length) := by
    rw [List.cons_append] at hw ⊢
    unfold lexAt
    simp only [h1, Bool.false_eq_true, if_false]
    rw [hw, ← List.cons_append, List.take_left']
    rfl
  rw [List.cons_append, tkw_at h2, ← List.cons_append, hl]
  simp
theorem tkw_sign {c : UInt8} {x : L} (hc : isSp c = true) (hs : symLen (c :: x) = 1) : tokensL ([c] ++ x) = ((tokOf [c]).getD 8, [c]) :: tokensL x := by
  have h2 : isWs c = false := by
    rcases sp_byte hc with h | h | h | h | h | h | h <;> subst h <;> rfl
  have hl : lexAt (c :: x) = ((tokOf [c]).getD 8, 1) := by
    unfold lexAt
    simp only [hc, if_true, hs]
    obtain ⟨k, hk, _⟩ := sp_tok hc
    simp [hk]
  rw [List.singleton_append, tkw_at h2, hl]
  simp
theorem tkw_two {c : UInt8} {x : L} (hc : c = 61 ∨ c = 33) : tokensL ([c, 61] ++ x) = ((tokOf [c, 61]).getD 8, [c, 61]) :: tokensL x := by
  have hs : isSp c = true := by rcases hc with h | h <;> subst h <;> rfl
  have h2 : isWs c = false := by rcases hc with h | h <;> subst h <;> rfl
  have hy : symLen (c :: 61 :: x) = 2 := by rw [sym_two, if_pos ⟨hc, rfl⟩]
  have hl : lexAt (c :: 61 :: x) = ((tokOf [c, 61]).getD 8, 2) := by
    unfold lexAt
    simp only [hs, if_true, hy]
    rcases hc with h | h <;> subst h <;> rfl
  rw [show [c, 61] ++ x = c :: 61 :: x from rfl, tkw_at h2, hl]
  simp
/-- What a text of pieces begins with. -/
theorem out_head : ∀ (ps : List Pc) (cs : L), okP ps = true → (outL ps cs = [] ∧ hdP ps = none) ∨ ∃ d t, outL ps cs = d :: t ∧ (isWs d = true ∨ hdP ps = some d)
  | [], cs, _ => .inl ⟨rfl, rfl⟩
  | .gap :: ps, cs, h => by
    have h1 := gapL_ws cs
    rcases hg : gapL cs with _ | ⟨d, t⟩
    · rcases out_head ps cs.tail h with ⟨e, e2⟩ | ⟨d, t, e, e2⟩
      · exact .inl ⟨by show gapL cs ++ _ = _; rw [hg, e]; rfl, e2⟩
      · exact .inr ⟨d, t, by show gapL cs ++ _ = _; rw [hg, e]; rfl, e2⟩
    · rw [hg] at h1
      simp only [List.all_cons, Bool.and_eq_true] at h1
      exact .inr ⟨d, t ++ outL ps cs.tail, by show gapL cs ++ _ = _; rw [hg]; rfl, .inl h1.1⟩
  | .str [] :: ps, cs, h => by cases h
  | .str (c :: r) :: ps, cs, h => .inr ⟨c, r ++ outL ps cs, rfl, .inr rfl⟩
theorem ws_not_wd {c : UInt8} (h : isWs c = true) : isWd c = false := by unfold isWd; rw [h]; simp
theorem tokens_pcs : ∀ (ps : List Pc) (cs : L), okP ps = true → tokensL (outL ps cs) = tokP ps ++ [(1, [])]
  | [], cs, _ => tokens_end rfl
  | .gap :: ps, cs, h => by
    show tokensL (gapL cs ++ _) = _
    rw [tkw_blank _ (gapL_ws cs)]
    exact tokens_pcs ps cs.tail h
  | .str [] :: ps, cs, h => by cases h
  | .str (c :: r) :: ps, cs, h => by
    unfold okP at h
    simp only [Bool.and_eq_true] at h
    obtain ⟨h0, h⟩ := h
    have ih := tokens_pcs ps cs h0
    have hh := out_head ps cs h0
    show tokensL ((c :: r) ++ outL ps cs) = _
    by_cases hw : isWs c = true
    · rw [if_pos hw] at h
      simp only [Bool.and_eq_true, beq_iff_eq] at h
      obtain ⟨rfl, rfl⟩ := h
      rw [List.singleton_append, tkw_ws hw, ih]
      rfl
    · rw [if_neg hw] at h
      have hw' : isWs c = false := by simpa using hw
      have h32 : c ≠ 32 := fun e => by subst e; exact hw rfl
      show _ = (if ((c :: r).headD 0) = 32 then tokP ps else _) ++ _
      rw [if_neg (by simpa using h32)]
      by_cases hs : isSp c = true
      · rw [if_pos hs] at h
        by_cases he : c = 61 ∨ c = 33
        · rw [if_pos he] at h
          simp only [Bool.or_eq_true, Bool.and_eq_true, beq_iff_eq, Bool.not_eq_true'] at h
          rcases h with h | ⟨h, h2⟩
          · subst h; rw [tkw_two he, ih]; rfl
          · subst h
            have hy : symLen (c :: outL ps cs) = 1 := by
              rcases hh with ⟨e, _⟩ | ⟨d, t, e, e2⟩
              · rw [e]; exact sym_one
              · rw [e, sym_two, if_neg]
                rintro ⟨_, rfl⟩
                rcases e2 with e2 | e2
                · cases e2
                · rw [e2] at h2; simp at h2
            rw [tkw_sign hs hy, ih]; rfl
        · rw [if_neg he] at h
          obtain rfl : r = [] := by simpa using h
          have hy : symLen (c :: outL ps cs) = 1 := by
            rcases hh with ⟨e, _⟩ | ⟨d, t, e, e2⟩
            · rw [e]; exact sym_one
            · rw [e, sym_two, if_neg (fun h => he h.1)]
          rw [tkw_sign hs hy, ih]; rfl
      · rw [if_neg hs] at h
        simp only [Bool.and_eq_true] at h
        have hwd : isWd c = true := by unfold isWd; rw [hw']; simpa using hs
        have hy : wdLen (outL ps cs) = 0 := by
          rcases hh with ⟨e, _⟩ | ⟨d, t, e, e2⟩
          · rw [e]; rfl
          · rw [e, wd_cons]
            rcases e2 with e2 | e2
            · rw [ws_not_wd e2]; rfl
            · rw [e2] at h
              have := h.2
              simp only [Bool.not_eq_true'] at this
              rw [this]; rfl
        rw [tkw_word hwd h.1 hy, ih]; rfl
/-- A word of a selector: not empty, no sign and no white in it. -/
def isWord (p : L) : Bool := !(p == []) && p.all isWd
def kW (p : L) : Nat := (tokOf p).getD 8
theorem kW_vk {p : L} (h : isWord p = true) : vk (kW p) = 8 := by
  unfold isWord at h
  simp only [Bool.and_eq_true] at h
  have h2 := h.2
  unfold kW tokOf
  by_cases e1 : p = [41]
  · subst e1; cases h2
  by_cases e2 : p = [44]
  · subst e2; cases h2
  by_cases e3 : p = [33]
  · subst e3; cases h2
  by_cases e4 : p = [61, 61]
  · subst e4; cases h2
  by_cases e5 : p = [61]
  · subst e5; cases h2
  by_cases e6 : p = [62]
  · subst e6; cases h2
  by_cases e7 : p = [60]
  · subst e7; cases h2
  by_cases e8 : p = [33, 61]
  · subst e8; cases h2
  by_cases e9 : p = [40]
  · subst e9; cases h2
  simp only [e1, e2, e3, e4, e5, e6, e7, e8, e9, if_false]
  by_cases e10 : p = [105, 110]
  · simp [e10, vk]
  by_cases e11 : p = [110, 111, 116, 105, 110]
  · simp [e11, vk]
  simp [e10, e11, vk]
/-- The tokens of values, of a requirement, of all requirements. -/
def tkV : List L → List Tk
  | [] => []
  | v :: r => (kW v, v) :: r.flatMap fun s => [(3, [44]), (kW s, s)]
abbrev oIn (op : L) : Prop := op = [105, 110] ∨ op = [110, 111, 116, 105, 110]
def toksR (key op : L) (vs : List L) : List Tk :=
  if op = [33] then [(4, [33]), (kW key, key)]
  else if op = [101, 120, 105, 115, 116, 115] then [(kW key, key)]
  else if oIn op then (kW key, key) :: (kW op, op) :: (13, [40]) :: (tkV vs ++ [(2, [41])])
  else if op = [103, 116] then [(kW key, key), (7, [62]), (kW (vs.headD []), vs.headD [])]
  else if op = [108, 116] then [(kW key, key), (10, [60]), (kW (vs.headD []), vs.headD [])]
  else [(kW key, key), (kW op, op), (kW (vs.headD []), vs.headD [])]
def tkF (r : Rq) : List Tk := (3, [44]) :: toksR r.1 r.2.1 r.2.2
def toksAll : List Rq → List Tk
  | [] => []
  | r :: l => toksR r.1 r.2.1 r.2.2 ++ l.flatMap tkF
/-- The pieces that spec.Freely writes. -/
def pcsV : List L → List Pc
  | [] => []
  | v :: r => .str v :: .gap :: r.flatMap fun s => [.str [44], .gap, .str s, .gap]
def pcsR (key op : L) (vs : List L) : List Pc :=
  if op = [33] then [.str [33], .gap, .str key]
  else if op = [101, 120, 105, 115, 116, 115] then [.str key]
  else if oIn op then [.str key, .str [32], .gap, .str op, .gap, .str [40], .gap] ++ (pcsV vs ++ [.str [41]])
  else if op = [103, 116] then [.str key, .gap, .str [62], .gap, .str (vs.headD [])]
  else if op = [108, 116] then [.str key, .gap, .str [60], .gap, .str (vs.headD [])]
  else [.str key, .gap, .str op, .gap, .str (vs.headD [])]
def pcF (r : Rq) : List Pc := .str [44] :: .gap :: (pcsR r.1 r.2.1 r.2.2 ++ [.gap])
def pcsAll : List Rq → List Pc
  | [] => []
  | r :: l => pcsR r.1 r.2.1 r.2.2 ++ .gap :: l.flatMap pcF
/-- The pieces that spec.Written writes (of values that are in their order already). -/
def pcwV : List L → List Pc
  | [] => []
  | v :: r => .str v :: r.flatMap fun s => [.str [44], .str s]
def pcwR (key op : L) (vs : List L) : List Pc :=
  if op = [33] then [.str [33], .str key]
  else if op = [101, 120, 105, 115, 116, 115] then [.str key]
  else if oIn op then [.str key, .str [32], .str op, .str [32], .str [40]] ++ (pcwV vs ++ [.str [41]])
  else if op = [103, 116] then [.str key, .str [62], .str (vs.headD [])]
  else if op = [108, 116] then [.str key, .str [60], .str (vs.headD [])]
  else [.str key, .str op, .str (vs.headD [])]
def pcwF (r : Rq) : List Pc := .str [44] :: pcwR r.1 r.2.1 r.2.2
def pcwAll : List Rq → List Pc
  | [] => []
  | r :: l => pcwR r.1 r.2.1 r.2.2 ++ l.flatMap pcwF
/-- What may stand behind a word. -/
def safeP (ps : List Pc) : Bool := match hdP ps with | none => true | some d => !isWd d && !(d == 61)
theorem okP_word {p : L} {ps : List Pc} (h : isWord p = true) (h1 : okP ps = true) (h2 : (match hdP ps with | none => true | some d => !isWd d) = true) : okP (.str p :: ps) = true := by
  unfold isWord at h
  simp only [Bool.and_eq_true] at h
  cases p with
  | nil => simp at h
  | cons c r =>
    have h3 := h.2
    simp only [List.all_cons, Bool.and_eq_true] at h3
    obtain ⟨a, b⟩ := isWd_not h3.1
    unfold okP
    simp only [h1, b, a, Bool.false_eq_true, if_false, h3.2, Bool.true_and]
    exact h2
theorem tokP_word {p : L} {ps : List Pc} (h : isWord p = true) : tokP (.str p :: ps) = (kW p, p) :: tokP ps := by
  unfold isWord at h
  simp only [Bool.and_eq_true] at h
  cases p with
  | nil => simp at h
  | cons c r =>
    have h3 := h.2
    simp only [List.all_cons, Bool.and_eq_true] at h3
    show (if c = 32 then tokP ps else _) = _
    rw [if_neg (fun e => by subst e; exact absurd h3.1 (by decide))]
    rfl
theorem hdP_word {p : L} {ps : List Pc} (h : isWord p = true) : ∃ d, hdP (.str p :: ps) = some d ∧ isWd d = true ∧ d ≠ 61 := by
  unfold isWord at h
  simp only [Bool.and_eq_true] at h
  cases p with
  | nil => simp at h
  | cons c r =>
    have h3 := h.2
    simp only [List.all_cons, Bool.and_eq_true] at h3
    exact ⟨c, rfl, h3.1, fun e => by subst e; exact absurd h3.1 (by decide)⟩
theorem hdP_str {c : UInt8} {r : L} {ps : List Pc} : hdP (.str (c :: r) :: ps) = some c := rfl
theorem safe_wd {ps : List Pc} (h : safeP ps = true) : (match hdP ps with | none => true | some d => !isWd d) = true := by
  unfold safeP at h
  cases e : hdP ps with
  | none => rfl
  | some d => rw [e] at h; simp only [Bool.and_eq_true] at h; exact h.1
theorem okP_comma {ps : List Pc} : okP (.str [44] :: ps) = okP ps := by rw [okP]; simp [isWs, isSp]
theorem okP_open {ps : List Pc} : okP (.str [40] :: ps) = okP ps := by rw [okP]; simp [isWs, isSp]
theorem okP_close {ps : List Pc} : okP (.str [41] :: ps) = okP ps := by rw [okP]; simp [isWs, isSp]
theorem okP_gt {ps : List Pc} : okP (.str [62] :: ps) = okP ps := by rw [okP]; simp [isWs, isSp]
theorem okP_lt {ps : List Pc} : okP (.str [60] :: ps) = okP ps := by rw [okP]; simp [isWs, isSp]
theorem okP_sp {ps : List Pc} : okP (.str [32] :: ps) = okP ps := by rw [okP]; simp [isWs, isSp]
theorem okP_eq2 {ps : List Pc} : okP (.str [61, 61] :: ps) = okP ps := by rw [okP]; simp [isWs, isSp]
theorem okP_ne {ps : List Pc} : okP (.str [33, 61] :: ps) = okP ps := by rw [okP]; simp [isWs, isSp]
theorem okP_eq {ps : List Pc} (h : hdP ps ≠ some 61) : okP (.str [61] :: ps) = okP ps := by rw [okP]; simp [isWs, isSp, h]
theorem okP_not {ps : List Pc} (h : hdP ps ≠ some 61) : okP (.str [33] :: ps) = okP ps := by rw [okP]; simp [isWs, isSp, h]
end Go.Proofs.YthfjolafikgpoaaGreatDoor.Hand

/- Requirements as text: the pieces are in order, their tokens, and what the parser makes of them. No program in sight. -/
namespace Go.Proofs.YthfjolafikgpoaaGreatDoor.Hand
open Go.RowKit Go.Proofs.YthfjolafikgpoaaGreatDoor.Base
set_option linter.unusedVariables false
set_option linter.unusedSimpArgs false
set_option maxRecDepth 100000
theorem safe_comma {ps : List Pc} : safeP (.str [44] :: ps) = true := by unfold safeP; rw [hdP_str]; rfl
theorem safe_close {ps : List Pc} : safeP (.str [41] :: ps) = true := by unfold safeP; rw [hdP_str]; rfl
theorem okF {f : L → List Pc} (hf : ∀ s ps, isWord s = true → okP ps = true → safeP ps = true → okP (f s ++ ps) = true ∧ safeP (f s ++ ps) = true) :
    ∀ (r : List L) (ps : List Pc), (∀ v ∈ r, isWord v = true) → okP ps = true → safeP ps = true → okP (r.flatMap f ++ ps) = true ∧ safeP (r.flatMap f ++ ps) = true
  | [], ps, _, h1, h2 => ⟨h1, h2⟩
  | v :: r, ps, hw, h1, h2 => by
    obtain ⟨a, b⟩ := okF hf r ps (fun x hx => hw x (List.mem_cons_of_mem _ hx)) h1 h2
    rw [List.flatMap_cons, List.append_assoc]
    exact hf v _ (hw v (List.mem_cons_self ..)) a b
theorem okW_pcs {vs : List L} {ps : List Pc} (hw : ∀ v ∈ vs, isWord v = true) (h1 : okP ps = true) (h2 : safeP ps = true) : okP (pcwV vs ++ ps) = true := by
  cases vs with
  | nil => exact h1
  | cons v r =>
    obtain ⟨a, b⟩ := okF (f := fun s => [.str [44], .str s]) (fun s ps hs h1 h2 => ⟨by
      show okP (.str [44] :: .str s :: ps) = true
      rw [okP_comma]; exact okP_word hs h1 (safe_wd h2), safe_comma⟩) r ps (fun x hx => hw x (List.mem_cons_of_mem _ hx)) h1 h2
    show okP (.str v :: (r.flatMap _ ++ ps)) = true
    exact okP_word (hw v (List.mem_cons_self ..)) a (safe_wd b)
theorem tokF {f : L → List Pc} {g : L → List Tk} (hf : ∀ s ps, isWord s = true → tokP (f s ++ ps) = g s ++ tokP ps) :
    ∀ (r : List L) (ps : List Pc), (∀ v ∈ r, isWord v = true) → tokP (r.flatMap f ++ ps) = r.flatMap g ++ tokP ps
  | [], ps, _ => rfl
  | v :: r, ps, hw => by
    rw [List.flatMap_cons, List.flatMap_cons, List.append_assoc, hf v _ (hw v (List.mem_cons_self ..)), tokF hf r ps (fun x hx => hw x (List.mem_cons_of_mem _ hx)), List.append_assoc]
theorem tokP_comma {ps : List Pc} : tokP (.str [44] :: ps) = (3, [44]) :: tokP ps := rfl
theorem tokW_pcs {vs : List L} {ps : List Pc} (hw : ∀ v ∈ vs, isWord v = true) : tokP (pcwV vs ++ ps) = tkV vs ++ tokP ps := by
  cases vs with
  | nil => rfl
  | cons v r =>
    show tokP (.str v :: (r.flatMap _ ++ ps)) = (kW v, v) :: (r.flatMap _ ++ tokP ps)
    rw [tokP_word (hw v (List.mem_cons_self ..))]
    congr 1
    refine tokF (fun s ps hs => ?_) r ps (fun x hx => hw x (List.mem_cons_of_mem _ hx))
    show tokP (.str [44] :: .str s :: ps) = _
    rw [tokP_comma, tokP_word hs]; rfl
/-- A requirement of words, its operator one that there is. -/
structure WordR (key op : L) (vs : List L) : Prop where
  k : isWord key = true
  v : ∀ x ∈ vs, isWord x = true
  o : op = [33] ∨ op = [101, 120, 105, 115, 116, 115] ∨ oIn op ∨ op = [103, 116] ∨ op = [108, 116] ∨ op = [61] ∨ op = [61, 61] ∨ op = [33, 61]
  n : op = [103, 116] ∨ op = [108, 116] ∨ op = [61] ∨ op = [61, 61] ∨ op = [33, 61] → ∃ x, vs = [x]
  m : oIn op → vs ≠ []
theorem word_ne61 {p : L} {ps : List Pc} (h : isWord p = true) : hdP (.str p :: ps) ≠ some 61 := by
  obtain ⟨d, e, _, h3⟩ := hdP_word (ps := ps) h
  rw [e]; intro e2; injection e2 with e2; exact h3 e2
theorem isWord_in {op : L} (h : oIn op) : isWord op = true := by rcases h with h | h <;> subst h <;> decide
theorem okRw_pcs {key op : L} {vs : List L} {ps : List Pc} (hw : WordR key op vs) (h1 : okP ps = true) (h2 : safeP ps = true) :
    okP (pcwR key op vs ++ ps) = true ∧ tokP (pcwR key op vs ++ ps) = toksR key op vs ++ tokP ps := by
  have hk := hw.k
  rcases hw.o with e | e | e | e
  · subst e
    refine ⟨?_, ?_⟩
    · show okP (.str [33] :: .str key :: ps) = true
      rw [okP_not (word_ne61 hk)]; exact okP_word hk h1 (safe_wd h2)
    · show tokP (.str [33] :: .str key :: ps) = _
      show (4, [33]) :: tokP (.str key :: ps) = _
      rw [tokP_word hk]; rfl
  · subst e
    exact ⟨okP_word hk h1 (safe_wd h2), tokP_word hk⟩
  · have ho := isWord_in e
    have hv := okW_pcs (ps := .str [41] :: ps) hw.v (by rw [okP_close]; exact h1) safe_close
    have ht := tokW_pcs (ps := .str [41] :: ps) hw.v
    have ep : pcwR key op vs ++ ps = .str key :: .str [32] :: .str op :: .str [32] :: .str [40] :: (pcwV vs ++ .str [41] :: ps) := by
      unfold pcwR
      rw [if_neg (by rcases e with e | e <;> subst e <;> decide), if_neg (by rcases e with e | e <;> subst e <;> decide), if_pos e]
      simp
    have et : toksR key op vs = (kW key, key) :: (kW op, op) :: (13, [40]) :: (tkV vs ++ [(2, [41])]) := by
      unfold toksR
      rw [if_neg (by rcases e with e | e <;> subst e <;> decide), if_neg (by rcases e with e | e <;> subst e <;> decide), if_pos e]
    rw [ep, et]
    refine ⟨?_, ?_⟩
    · refine okP_word hk ?_ (by rfl)
      rw [okP_sp]
      refine okP_word ho ?_ (by rfl)
      rw [okP_sp, okP_open]; exact hv
    · rw [tokP_word hk]
      show _ :: tokP (.str op :: _) = _
      rw [tokP_word ho]
      show _ :: _ :: (13, [40]) :: tokP (_) = _
      rw [ht]
      show _ :: _ :: _ :: (tkV vs ++ (2, [41]) :: tokP ps) = _
      simp
  · obtain ⟨x, rfl⟩ := hw.n e
    have hx := hw.v x (List.mem_cons_self ..)
    have h0 := okP_word hx h1 (safe_wd h2)
    have ht := tokP_word (ps := ps) hx
    rcases e with e | e | e | e | e
    · subst e
      refine ⟨?_, ?_⟩
      · show okP (.str key :: .str [62] :: .str x :: ps) = true
        refine okP_word hk ?_ (by rfl)
        rw [okP_gt]; exact h0
      · show tokP (.str key :: .str [62] :: .str x :: ps) = _
        rw [tokP_word hk]
        show _ :: (7, [62]) :: tokP (_) = _
        rw [ht]; rfl
    · subst e
      refine ⟨?_, ?_⟩
      · show okP (.str key :: .str [60] :: .str x :: ps) = true
        refine okP_word hk ?_ (by rfl)
        rw [okP_lt]; exact h0
      · show tokP (.str key :: .str [60] :: .str x :: ps) = _
        rw [tokP_word hk]
        show _ :: (10, [60]) :: tokP (_) = _
        rw [ht]; rfl
    · subst e
      refine ⟨?_, ?_⟩
      · show okP (.str key :: .str [61] :: .str x :: ps) = true
        refine okP_word hk ?_ (by rfl)
        rw [okP_eq (word_ne61 hx)]; exact h0
      · show tokP (.str key :: .str [61] :: .str x :: ps) = _
        rw [tokP_word hk]
        show _ :: (6, [61]) :: tokP (_) = _
        rw [ht]; rfl
    · subst e
      refine ⟨?_, ?_⟩
      · show okP (.str key :: .str [61, 61] :: .str x :: ps) = true
        refine okP_word hk ?_ (by rfl)
        rw [okP_eq2]; exact h0
      · show tokP (.str key :: .str [61, 61] :: .str x :: ps) = _
        rw [tokP_word hk]
        show _ :: (5, [61, 61]) :: tokP (_) = _
        rw [ht]; rfl
    · subst e
      refine ⟨?_, ?_⟩
      · show okP (.str key :: .str [33, 61] :: .str x :: ps) = true
        refine okP_word hk ?_ (by rfl)
        rw [okP_ne]; exact h0
      · show tokP (.str key :: .str [33, 61] :: .str x :: ps) = _
        rw [tokP_word hk]
        show _ :: (11, [33, 61]) :: tokP (_) = _
        rw [ht]; rfl
end Go.Proofs.YthfjolafikgpoaaGreatDoor.Hand
