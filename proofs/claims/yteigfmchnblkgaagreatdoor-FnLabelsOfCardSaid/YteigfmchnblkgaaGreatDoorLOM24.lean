/- utf8's first and last rune of ASCII; labels.zzIsSpace, labels.zzTrimSpace over blanks. -/
import Derived.Test.YteigfmchnblkgaaGreatDoorLOM4
import Derived.Test.YteigfmchnblkgaaGreatDoorLOM23
import Derived.Laws.CopyOwn
import Derived.Below
import Derived.Test.YteigfmchnblkgaaGreatDoorLOM10
import Derived.Test.YteigfmchnblkgaaGreatDoorLOLabSetOf
namespace Go.Proofs.YteigfmchnblkgaaGreatDoor.Hand
open Go.RowKit Go.Proofs.YteigfmchnblkgaaGreatDoor.PFnSelMatches Go.Proofs.YteigfmchnblkgaaGreatDoorW.PrintWords Go.Proofs.YteigfmchnblkgaaGreatDoorW.PrintLast Go.Proofs.YteigfmchnblkgaaGreatDoorW.PrintMore Go.Proofs.YteigfmchnblkgaaGreatDoor.Base
set_option linter.unusedVariables false
set_option linter.unusedSimpArgs false
set_option maxRecDepth 100000
theorem byte_of {s : ByteArray} {x : L} (hx : s = mk x) (i : Nat) (h : i < s.size) : ((s[i]'h).toNat : Int) = ((x.getD i 0).toNat : Int) := by
  have e : ((s[i]'h).toNat : Int) = bt s i := bt_at s i h
  rw [e, hx, bt_mk, Int.toNat_natCast]
set_option maxHeartbeats 2000000 in
theorem Dec_calls (c : UInt8) (x : L) (hc : c.toNat < 128) (w : World) :
    Calls Tryz.prog 109 #[.string (mk (c :: x))] w fun e w' => e = .returned (.tuple #[.int .i32 (c.toNat : Int), .int .i64 1]) ∧ w = w' := by
  obtain ⟨s, hs⟩ : ∃ s, mk (c :: x) = s := ⟨_, rfl⟩
  have h0 : 0 < s.size := by rw [← hs, mk_size]; simp
  have hb := byte_of hs.symm 0 h0
  rw [List.getD_cons_zero] at hb
  have he : (s.toList == ([] : List UInt8)) = false := by rw [← hs, mk_toList]; rfl
  obtain ⟨b, hbb⟩ : ∃ b, s[0]'h0 = b := ⟨_, rfl⟩
  have hbn : ((b.toNat : Nat) : Int) = (c.toNat : Int) := by rw [← hbb]; exact hb
  have hbc : b = c := UInt8.toNat_inj.1 (by omega)
  subst hbc
  have hlt : decide (((b.toNat : Nat) : Int) < 128) = true := decide_eq_true (by omega)
  have hlt2 : decide (b.toNat < 128) = true := decide_eq_true hc
  have hw : IntKind.i32.wrap ((b.toNat : Nat) : Int) = (b.toNat : Int) := by simp [IntKind.wrap, IntKind.bits, IntKind.signed]; omega
  rw [hs]
  clear hs hb hbn
  go_enter Tryz.func109, Tryz.ntmps109
  go_wp2
  go_ret2
  exact ⟨rfl, rfl⟩
set_option maxHeartbeats 2000000 in
theorem DecLast_calls (c : UInt8) (x : L) (hc : c.toNat < 128) (hx : x.length ≤ 1000000) (w : World) :
    Calls Tryz.prog 111 #[.string (mk (x ++ [c]))] w fun e w' => e = .returned (.tuple #[.int .i32 (c.toNat : Int), .int .i64 1]) ∧ w = w' := by
  obtain ⟨s, hs⟩ : ∃ s, mk (x ++ [c]) = s := ⟨_, rfl⟩
  have hsz : s.size = x.length + 1 := by rw [← hs, mk_size]; simp
  obtain ⟨n, hn⟩ : ∃ n, x.length = n := ⟨_, rfl⟩
  rw [hn] at hsz hx
  have h0 : n < s.size := by omega
  have hb := byte_of hs.symm n h0
  rw [show (x ++ [c]).getD n 0 = c from by rw [List.getD_eq_getElem?_getD, ← hn]; simp] at hb
  obtain ⟨b, hbb⟩ : ∃ b, s[n]'h0 = b := ⟨_, rfl⟩
  have hbn : ((b.toNat : Nat) : Int) = (c.toNat : Int) := by rw [← hbb]; exact hb
  have hbc : b = c := UInt8.toNat_inj.1 (by omega)
  subst hbc
  have hlt : decide (((b.toNat : Nat) : Int) < 128) = true := decide_eq_true (by omega)
  have hlt2 : decide (b.toNat < 128) = true := decide_eq_true hc
  have hw : IntKind.i32.wrap ((b.toNat : Nat) : Int) = (b.toNat : Int) := by simp [IntKind.wrap, IntKind.bits, IntKind.signed]; omega
  rw [hs]
  clear hs hb hbn hn
  have hz0 : (((s.size : Nat) : Int) == 0) = false := by rw [beq_eq_false_iff_ne]; omega
  have hz1 : ((s.size : Nat) : Int) - 1 = (n : Int) := by omega
  go_enter Tryz.func111, Tryz.ntmps111
  go_wp2
  go_ret2
  exact ⟨rfl, rfl⟩
/-- A blank. -/
def isBl (c : UInt8) : Bool := c == 32 || c == 9
/-- What no blank is, of ASCII. -/
def isSolid (c : UInt8) : Bool := decide (33 ≤ c.toNat) && decide (c.toNat < 128)
theorem sp_bl {c : UInt8} (h : isBl c = true) (w : World) : Calls Tryz.prog 110 #[.int .i32 (c.toNat : Int)] w fun e w' => e = .returned (.bool true) ∧ Drawn0 w w' := by
  unfold isBl at h
  rw [Bool.or_eq_true, beq_iff_eq, beq_iff_eq] at h
  rcases h with rfl | rfl
  · exact labels_zzIsSpace.calls _ true w (by decide)
  · exact labels_zzIsSpace.calls _ true w (by decide)
theorem sp_solid {c : UInt8} (h : isSolid c = true) (w : World) : Calls Tryz.prog 110 #[.int .i32 (c.toNat : Int)] w fun e w' => e = .returned (.bool false) ∧ Drawn0 w w' := by
  unfold isSolid at h
  rw [Bool.and_eq_true, decide_eq_true_eq, decide_eq_true_eq] at h
  obtain ⟨h1, h2⟩ := h
  refine labels_zzIsSpace.calls _ false w ?_
  unfold labels_zzIsSpace.f
  rw [if_neg (by omega), if_neg (by omega), if_neg (by omega), if_neg (by omega), if_neg (by omega), if_neg (by omega), if_neg (by omega), if_neg (by omega), if_neg (by omega), if_neg (by omega), if_neg (by omega), if_neg (by omega), if_neg (by omega), if_neg (by omega), if_neg (by omega)]
theorem bl_lt {c : UInt8} (h : isBl c = true) : c.toNat < 128 := by
  unfold isBl at h
  rw [Bool.or_eq_true, beq_iff_eq, beq_iff_eq] at h
  rcases h with rfl | rfl <;> decide
theorem solid_lt {c : UInt8} (h : isSolid c = true) : c.toNat < 128 := by
  unfold isSolid at h
  rw [Bool.and_eq_true, decide_eq_true_eq, decide_eq_true_eq] at h
  exact h.2
theorem drawn_tr {a b c : World} (h : Drawn0 a b) (k : Drawn0 b c) : Drawn0 a c := by
  obtain ⟨n, rfl⟩ := h
  obtain ⟨m, rfl⟩ := k
  exact ⟨n + m, by simp [World.drewN, Nat.add_assoc]⟩
set_option maxHeartbeats 4000000 in
theorem Trim_calls (a y b : L) (ha : a.all isBl = true) (hb : b.all isBl = true) (c d : UInt8) (y1 y2 : L) (hy1 : y = c :: y1) (hy2 : y = y2 ++ [d]) (hc : isSolid c = true) (hd : isSolid d = true) (hz : (a ++ y ++ b).length ≤ 100000) (w : World) :
    Calls Tryz.prog 94 #[.string (mk (a ++ y ++ b))] w fun e w' => e = .returned (.string (mk y)) ∧ Drawn0 w w' := by
  have HA := Aside0.mk (And.intro ha hb)
  have HY := Aside0.mk (And.intro hy1 hy2)
  have HC := Aside0.mk (And.intro hc hd)
  have HZ : Aside0 (a.length + y.length + b.length ≤ 100000) := ⟨by simpa [Nat.add_assoc] using hz⟩
  have HD0 : Aside0 (Drawn0 w w) := ⟨⟨0, rfl⟩⟩
  obtain ⟨s0, hs0⟩ : ∃ s0, mk (a ++ y ++ b) = s0 := ⟨_, rfl⟩
  have HS0 := Aside0.mk hs0
  rw [hs0]
  clear ha hb hy1 hy2 hc hd hz hs0
  go_enter Tryz.func94, Tryz.ntmps94
  go_wp2
  go_loopg [0, 3, 4] (a.length) (fun g v0 v3 v4 w' => ∃ (j : Nat) (s : ByteArray), v0 = .string s ∧ Aside0 (s = mk (a.drop j ++ y ++ b)) ∧ Aside0 (g + j = a.length) ∧ Aside0 (Drawn0 w w'))
  case atStart => exact ⟨0, s0, rfl, ⟨by rw [← HS0.out, List.drop_zero]⟩, ⟨by omega⟩, HD0⟩
  case round =>
    obtain ⟨j, s, rfl, HS, HJ, HDR⟩ := hrel
    clear HS0
    have hj : j ≤ a.length := by have := HJ.out; omega
    by_cases hlt : j < a.length
    · obtain ⟨q, hq⟩ : ∃ q, a[j] = q := ⟨_, rfl⟩
      have hql : isBl q = true := by rw [← hq]; exact List.all_eq_true.1 HA.out.1 _ (List.getElem_mem _)
      have hcons : a.drop j ++ y ++ b = q :: (a.drop (j + 1) ++ y ++ b) := by rw [List.drop_eq_getElem_cons hlt, hq]; rfl
      have hs := HS.out
      rw [hcons] at hs
      have HDC := Aside0.mk (Dec_calls q (a.drop (j + 1) ++ y ++ b) (bl_lt hql))
      rw [← hs] at HDC
      have HSP := Aside0.mk (fun W => sp_bl hql W)
      have he : (s.toList == ([] : List UInt8)) = false := by rw [hs, mk_toList]; rfl
      have h1 : 1 ≤ s.size := by rw [hs, mk_size]; simp
      have HNX : Aside0 (s.extract 1 s.size = mk (a.drop (j + 1) ++ y ++ b)) := ⟨by rw [hs, extract_mk, mk_size, List.take_length]; rfl⟩
      clear hcons hs hq HS
      go_wp2_with (first | ((with_reducible refine (HDC.out _).mono ?_); rintro e w2 ⟨rfl, rfl⟩) | ((with_reducible refine (HSP.out _).mono ?_); rintro e w2 ⟨rfl, hdr⟩; have HDR2 := Aside0.mk (drawn_tr HDR.out hdr); clear hdr))
      go_roundg (a.length - (j + 1))
      case measure => have := HJ.out; omega
      case rel => exact ⟨j + 1, _, rfl, HNX, ⟨by omega⟩, HDR2⟩
    · have hje : j = a.length := by omega
      have hs := HS.out
      rw [hje, List.drop_length, List.nil_append] at hs
      have hcons : y ++ b = c :: (y1 ++ b) := by rw [HY.out.1]; rfl
      have hs2 := hs
      rw [hcons] at hs
      have HDC := Aside0.mk (Dec_calls c (y1 ++ b) (solid_lt HC.out.1))
      rw [← hs] at HDC
      have HSP := Aside0.mk (fun W => sp_solid HC.out.1 W)
      have he : (s.toList == ([] : List UInt8)) = false := by rw [hs, mk_toList]; rfl
      have HS2 := Aside0.mk hs2
      clear hcons hs hs2 HS
      go_wp2_with (first | ((with_reducible refine (HDC.out _).mono ?_); rintro e w2 ⟨rfl, rfl⟩) | ((with_reducible refine (HSP.out _).mono ?_); rintro e w2 ⟨rfl, hdr⟩; have HDR2 := Aside0.mk (drawn_tr HDR.out hdr); clear hdr))
      clear HDR HJ HSP HDC he
      generalize gk = go at *
      go_loopg [0, 5, 6] (b.length) (fun g v0 v5 v6 w' => ∃ (s : ByteArray), v0 = .string s ∧ Aside0 (s = mk (y ++ b.take g)) ∧ Aside0 (g ≤ b.length) ∧ Aside0 (Drawn0 w w'))
      case atStart => exact ⟨s, rfl, ⟨by rw [HS2.out, List.take_length]⟩, ⟨Nat.le_refl _⟩, HDR2⟩
      case round =>
        obtain ⟨s, rfl, HS, HJ, HDR⟩ := hrel
        clear HS2 HDR2
        cases hg : gk with
        | zero =>
          subst hg
          have hs := HS.out
          rw [List.take_zero, List.append_nil] at hs
          have hs3 := hs
          rw [HY.out.2] at hs
          have HDC := Aside0.mk (DecLast_calls d y2 (solid_lt HC.out.2) (by have := HZ.out; have h9 := congrArg List.length HY.out.2; simp at h9; omega))
          rw [← hs] at HDC
          have HSP := Aside0.mk (fun W => sp_solid HC.out.2 W)
          have he : (s.toList == ([] : List UInt8)) = false := by rw [hs, mk_toList, beq_eq_false_iff_ne]; simp
          have HS3 := Aside0.mk hs3
          clear hs hs3 HS
          go_wp2_with (first | ((with_reducible refine (HDC.out _).mono ?_); rintro e w2 ⟨rfl, rfl⟩) | ((with_reducible refine (HSP.out _).mono ?_); rintro e w2 ⟨rfl, hdr⟩; have HDR2 := Aside0.mk (drawn_tr HDR.out hdr); clear hdr))
          go_ret
          exact ⟨by rw [HS3.out]; rfl, HDR2.out⟩
        | succ m =>
          subst hg
          have hm : m < b.length := by have := HJ.out; omega
          obtain ⟨q, hq⟩ : ∃ q, b[m] = q := ⟨_, rfl⟩
          have hql : isBl q = true := by rw [← hq]; exact List.all_eq_true.1 HA.out.2 _ (List.getElem_mem _)
          have hsn : y ++ b.take (m + 1) = (y ++ b.take m) ++ [q] := by rw [List.take_succ_eq_append_getElem hm, hq, List.append_assoc]
          have hs := HS.out
          rw [hsn] at hs
          have hln : (y ++ b.take m).length ≤ 100000 := by rw [List.length_append, List.length_take]; have := HZ.out; omega
          have HDC := Aside0.mk (DecLast_calls q (y ++ b.take m) (bl_lt hql) (by omega))
          rw [← hs] at HDC
          have HSP := Aside0.mk (fun W => sp_bl hql W)
          have he : (s.toList == ([] : List UInt8)) = false := by rw [hs, mk_toList, beq_eq_false_iff_ne]; simp
          obtain ⟨n, hn⟩ : ∃ n, (y ++ b.take m).length = n := ⟨_, rfl⟩
          have hsz : s.size = n + 1 := by rw [hs, mk_size, List.length_append, hn]; rfl
          have hz1 : ((s.size : Nat) : Int) - 1 = (n : Int) := by omega
          have HNX : Aside0 (s.extract 0 n = mk (y ++ b.take m)) := ⟨by rw [hs, extract_mk, List.drop_zero, ← hn, List.take_left]⟩
          have hn2 : n ≤ 100000 := by omega
          clear hsn hs hq HS hn hln
          go_wp2_with (first | ((with_reducible refine (HDC.out _).mono ?_); rintro e w2 ⟨rfl, rfl⟩) | ((with_reducible refine (HSP.out _).mono ?_); rintro e w2 ⟨rfl, hdr⟩; have HDR2 := Aside0.mk (drawn_tr HDR.out hdr); clear hdr))
          go_roundg m
          case measure => omega
          case rel => exact ⟨_, rfl, HNX, ⟨by omega⟩, HDR2⟩
end Go.Proofs.YteigfmchnblkgaaGreatDoor.Hand

/- copy within a row of elements of several cells. No program in sight. -/
namespace Go.Proofs.YteigfmchnblkgaaGreatDoor.Hand
open Go.RowKit
set_option linter.unusedVariables false
set_option linter.unusedSimpArgs false
theorem run_copy_row_k {P : Program} (w : World) (dT sT ty elem : TypeId) (g o dLen dCap : Nat) (a : Addr) (sLen sCap : Nat) (cur : Array Value) (t : TypeId) (cs : List Value) (k : Nat)
    (hu : P.underlying dT = some (.slice elem)) (hs : (P.info? elem).map (·.size) = some k)
    (hg : w.heap[g]? = some (.cells cur t (0, 0))) (hn : cs.length = Nat.min sLen dLen * k)
    (hsrc : ∀ j v, cs[j]? = some v → w.cell? (a.add j) = some v) (hfit : o + cs.length ≤ cur.size) (h1 : ∀ v ∈ cs, v.oneCell' = true) :
    (Builtin.copy_ #[dT, sT] ty #[.slice (some ⟨g, o, none⟩) dLen dCap, .slice (some a) sLen sCap]).run P w =
      .ok (goInt (Nat.min sLen dLen)) (w.setRow g (cur.toList.take o ++ cs ++ cur.toList.drop (o + cs.length)).toArray) := by
  have hl := run_loadCells_list (P := P) w a cs hsrc
  have hst := run_storeCells_at P g o t cs 0 cur w hg (by simpa using hfit) h1
  cases hq : P.info? elem with
  | none => simp [hq] at hs
  | some i =>
    have hi : i.size = k := by simpa [hq] using hs
    rw [hn] at hl
    simp [Builtin.copy_, run_underlying hu, Builtin.lenOf, Builtin.firstCells, sizeOf, typeInfo, hq, hi, hl, hst]
theorem run_copy_none_k {P : Program} (w : World) (dT sT ty elem : TypeId) (d a : Option Addr) (dLen dCap sLen sCap k : Nat) (hu : P.underlying dT = some (.slice elem)) (hs : (P.info? elem).map (·.size) = some k) (hn : Nat.min sLen dLen = 0) :
    (Builtin.copy_ #[dT, sT] ty #[.slice d dLen dCap, .slice a sLen sCap]).run P w = .ok (goInt 0) w := by
  cases hq : P.info? elem with
  | none => simp [hq] at hs
  | some i =>
    cases a with
    | none => cases d <;> simp [Builtin.copy_, run_underlying hu, Builtin.lenOf, Builtin.firstCells, sizeOf, typeInfo, hq, hn, storeCells]
    | some ad =>
      have hl := run_loadCells_list (P := P) w ad [] (by simp)
      simp only [List.length_nil] at hl
      cases d <;> simp [Builtin.copy_, run_underlying hu, Builtin.lenOf, Builtin.firstCells, sizeOf, typeInfo, hq, hn, hl, storeCells]
/-- 'copy(d, s)' in a region that draws, into a row of the call's own whose elements have k cells. -/
theorem step_copy_splice_k {P : Program} {ops : Array Oper} {o : Oper} {a : Act} {w : World} {K : Act → World → Prop} {Q : Exit → Act → World → Prop} {E : Prop} (hgd : o.guard = none) (d s : Operand) (dT sT : TypeId)
    (ho : o.op = .call { callee := .builtin .copy, args := #[d, s], argTypes := #[dT, sT] }) (elem : TypeId) (hu : P.underlying dT = some (.slice elem)) (k : Nat) (hsz : (P.info? elem).map (·.size) = some k)
    (dp sp : Option Addr) (dLen dCap sLen sCap : Nat) (hd : a.eval d = .slice dp dLen dCap) (hs : a.eval s = .slice sp sLen sCap)
    (g off : Nat) (cur : List Value) (t : TypeId) (hg : w.heap[g]? = some (.cells cur.toArray t (0, 0))) (cs : List Value) (hn : cs.length = Nat.min sLen dLen * k)
    (hpos : 0 < Nat.min sLen dLen → dp = some ⟨g, off, none⟩ ∧ ∃ ad, sp = some ad ∧ ∀ j v, cs[j]? = some v → w.cell? (ad.add j) = some v)
    (hfit : off + cs.length ≤ cur.length) (h1 : ∀ v ∈ cs, v.oneCell' = true) (B : Nat) (w0 : World) (hb : RowKit.Below B w0 w) (hBg : B ≤ g)
    (h : ∀ w', RowKit.Hid (w'.heap[g]? = some (.cells (splice cur off cs).toArray t (0, 0))) → RowKit.Below B w0 w' → w.grownBy w' (some g) → K (a.put o.dst (goInt (Nat.min sLen dLen))) w') :
    if Region.wanted o (yielded ops a.tmps) = true then Oper.wp P o a w K Q else E := by
  have hw : Region.wanted o (yielded ops a.tmps) = true := by simp [Region.wanted, hgd]
  rw [if_pos hw]
  by_cases h0 : Nat.min sLen dLen = 0
  · have hc0 : cs.length = 0 := by rw [hn, h0, Nat.zero_mul]
    obtain rfl : cs = [] := List.eq_nil_of_length_eq_zero hc0
    have hrun := run_copy_none_k (P := P) w dT sT o.type elem dp sp dLen dCap sLen sCap k hu hsz h0
    rw [h0] at h
    unfold Oper.wp
    simp [execOp, ho, resolve, invoke, builtin, hd, hs, hrun, Result.andThen]
    exact h w (show _ = _ by simpa [splice] using hg) hb (World.grownBy.refl _ _)
  · obtain ⟨rfl, ad, rfl, hsrc⟩ := hpos (by omega)
    have hrun := run_copy_row_k (P := P) w dT sT o.type elem g off dLen dCap ad sLen sCap cur.toArray t cs k hu hsz hg hn hsrc (by simpa using hfit) h1
    unfold Oper.wp
    simp [execOp, ho, resolve, invoke, builtin, hd, hs, hrun, Result.andThen]
    exact h _ (show _ = _ by simpa [splice] using setRow_heap w g _ _ t _ hg) (below_setRow hb hBg _) ⟨rfl, rfl, rfl, by simp [World.setRow], fun k hk hne => by
      have : g ≠ k := fun e => hne (by rw [e])
      simp [World.setRow, Array.getElem?_modify, this]⟩
end Go.Proofs.YteigfmchnblkgaaGreatDoor.Hand

/- Labels by their keys: the list that spec.Keyed makes; pairs of texts in a row of the call's own. -/
namespace Go.Proofs.YteigfmchnblkgaaGreatDoor.Hand
open Go.RowKit Go.Maps Go.Proofs.YteigfmchnblkgaaGreatDoorW.PrintWords Go.Proofs.YteigfmchnblkgaaGreatDoorW.PrintLast Go.Proofs.YteigfmchnblkgaaGreatDoorW.PrintMore Go.Proofs.YteigfmchnblkgaaGreatDoor.Base
open Go.Sort (ltStr)
set_option linter.unusedVariables false
set_option linter.unusedSimpArgs false
set_option maxRecDepth 100000
abbrev LP := L × L
def posK : List LP → L → Nat
  | [], _ => 0
  | y :: r, s => if ltStr y.1 s = true then posK r s + 1 else 0
def insK (out : List LP) (p : LP) : List LP := if (out[posK out p.1]?).map (·.1) = some p.1 then out.set (posK out p.1) p else out.take (posK out p.1) ++ p :: out.drop (posK out p.1)
/-- Labels by rising keys, of keys that stand twice the last one. -/
def keyL (l : List LP) : List LP := l.foldl insK []
theorem posK_le : ∀ (out : List LP) (s : L), posK out s ≤ out.length
  | [], _ => Nat.le_refl _
  | y :: r, s => by
    unfold posK
    split
    · have := posK_le r s; simp only [List.length_cons]; omega
    · exact Nat.zero_le _
theorem posK_lt : ∀ (out : List LP) (s : L) (k : Nat) (h : k < out.length), k < posK out s → ltStr out[k].1 s = true
  | y :: r, s, 0, h, hk => by
    unfold posK at hk
    split at hk
    · assumption
    · omega
  | y :: r, s, k + 1, h, hk => by
    unfold posK at hk
    split at hk
    · exact posK_lt r s k (by simpa using h) (by omega)
    · omega
theorem posK_at : ∀ (out : List LP) (s : L) (h : posK out s < out.length), ltStr out[posK out s].1 s = false
  | y :: r, s, h => by
    by_cases e : ltStr y.1 s = true
    · have hp : posK (y :: r) s = posK r s + 1 := by show (if _ then _ else _) = _; rw [if_pos e]
      have h2 : posK r s < r.length := by rw [hp] at h; simpa using h
      have := posK_at r s h2
      simp only [hp, List.getElem_cons_succ]
      exact this
    · have hp : posK (y :: r) s = 0 := by show (if _ then _ else _) = _; rw [if_neg e]
      simp only [hp, List.getElem_cons_zero]
      simpa using e
theorem keyL_len (l : List LP) : (keyL l).length ≤ l.length := by
  have h : ∀ (l out : List LP), (l.foldl insK out).length ≤ out.length + l.length := by
    intro l
    induction l with
    | nil => intro out; exact Nat.le_refl _
    | cons p l ih =>
      intro out
      have h1 := ih (insK out p)
      have h2 : (insK out p).length ≤ out.length + 1 := by
        unfold insK
        split
        · rw [List.length_set]; omega
        · rw [List.length_append, List.length_cons, List.length_take, List.length_drop]; omega
      rw [List.foldl_cons, List.length_cons]; omega
  simpa [keyL] using h l []
theorem keyL_snoc {l : List LP} {j : Nat} {p : LP} (h : l[j]? = some p) : keyL (l.take (j + 1)) = insK (keyL (l.take j)) p := by
  unfold keyL
  rw [List.take_add_one, h, List.foldl_append]; rfl
abbrev mkP (p : LP) : ByteArray × ByteArray := (mk p.1, mk p.2)
abbrev unP (p : ByteArray × ByteArray) : LP := (p.1.data.toList, p.2.data.toList)
/-- The cells of pairs. -/
def encP (xs : List (ByteArray × ByteArray)) : List Value := xs.flatMap fun p => [.string p.1, .string p.2]
theorem encP_len (xs : List (ByteArray × ByteArray)) : (encP xs).length = xs.length * 2 := by
  induction xs with
  | nil => rfl
  | cons p xs ih => rw [List.length_cons]; show (encP xs).length + 1 + 1 = _; rw [ih]; omega
theorem encP_take (xs : List (ByteArray × ByteArray)) (n : Nat) : (encP xs).take (n * 2) = encP (xs.take n) := by
  induction xs generalizing n with
  | nil => simp [encP]
  | cons p xs ih =>
    cases n with
    | zero => rfl
    | succ n =>
      show ([Value.string p.1, .string p.2] ++ encP xs).take ((n + 1) * 2) = [Value.string p.1, .string p.2] ++ encP (xs.take n)
      rw [← ih, show (n + 1) * 2 = n * 2 + 1 + 1 by omega]; rfl
theorem encP_drop (xs : List (ByteArray × ByteArray)) (n : Nat) : (encP xs).drop (n * 2) = encP (xs.drop n) := by
  induction xs generalizing n with
  | nil => simp [encP]
  | cons p xs ih =>
    cases n with
    | zero => rfl
    | succ n =>
      show ([Value.string p.1, .string p.2] ++ encP xs).drop ((n + 1) * 2) = encP (xs.drop n)
      rw [← ih, show (n + 1) * 2 = n * 2 + 1 + 1 by omega]; rfl
theorem encP_app (a b : List (ByteArray × ByteArray)) : encP (a ++ b) = encP a ++ encP b := by simp [encP]
theorem encP_one (v : Value) (xs : List (ByteArray × ByteArray)) (h : v ∈ encP xs) : v.oneCell' = true := by
  obtain ⟨p, _, hv⟩ := List.mem_flatMap.1 h
  rcases List.mem_cons.1 hv with e | hv
  · rw [e]; rfl
  · rw [List.mem_singleton.1 hv]; rfl
theorem pk_cs {w : World} {base : Nat} {ok : Nat → Prop} {p : ByteArray × ByteArray} {cs : List Value} (h : PK.M w base ok p cs) : cs = [.string p.1, .string p.2] := by
  obtain ⟨c0, c1, rfl, h0, h1⟩ := h
  have e0 : c0 = [.string p.1] := h0
  have e1 : c1 = [.string p.2] := h1
  rw [e0, e1]; rfl
theorem reps_enc {w : World} {base : Nat} {ok : Nat → Prop} : ∀ (xs : List (ByteArray × ByteArray)), Reps (PK.M w base ok) 2 xs (encP xs) := fun xs => by
  refine ⟨encP_len xs, fun j p hp => ?_⟩
  obtain ⟨hj, e⟩ := List.getElem?_eq_some_iff.1 hp
  rw [encP_drop, List.drop_eq_getElem_cons hj, e]
  exact ⟨[_], [_], rfl, rfl, rfl⟩
theorem enc_reps {w : World} {base : Nat} {ok : Nat → Prop} : ∀ (xs : List (ByteArray × ByteArray)) (inner : List Value), Reps (PK.M w base ok) 2 xs inner → inner = encP xs
  | [], inner, h => by
    have := h.1
    simpa [encP] using this
  | p :: xs, inner, h => by
    have hl := h.1
    have h0 := pk_cs (h.2 0 p rfl)
    rw [Nat.zero_mul, List.drop_zero] at h0
    have hr : Reps (PK.M w base ok) 2 xs (inner.drop 2) := by
      refine ⟨by rw [List.length_drop, hl, List.length_cons]; omega, fun j q hq => ?_⟩
      have := h.2 (j + 1) q hq
      rw [List.drop_drop]
      rw [show (j + 1) * 2 = 2 + j * 2 by omega] at this
      exact this
    have ih := enc_reps xs _ hr
    rw [← List.take_append_drop 2 inner, h0, ih]
    rfl
theorem pk_own {e : Nat} {w : World} {base : Nat} {ok : Nat → Prop} {v : Value} {xs : List (ByteArray × ByteArray)} (h : PK.R e w base ok v xs) : w.ownsRow base e 2 v xs.length (encP xs) := by
  obtain ⟨_, inner, ho, hr⟩ := h
  rw [← enc_reps xs inner hr]; exact ho
theorem pk_of_own {e : Nat} {w : World} {base : Nat} {v : Value} {xs : List (ByteArray × ByteArray)} (h : w.ownsRow base e 2 v xs.length (encP xs)) : PK.R e w base (fun _ => True) v xs := ⟨fun _ _ => trivial, encP xs, h, reps_enc xs⟩
/-- copy(out[p+1:], out[p:]) over an owned row of n + 1 pairs. -/
theorem shift_pk {e : Nat} {W : World} {base g cap n p : Nat} {xs : List (ByteArray × ByteArray)} (hR : PK.R e W base (fun _ => True) (.slice (some ⟨g, 0, none⟩) (n + 1) cap) xs) (hp : p ≤ n) :
    ∃ cur cs : List Value, cs.length = (n - p) * 2 ∧ n + 1 ≤ cap ∧ cur.length = cap * 2 ∧ base ≤ g ∧ W.heap[g]? = some (.cells cur.toArray e (0, 0)) ∧ (∀ j v, cs[j]? = some v → W.cell? ((⟨g, p * 2, none⟩ : Addr).add j) = some v) ∧ (∀ v ∈ cs, v.oneCell' = true) ∧
      ∀ W' : World, W'.heap[g]? = some (.cells (splice cur ((p + 1) * 2) cs).toArray e (0, 0)) → PK.R e W' base (fun _ => True) (.slice (some ⟨g, 0, none⟩) (n + 1) cap) (xs.take (p + 1) ++ (xs.drop p).take (n - p)) := by
  have hown := pk_own hR
  obtain ⟨hl, ⟨e0, _⟩ | ⟨g', cap', cur, e0, hbase, hcur, hn, hcm, hsz, htk⟩⟩ := hown
  · exact absurd e0 (by simp)
  · have hg : g' = g ∧ n + 1 = xs.length ∧ cap' = cap := by
      simp only [Value.slice.injEq, Option.some.injEq, Addr.mk.injEq] at e0
      exact ⟨e0.1.1.symm, e0.2.1, e0.2.2.symm⟩
    obtain ⟨rfl, hnx, rfl⟩ := hg
    have hxs : (cur.toList.take ((n + 1) * 2)) = encP xs := by rw [← htk, ← hnx]
    have hcl : cur.toList.length = cap' * 2 := by rw [Array.length_toList, hsz]
    have hcs : (cur.toList.drop (p * 2)).take ((n - p) * 2) = encP ((xs.drop p).take (n - p)) := by
      rw [← encP_take, ← encP_drop, ← hxs, List.drop_take, List.take_take]
      congr 1; omega
    refine ⟨cur.toList, (cur.toList.drop (p * 2)).take ((n - p) * 2), by rw [List.length_take, List.length_drop, hcl]; omega, by omega, hcl, hbase, by simpa using hcur, fun j v hv => ?_, fun v hv => ?_, fun W' hW' => pk_of_own ?_⟩
    · have hj : j < (n - p) * 2 := by
        have := (List.getElem?_eq_some_iff.1 hv).1
        rw [List.length_take] at this; omega
      rw [List.getElem?_take_of_lt hj, List.getElem?_drop] at hv
      rw [Addr.add_lit]
      simpa [World.cell?, hcur] using hv
    · rw [hcs] at hv; exact encP_one v _ hv
    · have hyl : (xs.take (p + 1) ++ (xs.drop p).take (n - p)).length = n + 1 := by simp; omega
      refine ⟨encP_len _, .inr ⟨g', cap', (splice cur.toList ((p + 1) * 2) ((cur.toList.drop (p * 2)).take ((n - p) * 2))).toArray, by rw [hyl], hbase, hW', by rw [hyl]; omega, hcm, ?_, ?_⟩⟩
      · rw [List.size_toArray]; unfold splice; simp only [List.length_append, List.length_take, List.length_drop, hcl]; omega
      · rw [hyl, List.toList_toArray]
        have e1 : (splice cur.toList ((p + 1) * 2) ((cur.toList.drop (p * 2)).take ((n - p) * 2))).take ((n + 1) * 2) = cur.toList.take ((p + 1) * 2) ++ (cur.toList.drop (p * 2)).take ((n - p) * 2) := by
          unfold splice
          rw [← List.append_assoc, List.take_append_of_le_length (by simp only [List.length_append, List.length_take, List.length_drop, hcl]; omega)]
          exact List.take_of_length_le (by simp only [List.length_append, List.length_take, List.length_drop, hcl]; omega)
        have e2 : cur.toList.take ((p + 1) * 2) = encP (xs.take (p + 1)) := by
          rw [← encP_take, ← hxs, List.take_take]
          congr 1; omega
        rw [e1, hcs, e2, encP_app]
/-- A pair of an owned row, set. -/
theorem put_pk {e : Nat} {W : World} {base g cap : Nat} {xs : List (ByteArray × ByteArray)} (hR : PK.R e W base (fun _ => True) (.slice (some ⟨g, 0, none⟩) xs.length cap) xs) (p : Nat) (hp : p < xs.length) (k t : ByteArray) :
    W.cell? ⟨g, p * 2, none⟩ = some (.string (xs[p]).1) ∧ W.cell? ⟨g, p * 2 + 1, none⟩ = some (.string (xs[p]).2) ∧ W.frozen? ⟨g, p * 2, none⟩ = false ∧ W.frozen? ⟨g, p * 2 + 1, none⟩ = false ∧
    (W.setCell ⟨g, p * 2, none⟩ (.string k)).cell? ⟨g, p * 2 + 1, none⟩ = some (.string (xs[p]).2) ∧ (W.setCell ⟨g, p * 2, none⟩ (.string k)).frozen? ⟨g, p * 2 + 1, none⟩ = false ∧ base ≤ g ∧
    PK.R e ((W.setCell ⟨g, p * 2, none⟩ (.string k)).setCell ⟨g, p * 2 + 1, none⟩ (.string t)) base (fun _ => True) (.slice (some ⟨g, 0, none⟩) xs.length cap) (xs.set p (k, t)) := by
  have hown := pk_own hR
  obtain ⟨hl, ⟨e0, _⟩ | ⟨g', cap', cur, e0, hbase, hcur, hn, hcm, hsz, htk⟩⟩ := hown
  · exact absurd e0 (by simp)
  · have hg : g' = g ∧ cap' = cap := by
      simp only [Value.slice.injEq, Option.some.injEq, Addr.mk.injEq] at e0
      exact ⟨e0.1.1.symm, e0.2.2.symm⟩
    obtain ⟨rfl, rfl⟩ := hg
    have hat : ∀ i, i < 2 → cur[p * 2 + i]? = (encP xs)[p * 2 + i]? := fun i hi => by
      rw [← htk, List.getElem?_take_of_lt (by omega), Array.getElem?_toList]
    have hpx : (encP xs).drop (p * 2) = [.string (xs[p]).1, .string (xs[p]).2] ++ encP (xs.drop (p + 1)) := by
      rw [encP_drop, List.drop_eq_getElem_cons hp]; rfl
    have h0 : cur[p * 2]? = some (.string (xs[p]).1) := by
      have := hat 0 (by omega)
      rw [Nat.add_zero] at this
      rw [this, show p * 2 = p * 2 + 0 from rfl, ← List.getElem?_drop, hpx]; rfl
    have h1 : cur[p * 2 + 1]? = some (.string (xs[p]).2) := by
      rw [hat 1 (by omega), ← List.getElem?_drop, hpx]; rfl
    have hput1 := blk_put hcur (p * 2) (.string k) (cs' := cur.setIfInBounds (p * 2) (.string k)) rfl
    have hput2 := blk_put hput1 (p * 2 + 1) (.string t) (cs' := (cur.setIfInBounds (p * 2) (.string k)).setIfInBounds (p * 2 + 1) (.string t)) rfl
    refine ⟨(blk_cell hcur _).trans h0, (blk_cell hcur _).trans h1, blk_frozen hcur _, blk_frozen hcur _, (blk_cell hput1 _).trans (by rw [Array.getElem?_setIfInBounds_ne (by omega)]; exact h1), blk_frozen hput1 _, hbase, pk_of_own ?_⟩
    refine ⟨by rw [encP_len, List.length_set], .inr ⟨g', cap', _, by rw [List.length_set], hbase, hput2, by rw [List.length_set]; exact hn, hcm, by rw [Array.size_setIfInBounds, Array.size_setIfInBounds]; exact hsz, ?_⟩⟩
    rw [List.length_set, Array.toList_setIfInBounds, Array.toList_setIfInBounds, List.take_set, List.take_set, htk]
    have e1 : encP xs = encP (xs.take p) ++ ([.string (xs[p]).1, .string (xs[p]).2] ++ encP (xs.drop (p + 1))) := by
      rw [← hpx, ← encP_take, List.take_append_drop]
    have e2 : xs.set p (k, t) = xs.take p ++ (k, t) :: xs.drop (p + 1) := List.set_eq_take_append_cons_drop .. |>.trans (if_pos hp)
    have hln : (encP (xs.take p)).length = p * 2 := by rw [encP_len, List.length_take]; congr 1; omega
    rw [e1, e2, encP_app]
    rw [List.set_append_right _ _ (by omega), hln, Nat.sub_self]
    rw [List.set_append_right _ _ (by omega), hln, show p * 2 + 1 - p * 2 = 1 by omega]
    rfl
end Go.Proofs.YteigfmchnblkgaaGreatDoor.Hand
