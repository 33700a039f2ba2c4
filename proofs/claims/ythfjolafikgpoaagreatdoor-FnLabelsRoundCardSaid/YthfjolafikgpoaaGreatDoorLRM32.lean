/- spec.Freely: requirements as text, with blanks by choices. (Printed by freely.py.) -/
import Derived.Test.YthfjolafikgpoaaGreatDoorLRM31
import Derived.Test.YthfjolafikgpoaaGreatDoorLRM30
import Derived.Test.YthfjolafikgpoaaGreatDoorLRM26
import Derived.Deep.RegionHeldLaw
import Derived.Test.YthfjolafikgpoaaGreatDoorLRM27
import Derived.Test.YthfjolafikgpoaaGreatDoorLRM18
import Derived.Test.YthfjolafikgpoaaGreatDoorLRGLabB
import Derived.RegionTactic
import Derived.Deep.RegionLaw
import Derived.Deep.RegionWith
import Derived.Tactics
import Derived.Tactics2
import Derived.Defers
import Derived.Recover
import Derived.Laws.Pointers
import Derived.Test.YthfjolafikgpoaaGreatDoorLRM14
import Derived.Test.YthfjolafikgpoaaGreatDoorLRGParB
namespace Go.Proofs.YthfjolafikgpoaaGreatDoor.Hand
open Go.RowKit Go.Maps Go.Proofs.YthfjolafikgpoaaGreatDoorW.PrintWords Go.Proofs.YthfjolafikgpoaaGreatDoorW.PrintLast Go.Proofs.YthfjolafikgpoaaGreatDoorW.PrintMore Go.Proofs.YthfjolafikgpoaaGreatDoor.Base
set_option linter.unusedVariables false
set_option linter.unusedSimpArgs false
set_option maxRecDepth 100000
theorem GapS.mv {w W W' : World} {A : Option Addr} {n c : Nat} {cs rs : L} (h : GapS w W A n c cs rs) (hb : Below W.heap.size W W') : GapS w W' A n c cs rs := by
  obtain ⟨a, h1, h2, h3⟩ := h.at_
  exact ⟨h.be.trans (hb.mono h.be.size), (hb.block _ (blk_lt h.bx)).trans h.bx, h.bt, a, h1, h2, (hb.block _ (blk_lt h3)).trans h3⟩
theorem GapS.lt {w W : World} {A : Option Addr} {n c : Nat} {cs rs : L} (h : GapS w W A n c cs rs) : w.heap.size + 1 < W.heap.size := by
  obtain ⟨a, h1, h2, h3⟩ := h.at_; exact blk_lt h3
theorem Gap_calls (w W : World) (A : Option Addr) (n c : Nat) (cs rs : L) (h : GapS w W A n c cs rs) :
    Calls Tryz.prog 46 #[.pointer (some ⟨w.heap.size, 0, none⟩), .pointer (some ⟨w.heap.size + 1, 0, none⟩)] W fun e W' => e = .returned (.string (mk (gapL rs))) ∧ GapS w W' A n c cs rs.tail ∧ Kb W W' (w.heap.size + 1) := by
  have HS := Aside0.mk (Spaced_calls w W A n c cs rs h)
  have k0 : W.cell? ⟨w.heap.size, 0, none⟩ = some (.slice A n c) := (blk_cell h.bx 0).trans rfl
  clear h
  go_enter Tryz.func46, Tryz.ntmps46
  go_wp2_with (first | ((with_reducible refine (HS.out).mono ?_); rintro e w2 ⟨rfl, hg, hk⟩; have HG := Aside0.mk hg; have HK := Aside0.mk hk; clear hg hk HS))
  go_ret
  exact ⟨rfl, HG.out, HK.out⟩
/-- The gaps, beside the block of a requirement. -/
structure FrS (w W : World) (A : Option Addr) (n c : Nat) (cs : L) (bo : Nat) (key op : ByteArray) (AV : Option Addr) (nv cv : Nat) (rs : L) : Prop where
  gs : GapS w W A n c cs rs
  bk : W.heap[bo]? = some (.cells #[.string key, .string op, .slice AV nv cv] 53 (0, 0))
  hb : w.heap.size + 1 < bo
section
variable {w W W' : World} {A : Option Addr} {n c : Nat} {cs : L} {bo : Nat} {key op : ByteArray} {AV : Option Addr} {nv cv : Nat} {rs : L}
theorem FrS.mv (h : FrS w W A n c cs bo key op AV nv cv rs) (hb : Below W.heap.size W W') : FrS w W' A n c cs bo key op AV nv cv rs :=
  ⟨h.gs.mv hb, (hb.block _ (blk_lt h.bk)).trans h.bk, h.hb⟩
theorem FrS.c0 (h : FrS w W A n c cs bo key op AV nv cv rs) : W.cell? ⟨bo, 0, none⟩ = some (.string key) := (blk_cell h.bk 0).trans rfl
theorem FrS.c1 (h : FrS w W A n c cs bo key op AV nv cv rs) : W.cell? ⟨bo, 1, none⟩ = some (.string op) := (blk_cell h.bk 1).trans rfl
theorem FrS.c2 (h : FrS w W A n c cs bo key op AV nv cv rs) : W.cell? ⟨bo, 2, none⟩ = some (.slice AV nv cv) := (blk_cell h.bk 2).trans rfl
theorem FrS.gap (h : FrS w W A n c cs bo key op AV nv cv rs) :
    Calls Tryz.prog 46 #[.pointer (some ⟨w.heap.size, 0, none⟩), .pointer (some ⟨w.heap.size + 1, 0, none⟩)] W fun e W' => ∃ g : ByteArray, e = .returned (.string g) ∧ g = Base.mk (gapL rs) ∧ g.size ≤ 2 ∧ FrS w W' A n c cs bo key op AV nv cv rs.tail := by
  refine (Gap_calls w W A n c cs rs h.gs).mono ?_
  rintro e W' ⟨rfl, hg, hk⟩
  exact ⟨_, rfl, rfl, by rw [mk_size]; exact gapL_len rs, hg, (hk.ke.2 _ (blk_lt h.bk) (by have := h.hb; omega) (by simp)).trans h.bk, h.hb⟩
end
end Go.Proofs.YthfjolafikgpoaaGreatDoor.Hand

/- The law FnLabelsOf. -/
namespace Go.Proofs.YthfjolafikgpoaaGreatDoor.Hand
open Go.RowKit Go.Maps Go.Proofs.YthfjolafikgpoaaGreatDoorW.PrintWords Go.Proofs.YthfjolafikgpoaaGreatDoorW.PrintLast Go.Proofs.YthfjolafikgpoaaGreatDoorW.PrintMore Go.Proofs.YthfjolafikgpoaaGreatDoor.Base
set_option linter.unusedVariables false
set_option linter.unusedSimpArgs false
set_option maxRecDepth 100000
theorem lbB_snoc (l : List LP) (p : LP) : lbB (l ++ [p]) = lbB l + (p.1.length + p.2.length + 2) := by
  unfold lbB
  rw [List.map_append, List.sum_append_nat]; rfl
set_option maxHeartbeats 4000000 in
theorem LBytes_calls (A : Option Addr) (c n : Nat) (ls : List (ByteArray × ByteArray)) (hn : ls.length = n) (hn2 : n ≤ 200) (hz : ∀ p ∈ ls, p.1.size ≤ 1000 ∧ p.2.size ≤ 1000) (w : World) (hC : PK.C w A n ls) :
    Calls Tryz.prog 32 #[.slice A n c] w fun e w' => e = .returned (.int .i64 (lbB (ls.map unP) : Nat)) ∧ Below w.heap.size w w' := by
  have HC := Aside0.mk hC
  have HN := Aside0.mk hn
  have HZ := Aside0.mk hz
  clear hC hz hn
  go_enter Tryz.func32, Tryz.ntmps32
  go_wp2
  go_loopg [3, 5, 8] (n) (fun g v3 v5 v8 w' => ∃ j q : Nat, v8 = .int .i64 j ∧ v3 = .int .i64 q ∧ Aside0 (g + j = n) ∧ Aside0 (lbB ((ls.take j).map unP) = q ∧ q ≤ j * 2002) ∧ Aside0 (Below w.heap.size w w'))
  case atStart => exact ⟨0, 0, rfl, rfl, ⟨by omega⟩, ⟨rfl, by omega⟩, ⟨Below.refl _ _⟩⟩
  case round =>
    obtain ⟨j, q, rfl, rfl, HJ, HQ, HB⟩ := hrel
    have hj : j ≤ n := by have := HJ.out; omega
    by_cases hjl : j < n
    · have hjl2 : j < ls.length := by rw [HN.out]; exact hjl
      obtain ⟨ad, eA, hk0, hk1⟩ := pk_both (Kd.C_below HC.out HB.out) j hjl hjl2
      subst eA
      obtain ⟨p, hp⟩ : ∃ p, ls[j] = p := ⟨_, rfl⟩
      rw [hp] at hk0 hk1
      obtain ⟨hz1, hz2⟩ := HZ.out p (by rw [← hp]; exact List.getElem_mem _)
      have HTK : Aside0 (lbB ((ls.take (j + 1)).map unP) = q + (p.1.size + p.2.size + 2)) := ⟨by
        rw [List.take_succ_eq_append_getElem hjl2, hp, List.map_append]
        show lbB (_ ++ [unP p]) = _
        rw [lbB_snoc, HQ.out.1]; rfl⟩
      have hq := HQ.out.2
      have hq2 : q ≤ 400400 := by have : j * 2002 ≤ 200 * 2002 := Nat.mul_le_mul_right _ (by omega); omega
      obtain ⟨sk, st⟩ := p
      replace hk0 : wr.cell? (ad.add (j * 2)) = some (.string sk) := hk0
      replace hk1 : wr.cell? ⟨(ad.add (j * 2)).block, (ad.add (j * 2)).off + 1, none⟩ = some (.string st) := hk1
      replace hz1 : sk.size ≤ 1000 := hz1
      replace hz2 : st.size ≤ 1000 := hz2
      have hbk := heap_alloc_new wr (.cells #[.string sk, .string st] 42)
      have hb3 := below_alloc HB.out (.cells #[.string sk, .string st] 42)
      obtain ⟨w1, hw1⟩ : ∃ w1, wr.alloc (.cells #[.string sk, .string st] 42) = w1 := ⟨_, rfl⟩
      rw [hw1] at hbk hb3
      have c0 : w1.cell? ⟨wr.heap.size, 0, none⟩ = some (.string sk) := (blk_cell hbk 0).trans rfl
      have c1 : w1.cell? ⟨wr.heap.size, 1, none⟩ = some (.string st) := (blk_cell hbk 1).trans rfl
      have HB3 := Aside0.mk hb3
      clear hp hbk hb3
      go_wp2
      go_roundg (n - (j + 1))
      case measure => have := HJ.out; omega
      case rel => exact ⟨j + 1, q + (sk.size + st.size + 2), by go_num, by congr 1 <;> omega, ⟨by omega⟩, ⟨HTK.out, by omega⟩, HB3⟩
    · have hje : j = n := by omega
      have hq := HQ.out.1
      rw [hje, List.take_of_length_le (by rw [HN.out]; exact Nat.le_refl _)] at hq
      have HF := Aside0.mk hq
      clear hq
      go_wp2
      go_ret
      exact ⟨by rw [HF.out]; try rfl, HB.out⟩
end Go.Proofs.YthfjolafikgpoaaGreatDoor.Hand

/- (*labels.Requirement).String. (Printed by strreq.py.) -/
namespace Go.Proofs.YthfjolafikgpoaaGreatDoor.Hand
open Go.RowKit Go.Proofs.YthfjolafikgpoaaGreatDoorW.PrintWords Go.Proofs.YthfjolafikgpoaaGreatDoorW.PrintLast Go.Proofs.YthfjolafikgpoaaGreatDoorW.PrintMore Go.Proofs.YthfjolafikgpoaaGreatDoor.Base
set_option linter.unusedVariables false
set_option linter.unusedSimpArgs false
set_option maxRecDepth 100000
/-- The buffer in block g of W holds s. -/
structure BufSt (w W : World) (s : ByteArray) (k : Nat) : Prop where
  be : Below w.heap.size w W
  st : W.heap[w.heap.size]? = some (.cells #[.string s] 274 (0, 0))
  sz : s.size ≤ k * 20000000
theorem BufSt.calls {w W : World} {s : ByteArray} {k : Nat} (t : ByteArray) (h : BufSt w W s k) (hk : k ≤ 20) (ht : t.size ≤ 20000000) :
    Calls Tryz.prog 220 #[.pointer (some ⟨w.heap.size, 0, none⟩), .string t] W fun e W' => e = .returned (.tuple #[]) ∧ BufSt w W' (s ++ t) (k + 1) := by
  refine (BufW_calls w.heap.size s t (by have := h.sz; omega) W h.st).mono ?_
  rintro e w' ⟨rfl, rfl⟩
  refine ⟨rfl, below_set h.be (Nat.le_refl _), ?_, by have := h.sz; rw [ByteArray.size_append]; omega⟩
  exact blk_put h.st 0 _ (cs' := #[.string (s ++ t)]) rfl
theorem BufSt.new (w : World) : BufSt w (w.alloc (.cells #[.string ⟨#[]⟩] 274)) ⟨#[]⟩ 0 := ⟨below_alloc (Below.refl _ _) _, heap_alloc_new w _, by decide⟩
theorem empty_app (s : ByteArray) : (⟨#[]⟩ : ByteArray) ++ s = s := by
  apply ByteArray.ext; simp [ByteArray.data_append]
theorem BufSt.on {w W W' : World} {s : ByteArray} {k : Nat} (h : BufSt w W s k) (hb : Below W.heap.size W W') : BufSt w W' s k :=
  ⟨below_step h.be hb, (hb.block _ (blk_lt h.st)).trans h.st, h.sz⟩
end Go.Proofs.YthfjolafikgpoaaGreatDoor.Hand

/- (*labels.Requirement).String, in one: for requirements that may be. -/
namespace Go.Proofs.YthfjolafikgpoaaGreatDoor.Hand
open Go.RowKit Go.Proofs.YthfjolafikgpoaaGreatDoorW.PrintWords Go.Proofs.YthfjolafikgpoaaGreatDoorW.PrintLast Go.Proofs.YthfjolafikgpoaaGreatDoorW.PrintMore Go.Proofs.YthfjolafikgpoaaGreatDoor.Base
set_option linter.unusedVariables false
set_option linter.unusedSimpArgs false
/-- What a requirement is written as, m: its values, a comma between. -/
def textM (x : L) (key m : ByteArray) : ByteArray :=
  if x = [105, 110] then key ++ ⟨#[32, 105, 110, 32]⟩ ++ ⟨#[40]⟩ ++ m ++ ⟨#[41]⟩
  else if x = [110, 111, 116, 105, 110] then key ++ ⟨#[32, 110, 111, 116, 105, 110, 32]⟩ ++ ⟨#[40]⟩ ++ m ++ ⟨#[41]⟩
  else if x = [103, 116] then key ++ ⟨#[62]⟩ ++ m
  else if x = [108, 116] then key ++ ⟨#[60]⟩ ++ m
  else if x = [101, 120, 105, 115, 116, 115] then key
  else if x = [33] then ⟨#[33]⟩ ++ key
  else key ++ ⟨x.toArray⟩ ++ m
theorem join_one (v : ByteArray) : joinB ⟨#[44]⟩ [v] = v := by unfold joinB; simp only [List.foldl_nil]; exact empty_app v
end Go.Proofs.YthfjolafikgpoaaGreatDoor.Hand

/- impl.requirement. -/
namespace Go.Proofs.YthfjolafikgpoaaGreatDoor.Hand
open Go.RowKit Go.Maps Go.Proofs.YthfjolafikgpoaaGreatDoorW.PrintWords Go.Proofs.YthfjolafikgpoaaGreatDoorW.PrintLast Go.Proofs.YthfjolafikgpoaaGreatDoorW.PrintMore Go.Proofs.YthfjolafikgpoaaGreatDoor.Base
set_option linter.unusedVariables false
set_option linter.unusedSimpArgs false
set_option maxRecDepth 100000
end Go.Proofs.YthfjolafikgpoaaGreatDoor.Hand

/- impl.RequirementText. -/
namespace Go.Proofs.YthfjolafikgpoaaGreatDoor.Hand
open Go.RowKit Go.Proofs.YthfjolafikgpoaaGreatDoorW.PrintWords Go.Proofs.YthfjolafikgpoaaGreatDoorW.PrintLast Go.Proofs.YthfjolafikgpoaaGreatDoorW.PrintMore Go.Proofs.YthfjolafikgpoaaGreatDoor.Base
set_option linter.unusedVariables false
set_option linter.unusedSimpArgs false
set_option maxRecDepth 100000
end Go.Proofs.YthfjolafikgpoaaGreatDoor.Hand

/- spec.Written. (Printed by written.py.) -/
namespace Go.Proofs.YthfjolafikgpoaaGreatDoor.Hand
open Go.RowKit Go.Proofs.YthfjolafikgpoaaGreatDoorW.PrintWords Go.Proofs.YthfjolafikgpoaaGreatDoorW.PrintLast Go.Proofs.YthfjolafikgpoaaGreatDoorW.PrintMore Go.Proofs.YthfjolafikgpoaaGreatDoor.Base
set_option linter.unusedVariables false
set_option linter.unusedSimpArgs false
set_option maxRecDepth 100000
end Go.Proofs.YthfjolafikgpoaaGreatDoor.Hand

/- spec.Written: in, notin. (Printed by written2.py.) -/
namespace Go.Proofs.YthfjolafikgpoaaGreatDoor.Hand
open Go.RowKit Go.Proofs.YthfjolafikgpoaaGreatDoorW.PrintWords Go.Proofs.YthfjolafikgpoaaGreatDoorW.PrintLast Go.Proofs.YthfjolafikgpoaaGreatDoorW.PrintMore Go.Proofs.YthfjolafikgpoaaGreatDoor.Base
set_option linter.unusedVariables false
set_option linter.unusedSimpArgs false
set_option maxRecDepth 100000
end Go.Proofs.YthfjolafikgpoaaGreatDoor.Hand

/- spec.Written, at every requirement whose operator fits its values. (Printed by writtenk.py.) -/
namespace Go.Proofs.YthfjolafikgpoaaGreatDoor.Hand
open Go.RowKit Go.Proofs.YthfjolafikgpoaaGreatDoorW.PrintWords Go.Proofs.YthfjolafikgpoaaGreatDoorW.PrintLast Go.Proofs.YthfjolafikgpoaaGreatDoorW.PrintMore Go.Proofs.YthfjolafikgpoaaGreatDoor.Base
set_option linter.unusedVariables false
set_option linter.unusedSimpArgs false
set_option maxRecDepth 100000
end Go.Proofs.YthfjolafikgpoaaGreatDoor.Hand

/- What spec.Words lets in: requirements that may be, of words; their text read again; what they select. No program in sight. -/
namespace Go.Proofs.YthfjolafikgpoaaGreatDoor.Hand
open Go.RowKit Go.Proofs.YthfjolafikgpoaaGreatDoor.Base
set_option linter.unusedVariables false
set_option linter.unusedSimpArgs false
set_option maxRecDepth 100000
theorem toks_len (l : List Rq) (hw : ∀ r ∈ l, WordR r.1 r.2.1 r.2.2) : l.length ≤ (toksAll l).length := by
  have h : ∀ l : List Rq, l.length ≤ (l.flatMap tkF).length := by
    intro l
    induction l with
    | nil => exact Nat.le_refl _
    | cons r l ih => rw [List.flatMap_cons, List.length_append, List.length_cons, show (tkF r).length = (toksR r.1 r.2.1 r.2.2).length + 1 from rfl]; omega
  cases l with
  | nil => exact Nat.le_refl _
  | cons r l =>
    obtain ⟨k, s, t, e, _⟩ := toksR_head (hw r (List.mem_cons_self ..))
    have := h l
    show _ ≤ (toksR r.1 r.2.1 r.2.2 ++ l.flatMap tkF).length
    rw [List.length_append, e, List.length_cons, List.length_cons]; omega
end Go.Proofs.YthfjolafikgpoaaGreatDoor.Hand
