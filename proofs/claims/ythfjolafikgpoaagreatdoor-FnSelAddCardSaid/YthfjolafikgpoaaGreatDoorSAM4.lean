/- The head of the printed texts, over the words that are used (the lines are print.sh's). -/
import Derived.Test.YthfjolafikgpoaaGreatDoorProg
import Derived.Below
import Derived.Deep.Draws
import Derived.Deep.AppendLies
import Derived.Maps.AppendAt
import Derived.OwnWalk
import Derived.Laws.BytesArg
import Derived.Laws.MakeOwn
import Derived.Laws.OwnMore
import Derived.Deep.OwnRows
import Derived.Tactics
import Derived.Lib.ConvBytes
import Derived.Laws.Slices
import Derived.WalkKit
import Derived.KernelRfl
import Derived.RowKit3
import Derived.Deep.LoopGhost
import Derived.Deep.QuietTactic
import Derived.BigQuiet
import Derived.WideLaws
import Derived.Deep.DeepCutAuto
import Derived.Deep.CutBlock
import Derived.Deep.RegionHeld3
import Derived.Laws.Rows
import Derived.Lib.AppendStr
import Derived.ArgAppend
import Derived.Laws.IdiomCopy
import Derived.OrdersHeld
import Derived.Laws.BitsLemmas
import Derived.RowKit
import Derived.Test.YthfjolafikgpoaaGreatDoorSAWWords
import Derived.Test.YthfjolafikgpoaaGreatDoorSAWLast
import Derived.Test.YthfjolafikgpoaaGreatDoorSAWRepsOne
import Derived.Test.YthfjolafikgpoaaGreatDoorSAWGuard
import Derived.Lib.Strings
namespace Go.Proofs.YthfjolafikgpoaaGreatDoorW.PrintMore
open Go.RowKit Go.Proofs.YthfjolafikgpoaaGreatDoorW.PrintWords
section
variable {P : Program} {ops : Array Oper} {rest : List Oper} {o : Oper} {a : Act} {Q : Exit → Act → World → Prop} {W : World}
theorem gate_callee {f : FuncId} {as_ : Array Operand} {ts : Array TypeId} (_ho : o.op = .call { callee := .value (.func f), args := as_, argTypes := ts }) (h : wpList P ops Q (o :: rest) a W) : wpList P ops Q (o :: rest) a W := h
theorem gate_builtin {b : Builtin} {xs : Array Operand} {ts : Array TypeId} (_ho : o.op = .call { callee := .builtin b, args := xs, argTypes := ts }) (h : wpList P ops Q (o :: rest) a W) : wpList P ops Q (o :: rest) a W := h
end
end Go.Proofs.YthfjolafikgpoaaGreatDoorW.PrintMore
namespace Go.Proofs.YthfjolafikgpoaaGreatDoorW.PrintWords
open Go.RowKit
def Kept (w W : World) (S : Nat → Prop) : Prop := w.heap.size ≤ W.heap.size ∧ ∀ i, i < w.heap.size → ¬ S i → W.heap[i]? = w.heap[i]?
section
variable {w W W2 : World} {S S2 S' : Nat → Prop}
theorem Kept.refl (w : World) (S : Nat → Prop) : Kept w w S := ⟨Nat.le_refl _, fun _ _ _ => rfl⟩
theorem Kept.then_ (h : Kept w W S) (k : Kept W W2 S2) (hs : ∀ k, S2 k → S k ∨ w.heap.size ≤ k) : Kept w W2 S :=
 ⟨Nat.le_trans h.1 k.1, fun i hi hn => (k.2 i (Nat.lt_of_lt_of_le hi h.1) (fun h2 => (hs i h2).elim hn (fun h3 => by omega))).trans (h.2 i hi hn)⟩
theorem Kept.of_grown {row : Option Nat} (hg : W.grownBy W2 row) (h : Kept w W S) (hr : ∀ k, row = some k → S k ∨ w.heap.size ≤ k) : Kept w W2 S :=
 h.then_ (S2 := fun k => row = some k) ⟨hg.size, fun i hi hn => hg.block i hi (fun he => hn he.symm)⟩ hr
theorem Kept.setCell (h : Kept w W S) {p : Addr} (hp : S p.block ∨ w.heap.size ≤ p.block) (u : Value) : Kept w (W.setCell p u) S :=
 h.then_ (S2 := fun k => k = p.block) ⟨by simp [World.setCell], fun i _ hn => Below.heap_setCell W p u i hn⟩ (fun k hk => by rw [hk]; exact hp)
end
namespace Kd
section
variable {α : Type} {d : Kd α} {W : World} {g n : Nat} {S ok : Nat → Prop} {A : Option Addr} {ad : Addr} {xs : List α}
theorem C_not_empty (h : d.C W (some ad) n xs) (hn : 0 < n) (hs : 0 < d.sz) : W.cell? ad ≠ none := by
 obtain ⟨ad', he, hc⟩ := h.2.2 hn
 injection he with he
 subst he
 obtain ⟨c, hcl, _, hcell⟩ := hc 0 _ (List.getElem?_eq_getElem (by rw [h.1]; exact hn))
 have h1 := hcell 0 _ (List.getElem?_eq_getElem (by omega))
 rw [Nat.zero_mul, Nat.zero_add, Addr.add_zero'] at h1
 rw [h1]
 exact Option.some_ne_none _
end
section
variable {α : Type} {d : Kd α} {e : Nat} {w W w1 : World} {base base' : Nat} {ok ok' ok1 : Nat → Prop} {v : Value} {xs : List α}
theorem R_tight (hE : d.E = []) (h : d.R e w base ok v xs) : d.R e w base (fun k => some k = v.ownBlock) v xs := by
 obtain ⟨h0, inner, ho, hr⟩ := h
 refine ⟨fun k hk => hk.symm, inner, ho, hr.imp_ (fun p c hp => d.M_mono (fun k hk => ?_) (d.M_bound hp))⟩
 obtain ⟨_, _, _, q, hq, _⟩ := hk
 rw [hE] at hq
 cases hq
theorem R_grown1 (h : d.R e W base ok v xs) (hE : d.E = []) {row : Option Nat} (hg : W.grownBy w1 row) (hne : row ≠ v.ownBlock) : d.R e w1 base ok v xs :=
 R_mono (R_grown (R_tight hE h) hg (fun _ hk e_ => hne (e_.symm.trans hk))) (fun k hk => h.1 k hk.symm)
end
end Kd
end Go.Proofs.YthfjolafikgpoaaGreatDoorW.PrintWords
namespace Go.Proofs.YthfjolafikgpoaaGreatDoor.PFnSelDecidesLabels
open Go.RowKit Go.Proofs.YthfjolafikgpoaaGreatDoorW.PrintWords Go.Proofs.YthfjolafikgpoaaGreatDoorW.PrintLast Go.Proofs.YthfjolafikgpoaaGreatDoorW.PrintMore
set_option linter.unusedVariables false
set_option linter.unusedSimpArgs false
def errW : Option Int → Value
 | none => .nilIface
 | some c => .iface 158 (.int .i64 c)
theorem errW_none : errW none = .nilIface := rfl
theorem errW_some (c : Int) : errW (some c) = .iface 158 (.int .i64 c) := rfl
theorem info9 : (Tryz.prog.info? 9).map (fun i => (i.zero, i.size, i.bytes)) = some (some (.string ⟨#[]⟩), 1, 16) := by kernel_rfl
end Go.Proofs.YthfjolafikgpoaaGreatDoor.PFnSelDecidesLabels
namespace Go.Proofs.YthfjolafikgpoaaGreatDoor.Base
open Go.RowKit Go.Proofs.YthfjolafikgpoaaGreatDoorW.PrintWords
abbrev L := List UInt8
def mk (x : L) : ByteArray := ⟨x.toArray⟩
theorem toList_eq (s : ByteArray) : s.toList = s.data.toList := ByteArray.toList_eq s
theorem mk_toList (x : L) : (mk x).toList = x := by rw [toList_eq]; rfl
theorem mk_size (x : L) : (mk x).size = x.length := by simp [mk, ByteArray.size]
theorem mk_of (s : ByteArray) : s = mk s.data.toList := rfl
theorem exists_mk (s : ByteArray) : ∃ x, s = mk x ∧ s.size = x.length := ⟨_, mk_of s, Lib.size_eq s⟩
theorem extract_mk (x : L) (a b : Nat) : (mk x).extract a b = mk ((x.take b).drop a) := by
 apply ByteArray.ext
 simp [mk, List.drop_take]
theorem bt_mk (x : L) (i : Int) : bt (mk x) i = ((x.getD i.toNat 0).toNat : Int) := by
 unfold bt
 split
 · rename_i h
   rw [mk_size] at h
   simp [mk, List.getD_eq_getElem?_getD, List.getElem?_eq_getElem h]
   rfl
 · rename_i h
   rw [mk_size] at h
   simp [List.getD_eq_getElem?_getD, List.getElem?_eq_none (Nat.le_of_not_lt h)]
theorem rd_mk (l : List L) (i : Int) : rdOf ByteArray.empty (l.map mk) i = mk (l.getD i.toNat []) := by
 unfold rdOf
 simp only [List.getD_eq_getElem?_getD, List.getElem?_map]
 cases l[i.toNat]? <;> rfl
section
variable {α β : Type}
end
theorem wrap_id {i : Int} (h0 : -9223372036854775808 ≤ i) (h : i ≤ 9223372036854775807) : wrap64 i = i := by
 unfold wrap64; omega
def glue (pre : L) : List L → List L
 | [] => [pre]
 | p :: r => (pre ++ p) :: r
def pieces (c : UInt8) : L → List L
 | [] => [[]]
 | b :: t => if b = c then [] :: pieces c t else glue [b] (pieces c t)
theorem glue_glue (a b : L) (ps : List L) : glue a (glue b ps) = glue (a ++ b) ps := by cases ps <;> simp [glue]
theorem pieces_ne (c : UInt8) (x : L) : pieces c x ≠ [] := by
 cases x with
 | nil => simp [pieces]
 | cons b t => unfold pieces; split; simp; cases pieces c t <;> simp [glue]
theorem glue_nil {ps : List L} (h : ps ≠ []) : glue [] ps = ps := by cases ps with | nil => exact absurd rfl h | cons p r => simp [glue]
theorem glue_pieces_nil (c : UInt8) (x : L) : glue [] (pieces c x) = pieces c x := glue_nil (pieces_ne c x)
def pstep (ro : Bool) (l : List L) (s : L) : List L :=
 if s = [] ∨ s = [46] then l
 else if s = [46, 46] ∧ 0 < l.length ∧ l.getD (l.length - 1) [] ≠ [46, 46] then l.take (l.length - 1)
 else if s = [46, 46] ∧ ro = true then l else l ++ [s]
def rooted (x : L) : Bool := x.head? == some 47
def parts (x : L) : List L := (pieces 47 x).foldl (pstep (rooted x)) []
theorem pieces_le (c : UInt8) (x : L) : ∀ p ∈ pieces c x, p.length ≤ x.length := by
 induction x with
 | nil => simp [pieces]
 | cons b t ih =>
   intro p hp
   unfold pieces at hp
   split at hp
   · rcases List.mem_cons.1 hp with rfl | hp
     · simp
     · have := ih p hp; simp; omega
   · cases hq : pieces c t with
     | nil => rw [hq] at hp; simp [glue] at hp; subst hp; simp
     | cons q r =>
       rw [hq] at hp ih
       simp only [glue, List.mem_cons] at hp
       rcases hp with rfl | hp
       · have := ih q (by simp); simp; omega
       · have := ih p (by simp [hp]); simp; omega
theorem pieces_len (c : UInt8) (x : L) : (pieces c x).length ≤ x.length + 1 := by
 induction x with
 | nil => simp [pieces]
 | cons b t ih =>
   unfold pieces
   split
   · simp; omega
   · cases hq : pieces c t with
     | nil => simp [glue]
     | cons q r => rw [hq] at ih; simp [glue] at ih ⊢; omega
theorem drop_cons {x : L} {i : Nat} (h : i < x.length) : x.drop i = x.getD i 0 :: x.drop (i + 1) := by
 rw [List.getD_eq_getElem?_getD, List.getElem?_eq_getElem h, Option.getD_some]; exact List.drop_eq_getElem_cons h
theorem take_drop_snoc {x : L} {f i : Nat} (h : i < x.length) (hf : f ≤ i) : (x.take (i + 1)).drop f = (x.take i).drop f ++ [x.getD i 0] := by
 rw [List.take_succ_eq_append_getElem h, List.drop_append_of_le_length (by simp; omega), List.getD_eq_getElem?_getD, List.getElem?_eq_getElem h, Option.getD_some]
end Go.Proofs.YthfjolafikgpoaaGreatDoor.Base
