/- The head of the printed texts, over the words that are used (the lines are print.sh's). -/
import Derived.Test.YteigfmchnblkgaaGreatDoorProg
import Derived.Below
import Derived.Deep.Draws
import Derived.Deep.AppendLies
import Derived.Maps.AppendAt
import Derived.OwnWalk
import Derived.Laws.BytesArg
import Derived.Laws.MakeOwn
import Derived.Laws.OwnMore
import Derived.Deep.OwnRows
import Derived.Tactics
import Derived.Lib.ConvBytes
import Derived.Laws.Slices
import Derived.WalkKit
import Derived.KernelRfl
import Derived.RowKit3
import Derived.Deep.LoopGhost
import Derived.Deep.QuietTactic
import Derived.BigQuiet
import Derived.WideLaws
import Derived.Deep.DeepCutAuto
import Derived.Deep.CutBlock
import Derived.Deep.RegionHeld3
import Derived.Laws.Rows
import Derived.Lib.AppendStr
import Derived.ArgAppend
import Derived.Laws.IdiomCopy
import Derived.OrdersHeld
import Derived.Laws.BitsLemmas
import Derived.RowKit
import Derived.Test.YteigfmchnblkgaaGreatDoorSMWWords
import Derived.Test.YteigfmchnblkgaaGreatDoorSMWLast
import Derived.Test.YteigfmchnblkgaaGreatDoorSMWRepsOne
import Derived.Test.YteigfmchnblkgaaGreatDoorSMWGuard
namespace Go.Proofs.YteigfmchnblkgaaGreatDoorW.PrintMore
open Go.RowKit Go.Proofs.YteigfmchnblkgaaGreatDoorW.PrintWords
section
variable {P : Program} {ops : Array Oper} {rest : List Oper} {o : Oper} {a : Act} {Q : Exit → Act → World → Prop} {W : World}
theorem gate_callee {f : FuncId} {as_ : Array Operand} {ts : Array TypeId} (_ho : o.op = .call { callee := .value (.func f), args := as_, argTypes := ts }) (h : wpList P ops Q (o :: rest) a W) : wpList P ops Q (o :: rest) a W := h
theorem gate_builtin {b : Builtin} {xs : Array Operand} {ts : Array TypeId} (_ho : o.op = .call { callee := .builtin b, args := xs, argTypes := ts }) (h : wpList P ops Q (o :: rest) a W) : wpList P ops Q (o :: rest) a W := h
end
end Go.Proofs.YteigfmchnblkgaaGreatDoorW.PrintMore
namespace Go.Proofs.YteigfmchnblkgaaGreatDoorW.PrintWords
open Go.RowKit
def Kept (w W : World) (S : Nat → Prop) : Prop := w.heap.size ≤ W.heap.size ∧ ∀ i, i < w.heap.size → ¬ S i → W.heap[i]? = w.heap[i]?
section
variable {w W W2 : World} {S S2 S' : Nat → Prop}
theorem Kept.refl (w : World) (S : Nat → Prop) : Kept w w S := ⟨Nat.le_refl _, fun _ _ _ => rfl⟩
theorem Kept.of_below (h : Below w.heap.size w W) (S : Nat → Prop) : Kept w W S := ⟨h.size, fun i hi _ => h.block i hi⟩
theorem Kept.mono (h : Kept w W S) (hs : ∀ k, S k → S' k) : Kept w W S' := ⟨h.1, fun i hi hn => h.2 i hi (fun hk => hn (hs i hk))⟩
theorem Kept.then_ (h : Kept w W S) (k : Kept W W2 S2) (hs : ∀ k, S2 k → S k ∨ w.heap.size ≤ k) : Kept w W2 S :=
  ⟨Nat.le_trans h.1 k.1, fun i hi hn => (k.2 i (Nat.lt_of_lt_of_le hi h.1) (fun h2 => (hs i h2).elim hn (fun h3 => by omega))).trans (h.2 i hi hn)⟩
theorem Kept.of_grown {row : Option Nat} (hg : W.grownBy W2 row) (h : Kept w W S) (hr : ∀ k, row = some k → S k ∨ w.heap.size ≤ k) : Kept w W2 S :=
  h.then_ (S2 := fun k => row = some k) ⟨hg.size, fun i hi hn => hg.block i hi (fun he => hn he.symm)⟩ hr
theorem Kept.below (h : Kept w W S) (hb : Below W.heap.size W W2) : Kept w W2 S := h.then_ (Kept.of_below hb (fun _ => False)) (fun _ hk => hk.elim)
theorem Kept.alloc (h : Kept w W S) (o : Obj) : Kept w (W.alloc o) S := h.below (below_alloc (Below.refl _ _) o)
theorem Kept.drew (h : Kept w W S) : Kept w W.drew S := h
theorem Kept.drewN (h : Kept w W S) (m : Nat) : Kept w (W.drewN m) S := h
theorem Kept.setCell (h : Kept w W S) {p : Addr} (hp : S p.block ∨ w.heap.size ≤ p.block) (u : Value) : Kept w (W.setCell p u) S :=
  h.then_ (S2 := fun k => k = p.block) ⟨by simp [World.setCell], fun i _ hn => Below.heap_setCell W p u i hn⟩ (fun k hk => by rw [hk]; exact hp)
/-- Beside a state: what was written is new since. -/
theorem Kept.keep {g : Nat} (h : KeepBut w W g none) (k : Kept W W2 S2) (hs : ∀ k, S2 k → w.heap.size ≤ k) : KeepBut w W2 g none :=
  ⟨Nat.le_trans h.1 k.1, fun i hi hg hr => (k.2 i (Nat.lt_of_lt_of_le hi h.1) (fun h2 => by have := hs i h2; omega)).trans (h.2 i hi hg hr)⟩
theorem blk_kept {g : Nat} {o : Obj} (hb : W.heap[g]? = some o) (hk : Kept W W2 S) (hne : ¬ S g) : W2.heap[g]? = some o := (hk.2 g (blk_lt hb) hne).trans hb
end
namespace Kd
section
variable {α : Type} {d : Kd α} {W : World} {g n : Nat} {S ok : Nat → Prop} {A : Option Addr} {ad : Addr} {xs : List α}
theorem C_not_empty (h : d.C W (some ad) n xs) (hn : 0 < n) (hs : 0 < d.sz) : W.cell? ad ≠ none := by
  obtain ⟨ad', he, hc⟩ := h.2.2 hn
  injection he with he
  subst he
  obtain ⟨c, hcl, _, hcell⟩ := hc 0 _ (List.getElem?_eq_getElem (by rw [h.1]; exact hn))
  have h1 := hcell 0 _ (List.getElem?_eq_getElem (by omega))
  rw [Nat.zero_mul, Nat.zero_add, Addr.add_zero'] at h1
  rw [h1]
  exact Option.some_ne_none _
end
section
variable {α : Type} {d : Kd α} {e : Nat} {w W w1 : World} {base base' : Nat} {ok ok' ok1 : Nat → Prop} {v : Value} {xs : List α}
theorem R_tight (hE : d.E = []) (h : d.R e w base ok v xs) : d.R e w base (fun k => some k = v.ownBlock) v xs := by
  obtain ⟨h0, inner, ho, hr⟩ := h
  refine ⟨fun k hk => hk.symm, inner, ho, hr.imp_ (fun p c hp => d.M_mono (fun k hk => ?_) (d.M_bound hp))⟩
  obtain ⟨_, _, _, q, hq, _⟩ := hk
  rw [hE] at hq
  cases hq
theorem R_grown1 (h : d.R e W base ok v xs) (hE : d.E = []) {row : Option Nat} (hg : W.grownBy w1 row) (hne : row ≠ v.ownBlock) : d.R e w1 base ok v xs :=
  R_mono (R_grown (R_tight hE h) hg (fun _ hk e_ => hne (e_.symm.trans hk))) (fun k hk => h.1 k hk.symm)
end
end Kd
end Go.Proofs.YteigfmchnblkgaaGreatDoorW.PrintWords
namespace Go.Proofs.YteigfmchnblkgaaGreatDoor.PFnSelMatches
open Go.RowKit Go.Proofs.YteigfmchnblkgaaGreatDoorW.PrintWords Go.Proofs.YteigfmchnblkgaaGreatDoorW.PrintLast Go.Proofs.YteigfmchnblkgaaGreatDoorW.PrintMore
set_option linter.unusedVariables false
set_option linter.unusedSimpArgs false



def errW : Option Int → Value
  | none => .nilIface
  | some c => .iface 140 (.int .i64 c)
theorem errW_none : errW none = .nilIface := rfl
theorem errW_some (c : Int) : errW (some c) = .iface 140 (.int .i64 c) := rfl

theorem info9 : (Tryz.prog.info? 9).map (fun i => (i.zero, i.size, i.bytes)) = some (some (.string ⟨#[]⟩), 1, 16) := by kernel_rfl
end Go.Proofs.YteigfmchnblkgaaGreatDoor.PFnSelMatches
