/-
  DERIVED: THE SHELF's CONTRACTS AT THIS DUMP, IN PLAIN WORDS (tools/lay-plain.mjs out of 'TryShelf.lean', which tools/lay-shelf.mjs wrote): THE SAME DECLARATIONS UNDER THE SAME NAMES: 'import', 'namespace', 'open', 'def', 'theorem' AND NOTHING ELSE: no command of the shelf's: FOR A HAND-IN. Each laying: the table of numbers ('.._ren') and one theorem, a field a fact of the dump's own or the kernel's comparison; each contract: ONE APPLICATION.
-/
import Derived.Ground.GgtProg
import Derived.Shelf.GgSortMore.SortSort
import Derived.Test.YtghekbffjonceaaProg
namespace Go.Proofs
open Go.Shelf
def Try.laysGt11_ren : Go.Shelf.Ren := ⟨fun | 11 => 32 | 17 => 33 | 18 => 34 | 31 => 35 | 32 => 36 | 33 => 37 | 34 => 38 | 35 => 39 | 36 => 40 | 37 => 41 | 38 => 42 | 39 => 43 | 40 => 44 | 43 => 45 | 44 => 46 | 45 => 47 | 46 => 48 | 47 => 49 | 50 => 50 | n => n, fun | 45 => 56 | 3 => 3 | 4 => 4 | 47 => 58 | 0 => 0 | 56 => 61 | 58 => 63 | 61 => 66 | 60 => 65 | 65 => 71 | 5 => 5 | 9 => 9 | 67 => 74 | 71 => 78 | 73 => 80 | 74 => 81 | 43 => 47 | 26 => 69 | 38 => 73 | n => n, fun | n => n⟩
theorem Try.laysGt11 : Go.Proofs.LaysGt.n11 Try.prog Try.laysGt11_ren := {
  mixed := by kernel_rfl
  f11 := Try.func32.trans (congrArg some (by kernel_rfl))
  f17 := Try.func33.trans (congrArg some (by kernel_rfl))
  f18 := Try.func34.trans (congrArg some (by kernel_rfl))
  f31 := Try.func35.trans (congrArg some (by kernel_rfl))
  f32 := Try.func36.trans (congrArg some (by kernel_rfl))
  f33 := Try.func37.trans (congrArg some (by kernel_rfl))
  f34 := Try.func38.trans (congrArg some (by kernel_rfl))
  f35 := Try.func39.trans (congrArg some (by kernel_rfl))
  f36 := Try.func40.trans (congrArg some (by kernel_rfl))
  f37 := Try.func41.trans (congrArg some (by kernel_rfl))
  f38 := Try.func42.trans (congrArg some (by kernel_rfl))
  f39 := Try.func43.trans (congrArg some (by kernel_rfl))
  f40 := Try.func44.trans (congrArg some (by kernel_rfl))
  f43 := Try.func45.trans (congrArg some (by kernel_rfl))
  f44 := Try.func46.trans (congrArg some (by kernel_rfl))
  f45 := Try.func47.trans (congrArg some (by kernel_rfl))
  f46 := Try.func48.trans (congrArg some (by kernel_rfl))
  f47 := Try.func49.trans (congrArg some (by kernel_rfl))
  f50 := Try.func50.trans (congrArg some (by kernel_rfl))
  t0 := Try.underlying0
  a0 := Try.isAgg0
  z0 := Try.sizeOf0
  v0 := Try.zeroValue0
  i0 := by kernel_rfl
  t3 := Try.underlying3
  a3 := Try.isAgg3
  z3 := Try.sizeOf3
  v3 := Try.zeroValue3
  i3 := by kernel_rfl
  t4 := Try.underlying4
  a4 := Try.isAgg4
  z4 := Try.sizeOf4
  v4 := Try.zeroValue4
  i4 := by kernel_rfl
  t5 := Try.underlying5
  a5 := Try.isAgg5
  z5 := Try.sizeOf5
  v5 := Try.zeroValue5
  i5 := by kernel_rfl
  t9 := Try.underlying9
  a9 := Try.isAgg9
  z9 := Try.sizeOf9
  v9 := Try.zeroValue9
  i9 := by kernel_rfl
  t26 := Try.underlying69
  a26 := Try.isAgg69
  z26 := Try.sizeOf69
  v26 := Try.zeroValue69
  i26 := by kernel_rfl
  t38 := Try.underlying73
  a38 := Try.isAgg73
  z38 := Try.sizeOf73
  v38 := Try.zeroValue73
  i38 := by kernel_rfl
  t43 := Try.underlying47
  a43 := Try.isAgg47
  z43 := Try.sizeOf47
  v43 := Try.zeroValue47
  i43 := by kernel_rfl
  t45 := Try.underlying56
  a45 := Try.isAgg56
  z45 := Try.sizeOf56
  v45 := Try.zeroValue56
  i45 := by kernel_rfl
  t47 := Try.underlying58
  a47 := Try.isAgg58
  z47 := Try.sizeOf58
  v47 := Try.zeroValue58
  i47 := by kernel_rfl
  t56 := Try.underlying61
  a56 := Try.isAgg61
  z56 := Try.sizeOf61
  v56 := Try.zeroValue61
  i56 := by kernel_rfl
  t58 := Try.underlying63
  a58 := Try.isAgg63
  z58 := Try.sizeOf63
  v58 := Try.zeroValue63
  i58 := by kernel_rfl
  t60 := Try.underlying65
  a60 := Try.isAgg65
  z60 := Try.sizeOf65
  v60 := Try.zeroValue65
  i60 := by kernel_rfl
  t61 := Try.underlying66
  a61 := Try.isAgg66
  z61 := Try.sizeOf66
  v61 := Try.zeroValue66
  i61 := by kernel_rfl
  t65 := Try.underlying71
  a65 := Try.isAgg71
  z65 := Try.sizeOf71
  v65 := Try.zeroValue71
  i65 := by kernel_rfl
  t67 := Try.underlying74
  a67 := Try.isAgg74
  z67 := Try.sizeOf74
  v67 := Try.zeroValue74
  i67 := by kernel_rfl
  t71 := Try.underlying78
  a71 := Try.isAgg78
  z71 := Try.sizeOf78
  v71 := Try.zeroValue78
  i71 := by kernel_rfl
  t73 := Try.underlying80
  a73 := Try.isAgg80
  z73 := Try.sizeOf80
  v73 := Try.zeroValue80
  i73 := by kernel_rfl
  t74 := Try.underlying81
  a74 := Try.isAgg81
  z74 := Try.sizeOf81
  v74 := Try.zeroValue81
  i74 := by kernel_rfl }
open Go.RowKit Go.Lib Go.Sort in
theorem Try.sort_Sort_tiny {α : Type} [Inhabited α] (T : TypeId) (rv : Value) (gn : Nat) (rN : Reaches Try.prog T rv "Len" gn) (n : Nat) (hn : n ≤ 1) (w : World) (hlen : LenM Try.prog gn rv n w) :
    Calls Try.prog 32 #[.iface T rv] w fun e w' => e = .returned (.tuple #[]) ∧ ∃ q, w' = w.drewN q := Any.sort_Sort_tiny Try.laysGt11 T rv gn rN n hn w hlen
open Go.RowKit Go.Lib Go.Sort in
/-- **sort.Sort: WHAT THE ROW HOLDS, TO THE ELEMENT.** (LAID: no walk: one application.) -/
theorem Try.sort_Sort_eq {α : Type} [Inhabited α] (T : TypeId) (rv : Value) (gn gl gs : Nat) (rN : Reaches Try.prog T rv "Len" gn) (rL : Reaches Try.prog T rv "Less" gl) (rS : Reaches Try.prog T rv "Swap" gs) (enc : α → Value) (lt : α → α → Bool) (hO : SWO lt) (blk off : Nat) (d : Array α) (h2 : 2 ≤ d.size) (hsz : d.size < 4611686018427387904) (w : World) (hlen : LenM Try.prog gn rv d.size w) (hless : LessM Try.prog gl rv enc lt blk off d.size w) (hswap : SwapM Try.prog gs rv enc blk off d.size) (hH : Holds enc w blk off d) (hblk : blk < w.heap.size) :
    Calls Try.prog 32 #[.iface T rv] w fun e w' => e = .returned (.tuple #[]) ∧ ∃ n os, w' = grow (putRow enc (Sort.ahead w n) blk off (pdq lt d 0 d.size (Lib.bitLen d.size) true true)) os := Any.sort_Sort_eq Try.laysGt11 T rv gn gl gs rN rL rS enc lt hO blk off d h2 hsz w hlen hless hswap hH hblk
open Go.RowKit Go.Lib Go.Sort in
/-- **sort.Sort, IN THE DOCUMENTATION's OWN TERMS ("Sort sorts data in ascending order as determined by the Less method. .. The sort is not guaranteed to be stable"): A PERMUTATION OF WHAT THE ROW HELD, SORTED BY 'lt'.** (LAID: no walk: one application.) -/
theorem Try.sort_Sort_sorted {α : Type} [Inhabited α] (T : TypeId) (rv : Value) (gn gl gs : Nat) (rN : Reaches Try.prog T rv "Len" gn) (rL : Reaches Try.prog T rv "Less" gl) (rS : Reaches Try.prog T rv "Swap" gs) (enc : α → Value) (lt : α → α → Bool) (hO : SWO lt) (blk off : Nat) (d : Array α) (h2 : 2 ≤ d.size) (hsz : d.size < 4611686018427387904) (w : World) (hlen : LenM Try.prog gn rv d.size w) (hless : LessM Try.prog gl rv enc lt blk off d.size w) (hswap : SwapM Try.prog gs rv enc blk off d.size) (hH : Holds enc w blk off d) (hblk : blk < w.heap.size) :
    Calls Try.prog 32 #[.iface T rv] w fun e w' => e = .returned (.tuple #[]) ∧ ∃ d' n os, PermIn 0 d.size d d' ∧ SortedIn lt 0 d.size d' ∧ w' = grow (putRow enc (Sort.ahead w n) blk off d') os := Any.sort_Sort_sorted Try.laysGt11 T rv gn gl gs rN rL rS enc lt hO blk off d h2 hsz w hlen hless hswap hH hblk
end Go.Proofs
