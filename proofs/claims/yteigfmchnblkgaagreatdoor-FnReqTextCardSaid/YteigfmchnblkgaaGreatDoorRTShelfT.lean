/-
  DERIVED: THE SHELF's CONTRACTS AT THIS DUMP, IN PLAIN WORDS (tools/lay-plain.mjs out of 'TryzTrimT.lean', which tools/lay-shelf.mjs wrote): THE SAME DECLARATIONS UNDER THE SAME NAMES: 'import', 'namespace', 'open', 'def', 'theorem' AND NOTHING ELSE: no command of the shelf's: FOR A HAND-IN. Each laying: the table of numbers ('.._ren') and one theorem, a field a fact of the dump's own or the kernel's comparison; each contract: ONE APPLICATION.
-/
import Derived.Shelf.Sort.Plain
import Derived.Shelf.Slices.In.SortNone2
import Derived.Test.YteigfmchnblkgaaGreatDoorProg
namespace Go.Proofs
open Go.Shelf
def Tryz.lays192_ren : Go.Shelf.Ren := ⟨fun | 192 => 108 | 190 => 134 | 125 => 105 | 258 => 166 | 128 => 131 | 129 => 132 | 302 => 186 | 303 => 187 | 304 => 188 | 305 => 189 | 306 => 190 | 307 => 191 | 308 => 165 | 309 => 192 | 310 => 193 | 333 => 205 | 329 => 161 | 330 => 162 | 334 => 206 | 335 => 207 | 336 => 106 | 344 => 213 | n => n, fun | 31 => 29 | 0 => 0 | 9 => 9 | 3 => 3 | 46 => 144 | 51 => 191 | 53 => 141 | 4 => 4 | 183 => 184 | 182 => 183 | 131 => 188 | 5 => 5 | 218 => 216 | 222 => 95 | 228 => 235 | 229 => 236 | n => n, fun | n => n⟩
theorem Tryz.lays192 : Go.Proofs.Lays.n192 Tryz.prog Tryz.lays192_ren := {
  mixed := by kernel_rfl
  f125 := Tryz.func105.trans (congrArg some (by kernel_rfl))
  f128 := Tryz.func131.trans (congrArg some (by kernel_rfl))
  f129 := Tryz.func132.trans (congrArg some (by kernel_rfl))
  f190 := Tryz.func134.trans (congrArg some (by kernel_rfl))
  f192 := Tryz.func108.trans (congrArg some (by kernel_rfl))
  f258 := Tryz.func166.trans (congrArg some (by kernel_rfl))
  f302 := Tryz.func186.trans (congrArg some (by kernel_rfl))
  f303 := Tryz.func187.trans (congrArg some (by kernel_rfl))
  f304 := Tryz.func188.trans (congrArg some (by kernel_rfl))
  f305 := Tryz.func189.trans (congrArg some (by kernel_rfl))
  f306 := Tryz.func190.trans (congrArg some (by kernel_rfl))
  f307 := Tryz.func191.trans (congrArg some (by kernel_rfl))
  f308 := Tryz.func165.trans (congrArg some (by kernel_rfl))
  f309 := Tryz.func192.trans (congrArg some (by kernel_rfl))
  f310 := Tryz.func193.trans (congrArg some (by kernel_rfl))
  f329 := Tryz.func161.trans (congrArg some (by kernel_rfl))
  f330 := Tryz.func162.trans (congrArg some (by kernel_rfl))
  f333 := Tryz.func205.trans (congrArg some (by kernel_rfl))
  f334 := Tryz.func206.trans (congrArg some (by kernel_rfl))
  f335 := Tryz.func207.trans (congrArg some (by kernel_rfl))
  f336 := Tryz.func106.trans (congrArg some (by kernel_rfl))
  f344 := Tryz.func213.trans (congrArg some (by kernel_rfl))
  t0 := Tryz.underlying0
  a0 := Tryz.isAgg0
  z0 := Tryz.sizeOf0
  v0 := Tryz.zeroValue0
  t3 := Tryz.underlying3
  a3 := Tryz.isAgg3
  z3 := Tryz.sizeOf3
  v3 := Tryz.zeroValue3
  t4 := Tryz.underlying4
  a4 := Tryz.isAgg4
  z4 := Tryz.sizeOf4
  v4 := Tryz.zeroValue4
  t5 := Tryz.underlying5
  a5 := Tryz.isAgg5
  z5 := Tryz.sizeOf5
  v5 := Tryz.zeroValue5
  t9 := Tryz.underlying9
  a9 := Tryz.isAgg9
  z9 := Tryz.sizeOf9
  v9 := Tryz.zeroValue9
  t31 := Tryz.underlying29
  a31 := Tryz.isAgg29
  z31 := Tryz.sizeOf29
  v31 := Tryz.zeroValue29
  t46 := Tryz.underlying144
  a46 := Tryz.isAgg144
  z46 := Tryz.sizeOf144
  v46 := Tryz.zeroValue144
  t51 := Tryz.underlying191
  a51 := Tryz.isAgg191
  z51 := Tryz.sizeOf191
  v51 := Tryz.zeroValue191
  t53 := Tryz.underlying141
  a53 := Tryz.isAgg141
  z53 := Tryz.sizeOf141
  v53 := Tryz.zeroValue141
  t131 := Tryz.underlying188
  a131 := Tryz.isAgg188
  z131 := Tryz.sizeOf188
  v131 := Tryz.zeroValue188
  t182 := Tryz.underlying183
  a182 := Tryz.isAgg183
  z182 := Tryz.sizeOf183
  v182 := Tryz.zeroValue183
  t183 := Tryz.underlying184
  a183 := Tryz.isAgg184
  z183 := Tryz.sizeOf184
  v183 := Tryz.zeroValue184
  t218 := Tryz.underlying216
  a218 := Tryz.isAgg216
  z218 := Tryz.sizeOf216
  v218 := Tryz.zeroValue216
  t222 := Tryz.underlying95
  a222 := Tryz.isAgg95
  z222 := Tryz.sizeOf95
  v222 := Tryz.zeroValue95
  t228 := Tryz.underlying235
  a228 := Tryz.isAgg235
  z228 := Tryz.sizeOf235
  v228 := Tryz.zeroValue235
  t229 := Tryz.underlying236
  a229 := Tryz.isAgg236
  z229 := Tryz.sizeOf236
  v229 := Tryz.zeroValue236 }
open Go.Sort Go.RowKit in
theorem Tryz.sort_Strings (blk off cap : Nat) (ss : List (List UInt8)) (w : World) (hH : Holds encStr w blk off ss.toArray) (hblk : blk < w.heap.size) (hsz : ss.length < 4611686018427387904) :
    Calls Tryz.prog 108 #[.slice (some ⟨blk, off, none⟩) ss.length cap] w fun e w' =>
      e = .returned (.tuple #[]) ∧ ∃ n os, w' = grow (putRow encStr (Sort.ahead w n) blk off (ss.mergeSort fun x y => decide (x ≤ y)).toArray) os := Any.sort_Strings Tryz.lays192 blk off cap ss w hH hblk hsz
open Go.RowKit Go.Sort in
/-- .. and plain. (LAID: no walk: one application.) -/
theorem Tryz.sort_Strings_none (p : Option Addr) (cap : Nat) (w : World) :
    Calls Tryz.prog 108 #[.slice p 0 cap] w fun e w' => e = .returned (.tuple #[]) ∧ w' = w := Any.sort_Strings_none Tryz.lays192 p cap w
end Go.Proofs
