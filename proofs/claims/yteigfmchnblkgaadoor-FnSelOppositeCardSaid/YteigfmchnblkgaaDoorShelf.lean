/-
  DERIVED: THE SHELF's CONTRACTS AT THIS DUMP, IN PLAIN WORDS (tools/lay-plain.mjs out of 'TrydTrim.lean', which tools/lay-shelf.mjs wrote): THE SAME DECLARATIONS UNDER THE SAME NAMES: 'import', 'namespace', 'open', 'def', 'theorem' AND NOTHING ELSE: no command of the shelf's: FOR A HAND-IN. Each laying: the table of numbers ('.._ren') and one theorem, a field a fact of the dump's own or the kernel's comparison; each contract: ONE APPLICATION.
-/
import Derived.Shelf.Strconv.Itoa0
import Derived.Shelf.Strconv.Itoa1
import Derived.Shelf.LaysM
import Derived.Shelf.Strconv.Itoa2
import Derived.Shelf.Strconv.Itoa3
import Derived.Shelf.Strconv.ParseIntEmpty
import Derived.Shelf.Strconv.Clone
import Derived.Shelf.Strconv.SyntaxError
import Derived.Shelf.LaysC
import Derived.Shelf.Strconv.ToError
import Derived.Shelf.Strconv.Lower
import Derived.Shelf.Strconv.ParseUint10
import Derived.Shelf.Strconv.ParseUint10Empty
import Derived.Shelf.Strconv.ParseUint10Any
import Derived.Shelf.Strconv.ParseInt10
import Derived.Shelf.Strconv.RangeError
import Derived.Shelf.Strconv.ToErrorRange
import Derived.Shelf.Strconv.ParseUintEmpty
import Derived.Shelf.Strconv.ParseUint10b64
import Derived.Shelf.Strconv.ParseUint10At
import Derived.Shelf.Strconv.ParseInt10At64
import Derived.Shelf.Strconv.ParseInt10All
import Derived.Shelf.Strconv.ParseIntPublic10
import Derived.Test.YteigfmchnblkgaaDoorProg
namespace Go.Proofs
open Go.Shelf
def Tryd.laysM171_ren : Go.Shelf.Ren := ⟨fun | 171 => 43 | 243 => 52 | 246 => 56 | 283 => 60 | 284 => 61 | 285 => 62 | 286 => 63 | 129 => 66 | 317 => 65 | 318 => 67 | 319 => 68 | 320 => 69 | 337 => 70 | 338 => 71 | n => n, fun | 3 => 3 | 9 => 9 | 2 => 2 | 4 => 4 | 171 => 90 | 0 => 0 | 53 => 67 | 37 => 80 | 5 => 5 | 173 => 93 | 212 => 97 | 51 => 98 | 20 => 20 | 213 => 99 | 46 => 70 | 232 => 103 | 233 => 104 | n => n, fun | 17 => 2 | 18 => 3 | 19 => 4 | n => n⟩
theorem Tryd.laysM171 : Go.Proofs.LaysM.n171 Tryd.prog Tryd.laysM171_ren := {
  mixed := by kernel_rfl
  f129 := Tryd.func66.trans (congrArg some (by kernel_rfl))
  f171 := Tryd.func43.trans (congrArg some (by kernel_rfl))
  f243 := Tryd.func52.trans (congrArg some (by kernel_rfl))
  f246 := Tryd.func56.trans (congrArg some (by kernel_rfl))
  f283 := Tryd.func60.trans (congrArg some (by kernel_rfl))
  f284 := Tryd.func61.trans (congrArg some (by kernel_rfl))
  f285 := Tryd.func62.trans (congrArg some (by kernel_rfl))
  f286 := Tryd.func63.trans (congrArg some (by kernel_rfl))
  f317 := Tryd.func65.trans (congrArg some (by kernel_rfl))
  f318 := Tryd.func67.trans (congrArg some (by kernel_rfl))
  f319 := Tryd.func68.trans (congrArg some (by kernel_rfl))
  f320 := Tryd.func69.trans (congrArg some (by kernel_rfl))
  f337 := Tryd.func70.trans (congrArg some (by kernel_rfl))
  f338 := Tryd.func71.trans (congrArg some (by kernel_rfl))
  t0 := Tryd.underlying0
  a0 := Tryd.isAgg0
  z0 := Tryd.sizeOf0
  v0 := Tryd.zeroValue0
  t2 := Tryd.underlying2
  a2 := Tryd.isAgg2
  z2 := Tryd.sizeOf2
  v2 := Tryd.zeroValue2
  t3 := Tryd.underlying3
  a3 := Tryd.isAgg3
  z3 := Tryd.sizeOf3
  v3 := Tryd.zeroValue3
  t4 := Tryd.underlying4
  a4 := Tryd.isAgg4
  z4 := Tryd.sizeOf4
  v4 := Tryd.zeroValue4
  t5 := Tryd.underlying5
  a5 := Tryd.isAgg5
  z5 := Tryd.sizeOf5
  v5 := Tryd.zeroValue5
  t9 := Tryd.underlying9
  a9 := Tryd.isAgg9
  z9 := Tryd.sizeOf9
  v9 := Tryd.zeroValue9
  t20 := Tryd.underlying20
  a20 := Tryd.isAgg20
  z20 := Tryd.sizeOf20
  v20 := Tryd.zeroValue20
  t37 := Tryd.underlying80
  a37 := Tryd.isAgg80
  z37 := Tryd.sizeOf80
  v37 := Tryd.zeroValue80
  t46 := Tryd.underlying70
  a46 := Tryd.isAgg70
  z46 := Tryd.sizeOf70
  v46 := Tryd.zeroValue70
  t51 := Tryd.underlying98
  a51 := Tryd.isAgg98
  z51 := Tryd.sizeOf98
  v51 := Tryd.zeroValue98
  t53 := Tryd.underlying67
  a53 := Tryd.isAgg67
  z53 := Tryd.sizeOf67
  v53 := Tryd.zeroValue67
  t171 := Tryd.underlying90
  a171 := Tryd.isAgg90
  z171 := Tryd.sizeOf90
  v171 := Tryd.zeroValue90
  t173 := Tryd.underlying93
  a173 := Tryd.isAgg93
  z173 := Tryd.sizeOf93
  v173 := Tryd.zeroValue93
  t212 := Tryd.underlying97
  a212 := Tryd.isAgg97
  z212 := Tryd.sizeOf97
  v212 := Tryd.zeroValue97
  t213 := Tryd.underlying99
  a213 := Tryd.isAgg99
  z213 := Tryd.sizeOf99
  t232 := Tryd.underlying103
  a232 := Tryd.isAgg103
  z232 := Tryd.sizeOf103
  v232 := Tryd.zeroValue103
  t233 := Tryd.underlying104
  a233 := Tryd.isAgg104
  z233 := Tryd.sizeOf104
  v233 := Tryd.zeroValue104
  g17 := by kernel_rfl
  g18 := by kernel_rfl
  g19 := by kernel_rfl
  i0 := by kernel_rfl
  i2 := by kernel_rfl
  i3 := by kernel_rfl
  i4 := by kernel_rfl
  i5 := by kernel_rfl
  i9 := by kernel_rfl
  i20 := by kernel_rfl
  i37 := by kernel_rfl
  i46 := by kernel_rfl
  i51 := by kernel_rfl
  i53 := by kernel_rfl
  i171 := by kernel_rfl
  i173 := by kernel_rfl
  i212 := by kernel_rfl
  i232 := by kernel_rfl
  i233 := by kernel_rfl
  m17 := by kernel_rfl
  m18 := by kernel_rfl
  m19 := by kernel_rfl }
def Tryd.lays171_ren : Go.Shelf.Ren := ⟨fun | 171 => 43 | 243 => 52 | 246 => 56 | 283 => 60 | 284 => 61 | 285 => 62 | 286 => 63 | 129 => 66 | 317 => 65 | 318 => 67 | 319 => 68 | 320 => 69 | 337 => 70 | 338 => 71 | n => n, fun | 3 => 3 | 9 => 9 | 2 => 2 | 4 => 4 | 171 => 90 | 0 => 0 | 53 => 67 | 37 => 80 | 5 => 5 | 173 => 93 | 212 => 97 | 51 => 98 | 20 => 20 | 213 => 99 | 46 => 70 | 232 => 103 | 233 => 104 | n => n, fun | 17 => 2 | 18 => 3 | 19 => 4 | n => n⟩
theorem Tryd.lays171 : Go.Proofs.Lays.n171 Tryd.prog Tryd.lays171_ren := {
  mixed := by kernel_rfl
  f129 := Tryd.func66.trans (congrArg some (by kernel_rfl))
  f171 := Tryd.func43.trans (congrArg some (by kernel_rfl))
  f243 := Tryd.func52.trans (congrArg some (by kernel_rfl))
  f246 := Tryd.func56.trans (congrArg some (by kernel_rfl))
  f283 := Tryd.func60.trans (congrArg some (by kernel_rfl))
  f284 := Tryd.func61.trans (congrArg some (by kernel_rfl))
  f285 := Tryd.func62.trans (congrArg some (by kernel_rfl))
  f286 := Tryd.func63.trans (congrArg some (by kernel_rfl))
  f317 := Tryd.func65.trans (congrArg some (by kernel_rfl))
  f318 := Tryd.func67.trans (congrArg some (by kernel_rfl))
  f319 := Tryd.func68.trans (congrArg some (by kernel_rfl))
  f320 := Tryd.func69.trans (congrArg some (by kernel_rfl))
  f337 := Tryd.func70.trans (congrArg some (by kernel_rfl))
  f338 := Tryd.func71.trans (congrArg some (by kernel_rfl))
  t0 := Tryd.underlying0
  a0 := Tryd.isAgg0
  z0 := Tryd.sizeOf0
  v0 := Tryd.zeroValue0
  t2 := Tryd.underlying2
  a2 := Tryd.isAgg2
  z2 := Tryd.sizeOf2
  v2 := Tryd.zeroValue2
  t3 := Tryd.underlying3
  a3 := Tryd.isAgg3
  z3 := Tryd.sizeOf3
  v3 := Tryd.zeroValue3
  t4 := Tryd.underlying4
  a4 := Tryd.isAgg4
  z4 := Tryd.sizeOf4
  v4 := Tryd.zeroValue4
  t5 := Tryd.underlying5
  a5 := Tryd.isAgg5
  z5 := Tryd.sizeOf5
  v5 := Tryd.zeroValue5
  t9 := Tryd.underlying9
  a9 := Tryd.isAgg9
  z9 := Tryd.sizeOf9
  v9 := Tryd.zeroValue9
  t20 := Tryd.underlying20
  a20 := Tryd.isAgg20
  z20 := Tryd.sizeOf20
  v20 := Tryd.zeroValue20
  t37 := Tryd.underlying80
  a37 := Tryd.isAgg80
  z37 := Tryd.sizeOf80
  v37 := Tryd.zeroValue80
  t46 := Tryd.underlying70
  a46 := Tryd.isAgg70
  z46 := Tryd.sizeOf70
  v46 := Tryd.zeroValue70
  t51 := Tryd.underlying98
  a51 := Tryd.isAgg98
  z51 := Tryd.sizeOf98
  v51 := Tryd.zeroValue98
  t53 := Tryd.underlying67
  a53 := Tryd.isAgg67
  z53 := Tryd.sizeOf67
  v53 := Tryd.zeroValue67
  t171 := Tryd.underlying90
  a171 := Tryd.isAgg90
  z171 := Tryd.sizeOf90
  v171 := Tryd.zeroValue90
  t173 := Tryd.underlying93
  a173 := Tryd.isAgg93
  z173 := Tryd.sizeOf93
  v173 := Tryd.zeroValue93
  t212 := Tryd.underlying97
  a212 := Tryd.isAgg97
  z212 := Tryd.sizeOf97
  v212 := Tryd.zeroValue97
  t213 := Tryd.underlying99
  a213 := Tryd.isAgg99
  z213 := Tryd.sizeOf99
  t232 := Tryd.underlying103
  a232 := Tryd.isAgg103
  z232 := Tryd.sizeOf103
  v232 := Tryd.zeroValue103
  t233 := Tryd.underlying104
  a233 := Tryd.isAgg104
  z233 := Tryd.sizeOf104
  v233 := Tryd.zeroValue104
  g17 := by kernel_rfl
  g18 := by kernel_rfl
  g19 := by kernel_rfl }
def Tryd.laysC174_ren : Go.Shelf.Ren := ⟨fun | 174 => 17 | 247 => 22 | 245 => 23 | 287 => 31 | 279 => 32 | 280 => 33 | 281 => 34 | 282 => 35 | 321 => 40 | 322 => 41 | 316 => 42 | 171 => 43 | 205 => 29 | 243 => 52 | 246 => 56 | 283 => 60 | 284 => 61 | 285 => 62 | 286 => 63 | 129 => 66 | 317 => 65 | 318 => 67 | 319 => 68 | 320 => 69 | 337 => 70 | 338 => 71 | n => n, fun | 9 => 9 | 3 => 3 | 2 => 2 | 75 => 48 | 85 => 49 | 4 => 4 | 167 => 66 | 5 => 5 | 53 => 67 | 175 => 68 | 46 => 70 | 168 => 71 | 37 => 80 | 0 => 0 | 210 => 82 | 21 => 21 | 127 => 88 | 145 => 78 | 143 => 76 | 171 => 90 | 173 => 93 | 212 => 97 | 51 => 98 | 20 => 20 | 213 => 99 | 232 => 103 | 233 => 104 | 80 => 85 | n => n, fun | 15 => 0 | 16 => 1 | 17 => 2 | 18 => 3 | 19 => 4 | n => n⟩
theorem Tryd.laysC174 : Go.Proofs.LaysC.n174 Tryd.prog Tryd.laysC174_ren := {
  mixed := by kernel_rfl
  f129 := Tryd.func66.trans (congrArg some (by kernel_rfl))
  f171 := Tryd.func43.trans (congrArg some (by kernel_rfl))
  f174 := Tryd.func17.trans (congrArg some (by kernel_rfl))
  f205 := Tryd.func29.trans (congrArg some (by kernel_rfl))
  f243 := Tryd.func52.trans (congrArg some (by kernel_rfl))
  f245 := Tryd.func23.trans (congrArg some (by kernel_rfl))
  f246 := Tryd.func56.trans (congrArg some (by kernel_rfl))
  f247 := Tryd.func22.trans (congrArg some (by kernel_rfl))
  f279 := Tryd.func32.trans (congrArg some (by kernel_rfl))
  f280 := Tryd.func33.trans (congrArg some (by kernel_rfl))
  f281 := Tryd.func34.trans (congrArg some (by kernel_rfl))
  f282 := Tryd.func35.trans (congrArg some (by kernel_rfl))
  f283 := Tryd.func60.trans (congrArg some (by kernel_rfl))
  f284 := Tryd.func61.trans (congrArg some (by kernel_rfl))
  f285 := Tryd.func62.trans (congrArg some (by kernel_rfl))
  f286 := Tryd.func63.trans (congrArg some (by kernel_rfl))
  f287 := Tryd.func31.trans (congrArg some (by kernel_rfl))
  f316 := Tryd.func42.trans (congrArg some (by kernel_rfl))
  f317 := Tryd.func65.trans (congrArg some (by kernel_rfl))
  f318 := Tryd.func67.trans (congrArg some (by kernel_rfl))
  f319 := Tryd.func68.trans (congrArg some (by kernel_rfl))
  f320 := Tryd.func69.trans (congrArg some (by kernel_rfl))
  f321 := Tryd.func40.trans (congrArg some (by kernel_rfl))
  f322 := Tryd.func41.trans (congrArg some (by kernel_rfl))
  f337 := Tryd.func70.trans (congrArg some (by kernel_rfl))
  f338 := Tryd.func71.trans (congrArg some (by kernel_rfl))
  t0 := Tryd.underlying0
  a0 := Tryd.isAgg0
  z0 := Tryd.sizeOf0
  v0 := Tryd.zeroValue0
  t2 := Tryd.underlying2
  a2 := Tryd.isAgg2
  z2 := Tryd.sizeOf2
  v2 := Tryd.zeroValue2
  t3 := Tryd.underlying3
  a3 := Tryd.isAgg3
  z3 := Tryd.sizeOf3
  v3 := Tryd.zeroValue3
  t4 := Tryd.underlying4
  a4 := Tryd.isAgg4
  z4 := Tryd.sizeOf4
  v4 := Tryd.zeroValue4
  t5 := Tryd.underlying5
  a5 := Tryd.isAgg5
  z5 := Tryd.sizeOf5
  v5 := Tryd.zeroValue5
  t9 := Tryd.underlying9
  a9 := Tryd.isAgg9
  z9 := Tryd.sizeOf9
  v9 := Tryd.zeroValue9
  t20 := Tryd.underlying20
  a20 := Tryd.isAgg20
  z20 := Tryd.sizeOf20
  v20 := Tryd.zeroValue20
  t21 := Tryd.underlying21
  a21 := Tryd.isAgg21
  z21 := Tryd.sizeOf21
  v21 := Tryd.zeroValue21
  t37 := Tryd.underlying80
  a37 := Tryd.isAgg80
  z37 := Tryd.sizeOf80
  v37 := Tryd.zeroValue80
  t46 := Tryd.underlying70
  a46 := Tryd.isAgg70
  z46 := Tryd.sizeOf70
  v46 := Tryd.zeroValue70
  t51 := Tryd.underlying98
  a51 := Tryd.isAgg98
  z51 := Tryd.sizeOf98
  v51 := Tryd.zeroValue98
  t53 := Tryd.underlying67
  a53 := Tryd.isAgg67
  z53 := Tryd.sizeOf67
  v53 := Tryd.zeroValue67
  t75 := Tryd.underlying48
  a75 := Tryd.isAgg48
  z75 := Tryd.sizeOf48
  v75 := Tryd.zeroValue48
  t85 := Tryd.underlying49
  a85 := Tryd.isAgg49
  z85 := Tryd.sizeOf49
  v85 := Tryd.zeroValue49
  t127 := Tryd.underlying88
  a127 := Tryd.isAgg88
  z127 := Tryd.sizeOf88
  v127 := Tryd.zeroValue88
  t143 := Tryd.underlying76
  a143 := Tryd.isAgg76
  z143 := Tryd.sizeOf76
  v143 := Tryd.zeroValue76
  t145 := Tryd.underlying78
  a145 := Tryd.isAgg78
  z145 := Tryd.sizeOf78
  v145 := Tryd.zeroValue78
  t167 := Tryd.underlying66
  a167 := Tryd.isAgg66
  z167 := Tryd.sizeOf66
  v167 := Tryd.zeroValue66
  t168 := Tryd.underlying71
  a168 := Tryd.isAgg71
  z168 := Tryd.sizeOf71
  v168 := Tryd.zeroValue71
  t171 := Tryd.underlying90
  a171 := Tryd.isAgg90
  z171 := Tryd.sizeOf90
  v171 := Tryd.zeroValue90
  t173 := Tryd.underlying93
  a173 := Tryd.isAgg93
  z173 := Tryd.sizeOf93
  v173 := Tryd.zeroValue93
  t175 := Tryd.underlying68
  a175 := Tryd.isAgg68
  z175 := Tryd.sizeOf68
  v175 := Tryd.zeroValue68
  t210 := Tryd.underlying82
  a210 := Tryd.isAgg82
  z210 := Tryd.sizeOf82
  v210 := Tryd.zeroValue82
  t212 := Tryd.underlying97
  a212 := Tryd.isAgg97
  z212 := Tryd.sizeOf97
  v212 := Tryd.zeroValue97
  t213 := Tryd.underlying99
  a213 := Tryd.isAgg99
  z213 := Tryd.sizeOf99
  t232 := Tryd.underlying103
  a232 := Tryd.isAgg103
  z232 := Tryd.sizeOf103
  v232 := Tryd.zeroValue103
  t233 := Tryd.underlying104
  a233 := Tryd.isAgg104
  z233 := Tryd.sizeOf104
  v233 := Tryd.zeroValue104
  g15 := by kernel_rfl
  g16 := by kernel_rfl
  g17 := by kernel_rfl
  g18 := by kernel_rfl
  g19 := by kernel_rfl
  t80 := Tryd.underlying85
  a80 := Tryd.isAgg85
  z80 := Tryd.sizeOf85
  v80 := Tryd.zeroValue85
  i0 := by kernel_rfl
  i2 := by kernel_rfl
  i3 := by kernel_rfl
  i4 := by kernel_rfl
  i5 := by kernel_rfl
  i9 := by kernel_rfl
  i20 := by kernel_rfl
  i21 := by kernel_rfl
  i37 := by kernel_rfl
  i46 := by kernel_rfl
  i51 := by kernel_rfl
  i53 := by kernel_rfl
  i75 := by kernel_rfl
  i80 := by kernel_rfl
  i85 := by kernel_rfl
  i127 := by kernel_rfl
  i143 := by kernel_rfl
  i145 := by kernel_rfl
  i167 := by kernel_rfl
  i168 := by kernel_rfl
  i171 := by kernel_rfl
  i173 := by kernel_rfl
  i175 := by kernel_rfl
  i210 := by kernel_rfl
  i212 := by kernel_rfl
  i232 := by kernel_rfl
  i233 := by kernel_rfl
  m15 := by kernel_rfl
  m16 := by kernel_rfl
  m17 := by kernel_rfl
  m18 := by kernel_rfl
  m19 := by kernel_rfl
  c0 := by kernel_rfl
  c2 := by kernel_rfl
  c3 := by kernel_rfl
  c4 := by kernel_rfl
  c5 := by kernel_rfl
  c9 := by kernel_rfl
  c20 := by kernel_rfl
  c21 := by kernel_rfl
  c37 := by kernel_rfl
  c46 := by kernel_rfl
  c51 := by kernel_rfl
  c53 := by kernel_rfl
  c75 := by kernel_rfl
  c80 := by kernel_rfl
  c85 := by kernel_rfl
  c127 := by kernel_rfl
  c143 := by kernel_rfl
  c145 := by kernel_rfl
  c167 := by kernel_rfl
  c168 := by kernel_rfl
  c171 := by kernel_rfl
  c173 := by kernel_rfl
  c175 := by kernel_rfl
  c210 := by kernel_rfl
  c212 := by kernel_rfl
  c213 := by kernel_rfl
  c232 := by kernel_rfl
  c233 := by kernel_rfl }
open Go.RowKit Go.Sort Go.Lib in
/-- strconv.Itoa: "Itoa is equivalent to FormatInt(int64(i), 10).": i's DECIMAL NUMERAL ('Lib.itoa': a '-' where i is negative, then the digits), FOR EVERY int. The world behind the call: the world before it, new blocks behind the heap (the library's 'var a [24]byte'), draws. (LAID: no walk: one application.) -/
theorem Tryd.strconv_Itoa (n : Int) (h0 : -9223372036854775808 ≤ n) (h1 : n ≤ 9223372036854775807) (w : World) (htab : Lib.TabIs Tryd.prog w "internal/strconv.uint64pow10" .u64 Lib.pow10Tab) :
    Calls Tryd.prog 43 #[.int .i64 n] w fun e w' => e = .returned (.string ⟨(Lib.itoa n).toArray⟩) ∧ ∃ k os, w' = grow (w.drewN k) os := Any.strconv_Itoa Tryd.laysM171 n h0 h1 w htab
open Go.RowKit Go.Sort Go.Lib in
/-- THE ROAD WITHOUT THE TABLE: 0 <= i < 100: NO PREMISE ON THE WORLD, AND THE WORLD IS AS IT WAS: a row that keeps its argument in that range need list no table ('laid = []'). (LAID: no walk: one application.) -/
theorem Tryd.strconv_Itoa_small (i : Nat) (hi : i < 100) (w : World) :
    Calls Tryd.prog 43 #[.int .i64 i] w fun e w' => e = .returned (.string ⟨(Lib.decDigits i).toArray⟩) ∧ w' = w := Any.strconv_Itoa_small Tryd.lays171 i hi w
open Go.RowKit in
/-- strconv.ParseInt(s, 10, 64), AT EVERY STRING THAT SPELLS AN int64 ('Lib.parseIntB 64 s.data.toList = .ok v'): v, AND NO ERROR. (LAID: no walk: one application.) -/
theorem Tryd.strconv_ParseInt_10_at64_ok (s : ByteArray) (hmax : s.size ≤ 9223372036854775806) (v : Int) (h : Lib.parseIntB 64 s.data.toList = .ok v) (w : World) :
    Calls Tryd.prog 17 #[.string s, .int .i64 10, .int .i64 64] w fun e w' => e = .returned (.tuple #[.int .i64 v, .nilIface]) ∧ (w' = w ∨ ∃ t, w' = Lib.bytesWorld w 5 t) := Any.strconv_ParseInt_10_at64_ok Tryd.laysC174 s hmax v h w
open Go.RowKit in
/-- strconv.ParseInt(s, 10, 64), AT EVERY NUMERAL THAT NO int64 HOLDS: THE GREATEST OR THE LEAST int64, BY THE SIGN ('Lib.intSat 64'), AND AN ERROR THAT IS NOT nil: a *NumError in a new block N: {Func: "ParseInt", Num: s's bytes, Err: what the variable ErrRange holds}. Of what was there nothing has turned. (LAID: no walk: one application.) -/
theorem Tryd.strconv_ParseInt_10_at64_range (s : ByteArray) (hlim : s.size ≤ 281474976710656) (h : Lib.parseIntB 64 s.data.toList = .range) (ev : Value) (w : World) (hv : w.cell? ⟨1, 0, none⟩ = some ev) (hev : ev = .nilIface ∨ ∃ te pe, ev = .iface te pe) :
    Calls Tryd.prog 17 #[.string s, .int .i64 10, .int .i64 64] w fun e w' => ∃ N, e = .returned (.tuple #[.int .i64 (Lib.intSat 64 s.data.toList), .iface 71 (.pointer (some ⟨N, 0, none⟩))]) ∧ w.heap.size ≤ N ∧ w'.heap[N]? = some (.cells #[.string ⟨#[80, 97, 114, 115, 101, 73, 110, 116]⟩, .string s, ev] 82 (0, 0)) ∧ Below w.heap.size w w' := Any.strconv_ParseInt_10_at64_range Tryd.laysC174 s hlim h ev w hv hev
end Go.Proofs
