/-
  DERIVED: THE SHELF's CONTRACTS AT THIS DUMP, IN PLAIN WORDS (tools/lay-plain.mjs out of 'TryzTrim.lean', which tools/lay-shelf.mjs wrote): THE SAME DECLARATIONS UNDER THE SAME NAMES: 'import', 'namespace', 'open', 'def', 'theorem' AND NOTHING ELSE: no command of the shelf's: FOR A HAND-IN. Each laying: the table of numbers ('.._ren') and one theorem, a field a fact of the dump's own or the kernel's comparison; each contract: ONE APPLICATION.
-/
import Derived.Shelf.Small.Utf8
import Derived.Shelf.Small.Bits
import Derived.Shelf.Strconv.Itoa0
import Derived.Shelf.Strconv.Itoa1
import Derived.Shelf.LaysM
import Derived.Shelf.Strconv.Itoa2
import Derived.Shelf.Strconv.Itoa3
import Derived.Shelf.Strconv.ParseIntEmpty
import Derived.Shelf.Strconv.Clone
import Derived.Shelf.Strconv.SyntaxError
import Derived.Shelf.LaysC
import Derived.Shelf.Strconv.ToError
import Derived.Shelf.Strconv.Lower
import Derived.Shelf.Strconv.ParseUint10
import Derived.Shelf.Strconv.ParseUint10Empty
import Derived.Shelf.Strconv.ParseUint10Any
import Derived.Shelf.Strconv.ParseInt10
import Derived.Shelf.Strconv.RangeError
import Derived.Shelf.Strconv.ToErrorRange
import Derived.Shelf.Strconv.ParseUintEmpty
import Derived.Shelf.Strconv.ParseUint10b64
import Derived.Shelf.Strconv.ParseUint10At
import Derived.Shelf.Strconv.ParseInt10At64
import Derived.Shelf.Strconv.ParseInt10All
import Derived.Shelf.Strconv.ParseIntPublic10
import Derived.Ground.GgtProg
import Derived.Shelf.GgSortMore.Iface
import Derived.Shelf.GgSortMore.IfaceD
import Derived.Shelf.GgSortMore.IfacePart
import Derived.Shelf.GgSortMore.IfacePdq
import Derived.Shelf.GgSortMore.SortSort
import Derived.Shelf.Unicode.Decode
import Derived.Shelf.Unicode.DecodeSlow
import Derived.Shelf.Unicode.DecodeAny
import Derived.Shelf.Unicode.DecodeLast
import Derived.Ground.GgsProg
import Derived.Shelf.SlSortFunc.Xorshift
import Derived.Shelf.SlSortIface.SiftDown
import Derived.Shelf.SlSortIface.HeapSort
import Derived.Shelf.SlSortIface.PartialInsertion
import Derived.Test.YteigfmchnblkgaaGreatDoorProg
namespace Go.Proofs
open Go.Shelf
def Tryz.lays125_ren : Go.Shelf.Ren := ⟨fun | 125 => 105 | 128 => 131 | 129 => 132 | n => n, fun | 46 => 144 | 3 => 3 | 51 => 191 | 53 => 141 | 4 => 4 | 5 => 5 | 9 => 9 | n => n, fun | n => n⟩
theorem Tryz.lays125 : Go.Proofs.Lays.n125 Tryz.prog Tryz.lays125_ren := {
  mixed := by kernel_rfl
  f125 := Tryz.func105.trans (congrArg some (by kernel_rfl))
  f128 := Tryz.func131.trans (congrArg some (by kernel_rfl))
  f129 := Tryz.func132.trans (congrArg some (by kernel_rfl))
  t3 := Tryz.underlying3
  a3 := Tryz.isAgg3
  z3 := Tryz.sizeOf3
  v3 := Tryz.zeroValue3
  t4 := Tryz.underlying4
  a4 := Tryz.isAgg4
  z4 := Tryz.sizeOf4
  v4 := Tryz.zeroValue4
  t5 := Tryz.underlying5
  a5 := Tryz.isAgg5
  z5 := Tryz.sizeOf5
  v5 := Tryz.zeroValue5
  t9 := Tryz.underlying9
  a9 := Tryz.isAgg9
  z9 := Tryz.sizeOf9
  v9 := Tryz.zeroValue9
  t46 := Tryz.underlying144
  a46 := Tryz.isAgg144
  z46 := Tryz.sizeOf144
  v46 := Tryz.zeroValue144
  t51 := Tryz.underlying191
  a51 := Tryz.isAgg191
  z51 := Tryz.sizeOf191
  v51 := Tryz.zeroValue191
  t53 := Tryz.underlying141
  a53 := Tryz.isAgg141
  z53 := Tryz.sizeOf141
  v53 := Tryz.zeroValue141 }
def Tryz.laysM171_ren : Go.Shelf.Ren := ⟨fun | 171 => 117 | 243 => 145 | 246 => 170 | 283 => 197 | 284 => 198 | 285 => 199 | 286 => 200 | 129 => 132 | 317 => 209 | 318 => 210 | 319 => 211 | 320 => 212 | 337 => 214 | 338 => 215 | n => n, fun | 3 => 3 | 9 => 9 | 2 => 2 | 4 => 4 | 171 => 243 | 0 => 0 | 53 => 141 | 37 => 37 | 5 => 5 | 173 => 245 | 212 => 256 | 51 => 191 | 20 => 20 | 213 => 257 | 46 => 144 | 232 => 260 | 233 => 261 | n => n, fun | 17 => 4 | 18 => 5 | 19 => 6 | n => n⟩
theorem Tryz.laysM171 : Go.Proofs.LaysM.n171 Tryz.prog Tryz.laysM171_ren := {
  mixed := by kernel_rfl
  f129 := Tryz.func132.trans (congrArg some (by kernel_rfl))
  f171 := Tryz.func117.trans (congrArg some (by kernel_rfl))
  f243 := Tryz.func145.trans (congrArg some (by kernel_rfl))
  f246 := Tryz.func170.trans (congrArg some (by kernel_rfl))
  f283 := Tryz.func197.trans (congrArg some (by kernel_rfl))
  f284 := Tryz.func198.trans (congrArg some (by kernel_rfl))
  f285 := Tryz.func199.trans (congrArg some (by kernel_rfl))
  f286 := Tryz.func200.trans (congrArg some (by kernel_rfl))
  f317 := Tryz.func209.trans (congrArg some (by kernel_rfl))
  f318 := Tryz.func210.trans (congrArg some (by kernel_rfl))
  f319 := Tryz.func211.trans (congrArg some (by kernel_rfl))
  f320 := Tryz.func212.trans (congrArg some (by kernel_rfl))
  f337 := Tryz.func214.trans (congrArg some (by kernel_rfl))
  f338 := Tryz.func215.trans (congrArg some (by kernel_rfl))
  t0 := Tryz.underlying0
  a0 := Tryz.isAgg0
  z0 := Tryz.sizeOf0
  v0 := Tryz.zeroValue0
  t2 := Tryz.underlying2
  a2 := Tryz.isAgg2
  z2 := Tryz.sizeOf2
  v2 := Tryz.zeroValue2
  t3 := Tryz.underlying3
  a3 := Tryz.isAgg3
  z3 := Tryz.sizeOf3
  v3 := Tryz.zeroValue3
  t4 := Tryz.underlying4
  a4 := Tryz.isAgg4
  z4 := Tryz.sizeOf4
  v4 := Tryz.zeroValue4
  t5 := Tryz.underlying5
  a5 := Tryz.isAgg5
  z5 := Tryz.sizeOf5
  v5 := Tryz.zeroValue5
  t9 := Tryz.underlying9
  a9 := Tryz.isAgg9
  z9 := Tryz.sizeOf9
  v9 := Tryz.zeroValue9
  t20 := Tryz.underlying20
  a20 := Tryz.isAgg20
  z20 := Tryz.sizeOf20
  v20 := Tryz.zeroValue20
  t37 := Tryz.underlying37
  a37 := Tryz.isAgg37
  z37 := Tryz.sizeOf37
  v37 := Tryz.zeroValue37
  t46 := Tryz.underlying144
  a46 := Tryz.isAgg144
  z46 := Tryz.sizeOf144
  v46 := Tryz.zeroValue144
  t51 := Tryz.underlying191
  a51 := Tryz.isAgg191
  z51 := Tryz.sizeOf191
  v51 := Tryz.zeroValue191
  t53 := Tryz.underlying141
  a53 := Tryz.isAgg141
  z53 := Tryz.sizeOf141
  v53 := Tryz.zeroValue141
  t171 := Tryz.underlying243
  a171 := Tryz.isAgg243
  z171 := Tryz.sizeOf243
  v171 := Tryz.zeroValue243
  t173 := Tryz.underlying245
  a173 := Tryz.isAgg245
  z173 := Tryz.sizeOf245
  v173 := Tryz.zeroValue245
  t212 := Tryz.underlying256
  a212 := Tryz.isAgg256
  z212 := Tryz.sizeOf256
  v212 := Tryz.zeroValue256
  t213 := Tryz.underlying257
  a213 := Tryz.isAgg257
  z213 := Tryz.sizeOf257
  t232 := Tryz.underlying260
  a232 := Tryz.isAgg260
  z232 := Tryz.sizeOf260
  v232 := Tryz.zeroValue260
  t233 := Tryz.underlying261
  a233 := Tryz.isAgg261
  z233 := Tryz.sizeOf261
  v233 := Tryz.zeroValue261
  g17 := by kernel_rfl
  g18 := by kernel_rfl
  g19 := by kernel_rfl
  i0 := by kernel_rfl
  i2 := by kernel_rfl
  i3 := by kernel_rfl
  i4 := by kernel_rfl
  i5 := by kernel_rfl
  i9 := by kernel_rfl
  i20 := by kernel_rfl
  i37 := by kernel_rfl
  i46 := by kernel_rfl
  i51 := by kernel_rfl
  i53 := by kernel_rfl
  i171 := by kernel_rfl
  i173 := by kernel_rfl
  i212 := by kernel_rfl
  i232 := by kernel_rfl
  i233 := by kernel_rfl
  m17 := by kernel_rfl
  m18 := by kernel_rfl
  m19 := by kernel_rfl }
def Tryz.lays171_ren : Go.Shelf.Ren := ⟨fun | 171 => 117 | 243 => 145 | 246 => 170 | 283 => 197 | 284 => 198 | 285 => 199 | 286 => 200 | 129 => 132 | 317 => 209 | 318 => 210 | 319 => 211 | 320 => 212 | 337 => 214 | 338 => 215 | n => n, fun | 3 => 3 | 9 => 9 | 2 => 2 | 4 => 4 | 171 => 243 | 0 => 0 | 53 => 141 | 37 => 37 | 5 => 5 | 173 => 245 | 212 => 256 | 51 => 191 | 20 => 20 | 213 => 257 | 46 => 144 | 232 => 260 | 233 => 261 | n => n, fun | 17 => 4 | 18 => 5 | 19 => 6 | n => n⟩
theorem Tryz.lays171 : Go.Proofs.Lays.n171 Tryz.prog Tryz.lays171_ren := {
  mixed := by kernel_rfl
  f129 := Tryz.func132.trans (congrArg some (by kernel_rfl))
  f171 := Tryz.func117.trans (congrArg some (by kernel_rfl))
  f243 := Tryz.func145.trans (congrArg some (by kernel_rfl))
  f246 := Tryz.func170.trans (congrArg some (by kernel_rfl))
  f283 := Tryz.func197.trans (congrArg some (by kernel_rfl))
  f284 := Tryz.func198.trans (congrArg some (by kernel_rfl))
  f285 := Tryz.func199.trans (congrArg some (by kernel_rfl))
  f286 := Tryz.func200.trans (congrArg some (by kernel_rfl))
  f317 := Tryz.func209.trans (congrArg some (by kernel_rfl))
  f318 := Tryz.func210.trans (congrArg some (by kernel_rfl))
  f319 := Tryz.func211.trans (congrArg some (by kernel_rfl))
  f320 := Tryz.func212.trans (congrArg some (by kernel_rfl))
  f337 := Tryz.func214.trans (congrArg some (by kernel_rfl))
  f338 := Tryz.func215.trans (congrArg some (by kernel_rfl))
  t0 := Tryz.underlying0
  a0 := Tryz.isAgg0
  z0 := Tryz.sizeOf0
  v0 := Tryz.zeroValue0
  t2 := Tryz.underlying2
  a2 := Tryz.isAgg2
  z2 := Tryz.sizeOf2
  v2 := Tryz.zeroValue2
  t3 := Tryz.underlying3
  a3 := Tryz.isAgg3
  z3 := Tryz.sizeOf3
  v3 := Tryz.zeroValue3
  t4 := Tryz.underlying4
  a4 := Tryz.isAgg4
  z4 := Tryz.sizeOf4
  v4 := Tryz.zeroValue4
  t5 := Tryz.underlying5
  a5 := Tryz.isAgg5
  z5 := Tryz.sizeOf5
  v5 := Tryz.zeroValue5
  t9 := Tryz.underlying9
  a9 := Tryz.isAgg9
  z9 := Tryz.sizeOf9
  v9 := Tryz.zeroValue9
  t20 := Tryz.underlying20
  a20 := Tryz.isAgg20
  z20 := Tryz.sizeOf20
  v20 := Tryz.zeroValue20
  t37 := Tryz.underlying37
  a37 := Tryz.isAgg37
  z37 := Tryz.sizeOf37
  v37 := Tryz.zeroValue37
  t46 := Tryz.underlying144
  a46 := Tryz.isAgg144
  z46 := Tryz.sizeOf144
  v46 := Tryz.zeroValue144
  t51 := Tryz.underlying191
  a51 := Tryz.isAgg191
  z51 := Tryz.sizeOf191
  v51 := Tryz.zeroValue191
  t53 := Tryz.underlying141
  a53 := Tryz.isAgg141
  z53 := Tryz.sizeOf141
  v53 := Tryz.zeroValue141
  t171 := Tryz.underlying243
  a171 := Tryz.isAgg243
  z171 := Tryz.sizeOf243
  v171 := Tryz.zeroValue243
  t173 := Tryz.underlying245
  a173 := Tryz.isAgg245
  z173 := Tryz.sizeOf245
  v173 := Tryz.zeroValue245
  t212 := Tryz.underlying256
  a212 := Tryz.isAgg256
  z212 := Tryz.sizeOf256
  v212 := Tryz.zeroValue256
  t213 := Tryz.underlying257
  a213 := Tryz.isAgg257
  z213 := Tryz.sizeOf257
  t232 := Tryz.underlying260
  a232 := Tryz.isAgg260
  z232 := Tryz.sizeOf260
  v232 := Tryz.zeroValue260
  t233 := Tryz.underlying261
  a233 := Tryz.isAgg261
  z233 := Tryz.sizeOf261
  v233 := Tryz.zeroValue261
  g17 := by kernel_rfl
  g18 := by kernel_rfl
  g19 := by kernel_rfl }
def Tryz.laysC174_ren : Go.Shelf.Ren := ⟨fun | 174 => 50 | 247 => 78 | 245 => 79 | 287 => 97 | 279 => 98 | 280 => 99 | 281 => 100 | 282 => 101 | 321 => 114 | 322 => 115 | 316 => 116 | 171 => 117 | 205 => 93 | 243 => 145 | 246 => 170 | 283 => 197 | 284 => 198 | 285 => 199 | 286 => 200 | 129 => 132 | 317 => 209 | 318 => 210 | 319 => 211 | 320 => 212 | 337 => 214 | 338 => 215 | n => n, fun | 9 => 9 | 3 => 3 | 2 => 2 | 75 => 83 | 85 => 84 | 4 => 4 | 167 => 140 | 5 => 5 | 53 => 141 | 175 => 142 | 46 => 144 | 168 => 145 | 37 => 37 | 0 => 0 | 210 => 171 | 21 => 21 | 127 => 195 | 145 => 164 | 143 => 162 | 171 => 243 | 173 => 245 | 212 => 256 | 51 => 191 | 20 => 20 | 213 => 257 | 232 => 260 | 233 => 261 | 80 => 96 | n => n, fun | 15 => 0 | 16 => 1 | 17 => 4 | 18 => 5 | 19 => 6 | n => n⟩
theorem Tryz.laysC174 : Go.Proofs.LaysC.n174 Tryz.prog Tryz.laysC174_ren := {
  mixed := by kernel_rfl
  f129 := Tryz.func132.trans (congrArg some (by kernel_rfl))
  f171 := Tryz.func117.trans (congrArg some (by kernel_rfl))
  f174 := Tryz.func50.trans (congrArg some (by kernel_rfl))
  f205 := Tryz.func93.trans (congrArg some (by kernel_rfl))
  f243 := Tryz.func145.trans (congrArg some (by kernel_rfl))
  f245 := Tryz.func79.trans (congrArg some (by kernel_rfl))
  f246 := Tryz.func170.trans (congrArg some (by kernel_rfl))
  f247 := Tryz.func78.trans (congrArg some (by kernel_rfl))
  f279 := Tryz.func98.trans (congrArg some (by kernel_rfl))
  f280 := Tryz.func99.trans (congrArg some (by kernel_rfl))
  f281 := Tryz.func100.trans (congrArg some (by kernel_rfl))
  f282 := Tryz.func101.trans (congrArg some (by kernel_rfl))
  f283 := Tryz.func197.trans (congrArg some (by kernel_rfl))
  f284 := Tryz.func198.trans (congrArg some (by kernel_rfl))
  f285 := Tryz.func199.trans (congrArg some (by kernel_rfl))
  f286 := Tryz.func200.trans (congrArg some (by kernel_rfl))
  f287 := Tryz.func97.trans (congrArg some (by kernel_rfl))
  f316 := Tryz.func116.trans (congrArg some (by kernel_rfl))
  f317 := Tryz.func209.trans (congrArg some (by kernel_rfl))
  f318 := Tryz.func210.trans (congrArg some (by kernel_rfl))
  f319 := Tryz.func211.trans (congrArg some (by kernel_rfl))
  f320 := Tryz.func212.trans (congrArg some (by kernel_rfl))
  f321 := Tryz.func114.trans (congrArg some (by kernel_rfl))
  f322 := Tryz.func115.trans (congrArg some (by kernel_rfl))
  f337 := Tryz.func214.trans (congrArg some (by kernel_rfl))
  f338 := Tryz.func215.trans (congrArg some (by kernel_rfl))
  t0 := Tryz.underlying0
  a0 := Tryz.isAgg0
  z0 := Tryz.sizeOf0
  v0 := Tryz.zeroValue0
  t2 := Tryz.underlying2
  a2 := Tryz.isAgg2
  z2 := Tryz.sizeOf2
  v2 := Tryz.zeroValue2
  t3 := Tryz.underlying3
  a3 := Tryz.isAgg3
  z3 := Tryz.sizeOf3
  v3 := Tryz.zeroValue3
  t4 := Tryz.underlying4
  a4 := Tryz.isAgg4
  z4 := Tryz.sizeOf4
  v4 := Tryz.zeroValue4
  t5 := Tryz.underlying5
  a5 := Tryz.isAgg5
  z5 := Tryz.sizeOf5
  v5 := Tryz.zeroValue5
  t9 := Tryz.underlying9
  a9 := Tryz.isAgg9
  z9 := Tryz.sizeOf9
  v9 := Tryz.zeroValue9
  t20 := Tryz.underlying20
  a20 := Tryz.isAgg20
  z20 := Tryz.sizeOf20
  v20 := Tryz.zeroValue20
  t21 := Tryz.underlying21
  a21 := Tryz.isAgg21
  z21 := Tryz.sizeOf21
  v21 := Tryz.zeroValue21
  t37 := Tryz.underlying37
  a37 := Tryz.isAgg37
  z37 := Tryz.sizeOf37
  v37 := Tryz.zeroValue37
  t46 := Tryz.underlying144
  a46 := Tryz.isAgg144
  z46 := Tryz.sizeOf144
  v46 := Tryz.zeroValue144
  t51 := Tryz.underlying191
  a51 := Tryz.isAgg191
  z51 := Tryz.sizeOf191
  v51 := Tryz.zeroValue191
  t53 := Tryz.underlying141
  a53 := Tryz.isAgg141
  z53 := Tryz.sizeOf141
  v53 := Tryz.zeroValue141
  t75 := Tryz.underlying83
  a75 := Tryz.isAgg83
  z75 := Tryz.sizeOf83
  v75 := Tryz.zeroValue83
  t85 := Tryz.underlying84
  a85 := Tryz.isAgg84
  z85 := Tryz.sizeOf84
  v85 := Tryz.zeroValue84
  t127 := Tryz.underlying195
  a127 := Tryz.isAgg195
  z127 := Tryz.sizeOf195
  v127 := Tryz.zeroValue195
  t143 := Tryz.underlying162
  a143 := Tryz.isAgg162
  z143 := Tryz.sizeOf162
  v143 := Tryz.zeroValue162
  t145 := Tryz.underlying164
  a145 := Tryz.isAgg164
  z145 := Tryz.sizeOf164
  v145 := Tryz.zeroValue164
  t167 := Tryz.underlying140
  a167 := Tryz.isAgg140
  z167 := Tryz.sizeOf140
  v167 := Tryz.zeroValue140
  t168 := Tryz.underlying145
  a168 := Tryz.isAgg145
  z168 := Tryz.sizeOf145
  v168 := Tryz.zeroValue145
  t171 := Tryz.underlying243
  a171 := Tryz.isAgg243
  z171 := Tryz.sizeOf243
  v171 := Tryz.zeroValue243
  t173 := Tryz.underlying245
  a173 := Tryz.isAgg245
  z173 := Tryz.sizeOf245
  v173 := Tryz.zeroValue245
  t175 := Tryz.underlying142
  a175 := Tryz.isAgg142
  z175 := Tryz.sizeOf142
  v175 := Tryz.zeroValue142
  t210 := Tryz.underlying171
  a210 := Tryz.isAgg171
  z210 := Tryz.sizeOf171
  v210 := Tryz.zeroValue171
  t212 := Tryz.underlying256
  a212 := Tryz.isAgg256
  z212 := Tryz.sizeOf256
  v212 := Tryz.zeroValue256
  t213 := Tryz.underlying257
  a213 := Tryz.isAgg257
  z213 := Tryz.sizeOf257
  t232 := Tryz.underlying260
  a232 := Tryz.isAgg260
  z232 := Tryz.sizeOf260
  v232 := Tryz.zeroValue260
  t233 := Tryz.underlying261
  a233 := Tryz.isAgg261
  z233 := Tryz.sizeOf261
  v233 := Tryz.zeroValue261
  g15 := by kernel_rfl
  g16 := by kernel_rfl
  g17 := by kernel_rfl
  g18 := by kernel_rfl
  g19 := by kernel_rfl
  t80 := Tryz.underlying96
  a80 := Tryz.isAgg96
  z80 := Tryz.sizeOf96
  v80 := Tryz.zeroValue96
  i0 := by kernel_rfl
  i2 := by kernel_rfl
  i3 := by kernel_rfl
  i4 := by kernel_rfl
  i5 := by kernel_rfl
  i9 := by kernel_rfl
  i20 := by kernel_rfl
  i21 := by kernel_rfl
  i37 := by kernel_rfl
  i46 := by kernel_rfl
  i51 := by kernel_rfl
  i53 := by kernel_rfl
  i75 := by kernel_rfl
  i80 := by kernel_rfl
  i85 := by kernel_rfl
  i127 := by kernel_rfl
  i143 := by kernel_rfl
  i145 := by kernel_rfl
  i167 := by kernel_rfl
  i168 := by kernel_rfl
  i171 := by kernel_rfl
  i173 := by kernel_rfl
  i175 := by kernel_rfl
  i210 := by kernel_rfl
  i212 := by kernel_rfl
  i232 := by kernel_rfl
  i233 := by kernel_rfl
  m15 := by kernel_rfl
  m16 := by kernel_rfl
  m17 := by kernel_rfl
  m18 := by kernel_rfl
  m19 := by kernel_rfl
  c0 := by kernel_rfl
  c2 := by kernel_rfl
  c3 := by kernel_rfl
  c4 := by kernel_rfl
  c5 := by kernel_rfl
  c9 := by kernel_rfl
  c20 := by kernel_rfl
  c21 := by kernel_rfl
  c37 := by kernel_rfl
  c46 := by kernel_rfl
  c51 := by kernel_rfl
  c53 := by kernel_rfl
  c75 := by kernel_rfl
  c80 := by kernel_rfl
  c85 := by kernel_rfl
  c127 := by kernel_rfl
  c143 := by kernel_rfl
  c145 := by kernel_rfl
  c167 := by kernel_rfl
  c168 := by kernel_rfl
  c171 := by kernel_rfl
  c173 := by kernel_rfl
  c175 := by kernel_rfl
  c210 := by kernel_rfl
  c212 := by kernel_rfl
  c213 := by kernel_rfl
  c232 := by kernel_rfl
  c233 := by kernel_rfl }
def Tryz.laysGt11_ren : Go.Shelf.Ren := ⟨fun | 11 => 103 | 17 => 105 | 18 => 122 | 31 => 131 | 32 => 132 | 33 => 152 | 34 => 153 | 35 => 154 | 36 => 155 | 37 => 156 | 38 => 157 | 39 => 158 | 40 => 159 | 43 => 180 | 44 => 181 | 45 => 182 | 46 => 183 | 47 => 184 | 50 => 204 | n => n, fun | 45 => 179 | 3 => 3 | 4 => 4 | 47 => 144 | 0 => 0 | 56 => 191 | 58 => 141 | 61 => 210 | 60 => 209 | 65 => 188 | 5 => 5 | 9 => 9 | 67 => 232 | 71 => 95 | 73 => 251 | 74 => 236 | 43 => 180 | 26 => 213 | 38 => 231 | n => n, fun | n => n⟩
theorem Tryz.laysGt11 : Go.Proofs.LaysGt.n11 Tryz.prog Tryz.laysGt11_ren := {
  mixed := by kernel_rfl
  f11 := Tryz.func103.trans (congrArg some (by kernel_rfl))
  f17 := Tryz.func105.trans (congrArg some (by kernel_rfl))
  f18 := Tryz.func122.trans (congrArg some (by kernel_rfl))
  f31 := Tryz.func131.trans (congrArg some (by kernel_rfl))
  f32 := Tryz.func132.trans (congrArg some (by kernel_rfl))
  f33 := Tryz.func152.trans (congrArg some (by kernel_rfl))
  f34 := Tryz.func153.trans (congrArg some (by kernel_rfl))
  f35 := Tryz.func154.trans (congrArg some (by kernel_rfl))
  f36 := Tryz.func155.trans (congrArg some (by kernel_rfl))
  f37 := Tryz.func156.trans (congrArg some (by kernel_rfl))
  f38 := Tryz.func157.trans (congrArg some (by kernel_rfl))
  f39 := Tryz.func158.trans (congrArg some (by kernel_rfl))
  f40 := Tryz.func159.trans (congrArg some (by kernel_rfl))
  f43 := Tryz.func180.trans (congrArg some (by kernel_rfl))
  f44 := Tryz.func181.trans (congrArg some (by kernel_rfl))
  f45 := Tryz.func182.trans (congrArg some (by kernel_rfl))
  f46 := Tryz.func183.trans (congrArg some (by kernel_rfl))
  f47 := Tryz.func184.trans (congrArg some (by kernel_rfl))
  f50 := Tryz.func204.trans (congrArg some (by kernel_rfl))
  t0 := Tryz.underlying0
  a0 := Tryz.isAgg0
  z0 := Tryz.sizeOf0
  v0 := Tryz.zeroValue0
  i0 := by kernel_rfl
  t3 := Tryz.underlying3
  a3 := Tryz.isAgg3
  z3 := Tryz.sizeOf3
  v3 := Tryz.zeroValue3
  i3 := by kernel_rfl
  t4 := Tryz.underlying4
  a4 := Tryz.isAgg4
  z4 := Tryz.sizeOf4
  v4 := Tryz.zeroValue4
  i4 := by kernel_rfl
  t5 := Tryz.underlying5
  a5 := Tryz.isAgg5
  z5 := Tryz.sizeOf5
  v5 := Tryz.zeroValue5
  i5 := by kernel_rfl
  t9 := Tryz.underlying9
  a9 := Tryz.isAgg9
  z9 := Tryz.sizeOf9
  v9 := Tryz.zeroValue9
  i9 := by kernel_rfl
  t26 := Tryz.underlying213
  a26 := Tryz.isAgg213
  z26 := Tryz.sizeOf213
  v26 := Tryz.zeroValue213
  i26 := by kernel_rfl
  t38 := Tryz.underlying231
  a38 := Tryz.isAgg231
  z38 := Tryz.sizeOf231
  v38 := Tryz.zeroValue231
  i38 := by kernel_rfl
  t43 := Tryz.underlying180
  a43 := Tryz.isAgg180
  z43 := Tryz.sizeOf180
  v43 := Tryz.zeroValue180
  i43 := by kernel_rfl
  t45 := Tryz.underlying179
  a45 := Tryz.isAgg179
  z45 := Tryz.sizeOf179
  v45 := Tryz.zeroValue179
  i45 := by kernel_rfl
  t47 := Tryz.underlying144
  a47 := Tryz.isAgg144
  z47 := Tryz.sizeOf144
  v47 := Tryz.zeroValue144
  i47 := by kernel_rfl
  t56 := Tryz.underlying191
  a56 := Tryz.isAgg191
  z56 := Tryz.sizeOf191
  v56 := Tryz.zeroValue191
  i56 := by kernel_rfl
  t58 := Tryz.underlying141
  a58 := Tryz.isAgg141
  z58 := Tryz.sizeOf141
  v58 := Tryz.zeroValue141
  i58 := by kernel_rfl
  t60 := Tryz.underlying209
  a60 := Tryz.isAgg209
  z60 := Tryz.sizeOf209
  v60 := Tryz.zeroValue209
  i60 := by kernel_rfl
  t61 := Tryz.underlying210
  a61 := Tryz.isAgg210
  z61 := Tryz.sizeOf210
  v61 := Tryz.zeroValue210
  i61 := by kernel_rfl
  t65 := Tryz.underlying188
  a65 := Tryz.isAgg188
  z65 := Tryz.sizeOf188
  v65 := Tryz.zeroValue188
  i65 := by kernel_rfl
  t67 := Tryz.underlying232
  a67 := Tryz.isAgg232
  z67 := Tryz.sizeOf232
  v67 := Tryz.zeroValue232
  i67 := by kernel_rfl
  t71 := Tryz.underlying95
  a71 := Tryz.isAgg95
  z71 := Tryz.sizeOf95
  v71 := Tryz.zeroValue95
  i71 := by kernel_rfl
  t73 := Tryz.underlying251
  a73 := Tryz.isAgg251
  z73 := Tryz.sizeOf251
  v73 := Tryz.zeroValue251
  i73 := by kernel_rfl
  t74 := Tryz.underlying236
  a74 := Tryz.isAgg236
  z74 := Tryz.sizeOf236
  v74 := Tryz.zeroValue236
  i74 := by kernel_rfl }
/-- bits.Len: "Len returns the minimum number of bits required to represent x; the result is 0 for x == 0.": IT RETURNS 'Lib.bitLen x'; the world is as it was. (A uint has 64 bits in the model.) ITS CALLEE bits.Len64 IS MET BY ITS OWN CONTRACT OFF THE SHELF (lay that first). (LAID: no walk: one application.) -/
theorem Tryz.bits_Len (x : Int) (w : World) (h0 : 0 ≤ x) (h1 : x ≤ 18446744073709551615) :
    Calls Tryz.prog 105 #[.int .u64 x] w fun e w' => e = .returned (.int .i64 (Lib.bitLen x.toNat)) ∧ w' = w := Any.bits_Len Tryz.lays125 x w h0 h1
open Go.RowKit Go.Sort Go.Lib in
/-- strconv.Itoa: "Itoa is equivalent to FormatInt(int64(i), 10).": i's DECIMAL NUMERAL ('Lib.itoa': a '-' where i is negative, then the digits), FOR EVERY int. The world behind the call: the world before it, new blocks behind the heap (the library's 'var a [24]byte'), draws. (LAID: no walk: one application.) -/
theorem Tryz.strconv_Itoa (n : Int) (h0 : -9223372036854775808 ≤ n) (h1 : n ≤ 9223372036854775807) (w : World) (htab : Lib.TabIs Tryz.prog w "internal/strconv.uint64pow10" .u64 Lib.pow10Tab) :
    Calls Tryz.prog 117 #[.int .i64 n] w fun e w' => e = .returned (.string ⟨(Lib.itoa n).toArray⟩) ∧ ∃ k os, w' = grow (w.drewN k) os := Any.strconv_Itoa Tryz.laysM171 n h0 h1 w htab
open Go.RowKit Go.Sort Go.Lib in
/-- THE ROAD WITHOUT THE TABLE: 0 <= i < 100: NO PREMISE ON THE WORLD, AND THE WORLD IS AS IT WAS: a row that keeps its argument in that range need list no table ('laid = []'). (LAID: no walk: one application.) -/
theorem Tryz.strconv_Itoa_small (i : Nat) (hi : i < 100) (w : World) :
    Calls Tryz.prog 117 #[.int .i64 i] w fun e w' => e = .returned (.string ⟨(Lib.decDigits i).toArray⟩) ∧ w' = w := Any.strconv_Itoa_small Tryz.lays171 i hi w
open Go.RowKit in
/-- strconv.ParseInt(s, 10, 64), AT EVERY STRING THAT SPELLS AN int64 ('Lib.parseIntB 64 s.data.toList = .ok v'): v, AND NO ERROR. (LAID: no walk: one application.) -/
theorem Tryz.strconv_ParseInt_10_at64_ok (s : ByteArray) (hmax : s.size ≤ 9223372036854775806) (v : Int) (h : Lib.parseIntB 64 s.data.toList = .ok v) (w : World) :
    Calls Tryz.prog 50 #[.string s, .int .i64 10, .int .i64 64] w fun e w' => e = .returned (.tuple #[.int .i64 v, .nilIface]) ∧ (w' = w ∨ ∃ t, w' = Lib.bytesWorld w 5 t) := Any.strconv_ParseInt_10_at64_ok Tryz.laysC174 s hmax v h w
open Go.RowKit in
/-- strconv.ParseInt(s, 10, 64), AT EVERY NUMERAL THAT NO int64 HOLDS: THE GREATEST OR THE LEAST int64, BY THE SIGN ('Lib.intSat 64'), AND AN ERROR THAT IS NOT nil: a *NumError in a new block N: {Func: "ParseInt", Num: s's bytes, Err: what the variable ErrRange holds}. Of what was there nothing has turned. (LAID: no walk: one application.) -/
theorem Tryz.strconv_ParseInt_10_at64_range (s : ByteArray) (hlim : s.size ≤ 281474976710656) (h : Lib.parseIntB 64 s.data.toList = .range) (ev : Value) (w : World) (hv : w.cell? ⟨1, 0, none⟩ = some ev) (hev : ev = .nilIface ∨ ∃ te pe, ev = .iface te pe) :
    Calls Tryz.prog 50 #[.string s, .int .i64 10, .int .i64 64] w fun e w' => ∃ N, e = .returned (.tuple #[.int .i64 (Lib.intSat 64 s.data.toList), .iface 145 (.pointer (some ⟨N, 0, none⟩))]) ∧ w.heap.size ≤ N ∧ w'.heap[N]? = some (.cells #[.string ⟨#[80, 97, 114, 115, 101, 73, 110, 116]⟩, .string s, ev] 171 (0, 0)) ∧ Below w.heap.size w w' := Any.strconv_ParseInt_10_at64_range Tryz.laysC174 s hlim h ev w hv hev
open Go.RowKit Go.Lib Go.Sort in
theorem Tryz.sort_Sort_tiny {α : Type} [Inhabited α] (T : TypeId) (rv : Value) (gn : Nat) (rN : Reaches Tryz.prog T rv "Len" gn) (n : Nat) (hn : n ≤ 1) (w : World) (hlen : LenM Tryz.prog gn rv n w) :
    Calls Tryz.prog 103 #[.iface T rv] w fun e w' => e = .returned (.tuple #[]) ∧ ∃ q, w' = w.drewN q := Any.sort_Sort_tiny Tryz.laysGt11 T rv gn rN n hn w hlen
open Go.RowKit Go.Lib Go.Sort in
/-- **sort.Sort, IN THE DOCUMENTATION's OWN TERMS ("Sort sorts data in ascending order as determined by the Less method. .. The sort is not guaranteed to be stable"): A PERMUTATION OF WHAT THE ROW HELD, SORTED BY 'lt'.** (LAID: no walk: one application.) -/
theorem Tryz.sort_Sort_sorted {α : Type} [Inhabited α] (T : TypeId) (rv : Value) (gn gl gs : Nat) (rN : Reaches Tryz.prog T rv "Len" gn) (rL : Reaches Tryz.prog T rv "Less" gl) (rS : Reaches Tryz.prog T rv "Swap" gs) (enc : α → Value) (lt : α → α → Bool) (hO : SWO lt) (blk off : Nat) (d : Array α) (h2 : 2 ≤ d.size) (hsz : d.size < 4611686018427387904) (w : World) (hlen : LenM Tryz.prog gn rv d.size w) (hless : LessM Tryz.prog gl rv enc lt blk off d.size w) (hswap : SwapM Tryz.prog gs rv enc blk off d.size) (hH : Holds enc w blk off d) (hblk : blk < w.heap.size) :
    Calls Tryz.prog 103 #[.iface T rv] w fun e w' => e = .returned (.tuple #[]) ∧ ∃ d' n os, PermIn 0 d.size d d' ∧ SortedIn lt 0 d.size d' ∧ w' = grow (putRow enc (Sort.ahead w n) blk off d') os := Any.sort_Sort_sorted Tryz.laysGt11 T rv gn gl gs rN rL rS enc lt hO blk off d h2 hsz w hlen hless hswap hH hblk
end Go.Proofs
