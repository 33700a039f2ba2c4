/-
  DERIVED: THE SHELF's CONTRACTS AT THIS DUMP, IN PLAIN WORDS (tools/lay-plain.mjs out of 'TryzTrim.lean', which tools/lay-shelf.mjs wrote): THE SAME DECLARATIONS UNDER THE SAME NAMES: 'import', 'namespace', 'open', 'def', 'theorem' AND NOTHING ELSE: no command of the shelf's: FOR A HAND-IN. Each laying: the table of numbers ('.._ren') and one theorem, a field a fact of the dump's own or the kernel's comparison; each contract: ONE APPLICATION.
-/
import Derived.Shelf.Small.Utf8
import Derived.Shelf.Small.Bits
import Derived.Shelf.Strconv.Itoa0
import Derived.Shelf.Strconv.Itoa1
import Derived.Shelf.LaysM
import Derived.Shelf.Strconv.Itoa2
import Derived.Shelf.Strconv.Itoa3
import Derived.Shelf.Strconv.ParseIntEmpty
import Derived.Shelf.Strconv.Clone
import Derived.Shelf.Strconv.SyntaxError
import Derived.Shelf.LaysC
import Derived.Shelf.Strconv.ToError
import Derived.Shelf.Strconv.Lower
import Derived.Shelf.Strconv.ParseUint10
import Derived.Shelf.Strconv.ParseUint10Empty
import Derived.Shelf.Strconv.ParseUint10Any
import Derived.Shelf.Strconv.ParseInt10
import Derived.Shelf.Strconv.RangeError
import Derived.Shelf.Strconv.ToErrorRange
import Derived.Shelf.Strconv.ParseUintEmpty
import Derived.Shelf.Strconv.ParseUint10b64
import Derived.Shelf.Strconv.ParseUint10At
import Derived.Shelf.Strconv.ParseInt10At64
import Derived.Shelf.Strconv.ParseInt10All
import Derived.Shelf.Strconv.ParseIntPublic10
import Derived.Ground.GgtProg
import Derived.Shelf.GgSortMore.Iface
import Derived.Shelf.GgSortMore.IfaceD
import Derived.Shelf.GgSortMore.IfacePart
import Derived.Shelf.GgSortMore.IfacePdq
import Derived.Shelf.GgSortMore.SortSort
import Derived.Shelf.Unicode.Decode
import Derived.Shelf.Unicode.DecodeSlow
import Derived.Shelf.Unicode.DecodeAny
import Derived.Shelf.Unicode.DecodeLast
import Derived.Ground.GgsProg
import Derived.Shelf.SlSortFunc.Xorshift
import Derived.Shelf.SlSortIface.SiftDown
import Derived.Shelf.SlSortIface.HeapSort
import Derived.Shelf.SlSortIface.PartialInsertion
import Derived.Test.YthfjolafikgpoaaGreatDoorProg
namespace Go.Proofs
open Go.Shelf
def Tryz.lays125_ren : Go.Shelf.Ren := ⟨fun | 125 => 113 | 128 => 142 | 129 => 143 | n => n, fun | 46 => 162 | 3 => 3 | 51 => 199 | 53 => 159 | 4 => 4 | 5 => 5 | 9 => 9 | n => n, fun | n => n⟩
theorem Tryz.lays125 : Go.Proofs.Lays.n125 Tryz.prog Tryz.lays125_ren := {
 mixed := by kernel_rfl
 f125 := Tryz.func113.trans (congrArg some (by kernel_rfl))
 f128 := Tryz.func142.trans (congrArg some (by kernel_rfl))
 f129 := Tryz.func143.trans (congrArg some (by kernel_rfl))
 t3 := Tryz.underlying3
 a3 := Tryz.isAgg3
 z3 := Tryz.sizeOf3
 v3 := Tryz.zeroValue3
 t4 := Tryz.underlying4
 a4 := Tryz.isAgg4
 z4 := Tryz.sizeOf4
 v4 := Tryz.zeroValue4
 t5 := Tryz.underlying5
 a5 := Tryz.isAgg5
 z5 := Tryz.sizeOf5
 v5 := Tryz.zeroValue5
 t9 := Tryz.underlying9
 a9 := Tryz.isAgg9
 z9 := Tryz.sizeOf9
 v9 := Tryz.zeroValue9
 t46 := Tryz.underlying162
 a46 := Tryz.isAgg162
 z46 := Tryz.sizeOf162
 v46 := Tryz.zeroValue162
 t51 := Tryz.underlying199
 a51 := Tryz.isAgg199
 z51 := Tryz.sizeOf199
 v51 := Tryz.zeroValue199
 t53 := Tryz.underlying159
 a53 := Tryz.isAgg159
 z53 := Tryz.sizeOf159
 v53 := Tryz.zeroValue159 }
def Tryz.laysM171_ren : Go.Shelf.Ren := ⟨fun | 171 => 123 | 243 => 158 | 246 => 181 | 283 => 190 | 284 => 191 | 285 => 192 | 286 => 193 | 129 => 143 | 317 => 195 | 318 => 196 | 319 => 197 | 320 => 198 | 337 => 199 | 338 => 200 | n => n, fun | 3 => 3 | 9 => 9 | 2 => 2 | 4 => 4 | 171 => 248 | 0 => 0 | 53 => 159 | 37 => 23 | 5 => 5 | 173 => 250 | 212 => 253 | 51 => 199 | 20 => 20 | 213 => 254 | 46 => 162 | 232 => 256 | 233 => 257 | n => n, fun | 17 => 4 | 18 => 5 | 19 => 6 | n => n⟩
theorem Tryz.laysM171 : Go.Proofs.LaysM.n171 Tryz.prog Tryz.laysM171_ren := {
 mixed := by kernel_rfl
 f129 := Tryz.func143.trans (congrArg some (by kernel_rfl))
 f171 := Tryz.func123.trans (congrArg some (by kernel_rfl))
 f243 := Tryz.func158.trans (congrArg some (by kernel_rfl))
 f246 := Tryz.func181.trans (congrArg some (by kernel_rfl))
 f283 := Tryz.func190.trans (congrArg some (by kernel_rfl))
 f284 := Tryz.func191.trans (congrArg some (by kernel_rfl))
 f285 := Tryz.func192.trans (congrArg some (by kernel_rfl))
 f286 := Tryz.func193.trans (congrArg some (by kernel_rfl))
 f317 := Tryz.func195.trans (congrArg some (by kernel_rfl))
 f318 := Tryz.func196.trans (congrArg some (by kernel_rfl))
 f319 := Tryz.func197.trans (congrArg some (by kernel_rfl))
 f320 := Tryz.func198.trans (congrArg some (by kernel_rfl))
 f337 := Tryz.func199.trans (congrArg some (by kernel_rfl))
 f338 := Tryz.func200.trans (congrArg some (by kernel_rfl))
 t0 := Tryz.underlying0
 a0 := Tryz.isAgg0
 z0 := Tryz.sizeOf0
 v0 := Tryz.zeroValue0
 t2 := Tryz.underlying2
 a2 := Tryz.isAgg2
 z2 := Tryz.sizeOf2
 v2 := Tryz.zeroValue2
 t3 := Tryz.underlying3
 a3 := Tryz.isAgg3
 z3 := Tryz.sizeOf3
 v3 := Tryz.zeroValue3
 t4 := Tryz.underlying4
 a4 := Tryz.isAgg4
 z4 := Tryz.sizeOf4
 v4 := Tryz.zeroValue4
 t5 := Tryz.underlying5
 a5 := Tryz.isAgg5
 z5 := Tryz.sizeOf5
 v5 := Tryz.zeroValue5
 t9 := Tryz.underlying9
 a9 := Tryz.isAgg9
 z9 := Tryz.sizeOf9
 v9 := Tryz.zeroValue9
 t20 := Tryz.underlying20
 a20 := Tryz.isAgg20
 z20 := Tryz.sizeOf20
 v20 := Tryz.zeroValue20
 t37 := Tryz.underlying23
 a37 := Tryz.isAgg23
 z37 := Tryz.sizeOf23
 v37 := Tryz.zeroValue23
 t46 := Tryz.underlying162
 a46 := Tryz.isAgg162
 z46 := Tryz.sizeOf162
 v46 := Tryz.zeroValue162
 t51 := Tryz.underlying199
 a51 := Tryz.isAgg199
 z51 := Tryz.sizeOf199
 v51 := Tryz.zeroValue199
 t53 := Tryz.underlying159
 a53 := Tryz.isAgg159
 z53 := Tryz.sizeOf159
 v53 := Tryz.zeroValue159
 t171 := Tryz.underlying248
 a171 := Tryz.isAgg248
 z171 := Tryz.sizeOf248
 v171 := Tryz.zeroValue248
 t173 := Tryz.underlying250
 a173 := Tryz.isAgg250
 z173 := Tryz.sizeOf250
 v173 := Tryz.zeroValue250
 t212 := Tryz.underlying253
 a212 := Tryz.isAgg253
 z212 := Tryz.sizeOf253
 v212 := Tryz.zeroValue253
 t213 := Tryz.underlying254
 a213 := Tryz.isAgg254
 z213 := Tryz.sizeOf254
 t232 := Tryz.underlying256
 a232 := Tryz.isAgg256
 z232 := Tryz.sizeOf256
 v232 := Tryz.zeroValue256
 t233 := Tryz.underlying257
 a233 := Tryz.isAgg257
 z233 := Tryz.sizeOf257
 v233 := Tryz.zeroValue257
 g17 := by kernel_rfl
 g18 := by kernel_rfl
 g19 := by kernel_rfl
 i0 := by kernel_rfl
 i2 := by kernel_rfl
 i3 := by kernel_rfl
 i4 := by kernel_rfl
 i5 := by kernel_rfl
 i9 := by kernel_rfl
 i20 := by kernel_rfl
 i37 := by kernel_rfl
 i46 := by kernel_rfl
 i51 := by kernel_rfl
 i53 := by kernel_rfl
 i171 := by kernel_rfl
 i173 := by kernel_rfl
 i212 := by kernel_rfl
 i232 := by kernel_rfl
 i233 := by kernel_rfl
 m17 := by kernel_rfl
 m18 := by kernel_rfl
 m19 := by kernel_rfl }
def Tryz.lays171_ren : Go.Shelf.Ren := ⟨fun | 171 => 123 | 243 => 158 | 246 => 181 | 283 => 190 | 284 => 191 | 285 => 192 | 286 => 193 | 129 => 143 | 317 => 195 | 318 => 196 | 319 => 197 | 320 => 198 | 337 => 199 | 338 => 200 | n => n, fun | 3 => 3 | 9 => 9 | 2 => 2 | 4 => 4 | 171 => 248 | 0 => 0 | 53 => 159 | 37 => 23 | 5 => 5 | 173 => 250 | 212 => 253 | 51 => 199 | 20 => 20 | 213 => 254 | 46 => 162 | 232 => 256 | 233 => 257 | n => n, fun | 17 => 4 | 18 => 5 | 19 => 6 | n => n⟩
theorem Tryz.lays171 : Go.Proofs.Lays.n171 Tryz.prog Tryz.lays171_ren := {
 mixed := by kernel_rfl
 f129 := Tryz.func143.trans (congrArg some (by kernel_rfl))
 f171 := Tryz.func123.trans (congrArg some (by kernel_rfl))
 f243 := Tryz.func158.trans (congrArg some (by kernel_rfl))
 f246 := Tryz.func181.trans (congrArg some (by kernel_rfl))
 f283 := Tryz.func190.trans (congrArg some (by kernel_rfl))
 f284 := Tryz.func191.trans (congrArg some (by kernel_rfl))
 f285 := Tryz.func192.trans (congrArg some (by kernel_rfl))
 f286 := Tryz.func193.trans (congrArg some (by kernel_rfl))
 f317 := Tryz.func195.trans (congrArg some (by kernel_rfl))
 f318 := Tryz.func196.trans (congrArg some (by kernel_rfl))
 f319 := Tryz.func197.trans (congrArg some (by kernel_rfl))
 f320 := Tryz.func198.trans (congrArg some (by kernel_rfl))
 f337 := Tryz.func199.trans (congrArg some (by kernel_rfl))
 f338 := Tryz.func200.trans (congrArg some (by kernel_rfl))
 t0 := Tryz.underlying0
 a0 := Tryz.isAgg0
 z0 := Tryz.sizeOf0
 v0 := Tryz.zeroValue0
 t2 := Tryz.underlying2
 a2 := Tryz.isAgg2
 z2 := Tryz.sizeOf2
 v2 := Tryz.zeroValue2
 t3 := Tryz.underlying3
 a3 := Tryz.isAgg3
 z3 := Tryz.sizeOf3
 v3 := Tryz.zeroValue3
 t4 := Tryz.underlying4
 a4 := Tryz.isAgg4
 z4 := Tryz.sizeOf4
 v4 := Tryz.zeroValue4
 t5 := Tryz.underlying5
 a5 := Tryz.isAgg5
 z5 := Tryz.sizeOf5
 v5 := Tryz.zeroValue5
 t9 := Tryz.underlying9
 a9 := Tryz.isAgg9
 z9 := Tryz.sizeOf9
 v9 := Tryz.zeroValue9
 t20 := Tryz.underlying20
 a20 := Tryz.isAgg20
 z20 := Tryz.sizeOf20
 v20 := Tryz.zeroValue20
 t37 := Tryz.underlying23
 a37 := Tryz.isAgg23
 z37 := Tryz.sizeOf23
 v37 := Tryz.zeroValue23
 t46 := Tryz.underlying162
 a46 := Tryz.isAgg162
 z46 := Tryz.sizeOf162
 v46 := Tryz.zeroValue162
 t51 := Tryz.underlying199
 a51 := Tryz.isAgg199
 z51 := Tryz.sizeOf199
 v51 := Tryz.zeroValue199
 t53 := Tryz.underlying159
 a53 := Tryz.isAgg159
 z53 := Tryz.sizeOf159
 v53 := Tryz.zeroValue159
 t171 := Tryz.underlying248
 a171 := Tryz.isAgg248
 z171 := Tryz.sizeOf248
 v171 := Tryz.zeroValue248
 t173 := Tryz.underlying250
 a173 := Tryz.isAgg250
 z173 := Tryz.sizeOf250
 v173 := Tryz.zeroValue250
 t212 := Tryz.underlying253
 a212 := Tryz.isAgg253
 z212 := Tryz.sizeOf253
 v212 := Tryz.zeroValue253
 t213 := Tryz.underlying254
 a213 := Tryz.isAgg254
 z213 := Tryz.sizeOf254
 t232 := Tryz.underlying256
 a232 := Tryz.isAgg256
 z232 := Tryz.sizeOf256
 v232 := Tryz.zeroValue256
 t233 := Tryz.underlying257
 a233 := Tryz.isAgg257
 z233 := Tryz.sizeOf257
 v233 := Tryz.zeroValue257
 g17 := by kernel_rfl
 g18 := by kernel_rfl
 g19 := by kernel_rfl }
def Tryz.laysC174_ren : Go.Shelf.Ren := ⟨fun | 174 => 65 | 247 => 87 | 245 => 88 | 287 => 102 | 279 => 103 | 280 => 104 | 281 => 105 | 282 => 106 | 321 => 120 | 322 => 121 | 316 => 122 | 171 => 123 | 205 => 92 | 243 => 158 | 246 => 181 | 283 => 190 | 284 => 191 | 285 => 192 | 286 => 193 | 129 => 143 | 317 => 195 | 318 => 196 | 319 => 197 | 320 => 198 | 337 => 199 | 338 => 200 | n => n, fun | 9 => 9 | 3 => 3 | 2 => 2 | 75 => 74 | 85 => 112 | 4 => 4 | 167 => 158 | 5 => 5 | 53 => 159 | 175 => 160 | 46 => 162 | 168 => 163 | 37 => 23 | 0 => 0 | 210 => 186 | 21 => 21 | 127 => 221 | 145 => 168 | 143 => 166 | 171 => 248 | 173 => 250 | 212 => 253 | 51 => 199 | 20 => 20 | 213 => 254 | 232 => 256 | 233 => 257 | 80 => 78 | n => n, fun | 15 => 0 | 16 => 1 | 17 => 4 | 18 => 5 | 19 => 6 | n => n⟩
theorem Tryz.laysC174 : Go.Proofs.LaysC.n174 Tryz.prog Tryz.laysC174_ren := {
 mixed := by kernel_rfl
 f129 := Tryz.func143.trans (congrArg some (by kernel_rfl))
 f171 := Tryz.func123.trans (congrArg some (by kernel_rfl))
 f174 := Tryz.func65.trans (congrArg some (by kernel_rfl))
 f205 := Tryz.func92.trans (congrArg some (by kernel_rfl))
 f243 := Tryz.func158.trans (congrArg some (by kernel_rfl))
 f245 := Tryz.func88.trans (congrArg some (by kernel_rfl))
 f246 := Tryz.func181.trans (congrArg some (by kernel_rfl))
 f247 := Tryz.func87.trans (congrArg some (by kernel_rfl))
 f279 := Tryz.func103.trans (congrArg some (by kernel_rfl))
 f280 := Tryz.func104.trans (congrArg some (by kernel_rfl))
 f281 := Tryz.func105.trans (congrArg some (by kernel_rfl))
 f282 := Tryz.func106.trans (congrArg some (by kernel_rfl))
 f283 := Tryz.func190.trans (congrArg some (by kernel_rfl))
 f284 := Tryz.func191.trans (congrArg some (by kernel_rfl))
 f285 := Tryz.func192.trans (congrArg some (by kernel_rfl))
 f286 := Tryz.func193.trans (congrArg some (by kernel_rfl))
 f287 := Tryz.func102.trans (congrArg some (by kernel_rfl))
 f316 := Tryz.func122.trans (congrArg some (by kernel_rfl))
 f317 := Tryz.func195.trans (congrArg some (by kernel_rfl))
 f318 := Tryz.func196.trans (congrArg some (by kernel_rfl))
 f319 := Tryz.func197.trans (congrArg some (by kernel_rfl))
 f320 := Tryz.func198.trans (congrArg some (by kernel_rfl))
 f321 := Tryz.func120.trans (congrArg some (by kernel_rfl))
 f322 := Tryz.func121.trans (congrArg some (by kernel_rfl))
 f337 := Tryz.func199.trans (congrArg some (by kernel_rfl))
 f338 := Tryz.func200.trans (congrArg some (by kernel_rfl))
 t0 := Tryz.underlying0
 a0 := Tryz.isAgg0
 z0 := Tryz.sizeOf0
 v0 := Tryz.zeroValue0
 t2 := Tryz.underlying2
 a2 := Tryz.isAgg2
 z2 := Tryz.sizeOf2
 v2 := Tryz.zeroValue2
 t3 := Tryz.underlying3
 a3 := Tryz.isAgg3
 z3 := Tryz.sizeOf3
 v3 := Tryz.zeroValue3
 t4 := Tryz.underlying4
 a4 := Tryz.isAgg4
 z4 := Tryz.sizeOf4
 v4 := Tryz.zeroValue4
 t5 := Tryz.underlying5
 a5 := Tryz.isAgg5
 z5 := Tryz.sizeOf5
 v5 := Tryz.zeroValue5
 t9 := Tryz.underlying9
 a9 := Tryz.isAgg9
 z9 := Tryz.sizeOf9
 v9 := Tryz.zeroValue9
 t20 := Tryz.underlying20
 a20 := Tryz.isAgg20
 z20 := Tryz.sizeOf20
 v20 := Tryz.zeroValue20
 t21 := Tryz.underlying21
 a21 := Tryz.isAgg21
 z21 := Tryz.sizeOf21
 v21 := Tryz.zeroValue21
 t37 := Tryz.underlying23
 a37 := Tryz.isAgg23
 z37 := Tryz.sizeOf23
 v37 := Tryz.zeroValue23
 t46 := Tryz.underlying162
 a46 := Tryz.isAgg162
 z46 := Tryz.sizeOf162
 v46 := Tryz.zeroValue162
 t51 := Tryz.underlying199
 a51 := Tryz.isAgg199
 z51 := Tryz.sizeOf199
 v51 := Tryz.zeroValue199
 t53 := Tryz.underlying159
 a53 := Tryz.isAgg159
 z53 := Tryz.sizeOf159
 v53 := Tryz.zeroValue159
 t75 := Tryz.underlying74
 a75 := Tryz.isAgg74
 z75 := Tryz.sizeOf74
 v75 := Tryz.zeroValue74
 t85 := Tryz.underlying112
 a85 := Tryz.isAgg112
 z85 := Tryz.sizeOf112
 v85 := Tryz.zeroValue112
 t127 := Tryz.underlying221
 a127 := Tryz.isAgg221
 z127 := Tryz.sizeOf221
 v127 := Tryz.zeroValue221
 t143 := Tryz.underlying166
 a143 := Tryz.isAgg166
 z143 := Tryz.sizeOf166
 v143 := Tryz.zeroValue166
 t145 := Tryz.underlying168
 a145 := Tryz.isAgg168
 z145 := Tryz.sizeOf168
 v145 := Tryz.zeroValue168
 t167 := Tryz.underlying158
 a167 := Tryz.isAgg158
 z167 := Tryz.sizeOf158
 v167 := Tryz.zeroValue158
 t168 := Tryz.underlying163
 a168 := Tryz.isAgg163
 z168 := Tryz.sizeOf163
 v168 := Tryz.zeroValue163
 t171 := Tryz.underlying248
 a171 := Tryz.isAgg248
 z171 := Tryz.sizeOf248
 v171 := Tryz.zeroValue248
 t173 := Tryz.underlying250
 a173 := Tryz.isAgg250
 z173 := Tryz.sizeOf250
 v173 := Tryz.zeroValue250
 t175 := Tryz.underlying160
 a175 := Tryz.isAgg160
 z175 := Tryz.sizeOf160
 v175 := Tryz.zeroValue160
 t210 := Tryz.underlying186
 a210 := Tryz.isAgg186
 z210 := Tryz.sizeOf186
 v210 := Tryz.zeroValue186
 t212 := Tryz.underlying253
 a212 := Tryz.isAgg253
 z212 := Tryz.sizeOf253
 v212 := Tryz.zeroValue253
 t213 := Tryz.underlying254
 a213 := Tryz.isAgg254
 z213 := Tryz.sizeOf254
 t232 := Tryz.underlying256
 a232 := Tryz.isAgg256
 z232 := Tryz.sizeOf256
 v232 := Tryz.zeroValue256
 t233 := Tryz.underlying257
 a233 := Tryz.isAgg257
 z233 := Tryz.sizeOf257
 v233 := Tryz.zeroValue257
 g15 := by kernel_rfl
 g16 := by kernel_rfl
 g17 := by kernel_rfl
 g18 := by kernel_rfl
 g19 := by kernel_rfl
 t80 := Tryz.underlying78
 a80 := Tryz.isAgg78
 z80 := Tryz.sizeOf78
 v80 := Tryz.zeroValue78
 i0 := by kernel_rfl
 i2 := by kernel_rfl
 i3 := by kernel_rfl
 i4 := by kernel_rfl
 i5 := by kernel_rfl
 i9 := by kernel_rfl
 i20 := by kernel_rfl
 i21 := by kernel_rfl
 i37 := by kernel_rfl
 i46 := by kernel_rfl
 i51 := by kernel_rfl
 i53 := by kernel_rfl
 i75 := by kernel_rfl
 i80 := by kernel_rfl
 i85 := by kernel_rfl
 i127 := by kernel_rfl
 i143 := by kernel_rfl
 i145 := by kernel_rfl
 i167 := by kernel_rfl
 i168 := by kernel_rfl
 i171 := by kernel_rfl
 i173 := by kernel_rfl
 i175 := by kernel_rfl
 i210 := by kernel_rfl
 i212 := by kernel_rfl
 i232 := by kernel_rfl
 i233 := by kernel_rfl
 m15 := by kernel_rfl
 m16 := by kernel_rfl
 m17 := by kernel_rfl
 m18 := by kernel_rfl
 m19 := by kernel_rfl
 c0 := by kernel_rfl
 c2 := by kernel_rfl
 c3 := by kernel_rfl
 c4 := by kernel_rfl
 c5 := by kernel_rfl
 c9 := by kernel_rfl
 c20 := by kernel_rfl
 c21 := by kernel_rfl
 c37 := by kernel_rfl
 c46 := by kernel_rfl
 c51 := by kernel_rfl
 c53 := by kernel_rfl
 c75 := by kernel_rfl
 c80 := by kernel_rfl
 c85 := by kernel_rfl
 c127 := by kernel_rfl
 c143 := by kernel_rfl
 c145 := by kernel_rfl
 c167 := by kernel_rfl
 c168 := by kernel_rfl
 c171 := by kernel_rfl
 c173 := by kernel_rfl
 c175 := by kernel_rfl
 c210 := by kernel_rfl
 c212 := by kernel_rfl
 c213 := by kernel_rfl
 c232 := by kernel_rfl
 c233 := by kernel_rfl }
def Tryz.laysGt11_ren : Go.Shelf.Ren := ⟨fun | 11 => 100 | 17 => 113 | 18 => 119 | 31 => 142 | 32 => 143 | 33 => 150 | 34 => 151 | 35 => 152 | 36 => 153 | 37 => 154 | 38 => 155 | 39 => 156 | 40 => 157 | 43 => 176 | 44 => 177 | 45 => 178 | 46 => 179 | 47 => 180 | 50 => 189 | n => n, fun | 45 => 181 | 3 => 3 | 4 => 4 | 47 => 162 | 0 => 0 | 56 => 199 | 58 => 159 | 61 => 215 | 60 => 214 | 65 => 196 | 5 => 5 | 9 => 9 | 67 => 235 | 71 => 80 | 73 => 246 | 74 => 240 | 43 => 182 | 26 => 218 | 38 => 234 | n => n, fun | n => n⟩
theorem Tryz.laysGt11 : Go.Proofs.LaysGt.n11 Tryz.prog Tryz.laysGt11_ren := {
 mixed := by kernel_rfl
 f11 := Tryz.func100.trans (congrArg some (by kernel_rfl))
 f17 := Tryz.func113.trans (congrArg some (by kernel_rfl))
 f18 := Tryz.func119.trans (congrArg some (by kernel_rfl))
 f31 := Tryz.func142.trans (congrArg some (by kernel_rfl))
 f32 := Tryz.func143.trans (congrArg some (by kernel_rfl))
 f33 := Tryz.func150.trans (congrArg some (by kernel_rfl))
 f34 := Tryz.func151.trans (congrArg some (by kernel_rfl))
 f35 := Tryz.func152.trans (congrArg some (by kernel_rfl))
 f36 := Tryz.func153.trans (congrArg some (by kernel_rfl))
 f37 := Tryz.func154.trans (congrArg some (by kernel_rfl))
 f38 := Tryz.func155.trans (congrArg some (by kernel_rfl))
 f39 := Tryz.func156.trans (congrArg some (by kernel_rfl))
 f40 := Tryz.func157.trans (congrArg some (by kernel_rfl))
 f43 := Tryz.func176.trans (congrArg some (by kernel_rfl))
 f44 := Tryz.func177.trans (congrArg some (by kernel_rfl))
 f45 := Tryz.func178.trans (congrArg some (by kernel_rfl))
 f46 := Tryz.func179.trans (congrArg some (by kernel_rfl))
 f47 := Tryz.func180.trans (congrArg some (by kernel_rfl))
 f50 := Tryz.func189.trans (congrArg some (by kernel_rfl))
 t0 := Tryz.underlying0
 a0 := Tryz.isAgg0
 z0 := Tryz.sizeOf0
 v0 := Tryz.zeroValue0
 i0 := by kernel_rfl
 t3 := Tryz.underlying3
 a3 := Tryz.isAgg3
 z3 := Tryz.sizeOf3
 v3 := Tryz.zeroValue3
 i3 := by kernel_rfl
 t4 := Tryz.underlying4
 a4 := Tryz.isAgg4
 z4 := Tryz.sizeOf4
 v4 := Tryz.zeroValue4
 i4 := by kernel_rfl
 t5 := Tryz.underlying5
 a5 := Tryz.isAgg5
 z5 := Tryz.sizeOf5
 v5 := Tryz.zeroValue5
 i5 := by kernel_rfl
 t9 := Tryz.underlying9
 a9 := Tryz.isAgg9
 z9 := Tryz.sizeOf9
 v9 := Tryz.zeroValue9
 i9 := by kernel_rfl
 t26 := Tryz.underlying218
 a26 := Tryz.isAgg218
 z26 := Tryz.sizeOf218
 v26 := Tryz.zeroValue218
 i26 := by kernel_rfl
 t38 := Tryz.underlying234
 a38 := Tryz.isAgg234
 z38 := Tryz.sizeOf234
 v38 := Tryz.zeroValue234
 i38 := by kernel_rfl
 t43 := Tryz.underlying182
 a43 := Tryz.isAgg182
 z43 := Tryz.sizeOf182
 v43 := Tryz.zeroValue182
 i43 := by kernel_rfl
 t45 := Tryz.underlying181
 a45 := Tryz.isAgg181
 z45 := Tryz.sizeOf181
 v45 := Tryz.zeroValue181
 i45 := by kernel_rfl
 t47 := Tryz.underlying162
 a47 := Tryz.isAgg162
 z47 := Tryz.sizeOf162
 v47 := Tryz.zeroValue162
 i47 := by kernel_rfl
 t56 := Tryz.underlying199
 a56 := Tryz.isAgg199
 z56 := Tryz.sizeOf199
 v56 := Tryz.zeroValue199
 i56 := by kernel_rfl
 t58 := Tryz.underlying159
 a58 := Tryz.isAgg159
 z58 := Tryz.sizeOf159
 v58 := Tryz.zeroValue159
 i58 := by kernel_rfl
 t60 := Tryz.underlying214
 a60 := Tryz.isAgg214
 z60 := Tryz.sizeOf214
 v60 := Tryz.zeroValue214
 i60 := by kernel_rfl
 t61 := Tryz.underlying215
 a61 := Tryz.isAgg215
 z61 := Tryz.sizeOf215
 v61 := Tryz.zeroValue215
 i61 := by kernel_rfl
 t65 := Tryz.underlying196
 a65 := Tryz.isAgg196
 z65 := Tryz.sizeOf196
 v65 := Tryz.zeroValue196
 i65 := by kernel_rfl
 t67 := Tryz.underlying235
 a67 := Tryz.isAgg235
 z67 := Tryz.sizeOf235
 v67 := Tryz.zeroValue235
 i67 := by kernel_rfl
 t71 := Tryz.underlying80
 a71 := Tryz.isAgg80
 z71 := Tryz.sizeOf80
 v71 := Tryz.zeroValue80
 i71 := by kernel_rfl
 t73 := Tryz.underlying246
 a73 := Tryz.isAgg246
 z73 := Tryz.sizeOf246
 v73 := Tryz.zeroValue246
 i73 := by kernel_rfl
 t74 := Tryz.underlying240
 a74 := Tryz.isAgg240
 z74 := Tryz.sizeOf240
 v74 := Tryz.zeroValue240
 i74 := by kernel_rfl }
theorem Tryz.bits_Len (x : Int) (w : World) (h0 : 0 ≤ x) (h1 : x ≤ 18446744073709551615) :
   Calls Tryz.prog 113 #[.int .u64 x] w fun e w' => e = .returned (.int .i64 (Lib.bitLen x.toNat)) ∧ w' = w := Any.bits_Len Tryz.lays125 x w h0 h1
open Go.RowKit Go.Sort Go.Lib in
theorem Tryz.strconv_Itoa (n : Int) (h0 : -9223372036854775808 ≤ n) (h1 : n ≤ 9223372036854775807) (w : World) (htab : Lib.TabIs Tryz.prog w "internal/strconv.uint64pow10" .u64 Lib.pow10Tab) :
   Calls Tryz.prog 123 #[.int .i64 n] w fun e w' => e = .returned (.string ⟨(Lib.itoa n).toArray⟩) ∧ ∃ k os, w' = grow (w.drewN k) os := Any.strconv_Itoa Tryz.laysM171 n h0 h1 w htab
open Go.RowKit Go.Sort Go.Lib in
theorem Tryz.strconv_Itoa_small (i : Nat) (hi : i < 100) (w : World) :
   Calls Tryz.prog 123 #[.int .i64 i] w fun e w' => e = .returned (.string ⟨(Lib.decDigits i).toArray⟩) ∧ w' = w := Any.strconv_Itoa_small Tryz.lays171 i hi w
open Go.RowKit in
theorem Tryz.strconv_ParseInt_10_at64_ok (s : ByteArray) (hmax : s.size ≤ 9223372036854775806) (v : Int) (h : Lib.parseIntB 64 s.data.toList = .ok v) (w : World) :
   Calls Tryz.prog 65 #[.string s, .int .i64 10, .int .i64 64] w fun e w' => e = .returned (.tuple #[.int .i64 v, .nilIface]) ∧ (w' = w ∨ ∃ t, w' = Lib.bytesWorld w 5 t) := Any.strconv_ParseInt_10_at64_ok Tryz.laysC174 s hmax v h w
open Go.RowKit in
theorem Tryz.strconv_ParseInt_10_at64_range (s : ByteArray) (hlim : s.size ≤ 281474976710656) (h : Lib.parseIntB 64 s.data.toList = .range) (ev : Value) (w : World) (hv : w.cell? ⟨1, 0, none⟩ = some ev) (hev : ev = .nilIface ∨ ∃ te pe, ev = .iface te pe) :
   Calls Tryz.prog 65 #[.string s, .int .i64 10, .int .i64 64] w fun e w' => ∃ N, e = .returned (.tuple #[.int .i64 (Lib.intSat 64 s.data.toList), .iface 163 (.pointer (some ⟨N, 0, none⟩))]) ∧ w.heap.size ≤ N ∧ w'.heap[N]? = some (.cells #[.string ⟨#[80, 97, 114, 115, 101, 73, 110, 116]⟩, .string s, ev] 186 (0, 0)) ∧ Below w.heap.size w w' := Any.strconv_ParseInt_10_at64_range Tryz.laysC174 s hlim h ev w hv hev
open Go.RowKit Go.Lib Go.Sort in
theorem Tryz.sort_Sort_tiny {α : Type} [Inhabited α] (T : TypeId) (rv : Value) (gn : Nat) (rN : Reaches Tryz.prog T rv "Len" gn) (n : Nat) (hn : n ≤ 1) (w : World) (hlen : LenM Tryz.prog gn rv n w) :
   Calls Tryz.prog 100 #[.iface T rv] w fun e w' => e = .returned (.tuple #[]) ∧ ∃ q, w' = w.drewN q := Any.sort_Sort_tiny Tryz.laysGt11 T rv gn rN n hn w hlen
open Go.RowKit Go.Lib Go.Sort in
theorem Tryz.sort_Sort_sorted {α : Type} [Inhabited α] (T : TypeId) (rv : Value) (gn gl gs : Nat) (rN : Reaches Tryz.prog T rv "Len" gn) (rL : Reaches Tryz.prog T rv "Less" gl) (rS : Reaches Tryz.prog T rv "Swap" gs) (enc : α → Value) (lt : α → α → Bool) (hO : SWO lt) (blk off : Nat) (d : Array α) (h2 : 2 ≤ d.size) (hsz : d.size < 4611686018427387904) (w : World) (hlen : LenM Tryz.prog gn rv d.size w) (hless : LessM Tryz.prog gl rv enc lt blk off d.size w) (hswap : SwapM Tryz.prog gs rv enc blk off d.size) (hH : Holds enc w blk off d) (hblk : blk < w.heap.size) :
   Calls Tryz.prog 100 #[.iface T rv] w fun e w' => e = .returned (.tuple #[]) ∧ ∃ d' n os, PermIn 0 d.size d d' ∧ SortedIn lt 0 d.size d' ∧ w' = grow (putRow enc (Sort.ahead w n) blk off d') os := Any.sort_Sort_sorted Tryz.laysGt11 T rv gn gl gs rN rL rS enc lt hO blk off d h2 hsz w hlen hless hswap hH hblk
end Go.Proofs
