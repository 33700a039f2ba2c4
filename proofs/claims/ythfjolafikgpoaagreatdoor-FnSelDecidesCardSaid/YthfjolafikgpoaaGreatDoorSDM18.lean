/- Requirements as text, with blanks by choices: the tokens of that text, and what the parser makes of them. No program in sight. -/
import Derived.Test.YthfjolafikgpoaaGreatDoorSDGParA
import Derived.Test.YthfjolafikgpoaaGreatDoorSDGParB
namespace Go.Proofs.YthfjolafikgpoaaGreatDoor.Hand
open Go.RowKit Go.Proofs.YthfjolafikgpoaaGreatDoor.Base
set_option linter.unusedVariables false
set_option linter.unusedSimpArgs false
set_option maxRecDepth 100000
inductive Pc where
 | gap : Pc
 | str : L → Pc
def blankL (c : UInt8) : L := if c.toNat % 4 = 0 then [] else if c.toNat % 4 = 1 then [32] else if c.toNat % 4 = 2 then [32, 32] else [9]
def gapL (cs : L) : L := match cs with | [] => [] | c :: _ => blankL c
def outL : List Pc → L → L
 | [], _ => []
 | .gap :: ps, cs => gapL cs ++ outL ps cs.tail
 | .str p :: ps, cs => p ++ outL ps cs
def pcwV : List L → List Pc
 | [] => []
 | v :: r => .str v :: r.flatMap fun s => [.str [44], .str s]
end Go.Proofs.YthfjolafikgpoaaGreatDoor.Hand
namespace Go.Proofs.YthfjolafikgpoaaGreatDoor.Hand
open Go.RowKit Go.Maps Go.Proofs.YthfjolafikgpoaaGreatDoorW.PrintWords Go.Proofs.YthfjolafikgpoaaGreatDoorW.PrintLast Go.Proofs.YthfjolafikgpoaaGreatDoorW.PrintMore Go.Proofs.YthfjolafikgpoaaGreatDoor.Base
set_option linter.unusedVariables false
set_option linter.unusedSimpArgs false
set_option maxRecDepth 100000
end Go.Proofs.YthfjolafikgpoaaGreatDoor.Hand
