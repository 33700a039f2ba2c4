/- spec.WrittenAll: requirements as the text of a selector. -/
import Derived.Test.YthfjolafikgpoaaGreatDoorSFM28
import Derived.Test.YthfjolafikgpoaaGreatDoorSFM29
import Derived.Test.YthfjolafikgpoaaGreatDoorSFLabSetOf
namespace Go.Proofs.YthfjolafikgpoaaGreatDoor.Hand
open Go.RowKit Go.Maps Go.Proofs.YthfjolafikgpoaaGreatDoorW.PrintWords Go.Proofs.YthfjolafikgpoaaGreatDoorW.PrintLast Go.Proofs.YthfjolafikgpoaaGreatDoorW.PrintMore Go.Proofs.YthfjolafikgpoaaGreatDoor.Base
set_option linter.unusedVariables false
set_option linter.unusedSimpArgs false
set_option maxRecDepth 100000
end Go.Proofs.YthfjolafikgpoaaGreatDoor.Hand
