/-
  DERIVED. GIVEN WITH THE SEED: THE CARDS: each row of YteigfmchnblkgaaDoorRows.lean that lists a variable, with what it lists TIED to the program's text (the seventh form; the later family's looks); each row that meets fmt, with fmt's text TOLD by the authors' own Lean function (tested against real Go, not proved from fmt's source: count such statements apart). THE CARD IS WHAT COUNTS. Prove the row's statement (the work); the ties are given (YteigfmchnblkgaaDoorTie.lean); close each card by the builder's one call (the guide's Derived/Test/ToyasCard.lean, 'card_holds'). Laid BY PROGRAM, IN A SANDBOX (cutbox-door.mjs). By AI agents, Wed Nov 11 2026. No macro, syntax, notation, axiom, sorry.
-/
import Derived.Test.YteigfmchnblkgaaDoorRows
import GoSem.ClaimSeven
namespace Go.Proofs.YteigfmchnblkgaaDoor
namespace Rows

/-- THE TIED CARD OF 'laws.FnSelOpposite'. -/
def fnSelOppositeCard : Claim7 := { stood := { row := fnSelOppositeRow, standIns := [], harness := (true, "0be3d7f4f99c4ec614fe0b046671128bd1a2b6db477f2e477a5cd927e937f3e2"), looks := true }, kinds := [], alts := [], laidByText := true, laidKinds := [.data, .data, .data, .sentinel, .sentinel], laidTests := true, laidLooks := .later }
def FnSelOppositeCardSaid : Prop := Claim7.holds Tryd.pinned (.plain (OpenSpec.ofChange fnSelOppositeSpec)) fnSelOppositeCard

/-- THE SECOND FORM's CARD OF 'laws.FnSelOpposite'. -/
def fnSelOppositeUptoCard : Claim7 := { stood := { row := fnSelOppositeUptoRow, standIns := [], harness := (true, "0be3d7f4f99c4ec614fe0b046671128bd1a2b6db477f2e477a5cd927e937f3e2"), looks := true }, kinds := [], alts := [], laidByText := true, laidKinds := [.data, .data, .data, .sentinel, .sentinel], laidTests := true, laidLooks := .later }
def FnSelOppositeUptoCardSaid : Prop := Claim7.holds Tryd.pinned (.plain (OpenSpec.upto fnSelOppositeSpec)) fnSelOppositeUptoCard
end Rows
end Go.Proofs.YteigfmchnblkgaaDoor
