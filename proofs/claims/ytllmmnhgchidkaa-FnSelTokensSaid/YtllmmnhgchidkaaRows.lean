/-
  No cell of these rows narrows 'for every input' (looked for: loops, veiled, ifaces, maps, wideKeys, modest, calm, conditions, laid).
  DERIVED. THE GIVEN ROWS OF THIS SEAT. 11 by the template 'for every input the law returns true; each argument reads behind the call as it read before'; 0 by the template 'total and deterministic' (their statements: YtllmmnhgchidkaaTotals.lean).
  GIVEN WITH THE SEED: the statements are not yours to turn. If you find one false, say at which input.
  Laid BY PROGRAM, IN A SANDBOX (cutbox-rows.mjs): the forced cells as the released guide's own fill.sh prints them over the translation 4344db6d0d64ec38… (all of the seat's roots in one cut). By AI agents, Wed Nov 11 2026. No macro, syntax, notation, axiom, sorry.
-/
import Derived.Test.YtllmmnhgchidkaaChecked
import GoSem.Claim
import GoSem.ClaimJoined
import GoSem.ClaimMapViews
import Derived.JoinedTies
import Derived.KernelRfl
namespace Go.Proofs.Ytllmmnhgchidkaa
/- THE CELL 'sum', in the pinned program and in every row, IS THE sha256 OF THE DUMP (.gsa) THAT YtllmmnhgchidkaaProg.lean LOADS. Nothing in Lean hashes anything: it is a label: what it is worth is what the hold of that sum in a sandbox is worth. -/
noncomputable def Try.pinned : Pinned := { name := "ytllmmnhgchidkaa", sum := "4344db6d0d64ec382117c3e6afe0d736f39a1c3e86e2ff6eb582d69dfa04da88", checked := Try.checked }
namespace Rows
def none {H : Type} : Left H := { results := [], args := [] }

/-- 'laws.FnSetHas': WHATEVER THE INPUT: true; the input reads as it did. -/
def fnSetHasSpec : ChangeSpec := { name := "fnSetHas", fn := fun _ => fun
  | [d1, d2, d3] => { results := [.lit (.bool true)], args := [d1, d2, d3] }
  | _ => none }
def fnSetHasRow : OpenClaim := { program := "ytllmmnhgchidkaa", sum := "4344db6d0d64ec382117c3e6afe0d736f39a1c3e86e2ff6eb582d69dfa04da88", func := "given.example/pub-epode/laws.FnSetHas", spec := "fnSetHas", apart := false }
def FnSetHasSaid : Prop := fnSetHasRow.holds Try.pinned (OpenSpec.ofChange fnSetHasSpec)

/-- ITS FALSE NEIGHBOUR: 'it returns false'. Refute it at one input. -/
def fnSetHasWrong : ChangeSpec := { name := "fnSetHas", fn := fun _ => fun
  | [d1, d2, d3] => { results := [.lit (.bool false)], args := [d1, d2, d3] }
  | _ => none }
def FnSetHasWrongFalsely : Prop := fnSetHasRow.holds Try.pinned (OpenSpec.ofChange fnSetHasWrong)

/-- 'laws.FnPathCleaned': WHATEVER THE INPUT: true; the input reads as it did. -/
def fnPathCleanedSpec : ChangeSpec := { name := "fnPathCleaned", fn := fun _ => fun
  | [d] => { results := [.lit (.bool true)], args := [d] }
  | _ => none }
def fnPathCleanedRow : OpenClaim := { program := "ytllmmnhgchidkaa", sum := "4344db6d0d64ec382117c3e6afe0d736f39a1c3e86e2ff6eb582d69dfa04da88", func := "given.example/pub-epode/laws.FnPathCleaned", spec := "fnPathCleaned", apart := false }
def FnPathCleanedSaid : Prop := fnPathCleanedRow.holds Try.pinned (OpenSpec.ofChange fnPathCleanedSpec)

/-- ITS FALSE NEIGHBOUR: 'it returns false'. Refute it at one input. -/
def fnPathCleanedWrong : ChangeSpec := { name := "fnPathCleaned", fn := fun _ => fun
  | [d] => { results := [.lit (.bool false)], args := [d] }
  | _ => none }
def FnPathCleanedWrongFalsely : Prop := fnPathCleanedRow.holds Try.pinned (OpenSpec.ofChange fnPathCleanedWrong)

/-- 'laws.FnPathSeps': WHATEVER THE INPUT: true; the input reads as it did. -/
def fnPathSepsSpec : ChangeSpec := { name := "fnPathSeps", fn := fun _ => fun
  | [d] => { results := [.lit (.bool true)], args := [d] }
  | _ => none }
def fnPathSepsRow : OpenClaim := { program := "ytllmmnhgchidkaa", sum := "4344db6d0d64ec382117c3e6afe0d736f39a1c3e86e2ff6eb582d69dfa04da88", func := "given.example/pub-epode/laws.FnPathSeps", spec := "fnPathSeps", apart := false }
def FnPathSepsSaid : Prop := fnPathSepsRow.holds Try.pinned (OpenSpec.ofChange fnPathSepsSpec)

/-- ITS FALSE NEIGHBOUR: 'it returns false'. Refute it at one input. -/
def fnPathSepsWrong : ChangeSpec := { name := "fnPathSeps", fn := fun _ => fun
  | [d] => { results := [.lit (.bool false)], args := [d] }
  | _ => none }
def FnPathSepsWrongFalsely : Prop := fnPathSepsRow.holds Try.pinned (OpenSpec.ofChange fnPathSepsWrong)

/-- 'laws.FnPathJoined': WHATEVER THE INPUT: true; the input reads as it did. -/
def fnPathJoinedSpec : ChangeSpec := { name := "fnPathJoined", fn := fun _ => fun
  | [d] => { results := [.lit (.bool true)], args := [d] }
  | _ => none }
def fnPathJoinedRow : OpenClaim := { program := "ytllmmnhgchidkaa", sum := "4344db6d0d64ec382117c3e6afe0d736f39a1c3e86e2ff6eb582d69dfa04da88", func := "given.example/pub-epode/laws.FnPathJoined", spec := "fnPathJoined", apart := false }
def FnPathJoinedSaid : Prop := fnPathJoinedRow.holds Try.pinned (OpenSpec.ofChange fnPathJoinedSpec)

/-- ITS FALSE NEIGHBOUR: 'it returns false'. Refute it at one input. -/
def fnPathJoinedWrong : ChangeSpec := { name := "fnPathJoined", fn := fun _ => fun
  | [d] => { results := [.lit (.bool false)], args := [d] }
  | _ => none }
def FnPathJoinedWrongFalsely : Prop := fnPathJoinedRow.holds Try.pinned (OpenSpec.ofChange fnPathJoinedWrong)

/-- 'laws.FnPathPrefix': WHATEVER THE INPUT: true; the input reads as it did. -/
def fnPathPrefixSpec : ChangeSpec := { name := "fnPathPrefix", fn := fun _ => fun
  | [d1, d2, d3] => { results := [.lit (.bool true)], args := [d1, d2, d3] }
  | _ => none }
def fnPathPrefixRow : OpenClaim := { program := "ytllmmnhgchidkaa", sum := "4344db6d0d64ec382117c3e6afe0d736f39a1c3e86e2ff6eb582d69dfa04da88", func := "given.example/pub-epode/laws.FnPathPrefix", spec := "fnPathPrefix", apart := false }
def FnPathPrefixSaid : Prop := fnPathPrefixRow.holds Try.pinned (OpenSpec.ofChange fnPathPrefixSpec)

/-- ITS FALSE NEIGHBOUR: 'it returns false'. Refute it at one input. -/
def fnPathPrefixWrong : ChangeSpec := { name := "fnPathPrefix", fn := fun _ => fun
  | [d1, d2, d3] => { results := [.lit (.bool false)], args := [d1, d2, d3] }
  | _ => none }
def FnPathPrefixWrongFalsely : Prop := fnPathPrefixRow.holds Try.pinned (OpenSpec.ofChange fnPathPrefixWrong)

/-- 'laws.FnFieldOrder': WHATEVER THE INPUT: true; the input reads as it did. -/
def fnFieldOrderSpec : ChangeSpec := { name := "fnFieldOrder", fn := fun _ => fun
  | [d1, d2] => { results := [.lit (.bool true)], args := [d1, d2] }
  | _ => none }
def fnFieldOrderRow : OpenClaim := { program := "ytllmmnhgchidkaa", sum := "4344db6d0d64ec382117c3e6afe0d736f39a1c3e86e2ff6eb582d69dfa04da88", func := "given.example/pub-epode/laws.FnFieldOrder", spec := "fnFieldOrder", apart := false }
def FnFieldOrderSaid : Prop := fnFieldOrderRow.holds Try.pinned (OpenSpec.ofChange fnFieldOrderSpec)

/-- ITS FALSE NEIGHBOUR: 'it returns false'. Refute it at one input. -/
def fnFieldOrderWrong : ChangeSpec := { name := "fnFieldOrder", fn := fun _ => fun
  | [d1, d2] => { results := [.lit (.bool false)], args := [d1, d2] }
  | _ => none }
def FnFieldOrderWrongFalsely : Prop := fnFieldOrderRow.holds Try.pinned (OpenSpec.ofChange fnFieldOrderWrong)

/-- 'laws.FnPathNote': WHATEVER THE INPUT: true; the input reads as it did. -/
def fnPathNoteSpec : ChangeSpec := { name := "fnPathNote", fn := fun _ => fun
  | [d1, d2, d3, d4] => { results := [.lit (.bool true)], args := [d1, d2, d3, d4] }
  | _ => none }
def fnPathNoteRow : OpenClaim := { program := "ytllmmnhgchidkaa", sum := "4344db6d0d64ec382117c3e6afe0d736f39a1c3e86e2ff6eb582d69dfa04da88", func := "given.example/pub-epode/laws.FnPathNote", spec := "fnPathNote", apart := false }
def FnPathNoteSaid : Prop := fnPathNoteRow.holds Try.pinned (OpenSpec.ofChange fnPathNoteSpec)

/-- ITS FALSE NEIGHBOUR: 'it returns false'. Refute it at one input. -/
def fnPathNoteWrong : ChangeSpec := { name := "fnPathNote", fn := fun _ => fun
  | [d1, d2, d3, d4] => { results := [.lit (.bool false)], args := [d1, d2, d3, d4] }
  | _ => none }
def FnPathNoteWrongFalsely : Prop := fnPathNoteRow.holds Try.pinned (OpenSpec.ofChange fnPathNoteWrong)

/-- 'laws.FnPathHidden': WHATEVER THE INPUT: true; the input reads as it did. -/
def fnPathHiddenSpec : ChangeSpec := { name := "fnPathHidden", fn := fun _ => fun
  | [d] => { results := [.lit (.bool true)], args := [d] }
  | _ => none }
def fnPathHiddenRow : OpenClaim := { program := "ytllmmnhgchidkaa", sum := "4344db6d0d64ec382117c3e6afe0d736f39a1c3e86e2ff6eb582d69dfa04da88", func := "given.example/pub-epode/laws.FnPathHidden", spec := "fnPathHidden", apart := false }
def FnPathHiddenSaid : Prop := fnPathHiddenRow.holds Try.pinned (OpenSpec.ofChange fnPathHiddenSpec)

/-- ITS FALSE NEIGHBOUR: 'it returns false'. Refute it at one input. -/
def fnPathHiddenWrong : ChangeSpec := { name := "fnPathHidden", fn := fun _ => fun
  | [d] => { results := [.lit (.bool false)], args := [d] }
  | _ => none }
def FnPathHiddenWrongFalsely : Prop := fnPathHiddenRow.holds Try.pinned (OpenSpec.ofChange fnPathHiddenWrong)

/-- 'laws.FnPathParts': WHATEVER THE INPUT: true; the input reads as it did. -/
def fnPathPartsSpec : ChangeSpec := { name := "fnPathParts", fn := fun _ => fun
  | [d] => { results := [.lit (.bool true)], args := [d] }
  | _ => none }
def fnPathPartsRow : OpenClaim := { program := "ytllmmnhgchidkaa", sum := "4344db6d0d64ec382117c3e6afe0d736f39a1c3e86e2ff6eb582d69dfa04da88", func := "given.example/pub-epode/laws.FnPathParts", spec := "fnPathParts", recurses := true, apart := false }
def FnPathPartsSaid : Prop := fnPathPartsRow.holds Try.pinned (OpenSpec.ofChange fnPathPartsSpec)

/-- ITS FALSE NEIGHBOUR: 'it returns false'. Refute it at one input. -/
def fnPathPartsWrong : ChangeSpec := { name := "fnPathParts", fn := fun _ => fun
  | [d] => { results := [.lit (.bool false)], args := [d] }
  | _ => none }
def FnPathPartsWrongFalsely : Prop := fnPathPartsRow.holds Try.pinned (OpenSpec.ofChange fnPathPartsWrong)

/-- 'laws.FnPathInsert': WHATEVER THE INPUT: true; the input reads as it did. -/
def fnPathInsertSpec : ChangeSpec := { name := "fnPathInsert", fn := fun _ => fun
  | [d1, d2, d3] => { results := [.lit (.bool true)], args := [d1, d2, d3] }
  | _ => none }
def fnPathInsertRow : OpenClaim := { program := "ytllmmnhgchidkaa", sum := "4344db6d0d64ec382117c3e6afe0d736f39a1c3e86e2ff6eb582d69dfa04da88", func := "given.example/pub-epode/laws.FnPathInsert", spec := "fnPathInsert", recurses := true, apart := false }
def FnPathInsertSaid : Prop := fnPathInsertRow.holds Try.pinned (OpenSpec.ofChange fnPathInsertSpec)

/-- ITS FALSE NEIGHBOUR: 'it returns false'. Refute it at one input. -/
def fnPathInsertWrong : ChangeSpec := { name := "fnPathInsert", fn := fun _ => fun
  | [d1, d2, d3] => { results := [.lit (.bool false)], args := [d1, d2, d3] }
  | _ => none }
def FnPathInsertWrongFalsely : Prop := fnPathInsertRow.holds Try.pinned (OpenSpec.ofChange fnPathInsertWrong)

/-- 'laws.FnSelTokens': WHATEVER THE INPUT: true; the input reads as it did. -/
def fnSelTokensSpec : ChangeSpec := { name := "fnSelTokens", fn := fun _ => fun
  | [d] => { results := [.lit (.bool true)], args := [d] }
  | _ => none }
def fnSelTokensRow : OpenClaim := { program := "ytllmmnhgchidkaa", sum := "4344db6d0d64ec382117c3e6afe0d736f39a1c3e86e2ff6eb582d69dfa04da88", func := "given.example/pub-epode/laws.FnSelTokens", spec := "fnSelTokens", unfollowed := true, recurses := true, apart := false }
def FnSelTokensSaid : Prop := fnSelTokensRow.holds Try.pinned (OpenSpec.ofChange fnSelTokensSpec)

/-- ITS FALSE NEIGHBOUR: 'it returns false'. Refute it at one input. -/
def fnSelTokensWrong : ChangeSpec := { name := "fnSelTokens", fn := fun _ => fun
  | [d] => { results := [.lit (.bool false)], args := [d] }
  | _ => none }
def FnSelTokensWrongFalsely : Prop := fnSelTokensRow.holds Try.pinned (OpenSpec.ofChange fnSelTokensWrong)

/- THE SECOND FORM. 'bulk': how many values and letters a reading holds, each counted each time it is reached (what is shared counts as often as it is met; a slice's spare places count too). A statement '..UptoSaid' is the law's where the arguments, and the package variables that the reading takes, are together of bulk at most 1048576: NARROWER than '..Said'. Prove '..Said' where nothing that the law and all that it calls make is longer than what came in: it says more and counts as full. Else prove '..UptoSaid'. A law counts once. -/
mutual
def uptoBulk {H : Type} : DataW H → Nat
  | .lit (.string bytes) => bytes.length + 1
  | .lit _ => 1
  | .nil => 1
  | .ptr d => uptoBulk d + 1
  | .slice elems spare => uptoBulkAll elems + uptoBulkAll spare + 1
  | .agg parts => uptoBulkAll parts + 1
  | .iface _ d => uptoBulk d + 1
  | .map entries => uptoBulkEntries entries + 1
  | .held _ => 1
def uptoBulkAll {H : Type} : List (DataW H) → Nat
  | [] => 0
  | d :: r => uptoBulk d + uptoBulkAll r
def uptoBulkEntries {H : Type} : List (Lit × DataW H) → Nat
  | [] => 0
  | x :: r => uptoBulkEntry x + uptoBulkEntries r
def uptoBulkEntry {H : Type} : Lit × DataW H → Nat
  | (.string bytes, d) => bytes.length + uptoBulk d + 1
  | (_, d) => uptoBulk d + 1
 end
def uptoSmall : (H : Type) → List (DataW H) → Bool := fun _ ds => decide (uptoBulkAll ds ≤ 1048576)
def OpenSpec.upto (s : _root_.Go.ChangeSpec) : _root_.Go.OpenSpec := { _root_.Go.OpenSpec.ofChange s with cond := some uptoSmall }

/-- 'laws.FnSetHas', WHERE WHAT IT READS IS OF BULK AT MOST 1048576: true; the input reads as it did. -/
def fnSetHasUptoRow : OpenClaim := { program := "ytllmmnhgchidkaa", sum := "4344db6d0d64ec382117c3e6afe0d736f39a1c3e86e2ff6eb582d69dfa04da88", func := "given.example/pub-epode/laws.FnSetHas", spec := "fnSetHas", apart := false, narrowed := true }
def FnSetHasUptoSaid : Prop := fnSetHasUptoRow.holds Try.pinned (OpenSpec.upto fnSetHasSpec)

/-- 'laws.FnPathCleaned', WHERE WHAT IT READS IS OF BULK AT MOST 1048576: true; the input reads as it did. -/
def fnPathCleanedUptoRow : OpenClaim := { program := "ytllmmnhgchidkaa", sum := "4344db6d0d64ec382117c3e6afe0d736f39a1c3e86e2ff6eb582d69dfa04da88", func := "given.example/pub-epode/laws.FnPathCleaned", spec := "fnPathCleaned", apart := false, narrowed := true }
def FnPathCleanedUptoSaid : Prop := fnPathCleanedUptoRow.holds Try.pinned (OpenSpec.upto fnPathCleanedSpec)

/-- 'laws.FnPathSeps', WHERE WHAT IT READS IS OF BULK AT MOST 1048576: true; the input reads as it did. -/
def fnPathSepsUptoRow : OpenClaim := { program := "ytllmmnhgchidkaa", sum := "4344db6d0d64ec382117c3e6afe0d736f39a1c3e86e2ff6eb582d69dfa04da88", func := "given.example/pub-epode/laws.FnPathSeps", spec := "fnPathSeps", apart := false, narrowed := true }
def FnPathSepsUptoSaid : Prop := fnPathSepsUptoRow.holds Try.pinned (OpenSpec.upto fnPathSepsSpec)

/-- 'laws.FnPathJoined', WHERE WHAT IT READS IS OF BULK AT MOST 1048576: true; the input reads as it did. -/
def fnPathJoinedUptoRow : OpenClaim := { program := "ytllmmnhgchidkaa", sum := "4344db6d0d64ec382117c3e6afe0d736f39a1c3e86e2ff6eb582d69dfa04da88", func := "given.example/pub-epode/laws.FnPathJoined", spec := "fnPathJoined", apart := false, narrowed := true }
def FnPathJoinedUptoSaid : Prop := fnPathJoinedUptoRow.holds Try.pinned (OpenSpec.upto fnPathJoinedSpec)

/-- 'laws.FnPathPrefix', WHERE WHAT IT READS IS OF BULK AT MOST 1048576: true; the input reads as it did. -/
def fnPathPrefixUptoRow : OpenClaim := { program := "ytllmmnhgchidkaa", sum := "4344db6d0d64ec382117c3e6afe0d736f39a1c3e86e2ff6eb582d69dfa04da88", func := "given.example/pub-epode/laws.FnPathPrefix", spec := "fnPathPrefix", apart := false, narrowed := true }
def FnPathPrefixUptoSaid : Prop := fnPathPrefixUptoRow.holds Try.pinned (OpenSpec.upto fnPathPrefixSpec)

/-- 'laws.FnFieldOrder', WHERE WHAT IT READS IS OF BULK AT MOST 1048576: true; the input reads as it did. -/
def fnFieldOrderUptoRow : OpenClaim := { program := "ytllmmnhgchidkaa", sum := "4344db6d0d64ec382117c3e6afe0d736f39a1c3e86e2ff6eb582d69dfa04da88", func := "given.example/pub-epode/laws.FnFieldOrder", spec := "fnFieldOrder", apart := false, narrowed := true }
def FnFieldOrderUptoSaid : Prop := fnFieldOrderUptoRow.holds Try.pinned (OpenSpec.upto fnFieldOrderSpec)

/-- 'laws.FnPathNote', WHERE WHAT IT READS IS OF BULK AT MOST 1048576: true; the input reads as it did. -/
def fnPathNoteUptoRow : OpenClaim := { program := "ytllmmnhgchidkaa", sum := "4344db6d0d64ec382117c3e6afe0d736f39a1c3e86e2ff6eb582d69dfa04da88", func := "given.example/pub-epode/laws.FnPathNote", spec := "fnPathNote", apart := false, narrowed := true }
def FnPathNoteUptoSaid : Prop := fnPathNoteUptoRow.holds Try.pinned (OpenSpec.upto fnPathNoteSpec)

/-- 'laws.FnPathHidden', WHERE WHAT IT READS IS OF BULK AT MOST 1048576: true; the input reads as it did. -/
def fnPathHiddenUptoRow : OpenClaim := { program := "ytllmmnhgchidkaa", sum := "4344db6d0d64ec382117c3e6afe0d736f39a1c3e86e2ff6eb582d69dfa04da88", func := "given.example/pub-epode/laws.FnPathHidden", spec := "fnPathHidden", apart := false, narrowed := true }
def FnPathHiddenUptoSaid : Prop := fnPathHiddenUptoRow.holds Try.pinned (OpenSpec.upto fnPathHiddenSpec)

/-- 'laws.FnPathParts', WHERE WHAT IT READS IS OF BULK AT MOST 1048576: true; the input reads as it did. -/
def fnPathPartsUptoRow : OpenClaim := { program := "ytllmmnhgchidkaa", sum := "4344db6d0d64ec382117c3e6afe0d736f39a1c3e86e2ff6eb582d69dfa04da88", func := "given.example/pub-epode/laws.FnPathParts", spec := "fnPathParts", recurses := true, apart := false, narrowed := true }
def FnPathPartsUptoSaid : Prop := fnPathPartsUptoRow.holds Try.pinned (OpenSpec.upto fnPathPartsSpec)

/-- 'laws.FnPathInsert', WHERE WHAT IT READS IS OF BULK AT MOST 1048576: true; the input reads as it did. -/
def fnPathInsertUptoRow : OpenClaim := { program := "ytllmmnhgchidkaa", sum := "4344db6d0d64ec382117c3e6afe0d736f39a1c3e86e2ff6eb582d69dfa04da88", func := "given.example/pub-epode/laws.FnPathInsert", spec := "fnPathInsert", recurses := true, apart := false, narrowed := true }
def FnPathInsertUptoSaid : Prop := fnPathInsertUptoRow.holds Try.pinned (OpenSpec.upto fnPathInsertSpec)

/-- 'laws.FnSelTokens', WHERE WHAT IT READS IS OF BULK AT MOST 1048576: true; the input reads as it did. -/
def fnSelTokensUptoRow : OpenClaim := { program := "ytllmmnhgchidkaa", sum := "4344db6d0d64ec382117c3e6afe0d736f39a1c3e86e2ff6eb582d69dfa04da88", func := "given.example/pub-epode/laws.FnSelTokens", spec := "fnSelTokens", unfollowed := true, recurses := true, apart := false, narrowed := true }
def FnSelTokensUptoSaid : Prop := fnSelTokensUptoRow.holds Try.pinned (OpenSpec.upto fnSelTokensSpec)

end Rows
end Go.Proofs.Ytllmmnhgchidkaa
