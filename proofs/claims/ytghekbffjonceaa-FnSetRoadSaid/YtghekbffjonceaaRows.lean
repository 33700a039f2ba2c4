/-
  No cell of these rows narrows 'for every input' (looked for: loops, veiled, ifaces, maps, wideKeys, modest, calm, conditions, laid).
  DERIVED. THE GIVEN ROWS OF THIS SEAT. 5 by the template 'for every input the law returns true; each argument reads behind the call as it read before'; 0 by the template 'total and deterministic' (their statements: YtghekbffjonceaaTotals.lean).
  GIVEN WITH THE SEED: the statements are not yours to turn. If you find one false, say at which input.
  Laid BY PROGRAM, IN A SANDBOX (cutbox-rows.mjs): the forced cells as the released guide's own fill.sh prints them over the translation 81e58551968ae654… (all of the seat's roots in one cut). By AI agents, Wed Nov 11 2026. No macro, syntax, notation, axiom, sorry.
-/
import Derived.Test.YtghekbffjonceaaChecked
import GoSem.Claim
import GoSem.ClaimJoined
import GoSem.ClaimMapViews
import Derived.JoinedTies
import Derived.KernelRfl
namespace Go.Proofs.Ytghekbffjonceaa
/- THE CELL 'sum', in the pinned program and in every row, IS THE sha256 OF THE DUMP (.gsa) THAT YtghekbffjonceaaProg.lean LOADS. Nothing in Lean hashes anything: it is a label: what it is worth is what the hold of that sum in a sandbox is worth. -/
noncomputable def Try.pinned : Pinned := { name := "ytghekbffjonceaa", sum := "81e58551968ae6548c5ad869cd8e7ec14905974e28e548b086805039b830b759", checked := Try.checked }
namespace Rows
def none {H : Type} : Left H := { results := [], args := [] }

/-- 'laws.FnSetHas': WHATEVER THE INPUT: true; the input reads as it did. -/
def fnSetHasSpec : ChangeSpec := { name := "fnSetHas", fn := fun _ => fun
  | [d1, d2, d3] => { results := [.lit (.bool true)], args := [d1, d2, d3] }
  | _ => none }
def fnSetHasRow : OpenClaim := { program := "ytghekbffjonceaa", sum := "81e58551968ae6548c5ad869cd8e7ec14905974e28e548b086805039b830b759", func := "given.example/pub-epode/laws.FnSetHas", spec := "fnSetHas", apart := false }
def FnSetHasSaid : Prop := fnSetHasRow.holds Try.pinned (OpenSpec.ofChange fnSetHasSpec)

/-- ITS FALSE NEIGHBOUR: 'it returns false'. Refute it at one input. -/
def fnSetHasWrong : ChangeSpec := { name := "fnSetHas", fn := fun _ => fun
  | [d1, d2, d3] => { results := [.lit (.bool false)], args := [d1, d2, d3] }
  | _ => none }
def FnSetHasWrongFalsely : Prop := fnSetHasRow.holds Try.pinned (OpenSpec.ofChange fnSetHasWrong)

/-- 'laws.FnSetList': WHATEVER THE INPUT: true; the input reads as it did. -/
def fnSetListSpec : ChangeSpec := { name := "fnSetList", fn := fun _ => fun
  | [d1, d2, d3] => { results := [.lit (.bool true)], args := [d1, d2, d3] }
  | _ => none }
def fnSetListRow : OpenClaim := { program := "ytghekbffjonceaa", sum := "81e58551968ae6548c5ad869cd8e7ec14905974e28e548b086805039b830b759", func := "given.example/pub-epode/laws.FnSetList", spec := "fnSetList", unfollowed := true, recurses := true, apart := false }
def FnSetListSaid : Prop := fnSetListRow.holds Try.pinned (OpenSpec.ofChange fnSetListSpec)

/-- ITS FALSE NEIGHBOUR: 'it returns false'. Refute it at one input. -/
def fnSetListWrong : ChangeSpec := { name := "fnSetList", fn := fun _ => fun
  | [d1, d2, d3] => { results := [.lit (.bool false)], args := [d1, d2, d3] }
  | _ => none }
def FnSetListWrongFalsely : Prop := fnSetListRow.holds Try.pinned (OpenSpec.ofChange fnSetListWrong)

/-- 'laws.FnSetWithin': WHATEVER THE INPUT: true; the input reads as it did. -/
def fnSetWithinSpec : ChangeSpec := { name := "fnSetWithin", fn := fun _ => fun
  | [d1, d2] => { results := [.lit (.bool true)], args := [d1, d2] }
  | _ => none }
def fnSetWithinRow : OpenClaim := { program := "ytghekbffjonceaa", sum := "81e58551968ae6548c5ad869cd8e7ec14905974e28e548b086805039b830b759", func := "given.example/pub-epode/laws.FnSetWithin", spec := "fnSetWithin", unfollowed := true, recurses := true, apart := false }
def FnSetWithinSaid : Prop := fnSetWithinRow.holds Try.pinned (OpenSpec.ofChange fnSetWithinSpec)

/-- ITS FALSE NEIGHBOUR: 'it returns false'. Refute it at one input. -/
def fnSetWithinWrong : ChangeSpec := { name := "fnSetWithin", fn := fun _ => fun
  | [d1, d2] => { results := [.lit (.bool false)], args := [d1, d2] }
  | _ => none }
def FnSetWithinWrongFalsely : Prop := fnSetWithinRow.holds Try.pinned (OpenSpec.ofChange fnSetWithinWrong)

/-- 'laws.FnSetBoth': WHATEVER THE INPUT: true; the input reads as it did. -/
def fnSetBothSpec : ChangeSpec := { name := "fnSetBoth", fn := fun _ => fun
  | [d1, d2] => { results := [.lit (.bool true)], args := [d1, d2] }
  | _ => none }
def fnSetBothRow : OpenClaim := { program := "ytghekbffjonceaa", sum := "81e58551968ae6548c5ad869cd8e7ec14905974e28e548b086805039b830b759", func := "given.example/pub-epode/laws.FnSetBoth", spec := "fnSetBoth", unfollowed := true, recurses := true, apart := false }
def FnSetBothSaid : Prop := fnSetBothRow.holds Try.pinned (OpenSpec.ofChange fnSetBothSpec)

/-- ITS FALSE NEIGHBOUR: 'it returns false'. Refute it at one input. -/
def fnSetBothWrong : ChangeSpec := { name := "fnSetBoth", fn := fun _ => fun
  | [d1, d2] => { results := [.lit (.bool false)], args := [d1, d2] }
  | _ => none }
def FnSetBothWrongFalsely : Prop := fnSetBothRow.holds Try.pinned (OpenSpec.ofChange fnSetBothWrong)

/-- 'laws.FnSetRoad': WHATEVER THE INPUT: true; the input reads as it did. -/
def fnSetRoadSpec : ChangeSpec := { name := "fnSetRoad", fn := fun _ => fun
  | [d1, d2] => { results := [.lit (.bool true)], args := [d1, d2] }
  | _ => none }
def fnSetRoadRow : OpenClaim := { program := "ytghekbffjonceaa", sum := "81e58551968ae6548c5ad869cd8e7ec14905974e28e548b086805039b830b759", func := "given.example/pub-epode/laws.FnSetRoad", spec := "fnSetRoad", unfollowed := true, recurses := true, apart := false }
def FnSetRoadSaid : Prop := fnSetRoadRow.holds Try.pinned (OpenSpec.ofChange fnSetRoadSpec)

/-- ITS FALSE NEIGHBOUR: 'it returns false'. Refute it at one input. -/
def fnSetRoadWrong : ChangeSpec := { name := "fnSetRoad", fn := fun _ => fun
  | [d1, d2] => { results := [.lit (.bool false)], args := [d1, d2] }
  | _ => none }
def FnSetRoadWrongFalsely : Prop := fnSetRoadRow.holds Try.pinned (OpenSpec.ofChange fnSetRoadWrong)

/- THE SECOND FORM. 'bulk': how many values and letters a reading holds, each counted each time it is reached (what is shared counts as often as it is met; a slice's spare places count too). A statement '..UptoSaid' is the law's where the arguments, and the package variables that the reading takes, are together of bulk at most 1048576: NARROWER than '..Said'. Prove '..Said' where nothing that the law and all that it calls make is longer than what came in: it says more and counts as full. Else prove '..UptoSaid'. A law counts once. -/
mutual
def uptoBulk {H : Type} : DataW H → Nat
  | .lit (.string bytes) => bytes.length + 1
  | .lit _ => 1
  | .nil => 1
  | .ptr d => uptoBulk d + 1
  | .slice elems spare => uptoBulkAll elems + uptoBulkAll spare + 1
  | .agg parts => uptoBulkAll parts + 1
  | .iface _ d => uptoBulk d + 1
  | .map entries => uptoBulkEntries entries + 1
  | .held _ => 1
def uptoBulkAll {H : Type} : List (DataW H) → Nat
  | [] => 0
  | d :: r => uptoBulk d + uptoBulkAll r
def uptoBulkEntries {H : Type} : List (Lit × DataW H) → Nat
  | [] => 0
  | x :: r => uptoBulkEntry x + uptoBulkEntries r
def uptoBulkEntry {H : Type} : Lit × DataW H → Nat
  | (.string bytes, d) => bytes.length + uptoBulk d + 1
  | (_, d) => uptoBulk d + 1
 end
def uptoSmall : (H : Type) → List (DataW H) → Bool := fun _ ds => decide (uptoBulkAll ds ≤ 1048576)
def OpenSpec.upto (s : _root_.Go.ChangeSpec) : _root_.Go.OpenSpec := { _root_.Go.OpenSpec.ofChange s with cond := some uptoSmall }

/-- 'laws.FnSetHas', WHERE WHAT IT READS IS OF BULK AT MOST 1048576: true; the input reads as it did. -/
def fnSetHasUptoRow : OpenClaim := { program := "ytghekbffjonceaa", sum := "81e58551968ae6548c5ad869cd8e7ec14905974e28e548b086805039b830b759", func := "given.example/pub-epode/laws.FnSetHas", spec := "fnSetHas", apart := false, narrowed := true }
def FnSetHasUptoSaid : Prop := fnSetHasUptoRow.holds Try.pinned (OpenSpec.upto fnSetHasSpec)

/-- 'laws.FnSetList', WHERE WHAT IT READS IS OF BULK AT MOST 1048576: true; the input reads as it did. -/
def fnSetListUptoRow : OpenClaim := { program := "ytghekbffjonceaa", sum := "81e58551968ae6548c5ad869cd8e7ec14905974e28e548b086805039b830b759", func := "given.example/pub-epode/laws.FnSetList", spec := "fnSetList", unfollowed := true, recurses := true, apart := false, narrowed := true }
def FnSetListUptoSaid : Prop := fnSetListUptoRow.holds Try.pinned (OpenSpec.upto fnSetListSpec)

/-- 'laws.FnSetWithin', WHERE WHAT IT READS IS OF BULK AT MOST 1048576: true; the input reads as it did. -/
def fnSetWithinUptoRow : OpenClaim := { program := "ytghekbffjonceaa", sum := "81e58551968ae6548c5ad869cd8e7ec14905974e28e548b086805039b830b759", func := "given.example/pub-epode/laws.FnSetWithin", spec := "fnSetWithin", unfollowed := true, recurses := true, apart := false, narrowed := true }
def FnSetWithinUptoSaid : Prop := fnSetWithinUptoRow.holds Try.pinned (OpenSpec.upto fnSetWithinSpec)

/-- 'laws.FnSetBoth', WHERE WHAT IT READS IS OF BULK AT MOST 1048576: true; the input reads as it did. -/
def fnSetBothUptoRow : OpenClaim := { program := "ytghekbffjonceaa", sum := "81e58551968ae6548c5ad869cd8e7ec14905974e28e548b086805039b830b759", func := "given.example/pub-epode/laws.FnSetBoth", spec := "fnSetBoth", unfollowed := true, recurses := true, apart := false, narrowed := true }
def FnSetBothUptoSaid : Prop := fnSetBothUptoRow.holds Try.pinned (OpenSpec.upto fnSetBothSpec)

/-- 'laws.FnSetRoad', WHERE WHAT IT READS IS OF BULK AT MOST 1048576: true; the input reads as it did. -/
def fnSetRoadUptoRow : OpenClaim := { program := "ytghekbffjonceaa", sum := "81e58551968ae6548c5ad869cd8e7ec14905974e28e548b086805039b830b759", func := "given.example/pub-epode/laws.FnSetRoad", spec := "fnSetRoad", unfollowed := true, recurses := true, apart := false, narrowed := true }
def FnSetRoadUptoSaid : Prop := fnSetRoadUptoRow.holds Try.pinned (OpenSpec.upto fnSetRoadSpec)

end Rows
end Go.Proofs.Ytghekbffjonceaa
