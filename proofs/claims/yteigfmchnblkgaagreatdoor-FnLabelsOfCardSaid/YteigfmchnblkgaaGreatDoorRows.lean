/-
  NARROWER THAN 'FOR EVERY INPUT', by the rows' own cells (each row's printed sentence says how): FnSelDecidesLabels: laid · FnSelMatches: laid · FnSelOrder: laid · FnReqMatches: laid · FnLabelsText: laid · FnSelExact: laid · FnLabelsBoth: laid · FnLabelsMerge: laid · FnReqText: laid · FnLabelsOf: laid.
  DERIVED. THE GIVEN ROWS OF THIS SEAT. 10 by the template 'for every input the law returns true; each argument reads behind the call as it read before'; 0 by the template 'total and deterministic' (their statements: YteigfmchnblkgaaGreatDoorTotals.lean).
  GIVEN WITH THE SEED: the statements are not yours to turn. If you find one false, say at which input.
  Laid BY PROGRAM, IN A SANDBOX (cutbox-rows.mjs): the forced cells as the released guide's own fill.sh prints them over the translation b088c287a8b86ee9… (all of the seat's roots in one cut). By AI agents, Wed Nov 11 2026. No macro, syntax, notation, axiom, sorry.
-/
import Derived.Test.YteigfmchnblkgaaGreatDoorChecked
import GoSem.PinnedTables
import GoSem.Claim
import GoSem.ClaimJoined
import GoSem.ClaimMapViews
import Derived.JoinedTies
import Derived.KernelRfl
namespace Go.Proofs.YteigfmchnblkgaaGreatDoor
/- THE CELL 'sum', in the pinned program and in every row, IS THE sha256 OF THE DUMP (.gsa) THAT YteigfmchnblkgaaGreatDoorProg.lean LOADS. Nothing in Lean hashes anything: it is a label: what it is worth is what the hold of that sum in a sandbox is worth. -/
noncomputable def Tryz.pinned : Pinned := { name := "yteigfmchnblkgaagreatdoor", sum := "b088c287a8b86ee9e8d57144e6e61b1a3ecd5c9d114749e31b755a31f26dfebb", checked := Tryz.checked }
namespace Rows
def none {H : Type} : Left H := { results := [], args := [] }

/- WHAT THE LISTED PACKAGE-LEVEL VARIABLES READ AS WHEN THE CALL BEGINS. Each datum BY PROGRAM (the guide's laid-datum.mjs) off the statement by which the dump's own 'gosem.cut.vars' lays the variable. In a bare row this is a premise. The card (YteigfmchnblkgaaGreatDoorCards.lean) ties it to the program's text. -/
def laid_math_bits_deBruijn32tab {H : Type} : DataW H := .agg [.lit (.int .u8 0), .lit (.int .u8 1), .lit (.int .u8 28), .lit (.int .u8 2), .lit (.int .u8 29), .lit (.int .u8 14), .lit (.int .u8 24), .lit (.int .u8 3), .lit (.int .u8 30), .lit (.int .u8 22), .lit (.int .u8 20), .lit (.int .u8 15), .lit (.int .u8 25), .lit (.int .u8 17), .lit (.int .u8 4), .lit (.int .u8 8), .lit (.int .u8 31), .lit (.int .u8 27), .lit (.int .u8 13), .lit (.int .u8 23), .lit (.int .u8 21), .lit (.int .u8 19), .lit (.int .u8 16), .lit (.int .u8 7), .lit (.int .u8 26), .lit (.int .u8 12), .lit (.int .u8 18), .lit (.int .u8 6), .lit (.int .u8 11), .lit (.int .u8 5), .lit (.int .u8 10), .lit (.int .u8 9)]
def laid_math_bits_deBruijn64tab {H : Type} : DataW H := .agg [.lit (.int .u8 0), .lit (.int .u8 1), .lit (.int .u8 56), .lit (.int .u8 2), .lit (.int .u8 57), .lit (.int .u8 49), .lit (.int .u8 28), .lit (.int .u8 3), .lit (.int .u8 61), .lit (.int .u8 58), .lit (.int .u8 42), .lit (.int .u8 50), .lit (.int .u8 38), .lit (.int .u8 29), .lit (.int .u8 17), .lit (.int .u8 4), .lit (.int .u8 62), .lit (.int .u8 47), .lit (.int .u8 59), .lit (.int .u8 36), .lit (.int .u8 45), .lit (.int .u8 43), .lit (.int .u8 51), .lit (.int .u8 22), .lit (.int .u8 53), .lit (.int .u8 39), .lit (.int .u8 33), .lit (.int .u8 30), .lit (.int .u8 24), .lit (.int .u8 18), .lit (.int .u8 12), .lit (.int .u8 5), .lit (.int .u8 63), .lit (.int .u8 55), .lit (.int .u8 48), .lit (.int .u8 27), .lit (.int .u8 60), .lit (.int .u8 41), .lit (.int .u8 37), .lit (.int .u8 16), .lit (.int .u8 46), .lit (.int .u8 35), .lit (.int .u8 44), .lit (.int .u8 21), .lit (.int .u8 52), .lit (.int .u8 32), .lit (.int .u8 23), .lit (.int .u8 11), .lit (.int .u8 54), .lit (.int .u8 26), .lit (.int .u8 40), .lit (.int .u8 15), .lit (.int .u8 34), .lit (.int .u8 20), .lit (.int .u8 31), .lit (.int .u8 10), .lit (.int .u8 25), .lit (.int .u8 14), .lit (.int .u8 19), .lit (.int .u8 9), .lit (.int .u8 13), .lit (.int .u8 8), .lit (.int .u8 7), .lit (.int .u8 6)]
def laid_internal_strconv_uint64pow10 {H : Type} : DataW H := .agg [.lit (.int .u64 1), .lit (.int .u64 10), .lit (.int .u64 100), .lit (.int .u64 1000), .lit (.int .u64 10000), .lit (.int .u64 100000), .lit (.int .u64 1000000), .lit (.int .u64 10000000), .lit (.int .u64 100000000), .lit (.int .u64 1000000000), .lit (.int .u64 10000000000), .lit (.int .u64 100000000000), .lit (.int .u64 1000000000000), .lit (.int .u64 10000000000000), .lit (.int .u64 100000000000000), .lit (.int .u64 1000000000000000), .lit (.int .u64 10000000000000000), .lit (.int .u64 100000000000000000), .lit (.int .u64 1000000000000000000), .lit (.int .u64 10000000000000000000)]
def laid_strconv_ErrRange {H : Type} : DataW H := .iface "*errors.errorString" (.ptr (.agg [.lit (.string [118, 97, 108, 117, 101, 32, 111, 117, 116, 32, 111, 102, 32, 114, 97, 110, 103, 101])]))
def laid_strconv_ErrSyntax {H : Type} : DataW H := .iface "*errors.errorString" (.ptr (.agg [.lit (.string [105, 110, 118, 97, 108, 105, 100, 32, 115, 121, 110, 116, 97, 120])]))
def laid_unicode_utf8_acceptRanges {H : Type} : DataW H := .agg [.agg [.lit (.int .u8 128), .lit (.int .u8 191)], .agg [.lit (.int .u8 160), .lit (.int .u8 191)], .agg [.lit (.int .u8 128), .lit (.int .u8 159)], .agg [.lit (.int .u8 144), .lit (.int .u8 191)], .agg [.lit (.int .u8 128), .lit (.int .u8 143)], .agg [.lit (.int .u8 0), .lit (.int .u8 0)], .agg [.lit (.int .u8 0), .lit (.int .u8 0)], .agg [.lit (.int .u8 0), .lit (.int .u8 0)], .agg [.lit (.int .u8 0), .lit (.int .u8 0)], .agg [.lit (.int .u8 0), .lit (.int .u8 0)], .agg [.lit (.int .u8 0), .lit (.int .u8 0)], .agg [.lit (.int .u8 0), .lit (.int .u8 0)], .agg [.lit (.int .u8 0), .lit (.int .u8 0)], .agg [.lit (.int .u8 0), .lit (.int .u8 0)], .agg [.lit (.int .u8 0), .lit (.int .u8 0)], .agg [.lit (.int .u8 0), .lit (.int .u8 0)]]
/-- One of Go's own tables, pinned by name: the form's constant. -/
def laid_unicode_utf8_first : DataW Unit := Go.Pinned.utf8First

/-- 'laws.FnSelDecidesLabels': WHATEVER THE INPUT: true; the input reads as it did. -/
def fnSelDecidesLabelsSpec : ChangeSpec := { name := "fnSelDecidesLabels", fn := fun _ => fun
  | [d1, d2] => { results := [.lit (.bool true)], args := [d1, d2] }
  | _ => none }
def fnSelDecidesLabelsRow : OpenClaim := { program := "yteigfmchnblkgaagreatdoor", sum := "b088c287a8b86ee9e8d57144e6e61b1a3ecd5c9d114749e31b755a31f26dfebb", func := "given.example/pub-epode/laws.FnSelDecidesLabels", spec := "fnSelDecidesLabels", unfollowed := true, recurses := true, named := ["strconv.ErrSyntax", "strconv.ErrRange", "internal/strconv.uint64pow10", "math/bits.deBruijn32tab", "math/bits.deBruijn64tab"], apart := false, laid := [("math/bits.deBruijn32tab", laid_math_bits_deBruijn32tab), ("math/bits.deBruijn64tab", laid_math_bits_deBruijn64tab), ("internal/strconv.uint64pow10", laid_internal_strconv_uint64pow10), ("strconv.ErrRange", laid_strconv_ErrRange), ("strconv.ErrSyntax", laid_strconv_ErrSyntax)] }
def FnSelDecidesLabelsSaid : Prop := fnSelDecidesLabelsRow.holds Tryz.pinned (OpenSpec.ofChange fnSelDecidesLabelsSpec)

/-- ITS FALSE NEIGHBOUR: 'it returns false'. Refute it at one input. -/
def fnSelDecidesLabelsWrong : ChangeSpec := { name := "fnSelDecidesLabels", fn := fun _ => fun
  | [d1, d2] => { results := [.lit (.bool false)], args := [d1, d2] }
  | _ => none }
def FnSelDecidesLabelsWrongFalsely : Prop := fnSelDecidesLabelsRow.holds Tryz.pinned (OpenSpec.ofChange fnSelDecidesLabelsWrong)

/-- 'laws.FnSelMatches': WHATEVER THE INPUT: true; the input reads as it did. -/
def fnSelMatchesSpec : ChangeSpec := { name := "fnSelMatches", fn := fun _ => fun
  | [d1, d2, d3] => { results := [.lit (.bool true)], args := [d1, d2, d3] }
  | _ => none }
def fnSelMatchesRow : OpenClaim := { program := "yteigfmchnblkgaagreatdoor", sum := "b088c287a8b86ee9e8d57144e6e61b1a3ecd5c9d114749e31b755a31f26dfebb", func := "given.example/pub-epode/laws.FnSelMatches", spec := "fnSelMatches", unfollowed := true, recurses := true, named := ["strconv.ErrSyntax", "strconv.ErrRange", "internal/strconv.uint64pow10", "math/bits.deBruijn32tab", "math/bits.deBruijn64tab"], apart := false, laid := [("math/bits.deBruijn32tab", laid_math_bits_deBruijn32tab), ("math/bits.deBruijn64tab", laid_math_bits_deBruijn64tab), ("internal/strconv.uint64pow10", laid_internal_strconv_uint64pow10), ("strconv.ErrRange", laid_strconv_ErrRange), ("strconv.ErrSyntax", laid_strconv_ErrSyntax)] }
def FnSelMatchesSaid : Prop := fnSelMatchesRow.holds Tryz.pinned (OpenSpec.ofChange fnSelMatchesSpec)

/-- ITS FALSE NEIGHBOUR: 'it returns false'. Refute it at one input. -/
def fnSelMatchesWrong : ChangeSpec := { name := "fnSelMatches", fn := fun _ => fun
  | [d1, d2, d3] => { results := [.lit (.bool false)], args := [d1, d2, d3] }
  | _ => none }
def FnSelMatchesWrongFalsely : Prop := fnSelMatchesRow.holds Tryz.pinned (OpenSpec.ofChange fnSelMatchesWrong)

/-- 'laws.FnSelOrder': WHATEVER THE INPUT: true; the input reads as it did. -/
def fnSelOrderSpec : ChangeSpec := { name := "fnSelOrder", fn := fun _ => fun
  | [d1, d2, d3] => { results := [.lit (.bool true)], args := [d1, d2, d3] }
  | _ => none }
def fnSelOrderRow : OpenClaim := { program := "yteigfmchnblkgaagreatdoor", sum := "b088c287a8b86ee9e8d57144e6e61b1a3ecd5c9d114749e31b755a31f26dfebb", func := "given.example/pub-epode/laws.FnSelOrder", spec := "fnSelOrder", unfollowed := true, recurses := true, named := ["strconv.ErrSyntax", "strconv.ErrRange", "internal/strconv.uint64pow10", "math/bits.deBruijn32tab", "math/bits.deBruijn64tab"], apart := false, laid := [("math/bits.deBruijn32tab", laid_math_bits_deBruijn32tab), ("math/bits.deBruijn64tab", laid_math_bits_deBruijn64tab), ("internal/strconv.uint64pow10", laid_internal_strconv_uint64pow10), ("strconv.ErrRange", laid_strconv_ErrRange), ("strconv.ErrSyntax", laid_strconv_ErrSyntax)] }
def FnSelOrderSaid : Prop := fnSelOrderRow.holds Tryz.pinned (OpenSpec.ofChange fnSelOrderSpec)

/-- ITS FALSE NEIGHBOUR: 'it returns false'. Refute it at one input. -/
def fnSelOrderWrong : ChangeSpec := { name := "fnSelOrder", fn := fun _ => fun
  | [d1, d2, d3] => { results := [.lit (.bool false)], args := [d1, d2, d3] }
  | _ => none }
def FnSelOrderWrongFalsely : Prop := fnSelOrderRow.holds Tryz.pinned (OpenSpec.ofChange fnSelOrderWrong)

/-- 'laws.FnReqMatches': WHATEVER THE INPUT: true; the input reads as it did. -/
def fnReqMatchesSpec : ChangeSpec := { name := "fnReqMatches", fn := fun _ => fun
  | [d1, d2] => { results := [.lit (.bool true)], args := [d1, d2] }
  | _ => none }
def fnReqMatchesRow : OpenClaim := { program := "yteigfmchnblkgaagreatdoor", sum := "b088c287a8b86ee9e8d57144e6e61b1a3ecd5c9d114749e31b755a31f26dfebb", func := "given.example/pub-epode/laws.FnReqMatches", spec := "fnReqMatches", unfollowed := true, recurses := true, named := ["internal/strconv.uint64pow10", "math/bits.deBruijn32tab", "math/bits.deBruijn64tab", "strconv.ErrSyntax", "strconv.ErrRange"], apart := false, laid := [("math/bits.deBruijn32tab", laid_math_bits_deBruijn32tab), ("math/bits.deBruijn64tab", laid_math_bits_deBruijn64tab), ("internal/strconv.uint64pow10", laid_internal_strconv_uint64pow10), ("strconv.ErrRange", laid_strconv_ErrRange), ("strconv.ErrSyntax", laid_strconv_ErrSyntax)] }
def FnReqMatchesSaid : Prop := fnReqMatchesRow.holds Tryz.pinned (OpenSpec.ofChange fnReqMatchesSpec)

/-- ITS FALSE NEIGHBOUR: 'it returns false'. Refute it at one input. -/
def fnReqMatchesWrong : ChangeSpec := { name := "fnReqMatches", fn := fun _ => fun
  | [d1, d2] => { results := [.lit (.bool false)], args := [d1, d2] }
  | _ => none }
def FnReqMatchesWrongFalsely : Prop := fnReqMatchesRow.holds Tryz.pinned (OpenSpec.ofChange fnReqMatchesWrong)

/-- 'laws.FnLabelsText': WHATEVER THE INPUT: true; the input reads as it did. -/
def fnLabelsTextSpec : ChangeSpec := { name := "fnLabelsText", fn := fun _ => fun
  | [d] => { results := [.lit (.bool true)], args := [d] }
  | _ => none }
def fnLabelsTextRow : OpenClaim := { program := "yteigfmchnblkgaagreatdoor", sum := "b088c287a8b86ee9e8d57144e6e61b1a3ecd5c9d114749e31b755a31f26dfebb", func := "given.example/pub-epode/laws.FnLabelsText", spec := "fnLabelsText", unfollowed := true, recurses := true, named := ["internal/strconv.uint64pow10", "math/bits.deBruijn32tab", "math/bits.deBruijn64tab", "strconv.ErrSyntax", "strconv.ErrRange"], apart := false, laid := [("math/bits.deBruijn32tab", laid_math_bits_deBruijn32tab), ("math/bits.deBruijn64tab", laid_math_bits_deBruijn64tab), ("internal/strconv.uint64pow10", laid_internal_strconv_uint64pow10), ("strconv.ErrRange", laid_strconv_ErrRange), ("strconv.ErrSyntax", laid_strconv_ErrSyntax)] }
def FnLabelsTextSaid : Prop := fnLabelsTextRow.holds Tryz.pinned (OpenSpec.ofChange fnLabelsTextSpec)

/-- ITS FALSE NEIGHBOUR: 'it returns false'. Refute it at one input. -/
def fnLabelsTextWrong : ChangeSpec := { name := "fnLabelsText", fn := fun _ => fun
  | [d] => { results := [.lit (.bool false)], args := [d] }
  | _ => none }
def FnLabelsTextWrongFalsely : Prop := fnLabelsTextRow.holds Tryz.pinned (OpenSpec.ofChange fnLabelsTextWrong)

/-- 'laws.FnSelExact': WHATEVER THE INPUT: true; the input reads as it did. -/
def fnSelExactSpec : ChangeSpec := { name := "fnSelExact", fn := fun _ => fun
  | [d1, d2] => { results := [.lit (.bool true)], args := [d1, d2] }
  | _ => none }
def fnSelExactRow : OpenClaim := { program := "yteigfmchnblkgaagreatdoor", sum := "b088c287a8b86ee9e8d57144e6e61b1a3ecd5c9d114749e31b755a31f26dfebb", func := "given.example/pub-epode/laws.FnSelExact", spec := "fnSelExact", unfollowed := true, recurses := true, named := ["strconv.ErrSyntax", "strconv.ErrRange", "internal/strconv.uint64pow10", "math/bits.deBruijn32tab", "math/bits.deBruijn64tab"], apart := false, laid := [("math/bits.deBruijn32tab", laid_math_bits_deBruijn32tab), ("math/bits.deBruijn64tab", laid_math_bits_deBruijn64tab), ("internal/strconv.uint64pow10", laid_internal_strconv_uint64pow10), ("strconv.ErrRange", laid_strconv_ErrRange), ("strconv.ErrSyntax", laid_strconv_ErrSyntax)] }
def FnSelExactSaid : Prop := fnSelExactRow.holds Tryz.pinned (OpenSpec.ofChange fnSelExactSpec)

/-- ITS FALSE NEIGHBOUR: 'it returns false'. Refute it at one input. -/
def fnSelExactWrong : ChangeSpec := { name := "fnSelExact", fn := fun _ => fun
  | [d1, d2] => { results := [.lit (.bool false)], args := [d1, d2] }
  | _ => none }
def FnSelExactWrongFalsely : Prop := fnSelExactRow.holds Tryz.pinned (OpenSpec.ofChange fnSelExactWrong)

/-- 'laws.FnLabelsBoth': WHATEVER THE INPUT: true; the input reads as it did. -/
def fnLabelsBothSpec : ChangeSpec := { name := "fnLabelsBoth", fn := fun _ => fun
  | [d1, d2] => { results := [.lit (.bool true)], args := [d1, d2] }
  | _ => none }
def fnLabelsBothRow : OpenClaim := { program := "yteigfmchnblkgaagreatdoor", sum := "b088c287a8b86ee9e8d57144e6e61b1a3ecd5c9d114749e31b755a31f26dfebb", func := "given.example/pub-epode/laws.FnLabelsBoth", spec := "fnLabelsBoth", unfollowed := true, recurses := true, named := ["internal/strconv.uint64pow10", "math/bits.deBruijn32tab", "math/bits.deBruijn64tab", "strconv.ErrSyntax", "strconv.ErrRange"], apart := false, laid := [("math/bits.deBruijn32tab", laid_math_bits_deBruijn32tab), ("math/bits.deBruijn64tab", laid_math_bits_deBruijn64tab), ("internal/strconv.uint64pow10", laid_internal_strconv_uint64pow10), ("strconv.ErrRange", laid_strconv_ErrRange), ("strconv.ErrSyntax", laid_strconv_ErrSyntax)] }
def FnLabelsBothSaid : Prop := fnLabelsBothRow.holds Tryz.pinned (OpenSpec.ofChange fnLabelsBothSpec)

/-- ITS FALSE NEIGHBOUR: 'it returns false'. Refute it at one input. -/
def fnLabelsBothWrong : ChangeSpec := { name := "fnLabelsBoth", fn := fun _ => fun
  | [d1, d2] => { results := [.lit (.bool false)], args := [d1, d2] }
  | _ => none }
def FnLabelsBothWrongFalsely : Prop := fnLabelsBothRow.holds Tryz.pinned (OpenSpec.ofChange fnLabelsBothWrong)

/-- 'laws.FnLabelsMerge': WHATEVER THE INPUT: true; the input reads as it did. -/
def fnLabelsMergeSpec : ChangeSpec := { name := "fnLabelsMerge", fn := fun _ => fun
  | [d1, d2] => { results := [.lit (.bool true)], args := [d1, d2] }
  | _ => none }
def fnLabelsMergeRow : OpenClaim := { program := "yteigfmchnblkgaagreatdoor", sum := "b088c287a8b86ee9e8d57144e6e61b1a3ecd5c9d114749e31b755a31f26dfebb", func := "given.example/pub-epode/laws.FnLabelsMerge", spec := "fnLabelsMerge", unfollowed := true, recurses := true, named := ["internal/strconv.uint64pow10", "math/bits.deBruijn32tab", "math/bits.deBruijn64tab", "strconv.ErrSyntax", "strconv.ErrRange"], apart := false, laid := [("math/bits.deBruijn32tab", laid_math_bits_deBruijn32tab), ("math/bits.deBruijn64tab", laid_math_bits_deBruijn64tab), ("internal/strconv.uint64pow10", laid_internal_strconv_uint64pow10), ("strconv.ErrRange", laid_strconv_ErrRange), ("strconv.ErrSyntax", laid_strconv_ErrSyntax)] }
def FnLabelsMergeSaid : Prop := fnLabelsMergeRow.holds Tryz.pinned (OpenSpec.ofChange fnLabelsMergeSpec)

/-- ITS FALSE NEIGHBOUR: 'it returns false'. Refute it at one input. -/
def fnLabelsMergeWrong : ChangeSpec := { name := "fnLabelsMerge", fn := fun _ => fun
  | [d1, d2] => { results := [.lit (.bool false)], args := [d1, d2] }
  | _ => none }
def FnLabelsMergeWrongFalsely : Prop := fnLabelsMergeRow.holds Tryz.pinned (OpenSpec.ofChange fnLabelsMergeWrong)

/-- 'laws.FnReqText': WHATEVER THE INPUT: true; the input reads as it did. -/
def fnReqTextSpec : ChangeSpec := { name := "fnReqText", fn := fun _ => fun
  | [d] => { results := [.lit (.bool true)], args := [d] }
  | _ => none }
def fnReqTextRow : OpenClaim := { program := "yteigfmchnblkgaagreatdoor", sum := "b088c287a8b86ee9e8d57144e6e61b1a3ecd5c9d114749e31b755a31f26dfebb", func := "given.example/pub-epode/laws.FnReqText", spec := "fnReqText", unfollowed := true, recurses := true, named := ["internal/strconv.uint64pow10", "math/bits.deBruijn32tab", "math/bits.deBruijn64tab", "strconv.ErrSyntax", "strconv.ErrRange"], apart := false, laid := [("math/bits.deBruijn32tab", laid_math_bits_deBruijn32tab), ("math/bits.deBruijn64tab", laid_math_bits_deBruijn64tab), ("internal/strconv.uint64pow10", laid_internal_strconv_uint64pow10), ("strconv.ErrRange", laid_strconv_ErrRange), ("strconv.ErrSyntax", laid_strconv_ErrSyntax)] }
def FnReqTextSaid : Prop := fnReqTextRow.holds Tryz.pinned (OpenSpec.ofChange fnReqTextSpec)

/-- ITS FALSE NEIGHBOUR: 'it returns false'. Refute it at one input. -/
def fnReqTextWrong : ChangeSpec := { name := "fnReqText", fn := fun _ => fun
  | [d] => { results := [.lit (.bool false)], args := [d] }
  | _ => none }
def FnReqTextWrongFalsely : Prop := fnReqTextRow.holds Tryz.pinned (OpenSpec.ofChange fnReqTextWrong)

/-- 'laws.FnLabelsOf': WHATEVER THE INPUT: true; the input reads as it did. -/
def fnLabelsOfSpec : ChangeSpec := { name := "fnLabelsOf", fn := fun _ => fun
  | [d1, d2] => { results := [.lit (.bool true)], args := [d1, d2] }
  | _ => none }
def fnLabelsOfRow : OpenClaim := { program := "yteigfmchnblkgaagreatdoor", sum := "b088c287a8b86ee9e8d57144e6e61b1a3ecd5c9d114749e31b755a31f26dfebb", func := "given.example/pub-epode/laws.FnLabelsOf", spec := "fnLabelsOf", unfollowed := true, recurses := true, named := ["unicode/utf8.first", "unicode/utf8.acceptRanges", "internal/strconv.uint64pow10", "math/bits.deBruijn32tab", "math/bits.deBruijn64tab", "strconv.ErrSyntax", "strconv.ErrRange"], apart := false, laid := [("math/bits.deBruijn32tab", laid_math_bits_deBruijn32tab), ("math/bits.deBruijn64tab", laid_math_bits_deBruijn64tab), ("internal/strconv.uint64pow10", laid_internal_strconv_uint64pow10), ("unicode/utf8.acceptRanges", laid_unicode_utf8_acceptRanges), ("strconv.ErrRange", laid_strconv_ErrRange), ("strconv.ErrSyntax", laid_strconv_ErrSyntax), ("unicode/utf8.first", laid_unicode_utf8_first)] }
def FnLabelsOfSaid : Prop := fnLabelsOfRow.holds Tryz.pinned (OpenSpec.ofChange fnLabelsOfSpec)

/-- ITS FALSE NEIGHBOUR: 'it returns false'. Refute it at one input. -/
def fnLabelsOfWrong : ChangeSpec := { name := "fnLabelsOf", fn := fun _ => fun
  | [d1, d2] => { results := [.lit (.bool false)], args := [d1, d2] }
  | _ => none }
def FnLabelsOfWrongFalsely : Prop := fnLabelsOfRow.holds Tryz.pinned (OpenSpec.ofChange fnLabelsOfWrong)

/- THE SECOND FORM. 'bulk': how many values and letters a reading holds, each counted each time it is reached (what is shared counts as often as it is met; a slice's spare places count too). A statement '..UptoSaid' is the law's where the arguments, and the package variables that the reading takes, are together of bulk at most 1048576: NARROWER than '..Said'. Prove '..Said' where nothing that the law and all that it calls make is longer than what came in: it says more and counts as full. Else prove '..UptoSaid'. A law counts once. -/
mutual
def uptoBulk {H : Type} : DataW H → Nat
  | .lit (.string bytes) => bytes.length + 1
  | .lit _ => 1
  | .nil => 1
  | .ptr d => uptoBulk d + 1
  | .slice elems spare => uptoBulkAll elems + uptoBulkAll spare + 1
  | .agg parts => uptoBulkAll parts + 1
  | .iface _ d => uptoBulk d + 1
  | .map entries => uptoBulkEntries entries + 1
  | .held _ => 1
def uptoBulkAll {H : Type} : List (DataW H) → Nat
  | [] => 0
  | d :: r => uptoBulk d + uptoBulkAll r
def uptoBulkEntries {H : Type} : List (Lit × DataW H) → Nat
  | [] => 0
  | x :: r => uptoBulkEntry x + uptoBulkEntries r
def uptoBulkEntry {H : Type} : Lit × DataW H → Nat
  | (.string bytes, d) => bytes.length + uptoBulk d + 1
  | (_, d) => uptoBulk d + 1
 end
def uptoSmall : (H : Type) → List (DataW H) → Bool := fun _ ds => decide (uptoBulkAll ds ≤ 1048576)
def OpenSpec.upto (s : _root_.Go.ChangeSpec) : _root_.Go.OpenSpec := { _root_.Go.OpenSpec.ofChange s with cond := some uptoSmall }

/-- 'laws.FnSelDecidesLabels', WHERE WHAT IT READS IS OF BULK AT MOST 1048576: true; the input reads as it did. -/
def fnSelDecidesLabelsUptoRow : OpenClaim := { program := "yteigfmchnblkgaagreatdoor", sum := "b088c287a8b86ee9e8d57144e6e61b1a3ecd5c9d114749e31b755a31f26dfebb", func := "given.example/pub-epode/laws.FnSelDecidesLabels", spec := "fnSelDecidesLabels", unfollowed := true, recurses := true, named := ["strconv.ErrSyntax", "strconv.ErrRange", "internal/strconv.uint64pow10", "math/bits.deBruijn32tab", "math/bits.deBruijn64tab"], apart := false, laid := [("math/bits.deBruijn32tab", laid_math_bits_deBruijn32tab), ("math/bits.deBruijn64tab", laid_math_bits_deBruijn64tab), ("internal/strconv.uint64pow10", laid_internal_strconv_uint64pow10), ("strconv.ErrRange", laid_strconv_ErrRange), ("strconv.ErrSyntax", laid_strconv_ErrSyntax)], narrowed := true }
def FnSelDecidesLabelsUptoSaid : Prop := fnSelDecidesLabelsUptoRow.holds Tryz.pinned (OpenSpec.upto fnSelDecidesLabelsSpec)

/-- 'laws.FnSelMatches', WHERE WHAT IT READS IS OF BULK AT MOST 1048576: true; the input reads as it did. -/
def fnSelMatchesUptoRow : OpenClaim := { program := "yteigfmchnblkgaagreatdoor", sum := "b088c287a8b86ee9e8d57144e6e61b1a3ecd5c9d114749e31b755a31f26dfebb", func := "given.example/pub-epode/laws.FnSelMatches", spec := "fnSelMatches", unfollowed := true, recurses := true, named := ["strconv.ErrSyntax", "strconv.ErrRange", "internal/strconv.uint64pow10", "math/bits.deBruijn32tab", "math/bits.deBruijn64tab"], apart := false, laid := [("math/bits.deBruijn32tab", laid_math_bits_deBruijn32tab), ("math/bits.deBruijn64tab", laid_math_bits_deBruijn64tab), ("internal/strconv.uint64pow10", laid_internal_strconv_uint64pow10), ("strconv.ErrRange", laid_strconv_ErrRange), ("strconv.ErrSyntax", laid_strconv_ErrSyntax)], narrowed := true }
def FnSelMatchesUptoSaid : Prop := fnSelMatchesUptoRow.holds Tryz.pinned (OpenSpec.upto fnSelMatchesSpec)

/-- 'laws.FnSelOrder', WHERE WHAT IT READS IS OF BULK AT MOST 1048576: true; the input reads as it did. -/
def fnSelOrderUptoRow : OpenClaim := { program := "yteigfmchnblkgaagreatdoor", sum := "b088c287a8b86ee9e8d57144e6e61b1a3ecd5c9d114749e31b755a31f26dfebb", func := "given.example/pub-epode/laws.FnSelOrder", spec := "fnSelOrder", unfollowed := true, recurses := true, named := ["strconv.ErrSyntax", "strconv.ErrRange", "internal/strconv.uint64pow10", "math/bits.deBruijn32tab", "math/bits.deBruijn64tab"], apart := false, laid := [("math/bits.deBruijn32tab", laid_math_bits_deBruijn32tab), ("math/bits.deBruijn64tab", laid_math_bits_deBruijn64tab), ("internal/strconv.uint64pow10", laid_internal_strconv_uint64pow10), ("strconv.ErrRange", laid_strconv_ErrRange), ("strconv.ErrSyntax", laid_strconv_ErrSyntax)], narrowed := true }
def FnSelOrderUptoSaid : Prop := fnSelOrderUptoRow.holds Tryz.pinned (OpenSpec.upto fnSelOrderSpec)

/-- 'laws.FnReqMatches', WHERE WHAT IT READS IS OF BULK AT MOST 1048576: true; the input reads as it did. -/
def fnReqMatchesUptoRow : OpenClaim := { program := "yteigfmchnblkgaagreatdoor", sum := "b088c287a8b86ee9e8d57144e6e61b1a3ecd5c9d114749e31b755a31f26dfebb", func := "given.example/pub-epode/laws.FnReqMatches", spec := "fnReqMatches", unfollowed := true, recurses := true, named := ["internal/strconv.uint64pow10", "math/bits.deBruijn32tab", "math/bits.deBruijn64tab", "strconv.ErrSyntax", "strconv.ErrRange"], apart := false, laid := [("math/bits.deBruijn32tab", laid_math_bits_deBruijn32tab), ("math/bits.deBruijn64tab", laid_math_bits_deBruijn64tab), ("internal/strconv.uint64pow10", laid_internal_strconv_uint64pow10), ("strconv.ErrRange", laid_strconv_ErrRange), ("strconv.ErrSyntax", laid_strconv_ErrSyntax)], narrowed := true }
def FnReqMatchesUptoSaid : Prop := fnReqMatchesUptoRow.holds Tryz.pinned (OpenSpec.upto fnReqMatchesSpec)

/-- 'laws.FnLabelsText', WHERE WHAT IT READS IS OF BULK AT MOST 1048576: true; the input reads as it did. -/
def fnLabelsTextUptoRow : OpenClaim := { program := "yteigfmchnblkgaagreatdoor", sum := "b088c287a8b86ee9e8d57144e6e61b1a3ecd5c9d114749e31b755a31f26dfebb", func := "given.example/pub-epode/laws.FnLabelsText", spec := "fnLabelsText", unfollowed := true, recurses := true, named := ["internal/strconv.uint64pow10", "math/bits.deBruijn32tab", "math/bits.deBruijn64tab", "strconv.ErrSyntax", "strconv.ErrRange"], apart := false, laid := [("math/bits.deBruijn32tab", laid_math_bits_deBruijn32tab), ("math/bits.deBruijn64tab", laid_math_bits_deBruijn64tab), ("internal/strconv.uint64pow10", laid_internal_strconv_uint64pow10), ("strconv.ErrRange", laid_strconv_ErrRange), ("strconv.ErrSyntax", laid_strconv_ErrSyntax)], narrowed := true }
def FnLabelsTextUptoSaid : Prop := fnLabelsTextUptoRow.holds Tryz.pinned (OpenSpec.upto fnLabelsTextSpec)

/-- 'laws.FnSelExact', WHERE WHAT IT READS IS OF BULK AT MOST 1048576: true; the input reads as it did. -/
def fnSelExactUptoRow : OpenClaim := { program := "yteigfmchnblkgaagreatdoor", sum := "b088c287a8b86ee9e8d57144e6e61b1a3ecd5c9d114749e31b755a31f26dfebb", func := "given.example/pub-epode/laws.FnSelExact", spec := "fnSelExact", unfollowed := true, recurses := true, named := ["strconv.ErrSyntax", "strconv.ErrRange", "internal/strconv.uint64pow10", "math/bits.deBruijn32tab", "math/bits.deBruijn64tab"], apart := false, laid := [("math/bits.deBruijn32tab", laid_math_bits_deBruijn32tab), ("math/bits.deBruijn64tab", laid_math_bits_deBruijn64tab), ("internal/strconv.uint64pow10", laid_internal_strconv_uint64pow10), ("strconv.ErrRange", laid_strconv_ErrRange), ("strconv.ErrSyntax", laid_strconv_ErrSyntax)], narrowed := true }
def FnSelExactUptoSaid : Prop := fnSelExactUptoRow.holds Tryz.pinned (OpenSpec.upto fnSelExactSpec)

/-- 'laws.FnLabelsBoth', WHERE WHAT IT READS IS OF BULK AT MOST 1048576: true; the input reads as it did. -/
def fnLabelsBothUptoRow : OpenClaim := { program := "yteigfmchnblkgaagreatdoor", sum := "b088c287a8b86ee9e8d57144e6e61b1a3ecd5c9d114749e31b755a31f26dfebb", func := "given.example/pub-epode/laws.FnLabelsBoth", spec := "fnLabelsBoth", unfollowed := true, recurses := true, named := ["internal/strconv.uint64pow10", "math/bits.deBruijn32tab", "math/bits.deBruijn64tab", "strconv.ErrSyntax", "strconv.ErrRange"], apart := false, laid := [("math/bits.deBruijn32tab", laid_math_bits_deBruijn32tab), ("math/bits.deBruijn64tab", laid_math_bits_deBruijn64tab), ("internal/strconv.uint64pow10", laid_internal_strconv_uint64pow10), ("strconv.ErrRange", laid_strconv_ErrRange), ("strconv.ErrSyntax", laid_strconv_ErrSyntax)], narrowed := true }
def FnLabelsBothUptoSaid : Prop := fnLabelsBothUptoRow.holds Tryz.pinned (OpenSpec.upto fnLabelsBothSpec)

/-- 'laws.FnLabelsMerge', WHERE WHAT IT READS IS OF BULK AT MOST 1048576: true; the input reads as it did. -/
def fnLabelsMergeUptoRow : OpenClaim := { program := "yteigfmchnblkgaagreatdoor", sum := "b088c287a8b86ee9e8d57144e6e61b1a3ecd5c9d114749e31b755a31f26dfebb", func := "given.example/pub-epode/laws.FnLabelsMerge", spec := "fnLabelsMerge", unfollowed := true, recurses := true, named := ["internal/strconv.uint64pow10", "math/bits.deBruijn32tab", "math/bits.deBruijn64tab", "strconv.ErrSyntax", "strconv.ErrRange"], apart := false, laid := [("math/bits.deBruijn32tab", laid_math_bits_deBruijn32tab), ("math/bits.deBruijn64tab", laid_math_bits_deBruijn64tab), ("internal/strconv.uint64pow10", laid_internal_strconv_uint64pow10), ("strconv.ErrRange", laid_strconv_ErrRange), ("strconv.ErrSyntax", laid_strconv_ErrSyntax)], narrowed := true }
def FnLabelsMergeUptoSaid : Prop := fnLabelsMergeUptoRow.holds Tryz.pinned (OpenSpec.upto fnLabelsMergeSpec)

/-- 'laws.FnReqText', WHERE WHAT IT READS IS OF BULK AT MOST 1048576: true; the input reads as it did. -/
def fnReqTextUptoRow : OpenClaim := { program := "yteigfmchnblkgaagreatdoor", sum := "b088c287a8b86ee9e8d57144e6e61b1a3ecd5c9d114749e31b755a31f26dfebb", func := "given.example/pub-epode/laws.FnReqText", spec := "fnReqText", unfollowed := true, recurses := true, named := ["internal/strconv.uint64pow10", "math/bits.deBruijn32tab", "math/bits.deBruijn64tab", "strconv.ErrSyntax", "strconv.ErrRange"], apart := false, laid := [("math/bits.deBruijn32tab", laid_math_bits_deBruijn32tab), ("math/bits.deBruijn64tab", laid_math_bits_deBruijn64tab), ("internal/strconv.uint64pow10", laid_internal_strconv_uint64pow10), ("strconv.ErrRange", laid_strconv_ErrRange), ("strconv.ErrSyntax", laid_strconv_ErrSyntax)], narrowed := true }
def FnReqTextUptoSaid : Prop := fnReqTextUptoRow.holds Tryz.pinned (OpenSpec.upto fnReqTextSpec)

/-- 'laws.FnLabelsOf', WHERE WHAT IT READS IS OF BULK AT MOST 1048576: true; the input reads as it did. -/
def fnLabelsOfUptoRow : OpenClaim := { program := "yteigfmchnblkgaagreatdoor", sum := "b088c287a8b86ee9e8d57144e6e61b1a3ecd5c9d114749e31b755a31f26dfebb", func := "given.example/pub-epode/laws.FnLabelsOf", spec := "fnLabelsOf", unfollowed := true, recurses := true, named := ["unicode/utf8.first", "unicode/utf8.acceptRanges", "internal/strconv.uint64pow10", "math/bits.deBruijn32tab", "math/bits.deBruijn64tab", "strconv.ErrSyntax", "strconv.ErrRange"], apart := false, laid := [("math/bits.deBruijn32tab", laid_math_bits_deBruijn32tab), ("math/bits.deBruijn64tab", laid_math_bits_deBruijn64tab), ("internal/strconv.uint64pow10", laid_internal_strconv_uint64pow10), ("unicode/utf8.acceptRanges", laid_unicode_utf8_acceptRanges), ("strconv.ErrRange", laid_strconv_ErrRange), ("strconv.ErrSyntax", laid_strconv_ErrSyntax), ("unicode/utf8.first", laid_unicode_utf8_first)], narrowed := true }
def FnLabelsOfUptoSaid : Prop := fnLabelsOfUptoRow.holds Tryz.pinned (OpenSpec.upto fnLabelsOfSpec)

end Rows
end Go.Proofs.YteigfmchnblkgaaGreatDoor
