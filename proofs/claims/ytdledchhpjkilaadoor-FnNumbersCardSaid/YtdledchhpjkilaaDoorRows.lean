/-
  NARROWER THAN 'FOR EVERY INPUT', by the rows' own cells (each row's printed sentence says how): FnNameLabel: laid · FnNameHeaderName: laid · FnNameCIdentifier: laid · FnNamePercent: laid · FnNameOldLabel: laid · FnNameLabelValue: laid · FnNameEnvName: laid · FnNameConfigKey: laid · FnNumbers: laid · FnNameSubdomain: laid · FnNameWildcard: laid · FnNamePortName: laid · FnNameFullName: laid · FnNameDomainName: laid · FnNameDomainPath: laid · FnNameQualifiedName: laid.
  DERIVED. THE GIVEN ROWS OF THIS SEAT. 16 by the template 'for every input the law returns true; each argument reads behind the call as it read before'; 0 by the template 'total and deterministic' (their statements: YtdledchhpjkilaaDoorTotals.lean).
  GIVEN WITH THE SEED: the statements are not yours to turn. If you find one false, say at which input.
  Laid BY PROGRAM, IN A SANDBOX (cutbox-rows.mjs): the forced cells as the released guide's own fill.sh prints them over the translation 92105cb7a3cc092f… (all of the seat's roots in one cut). By AI agents, Wed Nov 11 2026. No macro, syntax, notation, axiom, sorry.
-/
import Derived.Test.YtdledchhpjkilaaDoorChecked
import GoSem.Claim
import GoSem.ClaimJoined
import GoSem.ClaimMapViews
import Derived.JoinedTies
import Derived.KernelRfl
namespace Go.Proofs.YtdledchhpjkilaaDoor
/- THE CELL 'sum', in the pinned program and in every row, IS THE sha256 OF THE DUMP (.gsa) THAT YtdledchhpjkilaaDoorProg.lean LOADS. Nothing in Lean hashes anything: it is a label: what it is worth is what the hold of that sum in a sandbox is worth. -/
noncomputable def Tryd.pinned : Pinned := { name := "ytdledchhpjkilaadoor", sum := "92105cb7a3cc092f5d4cb92012a5c45d56a79c4254a687862161b3bfac6e49c6", checked := Tryd.checked }
namespace Rows
def none {H : Type} : Left H := { results := [], args := [] }

/- WHAT THE LISTED PACKAGE-LEVEL VARIABLES READ AS WHEN THE CALL BEGINS. Each datum BY PROGRAM (the guide's laid-datum.mjs) off the statement by which the dump's own 'gosem.cut.vars' lays the variable. In a bare row this is a premise. The card (YtdledchhpjkilaaDoorCards.lean) ties it to the program's text. -/
def laid_math_bits_deBruijn32tab {H : Type} : DataW H := .agg [.lit (.int .u8 0), .lit (.int .u8 1), .lit (.int .u8 28), .lit (.int .u8 2), .lit (.int .u8 29), .lit (.int .u8 14), .lit (.int .u8 24), .lit (.int .u8 3), .lit (.int .u8 30), .lit (.int .u8 22), .lit (.int .u8 20), .lit (.int .u8 15), .lit (.int .u8 25), .lit (.int .u8 17), .lit (.int .u8 4), .lit (.int .u8 8), .lit (.int .u8 31), .lit (.int .u8 27), .lit (.int .u8 13), .lit (.int .u8 23), .lit (.int .u8 21), .lit (.int .u8 19), .lit (.int .u8 16), .lit (.int .u8 7), .lit (.int .u8 26), .lit (.int .u8 12), .lit (.int .u8 18), .lit (.int .u8 6), .lit (.int .u8 11), .lit (.int .u8 5), .lit (.int .u8 10), .lit (.int .u8 9)]
def laid_math_bits_deBruijn64tab {H : Type} : DataW H := .agg [.lit (.int .u8 0), .lit (.int .u8 1), .lit (.int .u8 56), .lit (.int .u8 2), .lit (.int .u8 57), .lit (.int .u8 49), .lit (.int .u8 28), .lit (.int .u8 3), .lit (.int .u8 61), .lit (.int .u8 58), .lit (.int .u8 42), .lit (.int .u8 50), .lit (.int .u8 38), .lit (.int .u8 29), .lit (.int .u8 17), .lit (.int .u8 4), .lit (.int .u8 62), .lit (.int .u8 47), .lit (.int .u8 59), .lit (.int .u8 36), .lit (.int .u8 45), .lit (.int .u8 43), .lit (.int .u8 51), .lit (.int .u8 22), .lit (.int .u8 53), .lit (.int .u8 39), .lit (.int .u8 33), .lit (.int .u8 30), .lit (.int .u8 24), .lit (.int .u8 18), .lit (.int .u8 12), .lit (.int .u8 5), .lit (.int .u8 63), .lit (.int .u8 55), .lit (.int .u8 48), .lit (.int .u8 27), .lit (.int .u8 60), .lit (.int .u8 41), .lit (.int .u8 37), .lit (.int .u8 16), .lit (.int .u8 46), .lit (.int .u8 35), .lit (.int .u8 44), .lit (.int .u8 21), .lit (.int .u8 52), .lit (.int .u8 32), .lit (.int .u8 23), .lit (.int .u8 11), .lit (.int .u8 54), .lit (.int .u8 26), .lit (.int .u8 40), .lit (.int .u8 15), .lit (.int .u8 34), .lit (.int .u8 20), .lit (.int .u8 31), .lit (.int .u8 10), .lit (.int .u8 25), .lit (.int .u8 14), .lit (.int .u8 19), .lit (.int .u8 9), .lit (.int .u8 13), .lit (.int .u8 8), .lit (.int .u8 7), .lit (.int .u8 6)]
def laid_internal_strconv_uint64pow10 {H : Type} : DataW H := .agg [.lit (.int .u64 1), .lit (.int .u64 10), .lit (.int .u64 100), .lit (.int .u64 1000), .lit (.int .u64 10000), .lit (.int .u64 100000), .lit (.int .u64 1000000), .lit (.int .u64 10000000), .lit (.int .u64 100000000), .lit (.int .u64 1000000000), .lit (.int .u64 10000000000), .lit (.int .u64 100000000000), .lit (.int .u64 1000000000000), .lit (.int .u64 10000000000000), .lit (.int .u64 100000000000000), .lit (.int .u64 1000000000000000), .lit (.int .u64 10000000000000000), .lit (.int .u64 100000000000000000), .lit (.int .u64 1000000000000000000), .lit (.int .u64 10000000000000000000)]

/-- 'laws.FnNameLabel': WHATEVER THE INPUT: true; the input reads as it did. -/
def fnNameLabelSpec : ChangeSpec := { name := "fnNameLabel", fn := fun _ => fun
  | [d] => { results := [.lit (.bool true)], args := [d] }
  | _ => none }
def fnNameLabelRow : OpenClaim := { program := "ytdledchhpjkilaadoor", sum := "92105cb7a3cc092f5d4cb92012a5c45d56a79c4254a687862161b3bfac6e49c6", func := "given.example/pub-epode/laws.FnNameLabel", spec := "fnNameLabel", unfollowed := true, recurses := true, named := ["internal/strconv.uint64pow10", "math/bits.deBruijn32tab", "math/bits.deBruijn64tab"], apart := false, laid := [("math/bits.deBruijn32tab", laid_math_bits_deBruijn32tab), ("math/bits.deBruijn64tab", laid_math_bits_deBruijn64tab), ("internal/strconv.uint64pow10", laid_internal_strconv_uint64pow10)] }
def FnNameLabelSaid : Prop := fnNameLabelRow.holds Tryd.pinned (OpenSpec.ofChange fnNameLabelSpec)

/-- ITS FALSE NEIGHBOUR: 'it returns false'. Refute it at one input. -/
def fnNameLabelWrong : ChangeSpec := { name := "fnNameLabel", fn := fun _ => fun
  | [d] => { results := [.lit (.bool false)], args := [d] }
  | _ => none }
def FnNameLabelWrongFalsely : Prop := fnNameLabelRow.holds Tryd.pinned (OpenSpec.ofChange fnNameLabelWrong)

/-- 'laws.FnNameHeaderName': WHATEVER THE INPUT: true; the input reads as it did. -/
def fnNameHeaderNameSpec : ChangeSpec := { name := "fnNameHeaderName", fn := fun _ => fun
  | [d] => { results := [.lit (.bool true)], args := [d] }
  | _ => none }
def fnNameHeaderNameRow : OpenClaim := { program := "ytdledchhpjkilaadoor", sum := "92105cb7a3cc092f5d4cb92012a5c45d56a79c4254a687862161b3bfac6e49c6", func := "given.example/pub-epode/laws.FnNameHeaderName", spec := "fnNameHeaderName", unfollowed := true, recurses := true, named := ["internal/strconv.uint64pow10", "math/bits.deBruijn32tab", "math/bits.deBruijn64tab"], apart := false, laid := [("math/bits.deBruijn32tab", laid_math_bits_deBruijn32tab), ("math/bits.deBruijn64tab", laid_math_bits_deBruijn64tab), ("internal/strconv.uint64pow10", laid_internal_strconv_uint64pow10)] }
def FnNameHeaderNameSaid : Prop := fnNameHeaderNameRow.holds Tryd.pinned (OpenSpec.ofChange fnNameHeaderNameSpec)

/-- ITS FALSE NEIGHBOUR: 'it returns false'. Refute it at one input. -/
def fnNameHeaderNameWrong : ChangeSpec := { name := "fnNameHeaderName", fn := fun _ => fun
  | [d] => { results := [.lit (.bool false)], args := [d] }
  | _ => none }
def FnNameHeaderNameWrongFalsely : Prop := fnNameHeaderNameRow.holds Tryd.pinned (OpenSpec.ofChange fnNameHeaderNameWrong)

/-- 'laws.FnNameCIdentifier': WHATEVER THE INPUT: true; the input reads as it did. -/
def fnNameCIdentifierSpec : ChangeSpec := { name := "fnNameCIdentifier", fn := fun _ => fun
  | [d] => { results := [.lit (.bool true)], args := [d] }
  | _ => none }
def fnNameCIdentifierRow : OpenClaim := { program := "ytdledchhpjkilaadoor", sum := "92105cb7a3cc092f5d4cb92012a5c45d56a79c4254a687862161b3bfac6e49c6", func := "given.example/pub-epode/laws.FnNameCIdentifier", spec := "fnNameCIdentifier", unfollowed := true, recurses := true, named := ["internal/strconv.uint64pow10", "math/bits.deBruijn32tab", "math/bits.deBruijn64tab"], apart := false, laid := [("math/bits.deBruijn32tab", laid_math_bits_deBruijn32tab), ("math/bits.deBruijn64tab", laid_math_bits_deBruijn64tab), ("internal/strconv.uint64pow10", laid_internal_strconv_uint64pow10)] }
def FnNameCIdentifierSaid : Prop := fnNameCIdentifierRow.holds Tryd.pinned (OpenSpec.ofChange fnNameCIdentifierSpec)

/-- ITS FALSE NEIGHBOUR: 'it returns false'. Refute it at one input. -/
def fnNameCIdentifierWrong : ChangeSpec := { name := "fnNameCIdentifier", fn := fun _ => fun
  | [d] => { results := [.lit (.bool false)], args := [d] }
  | _ => none }
def FnNameCIdentifierWrongFalsely : Prop := fnNameCIdentifierRow.holds Tryd.pinned (OpenSpec.ofChange fnNameCIdentifierWrong)

/-- 'laws.FnNamePercent': WHATEVER THE INPUT: true; the input reads as it did. -/
def fnNamePercentSpec : ChangeSpec := { name := "fnNamePercent", fn := fun _ => fun
  | [d] => { results := [.lit (.bool true)], args := [d] }
  | _ => none }
def fnNamePercentRow : OpenClaim := { program := "ytdledchhpjkilaadoor", sum := "92105cb7a3cc092f5d4cb92012a5c45d56a79c4254a687862161b3bfac6e49c6", func := "given.example/pub-epode/laws.FnNamePercent", spec := "fnNamePercent", unfollowed := true, recurses := true, named := ["internal/strconv.uint64pow10", "math/bits.deBruijn32tab", "math/bits.deBruijn64tab"], apart := false, laid := [("math/bits.deBruijn32tab", laid_math_bits_deBruijn32tab), ("math/bits.deBruijn64tab", laid_math_bits_deBruijn64tab), ("internal/strconv.uint64pow10", laid_internal_strconv_uint64pow10)] }
def FnNamePercentSaid : Prop := fnNamePercentRow.holds Tryd.pinned (OpenSpec.ofChange fnNamePercentSpec)

/-- ITS FALSE NEIGHBOUR: 'it returns false'. Refute it at one input. -/
def fnNamePercentWrong : ChangeSpec := { name := "fnNamePercent", fn := fun _ => fun
  | [d] => { results := [.lit (.bool false)], args := [d] }
  | _ => none }
def FnNamePercentWrongFalsely : Prop := fnNamePercentRow.holds Tryd.pinned (OpenSpec.ofChange fnNamePercentWrong)

/-- 'laws.FnNameOldLabel': WHATEVER THE INPUT: true; the input reads as it did. -/
def fnNameOldLabelSpec : ChangeSpec := { name := "fnNameOldLabel", fn := fun _ => fun
  | [d] => { results := [.lit (.bool true)], args := [d] }
  | _ => none }
def fnNameOldLabelRow : OpenClaim := { program := "ytdledchhpjkilaadoor", sum := "92105cb7a3cc092f5d4cb92012a5c45d56a79c4254a687862161b3bfac6e49c6", func := "given.example/pub-epode/laws.FnNameOldLabel", spec := "fnNameOldLabel", unfollowed := true, recurses := true, named := ["internal/strconv.uint64pow10", "math/bits.deBruijn32tab", "math/bits.deBruijn64tab"], apart := false, laid := [("math/bits.deBruijn32tab", laid_math_bits_deBruijn32tab), ("math/bits.deBruijn64tab", laid_math_bits_deBruijn64tab), ("internal/strconv.uint64pow10", laid_internal_strconv_uint64pow10)] }
def FnNameOldLabelSaid : Prop := fnNameOldLabelRow.holds Tryd.pinned (OpenSpec.ofChange fnNameOldLabelSpec)

/-- ITS FALSE NEIGHBOUR: 'it returns false'. Refute it at one input. -/
def fnNameOldLabelWrong : ChangeSpec := { name := "fnNameOldLabel", fn := fun _ => fun
  | [d] => { results := [.lit (.bool false)], args := [d] }
  | _ => none }
def FnNameOldLabelWrongFalsely : Prop := fnNameOldLabelRow.holds Tryd.pinned (OpenSpec.ofChange fnNameOldLabelWrong)

/-- 'laws.FnNameLabelValue': WHATEVER THE INPUT: true; the input reads as it did. -/
def fnNameLabelValueSpec : ChangeSpec := { name := "fnNameLabelValue", fn := fun _ => fun
  | [d] => { results := [.lit (.bool true)], args := [d] }
  | _ => none }
def fnNameLabelValueRow : OpenClaim := { program := "ytdledchhpjkilaadoor", sum := "92105cb7a3cc092f5d4cb92012a5c45d56a79c4254a687862161b3bfac6e49c6", func := "given.example/pub-epode/laws.FnNameLabelValue", spec := "fnNameLabelValue", unfollowed := true, recurses := true, named := ["internal/strconv.uint64pow10", "math/bits.deBruijn32tab", "math/bits.deBruijn64tab"], apart := false, laid := [("math/bits.deBruijn32tab", laid_math_bits_deBruijn32tab), ("math/bits.deBruijn64tab", laid_math_bits_deBruijn64tab), ("internal/strconv.uint64pow10", laid_internal_strconv_uint64pow10)] }
def FnNameLabelValueSaid : Prop := fnNameLabelValueRow.holds Tryd.pinned (OpenSpec.ofChange fnNameLabelValueSpec)

/-- ITS FALSE NEIGHBOUR: 'it returns false'. Refute it at one input. -/
def fnNameLabelValueWrong : ChangeSpec := { name := "fnNameLabelValue", fn := fun _ => fun
  | [d] => { results := [.lit (.bool false)], args := [d] }
  | _ => none }
def FnNameLabelValueWrongFalsely : Prop := fnNameLabelValueRow.holds Tryd.pinned (OpenSpec.ofChange fnNameLabelValueWrong)

/-- 'laws.FnNameEnvName': WHATEVER THE INPUT: true; the input reads as it did. -/
def fnNameEnvNameSpec : ChangeSpec := { name := "fnNameEnvName", fn := fun _ => fun
  | [d] => { results := [.lit (.bool true)], args := [d] }
  | _ => none }
def fnNameEnvNameRow : OpenClaim := { program := "ytdledchhpjkilaadoor", sum := "92105cb7a3cc092f5d4cb92012a5c45d56a79c4254a687862161b3bfac6e49c6", func := "given.example/pub-epode/laws.FnNameEnvName", spec := "fnNameEnvName", unfollowed := true, recurses := true, named := ["internal/strconv.uint64pow10", "math/bits.deBruijn32tab", "math/bits.deBruijn64tab"], apart := false, laid := [("math/bits.deBruijn32tab", laid_math_bits_deBruijn32tab), ("math/bits.deBruijn64tab", laid_math_bits_deBruijn64tab), ("internal/strconv.uint64pow10", laid_internal_strconv_uint64pow10)] }
def FnNameEnvNameSaid : Prop := fnNameEnvNameRow.holds Tryd.pinned (OpenSpec.ofChange fnNameEnvNameSpec)

/-- ITS FALSE NEIGHBOUR: 'it returns false'. Refute it at one input. -/
def fnNameEnvNameWrong : ChangeSpec := { name := "fnNameEnvName", fn := fun _ => fun
  | [d] => { results := [.lit (.bool false)], args := [d] }
  | _ => none }
def FnNameEnvNameWrongFalsely : Prop := fnNameEnvNameRow.holds Tryd.pinned (OpenSpec.ofChange fnNameEnvNameWrong)

/-- 'laws.FnNameConfigKey': WHATEVER THE INPUT: true; the input reads as it did. -/
def fnNameConfigKeySpec : ChangeSpec := { name := "fnNameConfigKey", fn := fun _ => fun
  | [d] => { results := [.lit (.bool true)], args := [d] }
  | _ => none }
def fnNameConfigKeyRow : OpenClaim := { program := "ytdledchhpjkilaadoor", sum := "92105cb7a3cc092f5d4cb92012a5c45d56a79c4254a687862161b3bfac6e49c6", func := "given.example/pub-epode/laws.FnNameConfigKey", spec := "fnNameConfigKey", unfollowed := true, recurses := true, named := ["internal/strconv.uint64pow10", "math/bits.deBruijn32tab", "math/bits.deBruijn64tab"], apart := false, laid := [("math/bits.deBruijn32tab", laid_math_bits_deBruijn32tab), ("math/bits.deBruijn64tab", laid_math_bits_deBruijn64tab), ("internal/strconv.uint64pow10", laid_internal_strconv_uint64pow10)] }
def FnNameConfigKeySaid : Prop := fnNameConfigKeyRow.holds Tryd.pinned (OpenSpec.ofChange fnNameConfigKeySpec)

/-- ITS FALSE NEIGHBOUR: 'it returns false'. Refute it at one input. -/
def fnNameConfigKeyWrong : ChangeSpec := { name := "fnNameConfigKey", fn := fun _ => fun
  | [d] => { results := [.lit (.bool false)], args := [d] }
  | _ => none }
def FnNameConfigKeyWrongFalsely : Prop := fnNameConfigKeyRow.holds Tryd.pinned (OpenSpec.ofChange fnNameConfigKeyWrong)

/-- 'laws.FnNumbers': WHATEVER THE INPUT: true; the input reads as it did. -/
def fnNumbersSpec : ChangeSpec := { name := "fnNumbers", fn := fun _ => fun
  | [d1, d2, d3] => { results := [.lit (.bool true)], args := [d1, d2, d3] }
  | _ => none }
def fnNumbersRow : OpenClaim := { program := "ytdledchhpjkilaadoor", sum := "92105cb7a3cc092f5d4cb92012a5c45d56a79c4254a687862161b3bfac6e49c6", func := "given.example/pub-epode/laws.FnNumbers", spec := "fnNumbers", unfollowed := true, recurses := true, named := ["internal/strconv.uint64pow10", "math/bits.deBruijn32tab", "math/bits.deBruijn64tab"], apart := false, laid := [("math/bits.deBruijn32tab", laid_math_bits_deBruijn32tab), ("math/bits.deBruijn64tab", laid_math_bits_deBruijn64tab), ("internal/strconv.uint64pow10", laid_internal_strconv_uint64pow10)] }
def FnNumbersSaid : Prop := fnNumbersRow.holds Tryd.pinned (OpenSpec.ofChange fnNumbersSpec)

/-- ITS FALSE NEIGHBOUR: 'it returns false'. Refute it at one input. -/
def fnNumbersWrong : ChangeSpec := { name := "fnNumbers", fn := fun _ => fun
  | [d1, d2, d3] => { results := [.lit (.bool false)], args := [d1, d2, d3] }
  | _ => none }
def FnNumbersWrongFalsely : Prop := fnNumbersRow.holds Tryd.pinned (OpenSpec.ofChange fnNumbersWrong)

/-- 'laws.FnNameSubdomain': WHATEVER THE INPUT: true; the input reads as it did. -/
def fnNameSubdomainSpec : ChangeSpec := { name := "fnNameSubdomain", fn := fun _ => fun
  | [d] => { results := [.lit (.bool true)], args := [d] }
  | _ => none }
def fnNameSubdomainRow : OpenClaim := { program := "ytdledchhpjkilaadoor", sum := "92105cb7a3cc092f5d4cb92012a5c45d56a79c4254a687862161b3bfac6e49c6", func := "given.example/pub-epode/laws.FnNameSubdomain", spec := "fnNameSubdomain", unfollowed := true, recurses := true, named := ["internal/strconv.uint64pow10", "math/bits.deBruijn32tab", "math/bits.deBruijn64tab"], apart := false, laid := [("math/bits.deBruijn32tab", laid_math_bits_deBruijn32tab), ("math/bits.deBruijn64tab", laid_math_bits_deBruijn64tab), ("internal/strconv.uint64pow10", laid_internal_strconv_uint64pow10)] }
def FnNameSubdomainSaid : Prop := fnNameSubdomainRow.holds Tryd.pinned (OpenSpec.ofChange fnNameSubdomainSpec)

/-- ITS FALSE NEIGHBOUR: 'it returns false'. Refute it at one input. -/
def fnNameSubdomainWrong : ChangeSpec := { name := "fnNameSubdomain", fn := fun _ => fun
  | [d] => { results := [.lit (.bool false)], args := [d] }
  | _ => none }
def FnNameSubdomainWrongFalsely : Prop := fnNameSubdomainRow.holds Tryd.pinned (OpenSpec.ofChange fnNameSubdomainWrong)

/-- 'laws.FnNameWildcard': WHATEVER THE INPUT: true; the input reads as it did. -/
def fnNameWildcardSpec : ChangeSpec := { name := "fnNameWildcard", fn := fun _ => fun
  | [d] => { results := [.lit (.bool true)], args := [d] }
  | _ => none }
def fnNameWildcardRow : OpenClaim := { program := "ytdledchhpjkilaadoor", sum := "92105cb7a3cc092f5d4cb92012a5c45d56a79c4254a687862161b3bfac6e49c6", func := "given.example/pub-epode/laws.FnNameWildcard", spec := "fnNameWildcard", unfollowed := true, recurses := true, named := ["internal/strconv.uint64pow10", "math/bits.deBruijn32tab", "math/bits.deBruijn64tab"], apart := false, laid := [("math/bits.deBruijn32tab", laid_math_bits_deBruijn32tab), ("math/bits.deBruijn64tab", laid_math_bits_deBruijn64tab), ("internal/strconv.uint64pow10", laid_internal_strconv_uint64pow10)] }
def FnNameWildcardSaid : Prop := fnNameWildcardRow.holds Tryd.pinned (OpenSpec.ofChange fnNameWildcardSpec)

/-- ITS FALSE NEIGHBOUR: 'it returns false'. Refute it at one input. -/
def fnNameWildcardWrong : ChangeSpec := { name := "fnNameWildcard", fn := fun _ => fun
  | [d] => { results := [.lit (.bool false)], args := [d] }
  | _ => none }
def FnNameWildcardWrongFalsely : Prop := fnNameWildcardRow.holds Tryd.pinned (OpenSpec.ofChange fnNameWildcardWrong)

/-- 'laws.FnNamePortName': WHATEVER THE INPUT: true; the input reads as it did. -/
def fnNamePortNameSpec : ChangeSpec := { name := "fnNamePortName", fn := fun _ => fun
  | [d] => { results := [.lit (.bool true)], args := [d] }
  | _ => none }
def fnNamePortNameRow : OpenClaim := { program := "ytdledchhpjkilaadoor", sum := "92105cb7a3cc092f5d4cb92012a5c45d56a79c4254a687862161b3bfac6e49c6", func := "given.example/pub-epode/laws.FnNamePortName", spec := "fnNamePortName", unfollowed := true, recurses := true, named := ["internal/strconv.uint64pow10", "math/bits.deBruijn32tab", "math/bits.deBruijn64tab"], apart := false, laid := [("math/bits.deBruijn32tab", laid_math_bits_deBruijn32tab), ("math/bits.deBruijn64tab", laid_math_bits_deBruijn64tab), ("internal/strconv.uint64pow10", laid_internal_strconv_uint64pow10)] }
def FnNamePortNameSaid : Prop := fnNamePortNameRow.holds Tryd.pinned (OpenSpec.ofChange fnNamePortNameSpec)

/-- ITS FALSE NEIGHBOUR: 'it returns false'. Refute it at one input. -/
def fnNamePortNameWrong : ChangeSpec := { name := "fnNamePortName", fn := fun _ => fun
  | [d] => { results := [.lit (.bool false)], args := [d] }
  | _ => none }
def FnNamePortNameWrongFalsely : Prop := fnNamePortNameRow.holds Tryd.pinned (OpenSpec.ofChange fnNamePortNameWrong)

/-- 'laws.FnNameFullName': WHATEVER THE INPUT: true; the input reads as it did. -/
def fnNameFullNameSpec : ChangeSpec := { name := "fnNameFullName", fn := fun _ => fun
  | [d] => { results := [.lit (.bool true)], args := [d] }
  | _ => none }
def fnNameFullNameRow : OpenClaim := { program := "ytdledchhpjkilaadoor", sum := "92105cb7a3cc092f5d4cb92012a5c45d56a79c4254a687862161b3bfac6e49c6", func := "given.example/pub-epode/laws.FnNameFullName", spec := "fnNameFullName", unfollowed := true, recurses := true, named := ["internal/strconv.uint64pow10", "math/bits.deBruijn32tab", "math/bits.deBruijn64tab"], apart := false, laid := [("math/bits.deBruijn32tab", laid_math_bits_deBruijn32tab), ("math/bits.deBruijn64tab", laid_math_bits_deBruijn64tab), ("internal/strconv.uint64pow10", laid_internal_strconv_uint64pow10)] }
def FnNameFullNameSaid : Prop := fnNameFullNameRow.holds Tryd.pinned (OpenSpec.ofChange fnNameFullNameSpec)

/-- ITS FALSE NEIGHBOUR: 'it returns false'. Refute it at one input. -/
def fnNameFullNameWrong : ChangeSpec := { name := "fnNameFullName", fn := fun _ => fun
  | [d] => { results := [.lit (.bool false)], args := [d] }
  | _ => none }
def FnNameFullNameWrongFalsely : Prop := fnNameFullNameRow.holds Tryd.pinned (OpenSpec.ofChange fnNameFullNameWrong)

/-- 'laws.FnNameDomainName': WHATEVER THE INPUT: true; the input reads as it did. -/
def fnNameDomainNameSpec : ChangeSpec := { name := "fnNameDomainName", fn := fun _ => fun
  | [d] => { results := [.lit (.bool true)], args := [d] }
  | _ => none }
def fnNameDomainNameRow : OpenClaim := { program := "ytdledchhpjkilaadoor", sum := "92105cb7a3cc092f5d4cb92012a5c45d56a79c4254a687862161b3bfac6e49c6", func := "given.example/pub-epode/laws.FnNameDomainName", spec := "fnNameDomainName", unfollowed := true, recurses := true, named := ["internal/strconv.uint64pow10", "math/bits.deBruijn32tab", "math/bits.deBruijn64tab"], apart := false, laid := [("math/bits.deBruijn32tab", laid_math_bits_deBruijn32tab), ("math/bits.deBruijn64tab", laid_math_bits_deBruijn64tab), ("internal/strconv.uint64pow10", laid_internal_strconv_uint64pow10)] }
def FnNameDomainNameSaid : Prop := fnNameDomainNameRow.holds Tryd.pinned (OpenSpec.ofChange fnNameDomainNameSpec)

/-- ITS FALSE NEIGHBOUR: 'it returns false'. Refute it at one input. -/
def fnNameDomainNameWrong : ChangeSpec := { name := "fnNameDomainName", fn := fun _ => fun
  | [d] => { results := [.lit (.bool false)], args := [d] }
  | _ => none }
def FnNameDomainNameWrongFalsely : Prop := fnNameDomainNameRow.holds Tryd.pinned (OpenSpec.ofChange fnNameDomainNameWrong)

/-- 'laws.FnNameDomainPath': WHATEVER THE INPUT: true; the input reads as it did. -/
def fnNameDomainPathSpec : ChangeSpec := { name := "fnNameDomainPath", fn := fun _ => fun
  | [d] => { results := [.lit (.bool true)], args := [d] }
  | _ => none }
def fnNameDomainPathRow : OpenClaim := { program := "ytdledchhpjkilaadoor", sum := "92105cb7a3cc092f5d4cb92012a5c45d56a79c4254a687862161b3bfac6e49c6", func := "given.example/pub-epode/laws.FnNameDomainPath", spec := "fnNameDomainPath", unfollowed := true, recurses := true, named := ["internal/strconv.uint64pow10", "math/bits.deBruijn32tab", "math/bits.deBruijn64tab"], apart := false, laid := [("math/bits.deBruijn32tab", laid_math_bits_deBruijn32tab), ("math/bits.deBruijn64tab", laid_math_bits_deBruijn64tab), ("internal/strconv.uint64pow10", laid_internal_strconv_uint64pow10)] }
def FnNameDomainPathSaid : Prop := fnNameDomainPathRow.holds Tryd.pinned (OpenSpec.ofChange fnNameDomainPathSpec)

/-- ITS FALSE NEIGHBOUR: 'it returns false'. Refute it at one input. -/
def fnNameDomainPathWrong : ChangeSpec := { name := "fnNameDomainPath", fn := fun _ => fun
  | [d] => { results := [.lit (.bool false)], args := [d] }
  | _ => none }
def FnNameDomainPathWrongFalsely : Prop := fnNameDomainPathRow.holds Tryd.pinned (OpenSpec.ofChange fnNameDomainPathWrong)

/-- 'laws.FnNameQualifiedName': WHATEVER THE INPUT: true; the input reads as it did. -/
def fnNameQualifiedNameSpec : ChangeSpec := { name := "fnNameQualifiedName", fn := fun _ => fun
  | [d] => { results := [.lit (.bool true)], args := [d] }
  | _ => none }
def fnNameQualifiedNameRow : OpenClaim := { program := "ytdledchhpjkilaadoor", sum := "92105cb7a3cc092f5d4cb92012a5c45d56a79c4254a687862161b3bfac6e49c6", func := "given.example/pub-epode/laws.FnNameQualifiedName", spec := "fnNameQualifiedName", unfollowed := true, recurses := true, named := ["internal/strconv.uint64pow10", "math/bits.deBruijn32tab", "math/bits.deBruijn64tab"], apart := false, laid := [("math/bits.deBruijn32tab", laid_math_bits_deBruijn32tab), ("math/bits.deBruijn64tab", laid_math_bits_deBruijn64tab), ("internal/strconv.uint64pow10", laid_internal_strconv_uint64pow10)] }
def FnNameQualifiedNameSaid : Prop := fnNameQualifiedNameRow.holds Tryd.pinned (OpenSpec.ofChange fnNameQualifiedNameSpec)

/-- ITS FALSE NEIGHBOUR: 'it returns false'. Refute it at one input. -/
def fnNameQualifiedNameWrong : ChangeSpec := { name := "fnNameQualifiedName", fn := fun _ => fun
  | [d] => { results := [.lit (.bool false)], args := [d] }
  | _ => none }
def FnNameQualifiedNameWrongFalsely : Prop := fnNameQualifiedNameRow.holds Tryd.pinned (OpenSpec.ofChange fnNameQualifiedNameWrong)

/- THE SECOND FORM. 'bulk': how many values and letters a reading holds, each counted each time it is reached (what is shared counts as often as it is met; a slice's spare places count too). A statement '..UptoSaid' is the law's where the arguments, and the package variables that the reading takes, are together of bulk at most 1048576: NARROWER than '..Said'. Prove '..Said' where nothing that the law and all that it calls make is longer than what came in: it says more and counts as full. Else prove '..UptoSaid'. A law counts once. -/
mutual
def uptoBulk {H : Type} : DataW H → Nat
  | .lit (.string bytes) => bytes.length + 1
  | .lit _ => 1
  | .nil => 1
  | .ptr d => uptoBulk d + 1
  | .slice elems spare => uptoBulkAll elems + uptoBulkAll spare + 1
  | .agg parts => uptoBulkAll parts + 1
  | .iface _ d => uptoBulk d + 1
  | .map entries => uptoBulkEntries entries + 1
  | .held _ => 1
def uptoBulkAll {H : Type} : List (DataW H) → Nat
  | [] => 0
  | d :: r => uptoBulk d + uptoBulkAll r
def uptoBulkEntries {H : Type} : List (Lit × DataW H) → Nat
  | [] => 0
  | x :: r => uptoBulkEntry x + uptoBulkEntries r
def uptoBulkEntry {H : Type} : Lit × DataW H → Nat
  | (.string bytes, d) => bytes.length + uptoBulk d + 1
  | (_, d) => uptoBulk d + 1
 end
def uptoSmall : (H : Type) → List (DataW H) → Bool := fun _ ds => decide (uptoBulkAll ds ≤ 1048576)
def OpenSpec.upto (s : _root_.Go.ChangeSpec) : _root_.Go.OpenSpec := { _root_.Go.OpenSpec.ofChange s with cond := some uptoSmall }

/-- 'laws.FnNameLabel', WHERE WHAT IT READS IS OF BULK AT MOST 1048576: true; the input reads as it did. -/
def fnNameLabelUptoRow : OpenClaim := { program := "ytdledchhpjkilaadoor", sum := "92105cb7a3cc092f5d4cb92012a5c45d56a79c4254a687862161b3bfac6e49c6", func := "given.example/pub-epode/laws.FnNameLabel", spec := "fnNameLabel", unfollowed := true, recurses := true, named := ["internal/strconv.uint64pow10", "math/bits.deBruijn32tab", "math/bits.deBruijn64tab"], apart := false, laid := [("math/bits.deBruijn32tab", laid_math_bits_deBruijn32tab), ("math/bits.deBruijn64tab", laid_math_bits_deBruijn64tab), ("internal/strconv.uint64pow10", laid_internal_strconv_uint64pow10)], narrowed := true }
def FnNameLabelUptoSaid : Prop := fnNameLabelUptoRow.holds Tryd.pinned (OpenSpec.upto fnNameLabelSpec)

/-- 'laws.FnNameHeaderName', WHERE WHAT IT READS IS OF BULK AT MOST 1048576: true; the input reads as it did. -/
def fnNameHeaderNameUptoRow : OpenClaim := { program := "ytdledchhpjkilaadoor", sum := "92105cb7a3cc092f5d4cb92012a5c45d56a79c4254a687862161b3bfac6e49c6", func := "given.example/pub-epode/laws.FnNameHeaderName", spec := "fnNameHeaderName", unfollowed := true, recurses := true, named := ["internal/strconv.uint64pow10", "math/bits.deBruijn32tab", "math/bits.deBruijn64tab"], apart := false, laid := [("math/bits.deBruijn32tab", laid_math_bits_deBruijn32tab), ("math/bits.deBruijn64tab", laid_math_bits_deBruijn64tab), ("internal/strconv.uint64pow10", laid_internal_strconv_uint64pow10)], narrowed := true }
def FnNameHeaderNameUptoSaid : Prop := fnNameHeaderNameUptoRow.holds Tryd.pinned (OpenSpec.upto fnNameHeaderNameSpec)

/-- 'laws.FnNameCIdentifier', WHERE WHAT IT READS IS OF BULK AT MOST 1048576: true; the input reads as it did. -/
def fnNameCIdentifierUptoRow : OpenClaim := { program := "ytdledchhpjkilaadoor", sum := "92105cb7a3cc092f5d4cb92012a5c45d56a79c4254a687862161b3bfac6e49c6", func := "given.example/pub-epode/laws.FnNameCIdentifier", spec := "fnNameCIdentifier", unfollowed := true, recurses := true, named := ["internal/strconv.uint64pow10", "math/bits.deBruijn32tab", "math/bits.deBruijn64tab"], apart := false, laid := [("math/bits.deBruijn32tab", laid_math_bits_deBruijn32tab), ("math/bits.deBruijn64tab", laid_math_bits_deBruijn64tab), ("internal/strconv.uint64pow10", laid_internal_strconv_uint64pow10)], narrowed := true }
def FnNameCIdentifierUptoSaid : Prop := fnNameCIdentifierUptoRow.holds Tryd.pinned (OpenSpec.upto fnNameCIdentifierSpec)

/-- 'laws.FnNamePercent', WHERE WHAT IT READS IS OF BULK AT MOST 1048576: true; the input reads as it did. -/
def fnNamePercentUptoRow : OpenClaim := { program := "ytdledchhpjkilaadoor", sum := "92105cb7a3cc092f5d4cb92012a5c45d56a79c4254a687862161b3bfac6e49c6", func := "given.example/pub-epode/laws.FnNamePercent", spec := "fnNamePercent", unfollowed := true, recurses := true, named := ["internal/strconv.uint64pow10", "math/bits.deBruijn32tab", "math/bits.deBruijn64tab"], apart := false, laid := [("math/bits.deBruijn32tab", laid_math_bits_deBruijn32tab), ("math/bits.deBruijn64tab", laid_math_bits_deBruijn64tab), ("internal/strconv.uint64pow10", laid_internal_strconv_uint64pow10)], narrowed := true }
def FnNamePercentUptoSaid : Prop := fnNamePercentUptoRow.holds Tryd.pinned (OpenSpec.upto fnNamePercentSpec)

/-- 'laws.FnNameOldLabel', WHERE WHAT IT READS IS OF BULK AT MOST 1048576: true; the input reads as it did. -/
def fnNameOldLabelUptoRow : OpenClaim := { program := "ytdledchhpjkilaadoor", sum := "92105cb7a3cc092f5d4cb92012a5c45d56a79c4254a687862161b3bfac6e49c6", func := "given.example/pub-epode/laws.FnNameOldLabel", spec := "fnNameOldLabel", unfollowed := true, recurses := true, named := ["internal/strconv.uint64pow10", "math/bits.deBruijn32tab", "math/bits.deBruijn64tab"], apart := false, laid := [("math/bits.deBruijn32tab", laid_math_bits_deBruijn32tab), ("math/bits.deBruijn64tab", laid_math_bits_deBruijn64tab), ("internal/strconv.uint64pow10", laid_internal_strconv_uint64pow10)], narrowed := true }
def FnNameOldLabelUptoSaid : Prop := fnNameOldLabelUptoRow.holds Tryd.pinned (OpenSpec.upto fnNameOldLabelSpec)

/-- 'laws.FnNameLabelValue', WHERE WHAT IT READS IS OF BULK AT MOST 1048576: true; the input reads as it did. -/
def fnNameLabelValueUptoRow : OpenClaim := { program := "ytdledchhpjkilaadoor", sum := "92105cb7a3cc092f5d4cb92012a5c45d56a79c4254a687862161b3bfac6e49c6", func := "given.example/pub-epode/laws.FnNameLabelValue", spec := "fnNameLabelValue", unfollowed := true, recurses := true, named := ["internal/strconv.uint64pow10", "math/bits.deBruijn32tab", "math/bits.deBruijn64tab"], apart := false, laid := [("math/bits.deBruijn32tab", laid_math_bits_deBruijn32tab), ("math/bits.deBruijn64tab", laid_math_bits_deBruijn64tab), ("internal/strconv.uint64pow10", laid_internal_strconv_uint64pow10)], narrowed := true }
def FnNameLabelValueUptoSaid : Prop := fnNameLabelValueUptoRow.holds Tryd.pinned (OpenSpec.upto fnNameLabelValueSpec)

/-- 'laws.FnNameEnvName', WHERE WHAT IT READS IS OF BULK AT MOST 1048576: true; the input reads as it did. -/
def fnNameEnvNameUptoRow : OpenClaim := { program := "ytdledchhpjkilaadoor", sum := "92105cb7a3cc092f5d4cb92012a5c45d56a79c4254a687862161b3bfac6e49c6", func := "given.example/pub-epode/laws.FnNameEnvName", spec := "fnNameEnvName", unfollowed := true, recurses := true, named := ["internal/strconv.uint64pow10", "math/bits.deBruijn32tab", "math/bits.deBruijn64tab"], apart := false, laid := [("math/bits.deBruijn32tab", laid_math_bits_deBruijn32tab), ("math/bits.deBruijn64tab", laid_math_bits_deBruijn64tab), ("internal/strconv.uint64pow10", laid_internal_strconv_uint64pow10)], narrowed := true }
def FnNameEnvNameUptoSaid : Prop := fnNameEnvNameUptoRow.holds Tryd.pinned (OpenSpec.upto fnNameEnvNameSpec)

/-- 'laws.FnNameConfigKey', WHERE WHAT IT READS IS OF BULK AT MOST 1048576: true; the input reads as it did. -/
def fnNameConfigKeyUptoRow : OpenClaim := { program := "ytdledchhpjkilaadoor", sum := "92105cb7a3cc092f5d4cb92012a5c45d56a79c4254a687862161b3bfac6e49c6", func := "given.example/pub-epode/laws.FnNameConfigKey", spec := "fnNameConfigKey", unfollowed := true, recurses := true, named := ["internal/strconv.uint64pow10", "math/bits.deBruijn32tab", "math/bits.deBruijn64tab"], apart := false, laid := [("math/bits.deBruijn32tab", laid_math_bits_deBruijn32tab), ("math/bits.deBruijn64tab", laid_math_bits_deBruijn64tab), ("internal/strconv.uint64pow10", laid_internal_strconv_uint64pow10)], narrowed := true }
def FnNameConfigKeyUptoSaid : Prop := fnNameConfigKeyUptoRow.holds Tryd.pinned (OpenSpec.upto fnNameConfigKeySpec)

/-- 'laws.FnNumbers', WHERE WHAT IT READS IS OF BULK AT MOST 1048576: true; the input reads as it did. -/
def fnNumbersUptoRow : OpenClaim := { program := "ytdledchhpjkilaadoor", sum := "92105cb7a3cc092f5d4cb92012a5c45d56a79c4254a687862161b3bfac6e49c6", func := "given.example/pub-epode/laws.FnNumbers", spec := "fnNumbers", unfollowed := true, recurses := true, named := ["internal/strconv.uint64pow10", "math/bits.deBruijn32tab", "math/bits.deBruijn64tab"], apart := false, laid := [("math/bits.deBruijn32tab", laid_math_bits_deBruijn32tab), ("math/bits.deBruijn64tab", laid_math_bits_deBruijn64tab), ("internal/strconv.uint64pow10", laid_internal_strconv_uint64pow10)], narrowed := true }
def FnNumbersUptoSaid : Prop := fnNumbersUptoRow.holds Tryd.pinned (OpenSpec.upto fnNumbersSpec)

/-- 'laws.FnNameSubdomain', WHERE WHAT IT READS IS OF BULK AT MOST 1048576: true; the input reads as it did. -/
def fnNameSubdomainUptoRow : OpenClaim := { program := "ytdledchhpjkilaadoor", sum := "92105cb7a3cc092f5d4cb92012a5c45d56a79c4254a687862161b3bfac6e49c6", func := "given.example/pub-epode/laws.FnNameSubdomain", spec := "fnNameSubdomain", unfollowed := true, recurses := true, named := ["internal/strconv.uint64pow10", "math/bits.deBruijn32tab", "math/bits.deBruijn64tab"], apart := false, laid := [("math/bits.deBruijn32tab", laid_math_bits_deBruijn32tab), ("math/bits.deBruijn64tab", laid_math_bits_deBruijn64tab), ("internal/strconv.uint64pow10", laid_internal_strconv_uint64pow10)], narrowed := true }
def FnNameSubdomainUptoSaid : Prop := fnNameSubdomainUptoRow.holds Tryd.pinned (OpenSpec.upto fnNameSubdomainSpec)

/-- 'laws.FnNameWildcard', WHERE WHAT IT READS IS OF BULK AT MOST 1048576: true; the input reads as it did. -/
def fnNameWildcardUptoRow : OpenClaim := { program := "ytdledchhpjkilaadoor", sum := "92105cb7a3cc092f5d4cb92012a5c45d56a79c4254a687862161b3bfac6e49c6", func := "given.example/pub-epode/laws.FnNameWildcard", spec := "fnNameWildcard", unfollowed := true, recurses := true, named := ["internal/strconv.uint64pow10", "math/bits.deBruijn32tab", "math/bits.deBruijn64tab"], apart := false, laid := [("math/bits.deBruijn32tab", laid_math_bits_deBruijn32tab), ("math/bits.deBruijn64tab", laid_math_bits_deBruijn64tab), ("internal/strconv.uint64pow10", laid_internal_strconv_uint64pow10)], narrowed := true }
def FnNameWildcardUptoSaid : Prop := fnNameWildcardUptoRow.holds Tryd.pinned (OpenSpec.upto fnNameWildcardSpec)

/-- 'laws.FnNamePortName', WHERE WHAT IT READS IS OF BULK AT MOST 1048576: true; the input reads as it did. -/
def fnNamePortNameUptoRow : OpenClaim := { program := "ytdledchhpjkilaadoor", sum := "92105cb7a3cc092f5d4cb92012a5c45d56a79c4254a687862161b3bfac6e49c6", func := "given.example/pub-epode/laws.FnNamePortName", spec := "fnNamePortName", unfollowed := true, recurses := true, named := ["internal/strconv.uint64pow10", "math/bits.deBruijn32tab", "math/bits.deBruijn64tab"], apart := false, laid := [("math/bits.deBruijn32tab", laid_math_bits_deBruijn32tab), ("math/bits.deBruijn64tab", laid_math_bits_deBruijn64tab), ("internal/strconv.uint64pow10", laid_internal_strconv_uint64pow10)], narrowed := true }
def FnNamePortNameUptoSaid : Prop := fnNamePortNameUptoRow.holds Tryd.pinned (OpenSpec.upto fnNamePortNameSpec)

/-- 'laws.FnNameFullName', WHERE WHAT IT READS IS OF BULK AT MOST 1048576: true; the input reads as it did. -/
def fnNameFullNameUptoRow : OpenClaim := { program := "ytdledchhpjkilaadoor", sum := "92105cb7a3cc092f5d4cb92012a5c45d56a79c4254a687862161b3bfac6e49c6", func := "given.example/pub-epode/laws.FnNameFullName", spec := "fnNameFullName", unfollowed := true, recurses := true, named := ["internal/strconv.uint64pow10", "math/bits.deBruijn32tab", "math/bits.deBruijn64tab"], apart := false, laid := [("math/bits.deBruijn32tab", laid_math_bits_deBruijn32tab), ("math/bits.deBruijn64tab", laid_math_bits_deBruijn64tab), ("internal/strconv.uint64pow10", laid_internal_strconv_uint64pow10)], narrowed := true }
def FnNameFullNameUptoSaid : Prop := fnNameFullNameUptoRow.holds Tryd.pinned (OpenSpec.upto fnNameFullNameSpec)

/-- 'laws.FnNameDomainName', WHERE WHAT IT READS IS OF BULK AT MOST 1048576: true; the input reads as it did. -/
def fnNameDomainNameUptoRow : OpenClaim := { program := "ytdledchhpjkilaadoor", sum := "92105cb7a3cc092f5d4cb92012a5c45d56a79c4254a687862161b3bfac6e49c6", func := "given.example/pub-epode/laws.FnNameDomainName", spec := "fnNameDomainName", unfollowed := true, recurses := true, named := ["internal/strconv.uint64pow10", "math/bits.deBruijn32tab", "math/bits.deBruijn64tab"], apart := false, laid := [("math/bits.deBruijn32tab", laid_math_bits_deBruijn32tab), ("math/bits.deBruijn64tab", laid_math_bits_deBruijn64tab), ("internal/strconv.uint64pow10", laid_internal_strconv_uint64pow10)], narrowed := true }
def FnNameDomainNameUptoSaid : Prop := fnNameDomainNameUptoRow.holds Tryd.pinned (OpenSpec.upto fnNameDomainNameSpec)

/-- 'laws.FnNameDomainPath', WHERE WHAT IT READS IS OF BULK AT MOST 1048576: true; the input reads as it did. -/
def fnNameDomainPathUptoRow : OpenClaim := { program := "ytdledchhpjkilaadoor", sum := "92105cb7a3cc092f5d4cb92012a5c45d56a79c4254a687862161b3bfac6e49c6", func := "given.example/pub-epode/laws.FnNameDomainPath", spec := "fnNameDomainPath", unfollowed := true, recurses := true, named := ["internal/strconv.uint64pow10", "math/bits.deBruijn32tab", "math/bits.deBruijn64tab"], apart := false, laid := [("math/bits.deBruijn32tab", laid_math_bits_deBruijn32tab), ("math/bits.deBruijn64tab", laid_math_bits_deBruijn64tab), ("internal/strconv.uint64pow10", laid_internal_strconv_uint64pow10)], narrowed := true }
def FnNameDomainPathUptoSaid : Prop := fnNameDomainPathUptoRow.holds Tryd.pinned (OpenSpec.upto fnNameDomainPathSpec)

/-- 'laws.FnNameQualifiedName', WHERE WHAT IT READS IS OF BULK AT MOST 1048576: true; the input reads as it did. -/
def fnNameQualifiedNameUptoRow : OpenClaim := { program := "ytdledchhpjkilaadoor", sum := "92105cb7a3cc092f5d4cb92012a5c45d56a79c4254a687862161b3bfac6e49c6", func := "given.example/pub-epode/laws.FnNameQualifiedName", spec := "fnNameQualifiedName", unfollowed := true, recurses := true, named := ["internal/strconv.uint64pow10", "math/bits.deBruijn32tab", "math/bits.deBruijn64tab"], apart := false, laid := [("math/bits.deBruijn32tab", laid_math_bits_deBruijn32tab), ("math/bits.deBruijn64tab", laid_math_bits_deBruijn64tab), ("internal/strconv.uint64pow10", laid_internal_strconv_uint64pow10)], narrowed := true }
def FnNameQualifiedNameUptoSaid : Prop := fnNameQualifiedNameUptoRow.holds Tryd.pinned (OpenSpec.upto fnNameQualifiedNameSpec)

end Rows
end Go.Proofs.YtdledchhpjkilaaDoor
