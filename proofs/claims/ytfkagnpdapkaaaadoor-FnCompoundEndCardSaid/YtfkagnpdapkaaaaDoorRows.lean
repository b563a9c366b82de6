/-
  NARROWER THAN 'FOR EVERY INPUT', by the rows' own cells (each row's printed sentence says how): FnFaultStart: laid · FnMasks: laid · FnCompoundEnd: laid · FnTextEnd: laid · FnRestEnd: laid · FnValid: laid · FnValueEnd: laid · FnValueEndBySteps: laid · FnWaysAlike: laid · FnBlankEnd: laid · FnTextScanned: laid · FnBehind: laid · FnFault: laid · FnFaultWords: laid · FnPlainEnd: laid · FnNumberPassed: laid.
  DERIVED. THE GIVEN ROWS OF THIS SEAT. 16 by the template 'for every input the law returns true; each argument reads behind the call as it read before'; 0 by the template 'total and deterministic' (their statements: YtfkagnpdapkaaaaDoorTotals.lean).
  GIVEN WITH THE SEED: the statements are not yours to turn. If you find one false, say at which input.
  Laid BY PROGRAM, IN A SANDBOX (cutbox-rows.mjs): the forced cells as the released guide's own fill.sh prints them over the translation bac913026d81212f… (all of the seat's roots in one cut). By AI agents, Wed Nov 11 2026. No macro, syntax, notation, axiom, sorry.
-/
import Derived.Test.YtfkagnpdapkaaaaDoorChecked
import GoSem.PinnedTables
import GoSem.Claim
import GoSem.ClaimJoined
import GoSem.ClaimMapViews
import Derived.JoinedTies
import Derived.KernelRfl
namespace Go.Proofs.YtfkagnpdapkaaaaDoor
/- THE CELL 'sum', in the pinned program and in every row, IS THE sha256 OF THE DUMP (.gsa) THAT YtfkagnpdapkaaaaDoorProg.lean LOADS. Nothing in Lean hashes anything: it is a label: what it is worth is what the hold of that sum in a sandbox is worth. -/
noncomputable def Tryd.pinned : Pinned := { name := "ytfkagnpdapkaaaadoor", sum := "bac913026d81212f15a8ce158dc3878ad2861eb4e1105f3ad60b1ff9c18671b1", checked := Tryd.checked }
namespace Rows
def none {H : Type} : Left H := { results := [], args := [] }

/- WHAT THE LISTED PACKAGE-LEVEL VARIABLES READ AS WHEN THE CALL BEGINS. Each datum BY PROGRAM (the guide's laid-datum.mjs) off the statement by which the dump's own 'gosem.cut.vars' lays the variable. In a bare row this is a premise. The card (YtfkagnpdapkaaaaDoorCards.lean) ties it to the program's text. -/
def laid_math_bits_deBruijn64tab {H : Type} : DataW H := .agg [.lit (.int .u8 0), .lit (.int .u8 1), .lit (.int .u8 56), .lit (.int .u8 2), .lit (.int .u8 57), .lit (.int .u8 49), .lit (.int .u8 28), .lit (.int .u8 3), .lit (.int .u8 61), .lit (.int .u8 58), .lit (.int .u8 42), .lit (.int .u8 50), .lit (.int .u8 38), .lit (.int .u8 29), .lit (.int .u8 17), .lit (.int .u8 4), .lit (.int .u8 62), .lit (.int .u8 47), .lit (.int .u8 59), .lit (.int .u8 36), .lit (.int .u8 45), .lit (.int .u8 43), .lit (.int .u8 51), .lit (.int .u8 22), .lit (.int .u8 53), .lit (.int .u8 39), .lit (.int .u8 33), .lit (.int .u8 30), .lit (.int .u8 24), .lit (.int .u8 18), .lit (.int .u8 12), .lit (.int .u8 5), .lit (.int .u8 63), .lit (.int .u8 55), .lit (.int .u8 48), .lit (.int .u8 27), .lit (.int .u8 60), .lit (.int .u8 41), .lit (.int .u8 37), .lit (.int .u8 16), .lit (.int .u8 46), .lit (.int .u8 35), .lit (.int .u8 44), .lit (.int .u8 21), .lit (.int .u8 52), .lit (.int .u8 32), .lit (.int .u8 23), .lit (.int .u8 11), .lit (.int .u8 54), .lit (.int .u8 26), .lit (.int .u8 40), .lit (.int .u8 15), .lit (.int .u8 34), .lit (.int .u8 20), .lit (.int .u8 31), .lit (.int .u8 10), .lit (.int .u8 25), .lit (.int .u8 14), .lit (.int .u8 19), .lit (.int .u8 9), .lit (.int .u8 13), .lit (.int .u8 8), .lit (.int .u8 7), .lit (.int .u8 6)]
def laid_unicode_utf8_acceptRanges {H : Type} : DataW H := .agg [.agg [.lit (.int .u8 128), .lit (.int .u8 191)], .agg [.lit (.int .u8 160), .lit (.int .u8 191)], .agg [.lit (.int .u8 128), .lit (.int .u8 159)], .agg [.lit (.int .u8 144), .lit (.int .u8 191)], .agg [.lit (.int .u8 128), .lit (.int .u8 143)], .agg [.lit (.int .u8 0), .lit (.int .u8 0)], .agg [.lit (.int .u8 0), .lit (.int .u8 0)], .agg [.lit (.int .u8 0), .lit (.int .u8 0)], .agg [.lit (.int .u8 0), .lit (.int .u8 0)], .agg [.lit (.int .u8 0), .lit (.int .u8 0)], .agg [.lit (.int .u8 0), .lit (.int .u8 0)], .agg [.lit (.int .u8 0), .lit (.int .u8 0)], .agg [.lit (.int .u8 0), .lit (.int .u8 0)], .agg [.lit (.int .u8 0), .lit (.int .u8 0)], .agg [.lit (.int .u8 0), .lit (.int .u8 0)], .agg [.lit (.int .u8 0), .lit (.int .u8 0)]]
/-- One of Go's own tables, pinned by name: the form's constant. -/
def laid_strconv_isGraphic : DataW Unit := Go.Pinned.isGraphic
/-- One of Go's own tables, pinned by name: the form's constant. -/
def laid_strconv_isNotPrint16 : DataW Unit := Go.Pinned.isNotPrint16
/-- One of Go's own tables, pinned by name: the form's constant. -/
def laid_strconv_isNotPrint32 : DataW Unit := Go.Pinned.isNotPrint32
/-- One of Go's own tables, pinned by name: the form's constant. -/
def laid_strconv_isPrint16 : DataW Unit := Go.Pinned.isPrint16
/-- One of Go's own tables, pinned by name: the form's constant. -/
def laid_strconv_isPrint32 : DataW Unit := Go.Pinned.isPrint32
/-- One of Go's own tables, pinned by name: the form's constant. -/
def laid_unicode_utf8_first : DataW Unit := Go.Pinned.utf8First

/-- 'laws.FnFaultStart': WHATEVER THE INPUT: true; the input reads as it did. -/
def fnFaultStartSpec : ChangeSpec := { name := "fnFaultStart", fn := fun _ => fun
  | [d] => { results := [.lit (.bool true)], args := [d] }
  | _ => none }
def fnFaultStartRow : OpenClaim := { program := "ytfkagnpdapkaaaadoor", sum := "bac913026d81212f15a8ce158dc3878ad2861eb4e1105f3ad60b1ff9c18671b1", func := "loop.example/pub-g01526/laws.FnFaultStart", spec := "fnFaultStart", named := ["math/bits.deBruijn64tab", "unicode/utf8.first", "unicode/utf8.acceptRanges", "strconv.isPrint16", "strconv.isNotPrint16", "strconv.isPrint32", "strconv.isNotPrint32", "strconv.isGraphic"], apart := false, laid := [("math/bits.deBruijn64tab", laid_math_bits_deBruijn64tab), ("unicode/utf8.acceptRanges", laid_unicode_utf8_acceptRanges), ("strconv.isGraphic", laid_strconv_isGraphic), ("strconv.isNotPrint16", laid_strconv_isNotPrint16), ("strconv.isNotPrint32", laid_strconv_isNotPrint32), ("strconv.isPrint16", laid_strconv_isPrint16), ("strconv.isPrint32", laid_strconv_isPrint32), ("unicode/utf8.first", laid_unicode_utf8_first)] }
def FnFaultStartSaid : Prop := fnFaultStartRow.holds Tryd.pinned (OpenSpec.ofChange fnFaultStartSpec)

/-- ITS FALSE NEIGHBOUR: 'it returns false'. Refute it at one input. -/
def fnFaultStartWrong : ChangeSpec := { name := "fnFaultStart", fn := fun _ => fun
  | [d] => { results := [.lit (.bool false)], args := [d] }
  | _ => none }
def FnFaultStartWrongFalsely : Prop := fnFaultStartRow.holds Tryd.pinned (OpenSpec.ofChange fnFaultStartWrong)

/-- 'laws.FnMasks': WHATEVER THE INPUT: true; the input reads as it did. -/
def fnMasksSpec : ChangeSpec := { name := "fnMasks", fn := fun _ => fun
  | [d] => { results := [.lit (.bool true)], args := [d] }
  | _ => none }
def fnMasksRow : OpenClaim := { program := "ytfkagnpdapkaaaadoor", sum := "bac913026d81212f15a8ce158dc3878ad2861eb4e1105f3ad60b1ff9c18671b1", func := "loop.example/pub-g01526/laws.FnMasks", spec := "fnMasks", named := ["math/bits.deBruijn64tab", "unicode/utf8.first", "unicode/utf8.acceptRanges", "strconv.isPrint16", "strconv.isNotPrint16", "strconv.isPrint32", "strconv.isNotPrint32", "strconv.isGraphic"], apart := false, laid := [("math/bits.deBruijn64tab", laid_math_bits_deBruijn64tab), ("unicode/utf8.acceptRanges", laid_unicode_utf8_acceptRanges), ("strconv.isGraphic", laid_strconv_isGraphic), ("strconv.isNotPrint16", laid_strconv_isNotPrint16), ("strconv.isNotPrint32", laid_strconv_isNotPrint32), ("strconv.isPrint16", laid_strconv_isPrint16), ("strconv.isPrint32", laid_strconv_isPrint32), ("unicode/utf8.first", laid_unicode_utf8_first)] }
def FnMasksSaid : Prop := fnMasksRow.holds Tryd.pinned (OpenSpec.ofChange fnMasksSpec)

/-- ITS FALSE NEIGHBOUR: 'it returns false'. Refute it at one input. -/
def fnMasksWrong : ChangeSpec := { name := "fnMasks", fn := fun _ => fun
  | [d] => { results := [.lit (.bool false)], args := [d] }
  | _ => none }
def FnMasksWrongFalsely : Prop := fnMasksRow.holds Tryd.pinned (OpenSpec.ofChange fnMasksWrong)

/-- 'laws.FnCompoundEnd': WHATEVER THE INPUT: true; the input reads as it did. -/
def fnCompoundEndSpec : ChangeSpec := { name := "fnCompoundEnd", fn := fun _ => fun
  | [d1, d2, d3] => { results := [.lit (.bool true)], args := [d1, d2, d3] }
  | _ => none }
def fnCompoundEndRow : OpenClaim := { program := "ytfkagnpdapkaaaadoor", sum := "bac913026d81212f15a8ce158dc3878ad2861eb4e1105f3ad60b1ff9c18671b1", func := "loop.example/pub-g01526/laws.FnCompoundEnd", spec := "fnCompoundEnd", inPlace := ["math/bits.Add64"], named := ["math/bits.deBruijn64tab", "unicode/utf8.first", "unicode/utf8.acceptRanges", "strconv.isPrint16", "strconv.isNotPrint16", "strconv.isPrint32", "strconv.isNotPrint32", "strconv.isGraphic"], apart := false, laid := [("math/bits.deBruijn64tab", laid_math_bits_deBruijn64tab), ("unicode/utf8.acceptRanges", laid_unicode_utf8_acceptRanges), ("strconv.isGraphic", laid_strconv_isGraphic), ("strconv.isNotPrint16", laid_strconv_isNotPrint16), ("strconv.isNotPrint32", laid_strconv_isNotPrint32), ("strconv.isPrint16", laid_strconv_isPrint16), ("strconv.isPrint32", laid_strconv_isPrint32), ("unicode/utf8.first", laid_unicode_utf8_first)] }
def FnCompoundEndSaid : Prop := fnCompoundEndRow.holds Tryd.pinned (OpenSpec.ofChange fnCompoundEndSpec)

/-- ITS FALSE NEIGHBOUR: 'it returns false'. Refute it at one input. -/
def fnCompoundEndWrong : ChangeSpec := { name := "fnCompoundEnd", fn := fun _ => fun
  | [d1, d2, d3] => { results := [.lit (.bool false)], args := [d1, d2, d3] }
  | _ => none }
def FnCompoundEndWrongFalsely : Prop := fnCompoundEndRow.holds Tryd.pinned (OpenSpec.ofChange fnCompoundEndWrong)

/-- 'laws.FnTextEnd': WHATEVER THE INPUT: true; the input reads as it did. -/
def fnTextEndSpec : ChangeSpec := { name := "fnTextEnd", fn := fun _ => fun
  | [d1, d2] => { results := [.lit (.bool true)], args := [d1, d2] }
  | _ => none }
def fnTextEndRow : OpenClaim := { program := "ytfkagnpdapkaaaadoor", sum := "bac913026d81212f15a8ce158dc3878ad2861eb4e1105f3ad60b1ff9c18671b1", func := "loop.example/pub-g01526/laws.FnTextEnd", spec := "fnTextEnd", named := ["math/bits.deBruijn64tab", "unicode/utf8.first", "unicode/utf8.acceptRanges", "strconv.isPrint16", "strconv.isNotPrint16", "strconv.isPrint32", "strconv.isNotPrint32", "strconv.isGraphic"], apart := false, laid := [("math/bits.deBruijn64tab", laid_math_bits_deBruijn64tab), ("unicode/utf8.acceptRanges", laid_unicode_utf8_acceptRanges), ("strconv.isGraphic", laid_strconv_isGraphic), ("strconv.isNotPrint16", laid_strconv_isNotPrint16), ("strconv.isNotPrint32", laid_strconv_isNotPrint32), ("strconv.isPrint16", laid_strconv_isPrint16), ("strconv.isPrint32", laid_strconv_isPrint32), ("unicode/utf8.first", laid_unicode_utf8_first)] }
def FnTextEndSaid : Prop := fnTextEndRow.holds Tryd.pinned (OpenSpec.ofChange fnTextEndSpec)

/-- ITS FALSE NEIGHBOUR: 'it returns false'. Refute it at one input. -/
def fnTextEndWrong : ChangeSpec := { name := "fnTextEnd", fn := fun _ => fun
  | [d1, d2] => { results := [.lit (.bool false)], args := [d1, d2] }
  | _ => none }
def FnTextEndWrongFalsely : Prop := fnTextEndRow.holds Tryd.pinned (OpenSpec.ofChange fnTextEndWrong)

/-- 'laws.FnRestEnd': WHATEVER THE INPUT: true; the input reads as it did. -/
def fnRestEndSpec : ChangeSpec := { name := "fnRestEnd", fn := fun _ => fun
  | [d1, d2, d3] => { results := [.lit (.bool true)], args := [d1, d2, d3] }
  | _ => none }
def fnRestEndRow : OpenClaim := { program := "ytfkagnpdapkaaaadoor", sum := "bac913026d81212f15a8ce158dc3878ad2861eb4e1105f3ad60b1ff9c18671b1", func := "loop.example/pub-g01526/laws.FnRestEnd", spec := "fnRestEnd", named := ["unicode/utf8.first", "unicode/utf8.acceptRanges", "strconv.isPrint16", "strconv.isNotPrint16", "strconv.isPrint32", "strconv.isNotPrint32", "strconv.isGraphic", "math/bits.deBruijn64tab"], apart := false, laid := [("math/bits.deBruijn64tab", laid_math_bits_deBruijn64tab), ("unicode/utf8.acceptRanges", laid_unicode_utf8_acceptRanges), ("strconv.isGraphic", laid_strconv_isGraphic), ("strconv.isNotPrint16", laid_strconv_isNotPrint16), ("strconv.isNotPrint32", laid_strconv_isNotPrint32), ("strconv.isPrint16", laid_strconv_isPrint16), ("strconv.isPrint32", laid_strconv_isPrint32), ("unicode/utf8.first", laid_unicode_utf8_first)] }
def FnRestEndSaid : Prop := fnRestEndRow.holds Tryd.pinned (OpenSpec.ofChange fnRestEndSpec)

/-- ITS FALSE NEIGHBOUR: 'it returns false'. Refute it at one input. -/
def fnRestEndWrong : ChangeSpec := { name := "fnRestEnd", fn := fun _ => fun
  | [d1, d2, d3] => { results := [.lit (.bool false)], args := [d1, d2, d3] }
  | _ => none }
def FnRestEndWrongFalsely : Prop := fnRestEndRow.holds Tryd.pinned (OpenSpec.ofChange fnRestEndWrong)

/-- 'laws.FnValid': WHATEVER THE INPUT: true; the input reads as it did. -/
def fnValidSpec : ChangeSpec := { name := "fnValid", fn := fun _ => fun
  | [d] => { results := [.lit (.bool true)], args := [d] }
  | _ => none }
def fnValidRow : OpenClaim := { program := "ytfkagnpdapkaaaadoor", sum := "bac913026d81212f15a8ce158dc3878ad2861eb4e1105f3ad60b1ff9c18671b1", func := "loop.example/pub-g01526/laws.FnValid", spec := "fnValid", named := ["math/bits.deBruijn64tab", "unicode/utf8.first", "unicode/utf8.acceptRanges", "strconv.isPrint16", "strconv.isNotPrint16", "strconv.isPrint32", "strconv.isNotPrint32", "strconv.isGraphic"], apart := false, laid := [("math/bits.deBruijn64tab", laid_math_bits_deBruijn64tab), ("unicode/utf8.acceptRanges", laid_unicode_utf8_acceptRanges), ("strconv.isGraphic", laid_strconv_isGraphic), ("strconv.isNotPrint16", laid_strconv_isNotPrint16), ("strconv.isNotPrint32", laid_strconv_isNotPrint32), ("strconv.isPrint16", laid_strconv_isPrint16), ("strconv.isPrint32", laid_strconv_isPrint32), ("unicode/utf8.first", laid_unicode_utf8_first)] }
def FnValidSaid : Prop := fnValidRow.holds Tryd.pinned (OpenSpec.ofChange fnValidSpec)

/-- ITS FALSE NEIGHBOUR: 'it returns false'. Refute it at one input. -/
def fnValidWrong : ChangeSpec := { name := "fnValid", fn := fun _ => fun
  | [d] => { results := [.lit (.bool false)], args := [d] }
  | _ => none }
def FnValidWrongFalsely : Prop := fnValidRow.holds Tryd.pinned (OpenSpec.ofChange fnValidWrong)

/-- 'laws.FnValueEnd': WHATEVER THE INPUT: true; the input reads as it did. -/
def fnValueEndSpec : ChangeSpec := { name := "fnValueEnd", fn := fun _ => fun
  | [d1, d2, d3] => { results := [.lit (.bool true)], args := [d1, d2, d3] }
  | _ => none }
def fnValueEndRow : OpenClaim := { program := "ytfkagnpdapkaaaadoor", sum := "bac913026d81212f15a8ce158dc3878ad2861eb4e1105f3ad60b1ff9c18671b1", func := "loop.example/pub-g01526/laws.FnValueEnd", spec := "fnValueEnd", named := ["math/bits.deBruijn64tab", "unicode/utf8.first", "unicode/utf8.acceptRanges", "strconv.isPrint16", "strconv.isNotPrint16", "strconv.isPrint32", "strconv.isNotPrint32", "strconv.isGraphic"], apart := false, laid := [("math/bits.deBruijn64tab", laid_math_bits_deBruijn64tab), ("unicode/utf8.acceptRanges", laid_unicode_utf8_acceptRanges), ("strconv.isGraphic", laid_strconv_isGraphic), ("strconv.isNotPrint16", laid_strconv_isNotPrint16), ("strconv.isNotPrint32", laid_strconv_isNotPrint32), ("strconv.isPrint16", laid_strconv_isPrint16), ("strconv.isPrint32", laid_strconv_isPrint32), ("unicode/utf8.first", laid_unicode_utf8_first)] }
def FnValueEndSaid : Prop := fnValueEndRow.holds Tryd.pinned (OpenSpec.ofChange fnValueEndSpec)

/-- ITS FALSE NEIGHBOUR: 'it returns false'. Refute it at one input. -/
def fnValueEndWrong : ChangeSpec := { name := "fnValueEnd", fn := fun _ => fun
  | [d1, d2, d3] => { results := [.lit (.bool false)], args := [d1, d2, d3] }
  | _ => none }
def FnValueEndWrongFalsely : Prop := fnValueEndRow.holds Tryd.pinned (OpenSpec.ofChange fnValueEndWrong)

/-- 'laws.FnValueEndBySteps': WHATEVER THE INPUT: true; the input reads as it did. -/
def fnValueEndByStepsSpec : ChangeSpec := { name := "fnValueEndBySteps", fn := fun _ => fun
  | [d1, d2, d3] => { results := [.lit (.bool true)], args := [d1, d2, d3] }
  | _ => none }
def fnValueEndByStepsRow : OpenClaim := { program := "ytfkagnpdapkaaaadoor", sum := "bac913026d81212f15a8ce158dc3878ad2861eb4e1105f3ad60b1ff9c18671b1", func := "loop.example/pub-g01526/laws.FnValueEndBySteps", spec := "fnValueEndBySteps", named := ["unicode/utf8.first", "unicode/utf8.acceptRanges", "strconv.isPrint16", "strconv.isNotPrint16", "strconv.isPrint32", "strconv.isNotPrint32", "strconv.isGraphic", "math/bits.deBruijn64tab"], apart := false, laid := [("math/bits.deBruijn64tab", laid_math_bits_deBruijn64tab), ("unicode/utf8.acceptRanges", laid_unicode_utf8_acceptRanges), ("strconv.isGraphic", laid_strconv_isGraphic), ("strconv.isNotPrint16", laid_strconv_isNotPrint16), ("strconv.isNotPrint32", laid_strconv_isNotPrint32), ("strconv.isPrint16", laid_strconv_isPrint16), ("strconv.isPrint32", laid_strconv_isPrint32), ("unicode/utf8.first", laid_unicode_utf8_first)] }
def FnValueEndByStepsSaid : Prop := fnValueEndByStepsRow.holds Tryd.pinned (OpenSpec.ofChange fnValueEndByStepsSpec)

/-- ITS FALSE NEIGHBOUR: 'it returns false'. Refute it at one input. -/
def fnValueEndByStepsWrong : ChangeSpec := { name := "fnValueEndBySteps", fn := fun _ => fun
  | [d1, d2, d3] => { results := [.lit (.bool false)], args := [d1, d2, d3] }
  | _ => none }
def FnValueEndByStepsWrongFalsely : Prop := fnValueEndByStepsRow.holds Tryd.pinned (OpenSpec.ofChange fnValueEndByStepsWrong)

/-- 'laws.FnWaysAlike': WHATEVER THE INPUT: true; the input reads as it did. -/
def fnWaysAlikeSpec : ChangeSpec := { name := "fnWaysAlike", fn := fun _ => fun
  | [d1, d2, d3] => { results := [.lit (.bool true)], args := [d1, d2, d3] }
  | _ => none }
def fnWaysAlikeRow : OpenClaim := { program := "ytfkagnpdapkaaaadoor", sum := "bac913026d81212f15a8ce158dc3878ad2861eb4e1105f3ad60b1ff9c18671b1", func := "loop.example/pub-g01526/laws.FnWaysAlike", spec := "fnWaysAlike", named := ["math/bits.deBruijn64tab", "unicode/utf8.first", "unicode/utf8.acceptRanges", "strconv.isPrint16", "strconv.isNotPrint16", "strconv.isPrint32", "strconv.isNotPrint32", "strconv.isGraphic"], apart := false, laid := [("math/bits.deBruijn64tab", laid_math_bits_deBruijn64tab), ("unicode/utf8.acceptRanges", laid_unicode_utf8_acceptRanges), ("strconv.isGraphic", laid_strconv_isGraphic), ("strconv.isNotPrint16", laid_strconv_isNotPrint16), ("strconv.isNotPrint32", laid_strconv_isNotPrint32), ("strconv.isPrint16", laid_strconv_isPrint16), ("strconv.isPrint32", laid_strconv_isPrint32), ("unicode/utf8.first", laid_unicode_utf8_first)] }
def FnWaysAlikeSaid : Prop := fnWaysAlikeRow.holds Tryd.pinned (OpenSpec.ofChange fnWaysAlikeSpec)

/-- ITS FALSE NEIGHBOUR: 'it returns false'. Refute it at one input. -/
def fnWaysAlikeWrong : ChangeSpec := { name := "fnWaysAlike", fn := fun _ => fun
  | [d1, d2, d3] => { results := [.lit (.bool false)], args := [d1, d2, d3] }
  | _ => none }
def FnWaysAlikeWrongFalsely : Prop := fnWaysAlikeRow.holds Tryd.pinned (OpenSpec.ofChange fnWaysAlikeWrong)

/-- 'laws.FnBlankEnd': WHATEVER THE INPUT: true; the input reads as it did. -/
def fnBlankEndSpec : ChangeSpec := { name := "fnBlankEnd", fn := fun _ => fun
  | [d1, d2] => { results := [.lit (.bool true)], args := [d1, d2] }
  | _ => none }
def fnBlankEndRow : OpenClaim := { program := "ytfkagnpdapkaaaadoor", sum := "bac913026d81212f15a8ce158dc3878ad2861eb4e1105f3ad60b1ff9c18671b1", func := "loop.example/pub-g01526/laws.FnBlankEnd", spec := "fnBlankEnd", named := ["math/bits.deBruijn64tab", "unicode/utf8.first", "unicode/utf8.acceptRanges", "strconv.isPrint16", "strconv.isNotPrint16", "strconv.isPrint32", "strconv.isNotPrint32", "strconv.isGraphic"], apart := false, laid := [("math/bits.deBruijn64tab", laid_math_bits_deBruijn64tab), ("unicode/utf8.acceptRanges", laid_unicode_utf8_acceptRanges), ("strconv.isGraphic", laid_strconv_isGraphic), ("strconv.isNotPrint16", laid_strconv_isNotPrint16), ("strconv.isNotPrint32", laid_strconv_isNotPrint32), ("strconv.isPrint16", laid_strconv_isPrint16), ("strconv.isPrint32", laid_strconv_isPrint32), ("unicode/utf8.first", laid_unicode_utf8_first)] }
def FnBlankEndSaid : Prop := fnBlankEndRow.holds Tryd.pinned (OpenSpec.ofChange fnBlankEndSpec)

/-- ITS FALSE NEIGHBOUR: 'it returns false'. Refute it at one input. -/
def fnBlankEndWrong : ChangeSpec := { name := "fnBlankEnd", fn := fun _ => fun
  | [d1, d2] => { results := [.lit (.bool false)], args := [d1, d2] }
  | _ => none }
def FnBlankEndWrongFalsely : Prop := fnBlankEndRow.holds Tryd.pinned (OpenSpec.ofChange fnBlankEndWrong)

/-- 'laws.FnTextScanned': WHATEVER THE INPUT: true; the input reads as it did. -/
def fnTextScannedSpec : ChangeSpec := { name := "fnTextScanned", fn := fun _ => fun
  | [d1, d2] => { results := [.lit (.bool true)], args := [d1, d2] }
  | _ => none }
def fnTextScannedRow : OpenClaim := { program := "ytfkagnpdapkaaaadoor", sum := "bac913026d81212f15a8ce158dc3878ad2861eb4e1105f3ad60b1ff9c18671b1", func := "loop.example/pub-g01526/laws.FnTextScanned", spec := "fnTextScanned", named := ["unicode/utf8.first", "unicode/utf8.acceptRanges", "strconv.isPrint16", "strconv.isNotPrint16", "strconv.isPrint32", "strconv.isNotPrint32", "strconv.isGraphic", "math/bits.deBruijn64tab"], apart := false, laid := [("math/bits.deBruijn64tab", laid_math_bits_deBruijn64tab), ("unicode/utf8.acceptRanges", laid_unicode_utf8_acceptRanges), ("strconv.isGraphic", laid_strconv_isGraphic), ("strconv.isNotPrint16", laid_strconv_isNotPrint16), ("strconv.isNotPrint32", laid_strconv_isNotPrint32), ("strconv.isPrint16", laid_strconv_isPrint16), ("strconv.isPrint32", laid_strconv_isPrint32), ("unicode/utf8.first", laid_unicode_utf8_first)] }
def FnTextScannedSaid : Prop := fnTextScannedRow.holds Tryd.pinned (OpenSpec.ofChange fnTextScannedSpec)

/-- ITS FALSE NEIGHBOUR: 'it returns false'. Refute it at one input. -/
def fnTextScannedWrong : ChangeSpec := { name := "fnTextScanned", fn := fun _ => fun
  | [d1, d2] => { results := [.lit (.bool false)], args := [d1, d2] }
  | _ => none }
def FnTextScannedWrongFalsely : Prop := fnTextScannedRow.holds Tryd.pinned (OpenSpec.ofChange fnTextScannedWrong)

/-- 'laws.FnBehind': WHATEVER THE INPUT: true; the input reads as it did. -/
def fnBehindSpec : ChangeSpec := { name := "fnBehind", fn := fun _ => fun
  | [d1, d2] => { results := [.lit (.bool true)], args := [d1, d2] }
  | _ => none }
def fnBehindRow : OpenClaim := { program := "ytfkagnpdapkaaaadoor", sum := "bac913026d81212f15a8ce158dc3878ad2861eb4e1105f3ad60b1ff9c18671b1", func := "loop.example/pub-g01526/laws.FnBehind", spec := "fnBehind", named := ["unicode/utf8.first", "unicode/utf8.acceptRanges", "strconv.isPrint16", "strconv.isNotPrint16", "strconv.isPrint32", "strconv.isNotPrint32", "strconv.isGraphic", "math/bits.deBruijn64tab"], apart := false, laid := [("math/bits.deBruijn64tab", laid_math_bits_deBruijn64tab), ("unicode/utf8.acceptRanges", laid_unicode_utf8_acceptRanges), ("strconv.isGraphic", laid_strconv_isGraphic), ("strconv.isNotPrint16", laid_strconv_isNotPrint16), ("strconv.isNotPrint32", laid_strconv_isNotPrint32), ("strconv.isPrint16", laid_strconv_isPrint16), ("strconv.isPrint32", laid_strconv_isPrint32), ("unicode/utf8.first", laid_unicode_utf8_first)] }
def FnBehindSaid : Prop := fnBehindRow.holds Tryd.pinned (OpenSpec.ofChange fnBehindSpec)

/-- ITS FALSE NEIGHBOUR: 'it returns false'. Refute it at one input. -/
def fnBehindWrong : ChangeSpec := { name := "fnBehind", fn := fun _ => fun
  | [d1, d2] => { results := [.lit (.bool false)], args := [d1, d2] }
  | _ => none }
def FnBehindWrongFalsely : Prop := fnBehindRow.holds Tryd.pinned (OpenSpec.ofChange fnBehindWrong)

/-- 'laws.FnFault': WHATEVER THE INPUT: true; the input reads as it did. -/
def fnFaultSpec : ChangeSpec := { name := "fnFault", fn := fun _ => fun
  | [d] => { results := [.lit (.bool true)], args := [d] }
  | _ => none }
def fnFaultRow : OpenClaim := { program := "ytfkagnpdapkaaaadoor", sum := "bac913026d81212f15a8ce158dc3878ad2861eb4e1105f3ad60b1ff9c18671b1", func := "loop.example/pub-g01526/laws.FnFault", spec := "fnFault", named := ["math/bits.deBruijn64tab", "unicode/utf8.first", "unicode/utf8.acceptRanges", "strconv.isPrint16", "strconv.isNotPrint16", "strconv.isPrint32", "strconv.isNotPrint32", "strconv.isGraphic"], apart := false, laid := [("math/bits.deBruijn64tab", laid_math_bits_deBruijn64tab), ("unicode/utf8.acceptRanges", laid_unicode_utf8_acceptRanges), ("strconv.isGraphic", laid_strconv_isGraphic), ("strconv.isNotPrint16", laid_strconv_isNotPrint16), ("strconv.isNotPrint32", laid_strconv_isNotPrint32), ("strconv.isPrint16", laid_strconv_isPrint16), ("strconv.isPrint32", laid_strconv_isPrint32), ("unicode/utf8.first", laid_unicode_utf8_first)] }
def FnFaultSaid : Prop := fnFaultRow.holds Tryd.pinned (OpenSpec.ofChange fnFaultSpec)

/-- ITS FALSE NEIGHBOUR: 'it returns false'. Refute it at one input. -/
def fnFaultWrong : ChangeSpec := { name := "fnFault", fn := fun _ => fun
  | [d] => { results := [.lit (.bool false)], args := [d] }
  | _ => none }
def FnFaultWrongFalsely : Prop := fnFaultRow.holds Tryd.pinned (OpenSpec.ofChange fnFaultWrong)

/-- 'laws.FnFaultWords': WHATEVER THE INPUT: true; the input reads as it did. -/
def fnFaultWordsSpec : ChangeSpec := { name := "fnFaultWords", fn := fun _ => fun
  | [d] => { results := [.lit (.bool true)], args := [d] }
  | _ => none }
def fnFaultWordsRow : OpenClaim := { program := "ytfkagnpdapkaaaadoor", sum := "bac913026d81212f15a8ce158dc3878ad2861eb4e1105f3ad60b1ff9c18671b1", func := "loop.example/pub-g01526/laws.FnFaultWords", spec := "fnFaultWords", named := ["math/bits.deBruijn64tab", "unicode/utf8.first", "unicode/utf8.acceptRanges", "strconv.isPrint16", "strconv.isNotPrint16", "strconv.isPrint32", "strconv.isNotPrint32", "strconv.isGraphic"], apart := false, laid := [("math/bits.deBruijn64tab", laid_math_bits_deBruijn64tab), ("unicode/utf8.acceptRanges", laid_unicode_utf8_acceptRanges), ("strconv.isGraphic", laid_strconv_isGraphic), ("strconv.isNotPrint16", laid_strconv_isNotPrint16), ("strconv.isNotPrint32", laid_strconv_isNotPrint32), ("strconv.isPrint16", laid_strconv_isPrint16), ("strconv.isPrint32", laid_strconv_isPrint32), ("unicode/utf8.first", laid_unicode_utf8_first)] }
def FnFaultWordsSaid : Prop := fnFaultWordsRow.holds Tryd.pinned (OpenSpec.ofChange fnFaultWordsSpec)

/-- ITS FALSE NEIGHBOUR: 'it returns false'. Refute it at one input. -/
def fnFaultWordsWrong : ChangeSpec := { name := "fnFaultWords", fn := fun _ => fun
  | [d] => { results := [.lit (.bool false)], args := [d] }
  | _ => none }
def FnFaultWordsWrongFalsely : Prop := fnFaultWordsRow.holds Tryd.pinned (OpenSpec.ofChange fnFaultWordsWrong)

/-- 'laws.FnPlainEnd': WHATEVER THE INPUT: true; the input reads as it did. -/
def fnPlainEndSpec : ChangeSpec := { name := "fnPlainEnd", fn := fun _ => fun
  | [d1, d2] => { results := [.lit (.bool true)], args := [d1, d2] }
  | _ => none }
def fnPlainEndRow : OpenClaim := { program := "ytfkagnpdapkaaaadoor", sum := "bac913026d81212f15a8ce158dc3878ad2861eb4e1105f3ad60b1ff9c18671b1", func := "loop.example/pub-g01526/laws.FnPlainEnd", spec := "fnPlainEnd", named := ["math/bits.deBruijn64tab", "unicode/utf8.first", "unicode/utf8.acceptRanges", "strconv.isPrint16", "strconv.isNotPrint16", "strconv.isPrint32", "strconv.isNotPrint32", "strconv.isGraphic"], apart := false, laid := [("math/bits.deBruijn64tab", laid_math_bits_deBruijn64tab), ("unicode/utf8.acceptRanges", laid_unicode_utf8_acceptRanges), ("strconv.isGraphic", laid_strconv_isGraphic), ("strconv.isNotPrint16", laid_strconv_isNotPrint16), ("strconv.isNotPrint32", laid_strconv_isNotPrint32), ("strconv.isPrint16", laid_strconv_isPrint16), ("strconv.isPrint32", laid_strconv_isPrint32), ("unicode/utf8.first", laid_unicode_utf8_first)] }
def FnPlainEndSaid : Prop := fnPlainEndRow.holds Tryd.pinned (OpenSpec.ofChange fnPlainEndSpec)

/-- ITS FALSE NEIGHBOUR: 'it returns false'. Refute it at one input. -/
def fnPlainEndWrong : ChangeSpec := { name := "fnPlainEnd", fn := fun _ => fun
  | [d1, d2] => { results := [.lit (.bool false)], args := [d1, d2] }
  | _ => none }
def FnPlainEndWrongFalsely : Prop := fnPlainEndRow.holds Tryd.pinned (OpenSpec.ofChange fnPlainEndWrong)

/-- 'laws.FnNumberPassed': WHATEVER THE INPUT: true; the input reads as it did. -/
def fnNumberPassedSpec : ChangeSpec := { name := "fnNumberPassed", fn := fun _ => fun
  | [d1, d2] => { results := [.lit (.bool true)], args := [d1, d2] }
  | _ => none }
def fnNumberPassedRow : OpenClaim := { program := "ytfkagnpdapkaaaadoor", sum := "bac913026d81212f15a8ce158dc3878ad2861eb4e1105f3ad60b1ff9c18671b1", func := "loop.example/pub-g01526/laws.FnNumberPassed", spec := "fnNumberPassed", named := ["math/bits.deBruijn64tab", "unicode/utf8.first", "unicode/utf8.acceptRanges", "strconv.isPrint16", "strconv.isNotPrint16", "strconv.isPrint32", "strconv.isNotPrint32", "strconv.isGraphic"], apart := false, laid := [("math/bits.deBruijn64tab", laid_math_bits_deBruijn64tab), ("unicode/utf8.acceptRanges", laid_unicode_utf8_acceptRanges), ("strconv.isGraphic", laid_strconv_isGraphic), ("strconv.isNotPrint16", laid_strconv_isNotPrint16), ("strconv.isNotPrint32", laid_strconv_isNotPrint32), ("strconv.isPrint16", laid_strconv_isPrint16), ("strconv.isPrint32", laid_strconv_isPrint32), ("unicode/utf8.first", laid_unicode_utf8_first)] }
def FnNumberPassedSaid : Prop := fnNumberPassedRow.holds Tryd.pinned (OpenSpec.ofChange fnNumberPassedSpec)

/-- ITS FALSE NEIGHBOUR: 'it returns false'. Refute it at one input. -/
def fnNumberPassedWrong : ChangeSpec := { name := "fnNumberPassed", fn := fun _ => fun
  | [d1, d2] => { results := [.lit (.bool false)], args := [d1, d2] }
  | _ => none }
def FnNumberPassedWrongFalsely : Prop := fnNumberPassedRow.holds Tryd.pinned (OpenSpec.ofChange fnNumberPassedWrong)

/- THE SECOND FORM. 'bulk': how many values and letters a reading holds, each counted each time it is reached (what is shared counts as often as it is met; a slice's spare places count too). A statement '..UptoSaid' is the law's where the arguments, and the package variables that the reading takes, are together of bulk at most 1048576: NARROWER than '..Said'. Prove '..Said' where nothing that the law and all that it calls make is longer than what came in: it says more and counts as full. Else prove '..UptoSaid'. A law counts once. -/
mutual
def uptoBulk {H : Type} : DataW H → Nat
  | .lit (.string bytes) => bytes.length + 1
  | .lit _ => 1
  | .nil => 1
  | .ptr d => uptoBulk d + 1
  | .slice elems spare => uptoBulkAll elems + uptoBulkAll spare + 1
  | .agg parts => uptoBulkAll parts + 1
  | .iface _ d => uptoBulk d + 1
  | .map entries => uptoBulkEntries entries + 1
  | .held _ => 1
def uptoBulkAll {H : Type} : List (DataW H) → Nat
  | [] => 0
  | d :: r => uptoBulk d + uptoBulkAll r
def uptoBulkEntries {H : Type} : List (Lit × DataW H) → Nat
  | [] => 0
  | x :: r => uptoBulkEntry x + uptoBulkEntries r
def uptoBulkEntry {H : Type} : Lit × DataW H → Nat
  | (.string bytes, d) => bytes.length + uptoBulk d + 1
  | (_, d) => uptoBulk d + 1
 end
def uptoSmall : (H : Type) → List (DataW H) → Bool := fun _ ds => decide (uptoBulkAll ds ≤ 1048576)
def OpenSpec.upto (s : _root_.Go.ChangeSpec) : _root_.Go.OpenSpec := { _root_.Go.OpenSpec.ofChange s with cond := some uptoSmall }

/-- 'laws.FnFaultStart', WHERE WHAT IT READS IS OF BULK AT MOST 1048576: true; the input reads as it did. -/
def fnFaultStartUptoRow : OpenClaim := { program := "ytfkagnpdapkaaaadoor", sum := "bac913026d81212f15a8ce158dc3878ad2861eb4e1105f3ad60b1ff9c18671b1", func := "loop.example/pub-g01526/laws.FnFaultStart", spec := "fnFaultStart", named := ["math/bits.deBruijn64tab", "unicode/utf8.first", "unicode/utf8.acceptRanges", "strconv.isPrint16", "strconv.isNotPrint16", "strconv.isPrint32", "strconv.isNotPrint32", "strconv.isGraphic"], apart := false, laid := [("math/bits.deBruijn64tab", laid_math_bits_deBruijn64tab), ("unicode/utf8.acceptRanges", laid_unicode_utf8_acceptRanges), ("strconv.isGraphic", laid_strconv_isGraphic), ("strconv.isNotPrint16", laid_strconv_isNotPrint16), ("strconv.isNotPrint32", laid_strconv_isNotPrint32), ("strconv.isPrint16", laid_strconv_isPrint16), ("strconv.isPrint32", laid_strconv_isPrint32), ("unicode/utf8.first", laid_unicode_utf8_first)], narrowed := true }
def FnFaultStartUptoSaid : Prop := fnFaultStartUptoRow.holds Tryd.pinned (OpenSpec.upto fnFaultStartSpec)

/-- 'laws.FnMasks', WHERE WHAT IT READS IS OF BULK AT MOST 1048576: true; the input reads as it did. -/
def fnMasksUptoRow : OpenClaim := { program := "ytfkagnpdapkaaaadoor", sum := "bac913026d81212f15a8ce158dc3878ad2861eb4e1105f3ad60b1ff9c18671b1", func := "loop.example/pub-g01526/laws.FnMasks", spec := "fnMasks", named := ["math/bits.deBruijn64tab", "unicode/utf8.first", "unicode/utf8.acceptRanges", "strconv.isPrint16", "strconv.isNotPrint16", "strconv.isPrint32", "strconv.isNotPrint32", "strconv.isGraphic"], apart := false, laid := [("math/bits.deBruijn64tab", laid_math_bits_deBruijn64tab), ("unicode/utf8.acceptRanges", laid_unicode_utf8_acceptRanges), ("strconv.isGraphic", laid_strconv_isGraphic), ("strconv.isNotPrint16", laid_strconv_isNotPrint16), ("strconv.isNotPrint32", laid_strconv_isNotPrint32), ("strconv.isPrint16", laid_strconv_isPrint16), ("strconv.isPrint32", laid_strconv_isPrint32), ("unicode/utf8.first", laid_unicode_utf8_first)], narrowed := true }
def FnMasksUptoSaid : Prop := fnMasksUptoRow.holds Tryd.pinned (OpenSpec.upto fnMasksSpec)

/-- 'laws.FnCompoundEnd', WHERE WHAT IT READS IS OF BULK AT MOST 1048576: true; the input reads as it did. -/
def fnCompoundEndUptoRow : OpenClaim := { program := "ytfkagnpdapkaaaadoor", sum := "bac913026d81212f15a8ce158dc3878ad2861eb4e1105f3ad60b1ff9c18671b1", func := "loop.example/pub-g01526/laws.FnCompoundEnd", spec := "fnCompoundEnd", inPlace := ["math/bits.Add64"], named := ["math/bits.deBruijn64tab", "unicode/utf8.first", "unicode/utf8.acceptRanges", "strconv.isPrint16", "strconv.isNotPrint16", "strconv.isPrint32", "strconv.isNotPrint32", "strconv.isGraphic"], apart := false, laid := [("math/bits.deBruijn64tab", laid_math_bits_deBruijn64tab), ("unicode/utf8.acceptRanges", laid_unicode_utf8_acceptRanges), ("strconv.isGraphic", laid_strconv_isGraphic), ("strconv.isNotPrint16", laid_strconv_isNotPrint16), ("strconv.isNotPrint32", laid_strconv_isNotPrint32), ("strconv.isPrint16", laid_strconv_isPrint16), ("strconv.isPrint32", laid_strconv_isPrint32), ("unicode/utf8.first", laid_unicode_utf8_first)], narrowed := true }
def FnCompoundEndUptoSaid : Prop := fnCompoundEndUptoRow.holds Tryd.pinned (OpenSpec.upto fnCompoundEndSpec)

/-- 'laws.FnTextEnd', WHERE WHAT IT READS IS OF BULK AT MOST 1048576: true; the input reads as it did. -/
def fnTextEndUptoRow : OpenClaim := { program := "ytfkagnpdapkaaaadoor", sum := "bac913026d81212f15a8ce158dc3878ad2861eb4e1105f3ad60b1ff9c18671b1", func := "loop.example/pub-g01526/laws.FnTextEnd", spec := "fnTextEnd", named := ["math/bits.deBruijn64tab", "unicode/utf8.first", "unicode/utf8.acceptRanges", "strconv.isPrint16", "strconv.isNotPrint16", "strconv.isPrint32", "strconv.isNotPrint32", "strconv.isGraphic"], apart := false, laid := [("math/bits.deBruijn64tab", laid_math_bits_deBruijn64tab), ("unicode/utf8.acceptRanges", laid_unicode_utf8_acceptRanges), ("strconv.isGraphic", laid_strconv_isGraphic), ("strconv.isNotPrint16", laid_strconv_isNotPrint16), ("strconv.isNotPrint32", laid_strconv_isNotPrint32), ("strconv.isPrint16", laid_strconv_isPrint16), ("strconv.isPrint32", laid_strconv_isPrint32), ("unicode/utf8.first", laid_unicode_utf8_first)], narrowed := true }
def FnTextEndUptoSaid : Prop := fnTextEndUptoRow.holds Tryd.pinned (OpenSpec.upto fnTextEndSpec)

/-- 'laws.FnRestEnd', WHERE WHAT IT READS IS OF BULK AT MOST 1048576: true; the input reads as it did. -/
def fnRestEndUptoRow : OpenClaim := { program := "ytfkagnpdapkaaaadoor", sum := "bac913026d81212f15a8ce158dc3878ad2861eb4e1105f3ad60b1ff9c18671b1", func := "loop.example/pub-g01526/laws.FnRestEnd", spec := "fnRestEnd", named := ["unicode/utf8.first", "unicode/utf8.acceptRanges", "strconv.isPrint16", "strconv.isNotPrint16", "strconv.isPrint32", "strconv.isNotPrint32", "strconv.isGraphic", "math/bits.deBruijn64tab"], apart := false, laid := [("math/bits.deBruijn64tab", laid_math_bits_deBruijn64tab), ("unicode/utf8.acceptRanges", laid_unicode_utf8_acceptRanges), ("strconv.isGraphic", laid_strconv_isGraphic), ("strconv.isNotPrint16", laid_strconv_isNotPrint16), ("strconv.isNotPrint32", laid_strconv_isNotPrint32), ("strconv.isPrint16", laid_strconv_isPrint16), ("strconv.isPrint32", laid_strconv_isPrint32), ("unicode/utf8.first", laid_unicode_utf8_first)], narrowed := true }
def FnRestEndUptoSaid : Prop := fnRestEndUptoRow.holds Tryd.pinned (OpenSpec.upto fnRestEndSpec)

/-- 'laws.FnValid', WHERE WHAT IT READS IS OF BULK AT MOST 1048576: true; the input reads as it did. -/
def fnValidUptoRow : OpenClaim := { program := "ytfkagnpdapkaaaadoor", sum := "bac913026d81212f15a8ce158dc3878ad2861eb4e1105f3ad60b1ff9c18671b1", func := "loop.example/pub-g01526/laws.FnValid", spec := "fnValid", named := ["math/bits.deBruijn64tab", "unicode/utf8.first", "unicode/utf8.acceptRanges", "strconv.isPrint16", "strconv.isNotPrint16", "strconv.isPrint32", "strconv.isNotPrint32", "strconv.isGraphic"], apart := false, laid := [("math/bits.deBruijn64tab", laid_math_bits_deBruijn64tab), ("unicode/utf8.acceptRanges", laid_unicode_utf8_acceptRanges), ("strconv.isGraphic", laid_strconv_isGraphic), ("strconv.isNotPrint16", laid_strconv_isNotPrint16), ("strconv.isNotPrint32", laid_strconv_isNotPrint32), ("strconv.isPrint16", laid_strconv_isPrint16), ("strconv.isPrint32", laid_strconv_isPrint32), ("unicode/utf8.first", laid_unicode_utf8_first)], narrowed := true }
def FnValidUptoSaid : Prop := fnValidUptoRow.holds Tryd.pinned (OpenSpec.upto fnValidSpec)

/-- 'laws.FnValueEnd', WHERE WHAT IT READS IS OF BULK AT MOST 1048576: true; the input reads as it did. -/
def fnValueEndUptoRow : OpenClaim := { program := "ytfkagnpdapkaaaadoor", sum := "bac913026d81212f15a8ce158dc3878ad2861eb4e1105f3ad60b1ff9c18671b1", func := "loop.example/pub-g01526/laws.FnValueEnd", spec := "fnValueEnd", named := ["math/bits.deBruijn64tab", "unicode/utf8.first", "unicode/utf8.acceptRanges", "strconv.isPrint16", "strconv.isNotPrint16", "strconv.isPrint32", "strconv.isNotPrint32", "strconv.isGraphic"], apart := false, laid := [("math/bits.deBruijn64tab", laid_math_bits_deBruijn64tab), ("unicode/utf8.acceptRanges", laid_unicode_utf8_acceptRanges), ("strconv.isGraphic", laid_strconv_isGraphic), ("strconv.isNotPrint16", laid_strconv_isNotPrint16), ("strconv.isNotPrint32", laid_strconv_isNotPrint32), ("strconv.isPrint16", laid_strconv_isPrint16), ("strconv.isPrint32", laid_strconv_isPrint32), ("unicode/utf8.first", laid_unicode_utf8_first)], narrowed := true }
def FnValueEndUptoSaid : Prop := fnValueEndUptoRow.holds Tryd.pinned (OpenSpec.upto fnValueEndSpec)

/-- 'laws.FnValueEndBySteps', WHERE WHAT IT READS IS OF BULK AT MOST 1048576: true; the input reads as it did. -/
def fnValueEndByStepsUptoRow : OpenClaim := { program := "ytfkagnpdapkaaaadoor", sum := "bac913026d81212f15a8ce158dc3878ad2861eb4e1105f3ad60b1ff9c18671b1", func := "loop.example/pub-g01526/laws.FnValueEndBySteps", spec := "fnValueEndBySteps", named := ["unicode/utf8.first", "unicode/utf8.acceptRanges", "strconv.isPrint16", "strconv.isNotPrint16", "strconv.isPrint32", "strconv.isNotPrint32", "strconv.isGraphic", "math/bits.deBruijn64tab"], apart := false, laid := [("math/bits.deBruijn64tab", laid_math_bits_deBruijn64tab), ("unicode/utf8.acceptRanges", laid_unicode_utf8_acceptRanges), ("strconv.isGraphic", laid_strconv_isGraphic), ("strconv.isNotPrint16", laid_strconv_isNotPrint16), ("strconv.isNotPrint32", laid_strconv_isNotPrint32), ("strconv.isPrint16", laid_strconv_isPrint16), ("strconv.isPrint32", laid_strconv_isPrint32), ("unicode/utf8.first", laid_unicode_utf8_first)], narrowed := true }
def FnValueEndByStepsUptoSaid : Prop := fnValueEndByStepsUptoRow.holds Tryd.pinned (OpenSpec.upto fnValueEndByStepsSpec)

/-- 'laws.FnWaysAlike', WHERE WHAT IT READS IS OF BULK AT MOST 1048576: true; the input reads as it did. -/
def fnWaysAlikeUptoRow : OpenClaim := { program := "ytfkagnpdapkaaaadoor", sum := "bac913026d81212f15a8ce158dc3878ad2861eb4e1105f3ad60b1ff9c18671b1", func := "loop.example/pub-g01526/laws.FnWaysAlike", spec := "fnWaysAlike", named := ["math/bits.deBruijn64tab", "unicode/utf8.first", "unicode/utf8.acceptRanges", "strconv.isPrint16", "strconv.isNotPrint16", "strconv.isPrint32", "strconv.isNotPrint32", "strconv.isGraphic"], apart := false, laid := [("math/bits.deBruijn64tab", laid_math_bits_deBruijn64tab), ("unicode/utf8.acceptRanges", laid_unicode_utf8_acceptRanges), ("strconv.isGraphic", laid_strconv_isGraphic), ("strconv.isNotPrint16", laid_strconv_isNotPrint16), ("strconv.isNotPrint32", laid_strconv_isNotPrint32), ("strconv.isPrint16", laid_strconv_isPrint16), ("strconv.isPrint32", laid_strconv_isPrint32), ("unicode/utf8.first", laid_unicode_utf8_first)], narrowed := true }
def FnWaysAlikeUptoSaid : Prop := fnWaysAlikeUptoRow.holds Tryd.pinned (OpenSpec.upto fnWaysAlikeSpec)

/-- 'laws.FnBlankEnd', WHERE WHAT IT READS IS OF BULK AT MOST 1048576: true; the input reads as it did. -/
def fnBlankEndUptoRow : OpenClaim := { program := "ytfkagnpdapkaaaadoor", sum := "bac913026d81212f15a8ce158dc3878ad2861eb4e1105f3ad60b1ff9c18671b1", func := "loop.example/pub-g01526/laws.FnBlankEnd", spec := "fnBlankEnd", named := ["math/bits.deBruijn64tab", "unicode/utf8.first", "unicode/utf8.acceptRanges", "strconv.isPrint16", "strconv.isNotPrint16", "strconv.isPrint32", "strconv.isNotPrint32", "strconv.isGraphic"], apart := false, laid := [("math/bits.deBruijn64tab", laid_math_bits_deBruijn64tab), ("unicode/utf8.acceptRanges", laid_unicode_utf8_acceptRanges), ("strconv.isGraphic", laid_strconv_isGraphic), ("strconv.isNotPrint16", laid_strconv_isNotPrint16), ("strconv.isNotPrint32", laid_strconv_isNotPrint32), ("strconv.isPrint16", laid_strconv_isPrint16), ("strconv.isPrint32", laid_strconv_isPrint32), ("unicode/utf8.first", laid_unicode_utf8_first)], narrowed := true }
def FnBlankEndUptoSaid : Prop := fnBlankEndUptoRow.holds Tryd.pinned (OpenSpec.upto fnBlankEndSpec)

/-- 'laws.FnTextScanned', WHERE WHAT IT READS IS OF BULK AT MOST 1048576: true; the input reads as it did. -/
def fnTextScannedUptoRow : OpenClaim := { program := "ytfkagnpdapkaaaadoor", sum := "bac913026d81212f15a8ce158dc3878ad2861eb4e1105f3ad60b1ff9c18671b1", func := "loop.example/pub-g01526/laws.FnTextScanned", spec := "fnTextScanned", named := ["unicode/utf8.first", "unicode/utf8.acceptRanges", "strconv.isPrint16", "strconv.isNotPrint16", "strconv.isPrint32", "strconv.isNotPrint32", "strconv.isGraphic", "math/bits.deBruijn64tab"], apart := false, laid := [("math/bits.deBruijn64tab", laid_math_bits_deBruijn64tab), ("unicode/utf8.acceptRanges", laid_unicode_utf8_acceptRanges), ("strconv.isGraphic", laid_strconv_isGraphic), ("strconv.isNotPrint16", laid_strconv_isNotPrint16), ("strconv.isNotPrint32", laid_strconv_isNotPrint32), ("strconv.isPrint16", laid_strconv_isPrint16), ("strconv.isPrint32", laid_strconv_isPrint32), ("unicode/utf8.first", laid_unicode_utf8_first)], narrowed := true }
def FnTextScannedUptoSaid : Prop := fnTextScannedUptoRow.holds Tryd.pinned (OpenSpec.upto fnTextScannedSpec)

/-- 'laws.FnBehind', WHERE WHAT IT READS IS OF BULK AT MOST 1048576: true; the input reads as it did. -/
def fnBehindUptoRow : OpenClaim := { program := "ytfkagnpdapkaaaadoor", sum := "bac913026d81212f15a8ce158dc3878ad2861eb4e1105f3ad60b1ff9c18671b1", func := "loop.example/pub-g01526/laws.FnBehind", spec := "fnBehind", named := ["unicode/utf8.first", "unicode/utf8.acceptRanges", "strconv.isPrint16", "strconv.isNotPrint16", "strconv.isPrint32", "strconv.isNotPrint32", "strconv.isGraphic", "math/bits.deBruijn64tab"], apart := false, laid := [("math/bits.deBruijn64tab", laid_math_bits_deBruijn64tab), ("unicode/utf8.acceptRanges", laid_unicode_utf8_acceptRanges), ("strconv.isGraphic", laid_strconv_isGraphic), ("strconv.isNotPrint16", laid_strconv_isNotPrint16), ("strconv.isNotPrint32", laid_strconv_isNotPrint32), ("strconv.isPrint16", laid_strconv_isPrint16), ("strconv.isPrint32", laid_strconv_isPrint32), ("unicode/utf8.first", laid_unicode_utf8_first)], narrowed := true }
def FnBehindUptoSaid : Prop := fnBehindUptoRow.holds Tryd.pinned (OpenSpec.upto fnBehindSpec)

/-- 'laws.FnFault', WHERE WHAT IT READS IS OF BULK AT MOST 1048576: true; the input reads as it did. -/
def fnFaultUptoRow : OpenClaim := { program := "ytfkagnpdapkaaaadoor", sum := "bac913026d81212f15a8ce158dc3878ad2861eb4e1105f3ad60b1ff9c18671b1", func := "loop.example/pub-g01526/laws.FnFault", spec := "fnFault", named := ["math/bits.deBruijn64tab", "unicode/utf8.first", "unicode/utf8.acceptRanges", "strconv.isPrint16", "strconv.isNotPrint16", "strconv.isPrint32", "strconv.isNotPrint32", "strconv.isGraphic"], apart := false, laid := [("math/bits.deBruijn64tab", laid_math_bits_deBruijn64tab), ("unicode/utf8.acceptRanges", laid_unicode_utf8_acceptRanges), ("strconv.isGraphic", laid_strconv_isGraphic), ("strconv.isNotPrint16", laid_strconv_isNotPrint16), ("strconv.isNotPrint32", laid_strconv_isNotPrint32), ("strconv.isPrint16", laid_strconv_isPrint16), ("strconv.isPrint32", laid_strconv_isPrint32), ("unicode/utf8.first", laid_unicode_utf8_first)], narrowed := true }
def FnFaultUptoSaid : Prop := fnFaultUptoRow.holds Tryd.pinned (OpenSpec.upto fnFaultSpec)

/-- 'laws.FnFaultWords', WHERE WHAT IT READS IS OF BULK AT MOST 1048576: true; the input reads as it did. -/
def fnFaultWordsUptoRow : OpenClaim := { program := "ytfkagnpdapkaaaadoor", sum := "bac913026d81212f15a8ce158dc3878ad2861eb4e1105f3ad60b1ff9c18671b1", func := "loop.example/pub-g01526/laws.FnFaultWords", spec := "fnFaultWords", named := ["math/bits.deBruijn64tab", "unicode/utf8.first", "unicode/utf8.acceptRanges", "strconv.isPrint16", "strconv.isNotPrint16", "strconv.isPrint32", "strconv.isNotPrint32", "strconv.isGraphic"], apart := false, laid := [("math/bits.deBruijn64tab", laid_math_bits_deBruijn64tab), ("unicode/utf8.acceptRanges", laid_unicode_utf8_acceptRanges), ("strconv.isGraphic", laid_strconv_isGraphic), ("strconv.isNotPrint16", laid_strconv_isNotPrint16), ("strconv.isNotPrint32", laid_strconv_isNotPrint32), ("strconv.isPrint16", laid_strconv_isPrint16), ("strconv.isPrint32", laid_strconv_isPrint32), ("unicode/utf8.first", laid_unicode_utf8_first)], narrowed := true }
def FnFaultWordsUptoSaid : Prop := fnFaultWordsUptoRow.holds Tryd.pinned (OpenSpec.upto fnFaultWordsSpec)

/-- 'laws.FnPlainEnd', WHERE WHAT IT READS IS OF BULK AT MOST 1048576: true; the input reads as it did. -/
def fnPlainEndUptoRow : OpenClaim := { program := "ytfkagnpdapkaaaadoor", sum := "bac913026d81212f15a8ce158dc3878ad2861eb4e1105f3ad60b1ff9c18671b1", func := "loop.example/pub-g01526/laws.FnPlainEnd", spec := "fnPlainEnd", named := ["math/bits.deBruijn64tab", "unicode/utf8.first", "unicode/utf8.acceptRanges", "strconv.isPrint16", "strconv.isNotPrint16", "strconv.isPrint32", "strconv.isNotPrint32", "strconv.isGraphic"], apart := false, laid := [("math/bits.deBruijn64tab", laid_math_bits_deBruijn64tab), ("unicode/utf8.acceptRanges", laid_unicode_utf8_acceptRanges), ("strconv.isGraphic", laid_strconv_isGraphic), ("strconv.isNotPrint16", laid_strconv_isNotPrint16), ("strconv.isNotPrint32", laid_strconv_isNotPrint32), ("strconv.isPrint16", laid_strconv_isPrint16), ("strconv.isPrint32", laid_strconv_isPrint32), ("unicode/utf8.first", laid_unicode_utf8_first)], narrowed := true }
def FnPlainEndUptoSaid : Prop := fnPlainEndUptoRow.holds Tryd.pinned (OpenSpec.upto fnPlainEndSpec)

/-- 'laws.FnNumberPassed', WHERE WHAT IT READS IS OF BULK AT MOST 1048576: true; the input reads as it did. -/
def fnNumberPassedUptoRow : OpenClaim := { program := "ytfkagnpdapkaaaadoor", sum := "bac913026d81212f15a8ce158dc3878ad2861eb4e1105f3ad60b1ff9c18671b1", func := "loop.example/pub-g01526/laws.FnNumberPassed", spec := "fnNumberPassed", named := ["math/bits.deBruijn64tab", "unicode/utf8.first", "unicode/utf8.acceptRanges", "strconv.isPrint16", "strconv.isNotPrint16", "strconv.isPrint32", "strconv.isNotPrint32", "strconv.isGraphic"], apart := false, laid := [("math/bits.deBruijn64tab", laid_math_bits_deBruijn64tab), ("unicode/utf8.acceptRanges", laid_unicode_utf8_acceptRanges), ("strconv.isGraphic", laid_strconv_isGraphic), ("strconv.isNotPrint16", laid_strconv_isNotPrint16), ("strconv.isNotPrint32", laid_strconv_isNotPrint32), ("strconv.isPrint16", laid_strconv_isPrint16), ("strconv.isPrint32", laid_strconv_isPrint32), ("unicode/utf8.first", laid_unicode_utf8_first)], narrowed := true }
def FnNumberPassedUptoSaid : Prop := fnNumberPassedUptoRow.holds Tryd.pinned (OpenSpec.upto fnNumberPassedSpec)

end Rows
end Go.Proofs.YtfkagnpdapkaaaaDoor
