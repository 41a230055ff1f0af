/-
  No cell of these rows narrows 'for every input' (looked for: loops, veiled, ifaces, maps, wideKeys, modest, calm, conditions, laid).
  DERIVED. THE GIVEN ROWS OF THIS SEAT. 26 by the template 'for every input the law returns true; each argument reads behind the call as it read before'; 0 by the template 'total and deterministic' (their statements: YtgdfbnedmifjlaaTotals.lean).
  GIVEN WITH THE SEED: the statements are not yours to turn. If you find one false, say at which input.
  Laid BY PROGRAM, IN A SANDBOX (cutbox-rows.mjs): the forced cells as the released guide's own fill.sh prints them over the translation 8b35d211488007e0… (all of the seat's roots in one cut). By AI agents, Wed Nov 11 2026. No macro, syntax, notation, axiom, sorry.
-/
import Derived.Test.YtgdfbnedmifjlaaChecked
import GoSem.Claim
import GoSem.ClaimJoined
import GoSem.ClaimMapViews
import Derived.JoinedTies
import Derived.KernelRfl
namespace Go.Proofs.Ytgdfbnedmifjlaa
/- THE CELL 'sum', in the pinned program and in every row, IS THE sha256 OF THE DUMP (.gsa) THAT YtgdfbnedmifjlaaProg.lean LOADS. Nothing in Lean hashes anything: it is a label: what it is worth is what the hold of that sum in a sandbox is worth. -/
noncomputable def Try.pinned : Pinned := { name := "ytgdfbnedmifjlaa", sum := "8b35d211488007e0ad1df4d103ca8f782b8deeca8a2c46864ab96eb3b28de257", checked := Try.checked }
namespace Rows
def none {H : Type} : Left H := { results := [], args := [] }

/-- 'laws.FnCounts': WHATEVER THE INPUT: true; the input reads as it did. -/
def fnCountsSpec : ChangeSpec := { name := "fnCounts", fn := fun _ => fun
  | [d1, d2] => { results := [.lit (.bool true)], args := [d1, d2] }
  | _ => none }
def fnCountsRow : OpenClaim := { program := "ytgdfbnedmifjlaa", sum := "8b35d211488007e0ad1df4d103ca8f782b8deeca8a2c46864ab96eb3b28de257", func := "loop.example/lib-g03322/laws.FnCounts", spec := "fnCounts", unfollowed := true, recurses := true, apart := false }
def FnCountsSaid : Prop := fnCountsRow.holds Try.pinned (OpenSpec.ofChange fnCountsSpec)

/-- ITS FALSE NEIGHBOUR: 'it returns false'. Refute it at one input. -/
def fnCountsWrong : ChangeSpec := { name := "fnCounts", fn := fun _ => fun
  | [d1, d2] => { results := [.lit (.bool false)], args := [d1, d2] }
  | _ => none }
def FnCountsWrongFalsely : Prop := fnCountsRow.holds Try.pinned (OpenSpec.ofChange fnCountsWrong)

/-- 'laws.FnHave': WHATEVER THE INPUT: true; the input reads as it did. -/
def fnHaveSpec : ChangeSpec := { name := "fnHave", fn := fun _ => fun
  | [d1, d2] => { results := [.lit (.bool true)], args := [d1, d2] }
  | _ => none }
def fnHaveRow : OpenClaim := { program := "ytgdfbnedmifjlaa", sum := "8b35d211488007e0ad1df4d103ca8f782b8deeca8a2c46864ab96eb3b28de257", func := "loop.example/lib-g03322/laws.FnHave", spec := "fnHave", unfollowed := true, recurses := true, apart := false }
def FnHaveSaid : Prop := fnHaveRow.holds Try.pinned (OpenSpec.ofChange fnHaveSpec)

/-- ITS FALSE NEIGHBOUR: 'it returns false'. Refute it at one input. -/
def fnHaveWrong : ChangeSpec := { name := "fnHave", fn := fun _ => fun
  | [d1, d2] => { results := [.lit (.bool false)], args := [d1, d2] }
  | _ => none }
def FnHaveWrongFalsely : Prop := fnHaveRow.holds Try.pinned (OpenSpec.ofChange fnHaveWrong)

/-- 'laws.FnNothing': WHATEVER THE INPUT: true; the input reads as it did. -/
def fnNothingSpec : ChangeSpec := { name := "fnNothing", fn := fun _ => fun
  | [d1, d2] => { results := [.lit (.bool true)], args := [d1, d2] }
  | _ => none }
def fnNothingRow : OpenClaim := { program := "ytgdfbnedmifjlaa", sum := "8b35d211488007e0ad1df4d103ca8f782b8deeca8a2c46864ab96eb3b28de257", func := "loop.example/lib-g03322/laws.FnNothing", spec := "fnNothing", unfollowed := true, recurses := true, apart := false }
def FnNothingSaid : Prop := fnNothingRow.holds Try.pinned (OpenSpec.ofChange fnNothingSpec)

/-- ITS FALSE NEIGHBOUR: 'it returns false'. Refute it at one input. -/
def fnNothingWrong : ChangeSpec := { name := "fnNothing", fn := fun _ => fun
  | [d1, d2] => { results := [.lit (.bool false)], args := [d1, d2] }
  | _ => none }
def FnNothingWrongFalsely : Prop := fnNothingRow.holds Try.pinned (OpenSpec.ofChange fnNothingWrong)

/-- 'laws.FnRun': WHATEVER THE INPUT: true; the input reads as it did. -/
def fnRunSpec : ChangeSpec := { name := "fnRun", fn := fun _ => fun
  | [d1, d2] => { results := [.lit (.bool true)], args := [d1, d2] }
  | _ => none }
def fnRunRow : OpenClaim := { program := "ytgdfbnedmifjlaa", sum := "8b35d211488007e0ad1df4d103ca8f782b8deeca8a2c46864ab96eb3b28de257", func := "loop.example/lib-g03322/laws.FnRun", spec := "fnRun", unfollowed := true, recurses := true, apart := false }
def FnRunSaid : Prop := fnRunRow.holds Try.pinned (OpenSpec.ofChange fnRunSpec)

/-- ITS FALSE NEIGHBOUR: 'it returns false'. Refute it at one input. -/
def fnRunWrong : ChangeSpec := { name := "fnRun", fn := fun _ => fun
  | [d1, d2] => { results := [.lit (.bool false)], args := [d1, d2] }
  | _ => none }
def FnRunWrongFalsely : Prop := fnRunRow.holds Try.pinned (OpenSpec.ofChange fnRunWrong)

/-- 'laws.FnLimited': WHATEVER THE INPUT: true; the input reads as it did. -/
def fnLimitedSpec : ChangeSpec := { name := "fnLimited", fn := fun _ => fun
  | [d1, d2, d3] => { results := [.lit (.bool true)], args := [d1, d2, d3] }
  | _ => none }
def fnLimitedRow : OpenClaim := { program := "ytgdfbnedmifjlaa", sum := "8b35d211488007e0ad1df4d103ca8f782b8deeca8a2c46864ab96eb3b28de257", func := "loop.example/lib-g03322/laws.FnLimited", spec := "fnLimited", unfollowed := true, recurses := true, apart := false }
def FnLimitedSaid : Prop := fnLimitedRow.holds Try.pinned (OpenSpec.ofChange fnLimitedSpec)

/-- ITS FALSE NEIGHBOUR: 'it returns false'. Refute it at one input. -/
def fnLimitedWrong : ChangeSpec := { name := "fnLimited", fn := fun _ => fun
  | [d1, d2, d3] => { results := [.lit (.bool false)], args := [d1, d2, d3] }
  | _ => none }
def FnLimitedWrongFalsely : Prop := fnLimitedRow.holds Try.pinned (OpenSpec.ofChange fnLimitedWrong)

/-- 'laws.FnApart': WHATEVER THE INPUT: true; the input reads as it did. -/
def fnApartSpec : ChangeSpec := { name := "fnApart", fn := fun _ => fun
  | [d1, d2] => { results := [.lit (.bool true)], args := [d1, d2] }
  | _ => none }
def fnApartRow : OpenClaim := { program := "ytgdfbnedmifjlaa", sum := "8b35d211488007e0ad1df4d103ca8f782b8deeca8a2c46864ab96eb3b28de257", func := "loop.example/lib-g03322/laws.FnApart", spec := "fnApart", unfollowed := true, recurses := true, apart := false }
def FnApartSaid : Prop := fnApartRow.holds Try.pinned (OpenSpec.ofChange fnApartSpec)

/-- ITS FALSE NEIGHBOUR: 'it returns false'. Refute it at one input. -/
def fnApartWrong : ChangeSpec := { name := "fnApart", fn := fun _ => fun
  | [d1, d2] => { results := [.lit (.bool false)], args := [d1, d2] }
  | _ => none }
def FnApartWrongFalsely : Prop := fnApartRow.holds Try.pinned (OpenSpec.ofChange fnApartWrong)

/-- 'laws.FnCuts': WHATEVER THE INPUT: true; the input reads as it did. -/
def fnCutsSpec : ChangeSpec := { name := "fnCuts", fn := fun _ => fun
  | [d1, d2] => { results := [.lit (.bool true)], args := [d1, d2] }
  | _ => none }
def fnCutsRow : OpenClaim := { program := "ytgdfbnedmifjlaa", sum := "8b35d211488007e0ad1df4d103ca8f782b8deeca8a2c46864ab96eb3b28de257", func := "loop.example/lib-g03322/laws.FnCuts", spec := "fnCuts", unfollowed := true, recurses := true, apart := false }
def FnCutsSaid : Prop := fnCutsRow.holds Try.pinned (OpenSpec.ofChange fnCutsSpec)

/-- ITS FALSE NEIGHBOUR: 'it returns false'. Refute it at one input. -/
def fnCutsWrong : ChangeSpec := { name := "fnCuts", fn := fun _ => fun
  | [d1, d2] => { results := [.lit (.bool false)], args := [d1, d2] }
  | _ => none }
def FnCutsWrongFalsely : Prop := fnCutsRow.holds Try.pinned (OpenSpec.ofChange fnCutsWrong)

/-- 'laws.FnBinaryBack': WHATEVER THE INPUT: true; the input reads as it did. -/
def fnBinaryBackSpec : ChangeSpec := { name := "fnBinaryBack", fn := fun _ => fun
  | [d] => { results := [.lit (.bool true)], args := [d] }
  | _ => none }
def fnBinaryBackRow : OpenClaim := { program := "ytgdfbnedmifjlaa", sum := "8b35d211488007e0ad1df4d103ca8f782b8deeca8a2c46864ab96eb3b28de257", func := "loop.example/lib-g03322/laws.FnBinaryBack", spec := "fnBinaryBack", unfollowed := true, recurses := true, apart := false }
def FnBinaryBackSaid : Prop := fnBinaryBackRow.holds Try.pinned (OpenSpec.ofChange fnBinaryBackSpec)

/-- ITS FALSE NEIGHBOUR: 'it returns false'. Refute it at one input. -/
def fnBinaryBackWrong : ChangeSpec := { name := "fnBinaryBack", fn := fun _ => fun
  | [d] => { results := [.lit (.bool false)], args := [d] }
  | _ => none }
def FnBinaryBackWrongFalsely : Prop := fnBinaryBackRow.holds Try.pinned (OpenSpec.ofChange fnBinaryBackWrong)

/-- 'laws.FnByte': WHATEVER THE INPUT: true; the input reads as it did. -/
def fnByteSpec : ChangeSpec := { name := "fnByte", fn := fun _ => fun
  | [d1, d2] => { results := [.lit (.bool true)], args := [d1, d2] }
  | _ => none }
def fnByteRow : OpenClaim := { program := "ytgdfbnedmifjlaa", sum := "8b35d211488007e0ad1df4d103ca8f782b8deeca8a2c46864ab96eb3b28de257", func := "loop.example/lib-g03322/laws.FnByte", spec := "fnByte", unfollowed := true, recurses := true, apart := false }
def FnByteSaid : Prop := fnByteRow.holds Try.pinned (OpenSpec.ofChange fnByteSpec)

/-- ITS FALSE NEIGHBOUR: 'it returns false'. Refute it at one input. -/
def fnByteWrong : ChangeSpec := { name := "fnByte", fn := fun _ => fun
  | [d1, d2] => { results := [.lit (.bool false)], args := [d1, d2] }
  | _ => none }
def FnByteWrongFalsely : Prop := fnByteRow.holds Try.pinned (OpenSpec.ofChange fnByteWrong)

/-- 'laws.FnLimits': WHATEVER THE INPUT: true; the input reads as it did. -/
def fnLimitsSpec : ChangeSpec := { name := "fnLimits", fn := fun _ => fun
  | [d1, d2, d3, d4] => { results := [.lit (.bool true)], args := [d1, d2, d3, d4] }
  | _ => none }
def fnLimitsRow : OpenClaim := { program := "ytgdfbnedmifjlaa", sum := "8b35d211488007e0ad1df4d103ca8f782b8deeca8a2c46864ab96eb3b28de257", func := "loop.example/lib-g03322/laws.FnLimits", spec := "fnLimits", unfollowed := true, recurses := true, apart := false }
def FnLimitsSaid : Prop := fnLimitsRow.holds Try.pinned (OpenSpec.ofChange fnLimitsSpec)

/-- ITS FALSE NEIGHBOUR: 'it returns false'. Refute it at one input. -/
def fnLimitsWrong : ChangeSpec := { name := "fnLimits", fn := fun _ => fun
  | [d1, d2, d3, d4] => { results := [.lit (.bool false)], args := [d1, d2, d3, d4] }
  | _ => none }
def FnLimitsWrongFalsely : Prop := fnLimitsRow.holds Try.pinned (OpenSpec.ofChange fnLimitsWrong)

/-- 'laws.FnCloseAgain': WHATEVER THE INPUT: true; the input reads as it did. -/
def fnCloseAgainSpec : ChangeSpec := { name := "fnCloseAgain", fn := fun _ => fun
  | [d1, d2] => { results := [.lit (.bool true)], args := [d1, d2] }
  | _ => none }
def fnCloseAgainRow : OpenClaim := { program := "ytgdfbnedmifjlaa", sum := "8b35d211488007e0ad1df4d103ca8f782b8deeca8a2c46864ab96eb3b28de257", func := "loop.example/lib-g03322/laws.FnCloseAgain", spec := "fnCloseAgain", unfollowed := true, recurses := true, apart := false }
def FnCloseAgainSaid : Prop := fnCloseAgainRow.holds Try.pinned (OpenSpec.ofChange fnCloseAgainSpec)

/-- ITS FALSE NEIGHBOUR: 'it returns false'. Refute it at one input. -/
def fnCloseAgainWrong : ChangeSpec := { name := "fnCloseAgain", fn := fun _ => fun
  | [d1, d2] => { results := [.lit (.bool false)], args := [d1, d2] }
  | _ => none }
def FnCloseAgainWrongFalsely : Prop := fnCloseAgainRow.holds Try.pinned (OpenSpec.ofChange fnCloseAgainWrong)

/-- 'laws.FnEncode': WHATEVER THE INPUT: true; the input reads as it did. -/
def fnEncodeSpec : ChangeSpec := { name := "fnEncode", fn := fun _ => fun
  | [d1, d2] => { results := [.lit (.bool true)], args := [d1, d2] }
  | _ => none }
def fnEncodeRow : OpenClaim := { program := "ytgdfbnedmifjlaa", sum := "8b35d211488007e0ad1df4d103ca8f782b8deeca8a2c46864ab96eb3b28de257", func := "loop.example/lib-g03322/laws.FnEncode", spec := "fnEncode", unfollowed := true, recurses := true, apart := false }
def FnEncodeSaid : Prop := fnEncodeRow.holds Try.pinned (OpenSpec.ofChange fnEncodeSpec)

/-- ITS FALSE NEIGHBOUR: 'it returns false'. Refute it at one input. -/
def fnEncodeWrong : ChangeSpec := { name := "fnEncode", fn := fun _ => fun
  | [d1, d2] => { results := [.lit (.bool false)], args := [d1, d2] }
  | _ => none }
def FnEncodeWrongFalsely : Prop := fnEncodeRow.holds Try.pinned (OpenSpec.ofChange fnEncodeWrong)

/-- 'laws.FnJoin': WHATEVER THE INPUT: true; the input reads as it did. -/
def fnJoinSpec : ChangeSpec := { name := "fnJoin", fn := fun _ => fun
  | [d1, d2] => { results := [.lit (.bool true)], args := [d1, d2] }
  | _ => none }
def fnJoinRow : OpenClaim := { program := "ytgdfbnedmifjlaa", sum := "8b35d211488007e0ad1df4d103ca8f782b8deeca8a2c46864ab96eb3b28de257", func := "loop.example/lib-g03322/laws.FnJoin", spec := "fnJoin", unfollowed := true, recurses := true, apart := false }
def FnJoinSaid : Prop := fnJoinRow.holds Try.pinned (OpenSpec.ofChange fnJoinSpec)

/-- ITS FALSE NEIGHBOUR: 'it returns false'. Refute it at one input. -/
def fnJoinWrong : ChangeSpec := { name := "fnJoin", fn := fun _ => fun
  | [d1, d2] => { results := [.lit (.bool false)], args := [d1, d2] }
  | _ => none }
def FnJoinWrongFalsely : Prop := fnJoinRow.holds Try.pinned (OpenSpec.ofChange fnJoinWrong)

/-- 'laws.FnLength': WHATEVER THE INPUT: true; the input reads as it did. -/
def fnLengthSpec : ChangeSpec := { name := "fnLength", fn := fun _ => fun
  | [d1, d2] => { results := [.lit (.bool true)], args := [d1, d2] }
  | _ => none }
def fnLengthRow : OpenClaim := { program := "ytgdfbnedmifjlaa", sum := "8b35d211488007e0ad1df4d103ca8f782b8deeca8a2c46864ab96eb3b28de257", func := "loop.example/lib-g03322/laws.FnLength", spec := "fnLength", unfollowed := true, recurses := true, apart := false }
def FnLengthSaid : Prop := fnLengthRow.holds Try.pinned (OpenSpec.ofChange fnLengthSpec)

/-- ITS FALSE NEIGHBOUR: 'it returns false'. Refute it at one input. -/
def fnLengthWrong : ChangeSpec := { name := "fnLength", fn := fun _ => fun
  | [d1, d2] => { results := [.lit (.bool false)], args := [d1, d2] }
  | _ => none }
def FnLengthWrongFalsely : Prop := fnLengthRow.holds Try.pinned (OpenSpec.ofChange fnLengthWrong)

/-- 'laws.FnLineLength': WHATEVER THE INPUT: true; the input reads as it did. -/
def fnLineLengthSpec : ChangeSpec := { name := "fnLineLength", fn := fun _ => fun
  | [d1, d2] => { results := [.lit (.bool true)], args := [d1, d2] }
  | _ => none }
def fnLineLengthRow : OpenClaim := { program := "ytgdfbnedmifjlaa", sum := "8b35d211488007e0ad1df4d103ca8f782b8deeca8a2c46864ab96eb3b28de257", func := "loop.example/lib-g03322/laws.FnLineLength", spec := "fnLineLength", unfollowed := true, recurses := true, apart := false }
def FnLineLengthSaid : Prop := fnLineLengthRow.holds Try.pinned (OpenSpec.ofChange fnLineLengthSpec)

/-- ITS FALSE NEIGHBOUR: 'it returns false'. Refute it at one input. -/
def fnLineLengthWrong : ChangeSpec := { name := "fnLineLength", fn := fun _ => fun
  | [d1, d2] => { results := [.lit (.bool false)], args := [d1, d2] }
  | _ => none }
def FnLineLengthWrongFalsely : Prop := fnLineLengthRow.holds Try.pinned (OpenSpec.ofChange fnLineLengthWrong)

/-- 'laws.FnLoneFeeds': WHATEVER THE INPUT: true; the input reads as it did. -/
def fnLoneFeedsSpec : ChangeSpec := { name := "fnLoneFeeds", fn := fun _ => fun
  | [d] => { results := [.lit (.bool true)], args := [d] }
  | _ => none }
def fnLoneFeedsRow : OpenClaim := { program := "ytgdfbnedmifjlaa", sum := "8b35d211488007e0ad1df4d103ca8f782b8deeca8a2c46864ab96eb3b28de257", func := "loop.example/lib-g03322/laws.FnLoneFeeds", spec := "fnLoneFeeds", unfollowed := true, recurses := true, apart := false }
def FnLoneFeedsSaid : Prop := fnLoneFeedsRow.holds Try.pinned (OpenSpec.ofChange fnLoneFeedsSpec)

/-- ITS FALSE NEIGHBOUR: 'it returns false'. Refute it at one input. -/
def fnLoneFeedsWrong : ChangeSpec := { name := "fnLoneFeeds", fn := fun _ => fun
  | [d] => { results := [.lit (.bool false)], args := [d] }
  | _ => none }
def FnLoneFeedsWrongFalsely : Prop := fnLoneFeedsRow.holds Try.pinned (OpenSpec.ofChange fnLoneFeedsWrong)

/-- 'laws.FnModes': WHATEVER THE INPUT: true; the input reads as it did. -/
def fnModesSpec : ChangeSpec := { name := "fnModes", fn := fun _ => fun
  | [d] => { results := [.lit (.bool true)], args := [d] }
  | _ => none }
def fnModesRow : OpenClaim := { program := "ytgdfbnedmifjlaa", sum := "8b35d211488007e0ad1df4d103ca8f782b8deeca8a2c46864ab96eb3b28de257", func := "loop.example/lib-g03322/laws.FnModes", spec := "fnModes", unfollowed := true, recurses := true, apart := false }
def FnModesSaid : Prop := fnModesRow.holds Try.pinned (OpenSpec.ofChange fnModesSpec)

/-- ITS FALSE NEIGHBOUR: 'it returns false'. Refute it at one input. -/
def fnModesWrong : ChangeSpec := { name := "fnModes", fn := fun _ => fun
  | [d] => { results := [.lit (.bool false)], args := [d] }
  | _ => none }
def FnModesWrongFalsely : Prop := fnModesRow.holds Try.pinned (OpenSpec.ofChange fnModesWrong)

/-- 'laws.FnRepeated': WHATEVER THE INPUT: true; the input reads as it did. -/
def fnRepeatedSpec : ChangeSpec := { name := "fnRepeated", fn := fun _ => fun
  | [d1, d2] => { results := [.lit (.bool true)], args := [d1, d2] }
  | _ => none }
def fnRepeatedRow : OpenClaim := { program := "ytgdfbnedmifjlaa", sum := "8b35d211488007e0ad1df4d103ca8f782b8deeca8a2c46864ab96eb3b28de257", func := "loop.example/lib-g03322/laws.FnRepeated", spec := "fnRepeated", unfollowed := true, recurses := true, apart := false }
def FnRepeatedSaid : Prop := fnRepeatedRow.holds Try.pinned (OpenSpec.ofChange fnRepeatedSpec)

/-- ITS FALSE NEIGHBOUR: 'it returns false'. Refute it at one input. -/
def fnRepeatedWrong : ChangeSpec := { name := "fnRepeated", fn := fun _ => fun
  | [d1, d2] => { results := [.lit (.bool false)], args := [d1, d2] }
  | _ => none }
def FnRepeatedWrongFalsely : Prop := fnRepeatedRow.holds Try.pinned (OpenSpec.ofChange fnRepeatedWrong)

/-- 'laws.FnRight': WHATEVER THE INPUT: true; the input reads as it did. -/
def fnRightSpec : ChangeSpec := { name := "fnRight", fn := fun _ => fun
  | [d1, d2] => { results := [.lit (.bool true)], args := [d1, d2] }
  | _ => none }
def fnRightRow : OpenClaim := { program := "ytgdfbnedmifjlaa", sum := "8b35d211488007e0ad1df4d103ca8f782b8deeca8a2c46864ab96eb3b28de257", func := "loop.example/lib-g03322/laws.FnRight", spec := "fnRight", unfollowed := true, recurses := true, apart := false }
def FnRightSaid : Prop := fnRightRow.holds Try.pinned (OpenSpec.ofChange fnRightSpec)

/-- ITS FALSE NEIGHBOUR: 'it returns false'. Refute it at one input. -/
def fnRightWrong : ChangeSpec := { name := "fnRight", fn := fun _ => fun
  | [d1, d2] => { results := [.lit (.bool false)], args := [d1, d2] }
  | _ => none }
def FnRightWrongFalsely : Prop := fnRightRow.holds Try.pinned (OpenSpec.ofChange fnRightWrong)

/-- 'laws.FnShort': WHATEVER THE INPUT: true; the input reads as it did. -/
def fnShortSpec : ChangeSpec := { name := "fnShort", fn := fun _ => fun
  | [d1, d2] => { results := [.lit (.bool true)], args := [d1, d2] }
  | _ => none }
def fnShortRow : OpenClaim := { program := "ytgdfbnedmifjlaa", sum := "8b35d211488007e0ad1df4d103ca8f782b8deeca8a2c46864ab96eb3b28de257", func := "loop.example/lib-g03322/laws.FnShort", spec := "fnShort", unfollowed := true, recurses := true, apart := false }
def FnShortSaid : Prop := fnShortRow.holds Try.pinned (OpenSpec.ofChange fnShortSpec)

/-- ITS FALSE NEIGHBOUR: 'it returns false'. Refute it at one input. -/
def fnShortWrong : ChangeSpec := { name := "fnShort", fn := fun _ => fun
  | [d1, d2] => { results := [.lit (.bool false)], args := [d1, d2] }
  | _ => none }
def FnShortWrongFalsely : Prop := fnShortRow.holds Try.pinned (OpenSpec.ofChange fnShortWrong)

/-- 'laws.FnSoftFull': WHATEVER THE INPUT: true; the input reads as it did. -/
def fnSoftFullSpec : ChangeSpec := { name := "fnSoftFull", fn := fun _ => fun
  | [d1, d2] => { results := [.lit (.bool true)], args := [d1, d2] }
  | _ => none }
def fnSoftFullRow : OpenClaim := { program := "ytgdfbnedmifjlaa", sum := "8b35d211488007e0ad1df4d103ca8f782b8deeca8a2c46864ab96eb3b28de257", func := "loop.example/lib-g03322/laws.FnSoftFull", spec := "fnSoftFull", unfollowed := true, recurses := true, apart := false }
def FnSoftFullSaid : Prop := fnSoftFullRow.holds Try.pinned (OpenSpec.ofChange fnSoftFullSpec)

/-- ITS FALSE NEIGHBOUR: 'it returns false'. Refute it at one input. -/
def fnSoftFullWrong : ChangeSpec := { name := "fnSoftFull", fn := fun _ => fun
  | [d1, d2] => { results := [.lit (.bool false)], args := [d1, d2] }
  | _ => none }
def FnSoftFullWrongFalsely : Prop := fnSoftFullRow.holds Try.pinned (OpenSpec.ofChange fnSoftFullWrong)

/-- 'laws.FnTextBack': WHATEVER THE INPUT: true; the input reads as it did. -/
def fnTextBackSpec : ChangeSpec := { name := "fnTextBack", fn := fun _ => fun
  | [d] => { results := [.lit (.bool true)], args := [d] }
  | _ => none }
def fnTextBackRow : OpenClaim := { program := "ytgdfbnedmifjlaa", sum := "8b35d211488007e0ad1df4d103ca8f782b8deeca8a2c46864ab96eb3b28de257", func := "loop.example/lib-g03322/laws.FnTextBack", spec := "fnTextBack", unfollowed := true, recurses := true, apart := false }
def FnTextBackSaid : Prop := fnTextBackRow.holds Try.pinned (OpenSpec.ofChange fnTextBackSpec)

/-- ITS FALSE NEIGHBOUR: 'it returns false'. Refute it at one input. -/
def fnTextBackWrong : ChangeSpec := { name := "fnTextBack", fn := fun _ => fun
  | [d] => { results := [.lit (.bool false)], args := [d] }
  | _ => none }
def FnTextBackWrongFalsely : Prop := fnTextBackRow.holds Try.pinned (OpenSpec.ofChange fnTextBackWrong)

/-- 'laws.FnTextTwice': WHATEVER THE INPUT: true; the input reads as it did. -/
def fnTextTwiceSpec : ChangeSpec := { name := "fnTextTwice", fn := fun _ => fun
  | [d] => { results := [.lit (.bool true)], args := [d] }
  | _ => none }
def fnTextTwiceRow : OpenClaim := { program := "ytgdfbnedmifjlaa", sum := "8b35d211488007e0ad1df4d103ca8f782b8deeca8a2c46864ab96eb3b28de257", func := "loop.example/lib-g03322/laws.FnTextTwice", spec := "fnTextTwice", unfollowed := true, recurses := true, apart := false }
def FnTextTwiceSaid : Prop := fnTextTwiceRow.holds Try.pinned (OpenSpec.ofChange fnTextTwiceSpec)

/-- ITS FALSE NEIGHBOUR: 'it returns false'. Refute it at one input. -/
def fnTextTwiceWrong : ChangeSpec := { name := "fnTextTwice", fn := fun _ => fun
  | [d] => { results := [.lit (.bool false)], args := [d] }
  | _ => none }
def FnTextTwiceWrongFalsely : Prop := fnTextTwiceRow.holds Try.pinned (OpenSpec.ofChange fnTextTwiceWrong)

/-- 'laws.FnTwice': WHATEVER THE INPUT: true; the input reads as it did. -/
def fnTwiceSpec : ChangeSpec := { name := "fnTwice", fn := fun _ => fun
  | [d] => { results := [.lit (.bool true)], args := [d] }
  | _ => none }
def fnTwiceRow : OpenClaim := { program := "ytgdfbnedmifjlaa", sum := "8b35d211488007e0ad1df4d103ca8f782b8deeca8a2c46864ab96eb3b28de257", func := "loop.example/lib-g03322/laws.FnTwice", spec := "fnTwice", unfollowed := true, recurses := true, apart := false }
def FnTwiceSaid : Prop := fnTwiceRow.holds Try.pinned (OpenSpec.ofChange fnTwiceSpec)

/-- ITS FALSE NEIGHBOUR: 'it returns false'. Refute it at one input. -/
def fnTwiceWrong : ChangeSpec := { name := "fnTwice", fn := fun _ => fun
  | [d] => { results := [.lit (.bool false)], args := [d] }
  | _ => none }
def FnTwiceWrongFalsely : Prop := fnTwiceRow.holds Try.pinned (OpenSpec.ofChange fnTwiceWrong)

/-- 'laws.FnUnfolded': WHATEVER THE INPUT: true; the input reads as it did. -/
def fnUnfoldedSpec : ChangeSpec := { name := "fnUnfolded", fn := fun _ => fun
  | [d1, d2] => { results := [.lit (.bool true)], args := [d1, d2] }
  | _ => none }
def fnUnfoldedRow : OpenClaim := { program := "ytgdfbnedmifjlaa", sum := "8b35d211488007e0ad1df4d103ca8f782b8deeca8a2c46864ab96eb3b28de257", func := "loop.example/lib-g03322/laws.FnUnfolded", spec := "fnUnfolded", unfollowed := true, recurses := true, apart := false }
def FnUnfoldedSaid : Prop := fnUnfoldedRow.holds Try.pinned (OpenSpec.ofChange fnUnfoldedSpec)

/-- ITS FALSE NEIGHBOUR: 'it returns false'. Refute it at one input. -/
def fnUnfoldedWrong : ChangeSpec := { name := "fnUnfolded", fn := fun _ => fun
  | [d1, d2] => { results := [.lit (.bool false)], args := [d1, d2] }
  | _ => none }
def FnUnfoldedWrongFalsely : Prop := fnUnfoldedRow.holds Try.pinned (OpenSpec.ofChange fnUnfoldedWrong)

/-- 'laws.FnEncodeParts': WHATEVER THE INPUT: true; the input reads as it did. -/
def fnEncodePartsSpec : ChangeSpec := { name := "fnEncodeParts", fn := fun _ => fun
  | [d1, d2] => { results := [.lit (.bool true)], args := [d1, d2] }
  | _ => none }
def fnEncodePartsRow : OpenClaim := { program := "ytgdfbnedmifjlaa", sum := "8b35d211488007e0ad1df4d103ca8f782b8deeca8a2c46864ab96eb3b28de257", func := "loop.example/lib-g03322/laws.FnEncodeParts", spec := "fnEncodeParts", unfollowed := true, recurses := true, apart := false }
def FnEncodePartsSaid : Prop := fnEncodePartsRow.holds Try.pinned (OpenSpec.ofChange fnEncodePartsSpec)

/-- ITS FALSE NEIGHBOUR: 'it returns false'. Refute it at one input. -/
def fnEncodePartsWrong : ChangeSpec := { name := "fnEncodeParts", fn := fun _ => fun
  | [d1, d2] => { results := [.lit (.bool false)], args := [d1, d2] }
  | _ => none }
def FnEncodePartsWrongFalsely : Prop := fnEncodePartsRow.holds Try.pinned (OpenSpec.ofChange fnEncodePartsWrong)

/- THE SECOND FORM. 'bulk': how many values and letters a reading holds, each counted each time it is reached (what is shared counts as often as it is met; a slice's spare places count too). A statement '..UptoSaid' is the law's where the arguments, and the package variables that the reading takes, are together of bulk at most 1048576: NARROWER than '..Said'. Prove '..Said' where nothing that the law and all that it calls make is longer than what came in: it says more and counts as full. Else prove '..UptoSaid'. A law counts once. -/
mutual
def uptoBulk {H : Type} : DataW H → Nat
  | .lit (.string bytes) => bytes.length + 1
  | .lit _ => 1
  | .nil => 1
  | .ptr d => uptoBulk d + 1
  | .slice elems spare => uptoBulkAll elems + uptoBulkAll spare + 1
  | .agg parts => uptoBulkAll parts + 1
  | .iface _ d => uptoBulk d + 1
  | .map entries => uptoBulkEntries entries + 1
  | .held _ => 1
def uptoBulkAll {H : Type} : List (DataW H) → Nat
  | [] => 0
  | d :: r => uptoBulk d + uptoBulkAll r
def uptoBulkEntries {H : Type} : List (Lit × DataW H) → Nat
  | [] => 0
  | x :: r => uptoBulkEntry x + uptoBulkEntries r
def uptoBulkEntry {H : Type} : Lit × DataW H → Nat
  | (.string bytes, d) => bytes.length + uptoBulk d + 1
  | (_, d) => uptoBulk d + 1
 end
def uptoSmall : (H : Type) → List (DataW H) → Bool := fun _ ds => decide (uptoBulkAll ds ≤ 1048576)
def OpenSpec.upto (s : _root_.Go.ChangeSpec) : _root_.Go.OpenSpec := { _root_.Go.OpenSpec.ofChange s with cond := some uptoSmall }

/-- 'laws.FnCounts', WHERE WHAT IT READS IS OF BULK AT MOST 1048576: true; the input reads as it did. -/
def fnCountsUptoRow : OpenClaim := { program := "ytgdfbnedmifjlaa", sum := "8b35d211488007e0ad1df4d103ca8f782b8deeca8a2c46864ab96eb3b28de257", func := "loop.example/lib-g03322/laws.FnCounts", spec := "fnCounts", unfollowed := true, recurses := true, apart := false, narrowed := true }
def FnCountsUptoSaid : Prop := fnCountsUptoRow.holds Try.pinned (OpenSpec.upto fnCountsSpec)

/-- 'laws.FnHave', WHERE WHAT IT READS IS OF BULK AT MOST 1048576: true; the input reads as it did. -/
def fnHaveUptoRow : OpenClaim := { program := "ytgdfbnedmifjlaa", sum := "8b35d211488007e0ad1df4d103ca8f782b8deeca8a2c46864ab96eb3b28de257", func := "loop.example/lib-g03322/laws.FnHave", spec := "fnHave", unfollowed := true, recurses := true, apart := false, narrowed := true }
def FnHaveUptoSaid : Prop := fnHaveUptoRow.holds Try.pinned (OpenSpec.upto fnHaveSpec)

/-- 'laws.FnNothing', WHERE WHAT IT READS IS OF BULK AT MOST 1048576: true; the input reads as it did. -/
def fnNothingUptoRow : OpenClaim := { program := "ytgdfbnedmifjlaa", sum := "8b35d211488007e0ad1df4d103ca8f782b8deeca8a2c46864ab96eb3b28de257", func := "loop.example/lib-g03322/laws.FnNothing", spec := "fnNothing", unfollowed := true, recurses := true, apart := false, narrowed := true }
def FnNothingUptoSaid : Prop := fnNothingUptoRow.holds Try.pinned (OpenSpec.upto fnNothingSpec)

/-- 'laws.FnRun', WHERE WHAT IT READS IS OF BULK AT MOST 1048576: true; the input reads as it did. -/
def fnRunUptoRow : OpenClaim := { program := "ytgdfbnedmifjlaa", sum := "8b35d211488007e0ad1df4d103ca8f782b8deeca8a2c46864ab96eb3b28de257", func := "loop.example/lib-g03322/laws.FnRun", spec := "fnRun", unfollowed := true, recurses := true, apart := false, narrowed := true }
def FnRunUptoSaid : Prop := fnRunUptoRow.holds Try.pinned (OpenSpec.upto fnRunSpec)

/-- 'laws.FnLimited', WHERE WHAT IT READS IS OF BULK AT MOST 1048576: true; the input reads as it did. -/
def fnLimitedUptoRow : OpenClaim := { program := "ytgdfbnedmifjlaa", sum := "8b35d211488007e0ad1df4d103ca8f782b8deeca8a2c46864ab96eb3b28de257", func := "loop.example/lib-g03322/laws.FnLimited", spec := "fnLimited", unfollowed := true, recurses := true, apart := false, narrowed := true }
def FnLimitedUptoSaid : Prop := fnLimitedUptoRow.holds Try.pinned (OpenSpec.upto fnLimitedSpec)

/-- 'laws.FnApart', WHERE WHAT IT READS IS OF BULK AT MOST 1048576: true; the input reads as it did. -/
def fnApartUptoRow : OpenClaim := { program := "ytgdfbnedmifjlaa", sum := "8b35d211488007e0ad1df4d103ca8f782b8deeca8a2c46864ab96eb3b28de257", func := "loop.example/lib-g03322/laws.FnApart", spec := "fnApart", unfollowed := true, recurses := true, apart := false, narrowed := true }
def FnApartUptoSaid : Prop := fnApartUptoRow.holds Try.pinned (OpenSpec.upto fnApartSpec)

/-- 'laws.FnCuts', WHERE WHAT IT READS IS OF BULK AT MOST 1048576: true; the input reads as it did. -/
def fnCutsUptoRow : OpenClaim := { program := "ytgdfbnedmifjlaa", sum := "8b35d211488007e0ad1df4d103ca8f782b8deeca8a2c46864ab96eb3b28de257", func := "loop.example/lib-g03322/laws.FnCuts", spec := "fnCuts", unfollowed := true, recurses := true, apart := false, narrowed := true }
def FnCutsUptoSaid : Prop := fnCutsUptoRow.holds Try.pinned (OpenSpec.upto fnCutsSpec)

/-- 'laws.FnBinaryBack', WHERE WHAT IT READS IS OF BULK AT MOST 1048576: true; the input reads as it did. -/
def fnBinaryBackUptoRow : OpenClaim := { program := "ytgdfbnedmifjlaa", sum := "8b35d211488007e0ad1df4d103ca8f782b8deeca8a2c46864ab96eb3b28de257", func := "loop.example/lib-g03322/laws.FnBinaryBack", spec := "fnBinaryBack", unfollowed := true, recurses := true, apart := false, narrowed := true }
def FnBinaryBackUptoSaid : Prop := fnBinaryBackUptoRow.holds Try.pinned (OpenSpec.upto fnBinaryBackSpec)

/-- 'laws.FnByte', WHERE WHAT IT READS IS OF BULK AT MOST 1048576: true; the input reads as it did. -/
def fnByteUptoRow : OpenClaim := { program := "ytgdfbnedmifjlaa", sum := "8b35d211488007e0ad1df4d103ca8f782b8deeca8a2c46864ab96eb3b28de257", func := "loop.example/lib-g03322/laws.FnByte", spec := "fnByte", unfollowed := true, recurses := true, apart := false, narrowed := true }
def FnByteUptoSaid : Prop := fnByteUptoRow.holds Try.pinned (OpenSpec.upto fnByteSpec)

/-- 'laws.FnLimits', WHERE WHAT IT READS IS OF BULK AT MOST 1048576: true; the input reads as it did. -/
def fnLimitsUptoRow : OpenClaim := { program := "ytgdfbnedmifjlaa", sum := "8b35d211488007e0ad1df4d103ca8f782b8deeca8a2c46864ab96eb3b28de257", func := "loop.example/lib-g03322/laws.FnLimits", spec := "fnLimits", unfollowed := true, recurses := true, apart := false, narrowed := true }
def FnLimitsUptoSaid : Prop := fnLimitsUptoRow.holds Try.pinned (OpenSpec.upto fnLimitsSpec)

/-- 'laws.FnCloseAgain', WHERE WHAT IT READS IS OF BULK AT MOST 1048576: true; the input reads as it did. -/
def fnCloseAgainUptoRow : OpenClaim := { program := "ytgdfbnedmifjlaa", sum := "8b35d211488007e0ad1df4d103ca8f782b8deeca8a2c46864ab96eb3b28de257", func := "loop.example/lib-g03322/laws.FnCloseAgain", spec := "fnCloseAgain", unfollowed := true, recurses := true, apart := false, narrowed := true }
def FnCloseAgainUptoSaid : Prop := fnCloseAgainUptoRow.holds Try.pinned (OpenSpec.upto fnCloseAgainSpec)

/-- 'laws.FnEncode', WHERE WHAT IT READS IS OF BULK AT MOST 1048576: true; the input reads as it did. -/
def fnEncodeUptoRow : OpenClaim := { program := "ytgdfbnedmifjlaa", sum := "8b35d211488007e0ad1df4d103ca8f782b8deeca8a2c46864ab96eb3b28de257", func := "loop.example/lib-g03322/laws.FnEncode", spec := "fnEncode", unfollowed := true, recurses := true, apart := false, narrowed := true }
def FnEncodeUptoSaid : Prop := fnEncodeUptoRow.holds Try.pinned (OpenSpec.upto fnEncodeSpec)

/-- 'laws.FnJoin', WHERE WHAT IT READS IS OF BULK AT MOST 1048576: true; the input reads as it did. -/
def fnJoinUptoRow : OpenClaim := { program := "ytgdfbnedmifjlaa", sum := "8b35d211488007e0ad1df4d103ca8f782b8deeca8a2c46864ab96eb3b28de257", func := "loop.example/lib-g03322/laws.FnJoin", spec := "fnJoin", unfollowed := true, recurses := true, apart := false, narrowed := true }
def FnJoinUptoSaid : Prop := fnJoinUptoRow.holds Try.pinned (OpenSpec.upto fnJoinSpec)

/-- 'laws.FnLength', WHERE WHAT IT READS IS OF BULK AT MOST 1048576: true; the input reads as it did. -/
def fnLengthUptoRow : OpenClaim := { program := "ytgdfbnedmifjlaa", sum := "8b35d211488007e0ad1df4d103ca8f782b8deeca8a2c46864ab96eb3b28de257", func := "loop.example/lib-g03322/laws.FnLength", spec := "fnLength", unfollowed := true, recurses := true, apart := false, narrowed := true }
def FnLengthUptoSaid : Prop := fnLengthUptoRow.holds Try.pinned (OpenSpec.upto fnLengthSpec)

/-- 'laws.FnLineLength', WHERE WHAT IT READS IS OF BULK AT MOST 1048576: true; the input reads as it did. -/
def fnLineLengthUptoRow : OpenClaim := { program := "ytgdfbnedmifjlaa", sum := "8b35d211488007e0ad1df4d103ca8f782b8deeca8a2c46864ab96eb3b28de257", func := "loop.example/lib-g03322/laws.FnLineLength", spec := "fnLineLength", unfollowed := true, recurses := true, apart := false, narrowed := true }
def FnLineLengthUptoSaid : Prop := fnLineLengthUptoRow.holds Try.pinned (OpenSpec.upto fnLineLengthSpec)

/-- 'laws.FnLoneFeeds', WHERE WHAT IT READS IS OF BULK AT MOST 1048576: true; the input reads as it did. -/
def fnLoneFeedsUptoRow : OpenClaim := { program := "ytgdfbnedmifjlaa", sum := "8b35d211488007e0ad1df4d103ca8f782b8deeca8a2c46864ab96eb3b28de257", func := "loop.example/lib-g03322/laws.FnLoneFeeds", spec := "fnLoneFeeds", unfollowed := true, recurses := true, apart := false, narrowed := true }
def FnLoneFeedsUptoSaid : Prop := fnLoneFeedsUptoRow.holds Try.pinned (OpenSpec.upto fnLoneFeedsSpec)

/-- 'laws.FnModes', WHERE WHAT IT READS IS OF BULK AT MOST 1048576: true; the input reads as it did. -/
def fnModesUptoRow : OpenClaim := { program := "ytgdfbnedmifjlaa", sum := "8b35d211488007e0ad1df4d103ca8f782b8deeca8a2c46864ab96eb3b28de257", func := "loop.example/lib-g03322/laws.FnModes", spec := "fnModes", unfollowed := true, recurses := true, apart := false, narrowed := true }
def FnModesUptoSaid : Prop := fnModesUptoRow.holds Try.pinned (OpenSpec.upto fnModesSpec)

/-- 'laws.FnRepeated', WHERE WHAT IT READS IS OF BULK AT MOST 1048576: true; the input reads as it did. -/
def fnRepeatedUptoRow : OpenClaim := { program := "ytgdfbnedmifjlaa", sum := "8b35d211488007e0ad1df4d103ca8f782b8deeca8a2c46864ab96eb3b28de257", func := "loop.example/lib-g03322/laws.FnRepeated", spec := "fnRepeated", unfollowed := true, recurses := true, apart := false, narrowed := true }
def FnRepeatedUptoSaid : Prop := fnRepeatedUptoRow.holds Try.pinned (OpenSpec.upto fnRepeatedSpec)

/-- 'laws.FnRight', WHERE WHAT IT READS IS OF BULK AT MOST 1048576: true; the input reads as it did. -/
def fnRightUptoRow : OpenClaim := { program := "ytgdfbnedmifjlaa", sum := "8b35d211488007e0ad1df4d103ca8f782b8deeca8a2c46864ab96eb3b28de257", func := "loop.example/lib-g03322/laws.FnRight", spec := "fnRight", unfollowed := true, recurses := true, apart := false, narrowed := true }
def FnRightUptoSaid : Prop := fnRightUptoRow.holds Try.pinned (OpenSpec.upto fnRightSpec)

/-- 'laws.FnShort', WHERE WHAT IT READS IS OF BULK AT MOST 1048576: true; the input reads as it did. -/
def fnShortUptoRow : OpenClaim := { program := "ytgdfbnedmifjlaa", sum := "8b35d211488007e0ad1df4d103ca8f782b8deeca8a2c46864ab96eb3b28de257", func := "loop.example/lib-g03322/laws.FnShort", spec := "fnShort", unfollowed := true, recurses := true, apart := false, narrowed := true }
def FnShortUptoSaid : Prop := fnShortUptoRow.holds Try.pinned (OpenSpec.upto fnShortSpec)

/-- 'laws.FnSoftFull', WHERE WHAT IT READS IS OF BULK AT MOST 1048576: true; the input reads as it did. -/
def fnSoftFullUptoRow : OpenClaim := { program := "ytgdfbnedmifjlaa", sum := "8b35d211488007e0ad1df4d103ca8f782b8deeca8a2c46864ab96eb3b28de257", func := "loop.example/lib-g03322/laws.FnSoftFull", spec := "fnSoftFull", unfollowed := true, recurses := true, apart := false, narrowed := true }
def FnSoftFullUptoSaid : Prop := fnSoftFullUptoRow.holds Try.pinned (OpenSpec.upto fnSoftFullSpec)

/-- 'laws.FnTextBack', WHERE WHAT IT READS IS OF BULK AT MOST 1048576: true; the input reads as it did. -/
def fnTextBackUptoRow : OpenClaim := { program := "ytgdfbnedmifjlaa", sum := "8b35d211488007e0ad1df4d103ca8f782b8deeca8a2c46864ab96eb3b28de257", func := "loop.example/lib-g03322/laws.FnTextBack", spec := "fnTextBack", unfollowed := true, recurses := true, apart := false, narrowed := true }
def FnTextBackUptoSaid : Prop := fnTextBackUptoRow.holds Try.pinned (OpenSpec.upto fnTextBackSpec)

/-- 'laws.FnTextTwice', WHERE WHAT IT READS IS OF BULK AT MOST 1048576: true; the input reads as it did. -/
def fnTextTwiceUptoRow : OpenClaim := { program := "ytgdfbnedmifjlaa", sum := "8b35d211488007e0ad1df4d103ca8f782b8deeca8a2c46864ab96eb3b28de257", func := "loop.example/lib-g03322/laws.FnTextTwice", spec := "fnTextTwice", unfollowed := true, recurses := true, apart := false, narrowed := true }
def FnTextTwiceUptoSaid : Prop := fnTextTwiceUptoRow.holds Try.pinned (OpenSpec.upto fnTextTwiceSpec)

/-- 'laws.FnTwice', WHERE WHAT IT READS IS OF BULK AT MOST 1048576: true; the input reads as it did. -/
def fnTwiceUptoRow : OpenClaim := { program := "ytgdfbnedmifjlaa", sum := "8b35d211488007e0ad1df4d103ca8f782b8deeca8a2c46864ab96eb3b28de257", func := "loop.example/lib-g03322/laws.FnTwice", spec := "fnTwice", unfollowed := true, recurses := true, apart := false, narrowed := true }
def FnTwiceUptoSaid : Prop := fnTwiceUptoRow.holds Try.pinned (OpenSpec.upto fnTwiceSpec)

/-- 'laws.FnUnfolded', WHERE WHAT IT READS IS OF BULK AT MOST 1048576: true; the input reads as it did. -/
def fnUnfoldedUptoRow : OpenClaim := { program := "ytgdfbnedmifjlaa", sum := "8b35d211488007e0ad1df4d103ca8f782b8deeca8a2c46864ab96eb3b28de257", func := "loop.example/lib-g03322/laws.FnUnfolded", spec := "fnUnfolded", unfollowed := true, recurses := true, apart := false, narrowed := true }
def FnUnfoldedUptoSaid : Prop := fnUnfoldedUptoRow.holds Try.pinned (OpenSpec.upto fnUnfoldedSpec)

/-- 'laws.FnEncodeParts', WHERE WHAT IT READS IS OF BULK AT MOST 1048576: true; the input reads as it did. -/
def fnEncodePartsUptoRow : OpenClaim := { program := "ytgdfbnedmifjlaa", sum := "8b35d211488007e0ad1df4d103ca8f782b8deeca8a2c46864ab96eb3b28de257", func := "loop.example/lib-g03322/laws.FnEncodeParts", spec := "fnEncodeParts", unfollowed := true, recurses := true, apart := false, narrowed := true }
def FnEncodePartsUptoSaid : Prop := fnEncodePartsUptoRow.holds Try.pinned (OpenSpec.upto fnEncodePartsSpec)

end Rows
end Go.Proofs.Ytgdfbnedmifjlaa
