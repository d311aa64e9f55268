/-
  NARROWER THAN 'FOR EVERY INPUT', by the rows' own cells (each row's printed sentence says how): FnParseChallengesRoundTrip: laid · FnParseChallengesConcat: laid · FnParseChallengesShape: laid · FnFindAfterParse: laid.
  DERIVED. THE GIVEN ROWS OF THIS SEAT. 4 by the template 'for every input the law returns true; each argument reads behind the call as it read before'; 0 by the template 'total and deterministic' (their statements: Qxb6000614aDoorTotals.lean).
  GIVEN WITH THE SEED: the statements are not yours to turn. If you find one false, say at which input.
  Laid BY PROGRAM, IN A SANDBOX (cutbox-rows.mjs): the forced cells as the released guide's own fill.sh prints them over the translation 8b4f227a58463af4… (all of the seat's roots in one cut). By AI agents, Wed Nov 11 2026. No macro, syntax, notation, axiom, sorry.
-/
import Derived.Test.Qxb6000614aDoorChecked
import GoSem.PinnedTables
import GoSem.Claim
import GoSem.ClaimJoined
import GoSem.ClaimMapViews
import Derived.JoinedTies
import Derived.KernelRfl
namespace Go.Proofs.Qxb6000614aDoor
/- THE CELL 'sum', in the pinned program and in every row, IS THE sha256 OF THE DUMP (.gsa) THAT Qxb6000614aDoorProg.lean LOADS. Nothing in Lean hashes anything: it is a label: what it is worth is what the hold of that sum in a sandbox is worth. -/
noncomputable def Tryd.pinned : Pinned := { name := "qxb6000614adoor", sum := "8b4f227a58463af4e43385b194d410fbf1ed72e72d8c180178d9c8dd582b08a3", checked := Tryd.checked }
namespace Rows
def none {H : Type} : Left H := { results := [], args := [] }

/- WHAT THE LISTED PACKAGE-LEVEL VARIABLES READ AS WHEN THE CALL BEGINS. Each datum BY PROGRAM (the guide's laid-datum.mjs) off the statement by which the dump's own 'gosem.cut.vars' lays the variable. In a bare row this is a premise. The card (Qxb6000614aDoorCards.lean) ties it to the program's text. -/
def laid_unicode_utf8_acceptRanges {H : Type} : DataW H := .agg [.agg [.lit (.int .u8 128), .lit (.int .u8 191)], .agg [.lit (.int .u8 160), .lit (.int .u8 191)], .agg [.lit (.int .u8 128), .lit (.int .u8 159)], .agg [.lit (.int .u8 144), .lit (.int .u8 191)], .agg [.lit (.int .u8 128), .lit (.int .u8 143)], .agg [.lit (.int .u8 0), .lit (.int .u8 0)], .agg [.lit (.int .u8 0), .lit (.int .u8 0)], .agg [.lit (.int .u8 0), .lit (.int .u8 0)], .agg [.lit (.int .u8 0), .lit (.int .u8 0)], .agg [.lit (.int .u8 0), .lit (.int .u8 0)], .agg [.lit (.int .u8 0), .lit (.int .u8 0)], .agg [.lit (.int .u8 0), .lit (.int .u8 0)], .agg [.lit (.int .u8 0), .lit (.int .u8 0)], .agg [.lit (.int .u8 0), .lit (.int .u8 0)], .agg [.lit (.int .u8 0), .lit (.int .u8 0)], .agg [.lit (.int .u8 0), .lit (.int .u8 0)]]
/-- One of Go's own tables, pinned by name: the form's constant. -/
def laid_unicode_CaseRanges : DataW Unit := Go.Pinned.caseRanges
/-- One of Go's own tables, pinned by name: the form's constant. -/
def laid_unicode_utf8_first : DataW Unit := Go.Pinned.utf8First

/-- 'zzlaws_internal_registry_b1.FnParseChallengesRoundTrip': WHATEVER THE INPUT: true; the input reads as it did. -/
def fnParseChallengesRoundTripSpec : ChangeSpec := { name := "fnParseChallengesRoundTrip", fn := fun _ => fun
  | [d1, d2, d3, d4, d5, d6] => { results := [.lit (.bool true)], args := [d1, d2, d3, d4, d5, d6] }
  | _ => none }
def fnParseChallengesRoundTripRow : OpenClaim := { program := "qxb6000614adoor", sum := "8b4f227a58463af4e43385b194d410fbf1ed72e72d8c180178d9c8dd582b08a3", func := "example.com/ribband/ribband/zzlaws_internal_registry_b1.FnParseChallengesRoundTrip", spec := "fnParseChallengesRoundTrip", inPlace := ["internal/bytealg.IndexByteString", "internal/abi.NoEscape", "internal/bytealg.MakeNoZero"], unfollowed := true, recurses := true, named := ["unicode/utf8.first", "unicode/utf8.acceptRanges", "unicode.CaseRanges"], apart := false, laid := [("unicode/utf8.acceptRanges", laid_unicode_utf8_acceptRanges), ("unicode.CaseRanges", laid_unicode_CaseRanges), ("unicode/utf8.first", laid_unicode_utf8_first)] }
def FnParseChallengesRoundTripSaid : Prop := fnParseChallengesRoundTripRow.holds Tryd.pinned (OpenSpec.ofChange fnParseChallengesRoundTripSpec)

/-- ITS FALSE NEIGHBOUR: 'it returns false'. Refute it at one input. -/
def fnParseChallengesRoundTripWrong : ChangeSpec := { name := "fnParseChallengesRoundTrip", fn := fun _ => fun
  | [d1, d2, d3, d4, d5, d6] => { results := [.lit (.bool false)], args := [d1, d2, d3, d4, d5, d6] }
  | _ => none }
def FnParseChallengesRoundTripWrongFalsely : Prop := fnParseChallengesRoundTripRow.holds Tryd.pinned (OpenSpec.ofChange fnParseChallengesRoundTripWrong)

/-- 'zzlaws_internal_registry_b1.FnParseChallengesConcat': WHATEVER THE INPUT: true; the input reads as it did. -/
def fnParseChallengesConcatSpec : ChangeSpec := { name := "fnParseChallengesConcat", fn := fun _ => fun
  | [d1, d2, d3] => { results := [.lit (.bool true)], args := [d1, d2, d3] }
  | _ => none }
def fnParseChallengesConcatRow : OpenClaim := { program := "qxb6000614adoor", sum := "8b4f227a58463af4e43385b194d410fbf1ed72e72d8c180178d9c8dd582b08a3", func := "example.com/ribband/ribband/zzlaws_internal_registry_b1.FnParseChallengesConcat", spec := "fnParseChallengesConcat", inPlace := ["internal/bytealg.IndexByteString", "internal/abi.NoEscape", "internal/bytealg.MakeNoZero"], unfollowed := true, recurses := true, named := ["unicode/utf8.first", "unicode/utf8.acceptRanges", "unicode.CaseRanges"], apart := false, laid := [("unicode/utf8.acceptRanges", laid_unicode_utf8_acceptRanges), ("unicode.CaseRanges", laid_unicode_CaseRanges), ("unicode/utf8.first", laid_unicode_utf8_first)] }
def FnParseChallengesConcatSaid : Prop := fnParseChallengesConcatRow.holds Tryd.pinned (OpenSpec.ofChange fnParseChallengesConcatSpec)

/-- ITS FALSE NEIGHBOUR: 'it returns false'. Refute it at one input. -/
def fnParseChallengesConcatWrong : ChangeSpec := { name := "fnParseChallengesConcat", fn := fun _ => fun
  | [d1, d2, d3] => { results := [.lit (.bool false)], args := [d1, d2, d3] }
  | _ => none }
def FnParseChallengesConcatWrongFalsely : Prop := fnParseChallengesConcatRow.holds Tryd.pinned (OpenSpec.ofChange fnParseChallengesConcatWrong)

/-- 'zzlaws_internal_registry_b1.FnParseChallengesShape': WHATEVER THE INPUT: true; the input reads as it did. -/
def fnParseChallengesShapeSpec : ChangeSpec := { name := "fnParseChallengesShape", fn := fun _ => fun
  | [d] => { results := [.lit (.bool true)], args := [d] }
  | _ => none }
def fnParseChallengesShapeRow : OpenClaim := { program := "qxb6000614adoor", sum := "8b4f227a58463af4e43385b194d410fbf1ed72e72d8c180178d9c8dd582b08a3", func := "example.com/ribband/ribband/zzlaws_internal_registry_b1.FnParseChallengesShape", spec := "fnParseChallengesShape", inPlace := ["internal/bytealg.IndexByteString", "internal/abi.NoEscape", "internal/bytealg.MakeNoZero"], unfollowed := true, recurses := true, named := ["unicode/utf8.first", "unicode/utf8.acceptRanges", "unicode.CaseRanges"], apart := false, laid := [("unicode/utf8.acceptRanges", laid_unicode_utf8_acceptRanges), ("unicode.CaseRanges", laid_unicode_CaseRanges), ("unicode/utf8.first", laid_unicode_utf8_first)] }
def FnParseChallengesShapeSaid : Prop := fnParseChallengesShapeRow.holds Tryd.pinned (OpenSpec.ofChange fnParseChallengesShapeSpec)

/-- ITS FALSE NEIGHBOUR: 'it returns false'. Refute it at one input. -/
def fnParseChallengesShapeWrong : ChangeSpec := { name := "fnParseChallengesShape", fn := fun _ => fun
  | [d] => { results := [.lit (.bool false)], args := [d] }
  | _ => none }
def FnParseChallengesShapeWrongFalsely : Prop := fnParseChallengesShapeRow.holds Tryd.pinned (OpenSpec.ofChange fnParseChallengesShapeWrong)

/-- 'zzlaws_internal_registry_b1.FnFindAfterParse': WHATEVER THE INPUT: true; the input reads as it did. -/
def fnFindAfterParseSpec : ChangeSpec := { name := "fnFindAfterParse", fn := fun _ => fun
  | [d1, d2] => { results := [.lit (.bool true)], args := [d1, d2] }
  | _ => none }
def fnFindAfterParseRow : OpenClaim := { program := "qxb6000614adoor", sum := "8b4f227a58463af4e43385b194d410fbf1ed72e72d8c180178d9c8dd582b08a3", func := "example.com/ribband/ribband/zzlaws_internal_registry_b1.FnFindAfterParse", spec := "fnFindAfterParse", inPlace := ["internal/bytealg.IndexByteString", "internal/abi.NoEscape", "internal/bytealg.MakeNoZero"], unfollowed := true, recurses := true, named := ["unicode/utf8.first", "unicode/utf8.acceptRanges", "unicode.CaseRanges"], apart := false, laid := [("unicode/utf8.acceptRanges", laid_unicode_utf8_acceptRanges), ("unicode.CaseRanges", laid_unicode_CaseRanges), ("unicode/utf8.first", laid_unicode_utf8_first)] }
def FnFindAfterParseSaid : Prop := fnFindAfterParseRow.holds Tryd.pinned (OpenSpec.ofChange fnFindAfterParseSpec)

/-- ITS FALSE NEIGHBOUR: 'it returns false'. Refute it at one input. -/
def fnFindAfterParseWrong : ChangeSpec := { name := "fnFindAfterParse", fn := fun _ => fun
  | [d1, d2] => { results := [.lit (.bool false)], args := [d1, d2] }
  | _ => none }
def FnFindAfterParseWrongFalsely : Prop := fnFindAfterParseRow.holds Tryd.pinned (OpenSpec.ofChange fnFindAfterParseWrong)

end Rows
end Go.Proofs.Qxb6000614aDoor
