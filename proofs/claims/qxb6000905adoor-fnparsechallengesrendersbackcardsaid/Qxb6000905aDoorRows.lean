/-
  NARROWER THAN 'FOR EVERY INPUT', by the rows' own cells (each row's printed sentence says how): FnParseChallengesRendersBack: laid · FnParseChallengesAgreesAcrossSplit: laid · FnParseChallengesSchemesAreLowerTokens: laid.
  DERIVED. THE GIVEN ROWS OF THIS SEAT. 3 by the template 'for every input the law returns true; each argument reads behind the call as it read before'; 0 by the template 'total and deterministic' (their statements: Qxb6000905aDoorTotals.lean).
  GIVEN WITH THE SEED: the statements are not yours to turn. If you find one false, say at which input.
  Laid BY PROGRAM, IN A SANDBOX (cutbox-rows.mjs): the forced cells as the released guide's own fill.sh prints them over the translation efcf5b6b2c7a8f68… (all of the seat's roots in one cut). By AI agents, Wed Nov 11 2026. No macro, syntax, notation, axiom, sorry.
-/
import Derived.Test.Qxb6000905aDoorChecked
import GoSem.PinnedTables
import GoSem.Claim
import GoSem.ClaimJoined
import GoSem.ClaimMapViews
import Derived.JoinedTies
import Derived.KernelRfl
namespace Go.Proofs.Qxb6000905aDoor
/- THE CELL 'sum', in the pinned program and in every row, IS THE sha256 OF THE DUMP (.gsa) THAT Qxb6000905aDoorProg.lean LOADS. Nothing in Lean hashes anything: it is a label: what it is worth is what the hold of that sum in a sandbox is worth. -/
noncomputable def Tryd.pinned : Pinned := { name := "qxb6000905adoor", sum := "efcf5b6b2c7a8f6871a61501da08408dd4ec51e183f0edb3e39c706deedc7ed4", checked := Tryd.checked }
namespace Rows
def none {H : Type} : Left H := { results := [], args := [] }

/- WHAT THE LISTED PACKAGE-LEVEL VARIABLES READ AS WHEN THE CALL BEGINS. Each datum BY PROGRAM (the guide's laid-datum.mjs) off the statement by which the dump's own 'gosem.cut.vars' lays the variable. In a bare row this is a premise. The card (Qxb6000905aDoorCards.lean) ties it to the program's text. -/
def laid_unicode_utf8_acceptRanges {H : Type} : DataW H := .agg [.agg [.lit (.int .u8 128), .lit (.int .u8 191)], .agg [.lit (.int .u8 160), .lit (.int .u8 191)], .agg [.lit (.int .u8 128), .lit (.int .u8 159)], .agg [.lit (.int .u8 144), .lit (.int .u8 191)], .agg [.lit (.int .u8 128), .lit (.int .u8 143)], .agg [.lit (.int .u8 0), .lit (.int .u8 0)], .agg [.lit (.int .u8 0), .lit (.int .u8 0)], .agg [.lit (.int .u8 0), .lit (.int .u8 0)], .agg [.lit (.int .u8 0), .lit (.int .u8 0)], .agg [.lit (.int .u8 0), .lit (.int .u8 0)], .agg [.lit (.int .u8 0), .lit (.int .u8 0)], .agg [.lit (.int .u8 0), .lit (.int .u8 0)], .agg [.lit (.int .u8 0), .lit (.int .u8 0)], .agg [.lit (.int .u8 0), .lit (.int .u8 0)], .agg [.lit (.int .u8 0), .lit (.int .u8 0)], .agg [.lit (.int .u8 0), .lit (.int .u8 0)]]
/-- One of Go's own tables, pinned by name: the form's constant. -/
def laid_unicode_CaseRanges : DataW Unit := Go.Pinned.caseRanges
/-- One of Go's own tables, pinned by name: the form's constant. -/
def laid_unicode_utf8_first : DataW Unit := Go.Pinned.utf8First

/-- 'zzlaws_internal_registry_b1.FnParseChallengesRendersBack': WHATEVER THE INPUT: true; the input reads as it did. -/
def fnParseChallengesRendersBackSpec : ChangeSpec := { name := "fnParseChallengesRendersBack", fn := fun _ => fun
  | [d1, d2] => { results := [.lit (.bool true)], args := [d1, d2] }
  | _ => none }
def fnParseChallengesRendersBackRow : OpenClaim := { program := "qxb6000905adoor", sum := "efcf5b6b2c7a8f6871a61501da08408dd4ec51e183f0edb3e39c706deedc7ed4", func := "example.com/mayfly/mayfly/zzlaws_internal_registry_b1.FnParseChallengesRendersBack", spec := "fnParseChallengesRendersBack", inPlace := ["internal/bytealg.IndexByteString", "internal/bytealg.IndexString", "internal/abi.NoEscape", "internal/bytealg.MakeNoZero"], unfollowed := true, recurses := true, named := ["unicode/utf8.first", "unicode/utf8.acceptRanges", "unicode.CaseRanges", "internal/bytealg.MaxLen"], apart := false, laid := [("unicode/utf8.acceptRanges", laid_unicode_utf8_acceptRanges), ("unicode.CaseRanges", laid_unicode_CaseRanges), ("unicode/utf8.first", laid_unicode_utf8_first)] }
def FnParseChallengesRendersBackSaid : Prop := fnParseChallengesRendersBackRow.holds Tryd.pinned (OpenSpec.ofChange fnParseChallengesRendersBackSpec)

/-- ITS FALSE NEIGHBOUR: 'it returns false'. Refute it at one input. -/
def fnParseChallengesRendersBackWrong : ChangeSpec := { name := "fnParseChallengesRendersBack", fn := fun _ => fun
  | [d1, d2] => { results := [.lit (.bool false)], args := [d1, d2] }
  | _ => none }
def FnParseChallengesRendersBackWrongFalsely : Prop := fnParseChallengesRendersBackRow.holds Tryd.pinned (OpenSpec.ofChange fnParseChallengesRendersBackWrong)

/-- 'zzlaws_internal_registry_b1.FnParseChallengesAgreesAcrossSplit': WHATEVER THE INPUT: true; the input reads as it did. -/
def fnParseChallengesAgreesAcrossSplitSpec : ChangeSpec := { name := "fnParseChallengesAgreesAcrossSplit", fn := fun _ => fun
  | [d1, d2] => { results := [.lit (.bool true)], args := [d1, d2] }
  | _ => none }
def fnParseChallengesAgreesAcrossSplitRow : OpenClaim := { program := "qxb6000905adoor", sum := "efcf5b6b2c7a8f6871a61501da08408dd4ec51e183f0edb3e39c706deedc7ed4", func := "example.com/mayfly/mayfly/zzlaws_internal_registry_b1.FnParseChallengesAgreesAcrossSplit", spec := "fnParseChallengesAgreesAcrossSplit", inPlace := ["internal/bytealg.IndexByteString", "internal/bytealg.IndexString", "internal/abi.NoEscape", "internal/bytealg.MakeNoZero"], unfollowed := true, recurses := true, named := ["unicode/utf8.first", "unicode/utf8.acceptRanges", "unicode.CaseRanges", "internal/bytealg.MaxLen"], apart := false, laid := [("unicode/utf8.acceptRanges", laid_unicode_utf8_acceptRanges), ("unicode.CaseRanges", laid_unicode_CaseRanges), ("unicode/utf8.first", laid_unicode_utf8_first)] }
def FnParseChallengesAgreesAcrossSplitSaid : Prop := fnParseChallengesAgreesAcrossSplitRow.holds Tryd.pinned (OpenSpec.ofChange fnParseChallengesAgreesAcrossSplitSpec)

/-- ITS FALSE NEIGHBOUR: 'it returns false'. Refute it at one input. -/
def fnParseChallengesAgreesAcrossSplitWrong : ChangeSpec := { name := "fnParseChallengesAgreesAcrossSplit", fn := fun _ => fun
  | [d1, d2] => { results := [.lit (.bool false)], args := [d1, d2] }
  | _ => none }
def FnParseChallengesAgreesAcrossSplitWrongFalsely : Prop := fnParseChallengesAgreesAcrossSplitRow.holds Tryd.pinned (OpenSpec.ofChange fnParseChallengesAgreesAcrossSplitWrong)

/-- 'zzlaws_internal_registry_b1.FnParseChallengesSchemesAreLowerTokens': WHATEVER THE INPUT: true; the input reads as it did. -/
def fnParseChallengesSchemesAreLowerTokensSpec : ChangeSpec := { name := "fnParseChallengesSchemesAreLowerTokens", fn := fun _ => fun
  | [d] => { results := [.lit (.bool true)], args := [d] }
  | _ => none }
def fnParseChallengesSchemesAreLowerTokensRow : OpenClaim := { program := "qxb6000905adoor", sum := "efcf5b6b2c7a8f6871a61501da08408dd4ec51e183f0edb3e39c706deedc7ed4", func := "example.com/mayfly/mayfly/zzlaws_internal_registry_b1.FnParseChallengesSchemesAreLowerTokens", spec := "fnParseChallengesSchemesAreLowerTokens", inPlace := ["internal/bytealg.IndexByteString", "internal/bytealg.IndexString", "internal/abi.NoEscape", "internal/bytealg.MakeNoZero"], unfollowed := true, recurses := true, named := ["unicode/utf8.first", "unicode/utf8.acceptRanges", "unicode.CaseRanges", "internal/bytealg.MaxLen"], apart := false, laid := [("unicode/utf8.acceptRanges", laid_unicode_utf8_acceptRanges), ("unicode.CaseRanges", laid_unicode_CaseRanges), ("unicode/utf8.first", laid_unicode_utf8_first)] }
def FnParseChallengesSchemesAreLowerTokensSaid : Prop := fnParseChallengesSchemesAreLowerTokensRow.holds Tryd.pinned (OpenSpec.ofChange fnParseChallengesSchemesAreLowerTokensSpec)

/-- ITS FALSE NEIGHBOUR: 'it returns false'. Refute it at one input. -/
def fnParseChallengesSchemesAreLowerTokensWrong : ChangeSpec := { name := "fnParseChallengesSchemesAreLowerTokens", fn := fun _ => fun
  | [d] => { results := [.lit (.bool false)], args := [d] }
  | _ => none }
def FnParseChallengesSchemesAreLowerTokensWrongFalsely : Prop := fnParseChallengesSchemesAreLowerTokensRow.holds Tryd.pinned (OpenSpec.ofChange fnParseChallengesSchemesAreLowerTokensWrong)

end Rows
end Go.Proofs.Qxb6000905aDoor
