/-
  NARROWER THAN 'FOR EVERY INPUT', by the rows' own cells (each row's printed sentence says how): FnIdentifiersMatchesScanner: laid · FnIdentifiersSplitsAtADot: laid · FnIdentifiersStrictImpliesLoose: laid · FnParseMatchesGrammarScanner: laid · FnParseBuildIsCheckedThenIgnored: laid · FnParseReadsBackRenderedNumbers: laid.
  DERIVED. THE GIVEN ROWS OF THIS SEAT. 6 by the template 'for every input the law returns true; each argument reads behind the call as it read before'; 0 by the template 'total and deterministic' (their statements: Qxb6600516aDoorTotals.lean).
  GIVEN WITH THE SEED: the statements are not yours to turn. If you find one false, say at which input.
  Laid BY PROGRAM, IN A SANDBOX (cutbox-rows.mjs): the forced cells as the released guide's own fill.sh prints them over the translation b97ffc80c7f454f0… (all of the seat's roots in one cut). By AI agents, Wed Nov 11 2026. No macro, syntax, notation, axiom, sorry.
-/
import Derived.Test.Qxb6600516aDoorChecked
import GoSem.PinnedTables
import GoSem.Claim
import GoSem.ClaimJoined
import GoSem.ClaimMapViews
import Derived.JoinedTies
import Derived.KernelRfl
namespace Go.Proofs.Qxb6600516aDoor
/- THE CELL 'sum', in the pinned program and in every row, IS THE sha256 OF THE DUMP (.gsa) THAT Qxb6600516aDoorProg.lean LOADS. Nothing in Lean hashes anything: it is a label: what it is worth is what the hold of that sum in a sandbox is worth. -/
noncomputable def Tryd.pinned : Pinned := { name := "qxb6600516adoor", sum := "b97ffc80c7f454f0ca5d257dbd1774195e1bfadb78b981b7626c3d98fdcbd0aa", checked := Tryd.checked }
namespace Rows
def none {H : Type} : Left H := { results := [], args := [] }

/- WHAT THE LISTED PACKAGE-LEVEL VARIABLES READ AS WHEN THE CALL BEGINS. Each datum BY PROGRAM (the guide's laid-datum.mjs) off the statement by which the dump's own 'gosem.cut.vars' lays the variable. In a bare row this is a premise. The card (Qxb6600516aDoorCards.lean) ties it to the program's text. -/
def laid_unicode_utf8_acceptRanges {H : Type} : DataW H := .agg [.agg [.lit (.int .u8 128), .lit (.int .u8 191)], .agg [.lit (.int .u8 160), .lit (.int .u8 191)], .agg [.lit (.int .u8 128), .lit (.int .u8 159)], .agg [.lit (.int .u8 144), .lit (.int .u8 191)], .agg [.lit (.int .u8 128), .lit (.int .u8 143)], .agg [.lit (.int .u8 0), .lit (.int .u8 0)], .agg [.lit (.int .u8 0), .lit (.int .u8 0)], .agg [.lit (.int .u8 0), .lit (.int .u8 0)], .agg [.lit (.int .u8 0), .lit (.int .u8 0)], .agg [.lit (.int .u8 0), .lit (.int .u8 0)], .agg [.lit (.int .u8 0), .lit (.int .u8 0)], .agg [.lit (.int .u8 0), .lit (.int .u8 0)], .agg [.lit (.int .u8 0), .lit (.int .u8 0)], .agg [.lit (.int .u8 0), .lit (.int .u8 0)], .agg [.lit (.int .u8 0), .lit (.int .u8 0)], .agg [.lit (.int .u8 0), .lit (.int .u8 0)]]
/-- One of Go's own tables, pinned by name: the form's constant. -/
def laid_unicode_utf8_first : DataW Unit := Go.Pinned.utf8First

/-- 'zzlaws_semver_b1.FnIdentifiersMatchesScanner': WHATEVER THE INPUT: true; the input reads as it did. -/
def fnIdentifiersMatchesScannerSpec : ChangeSpec := { name := "fnIdentifiersMatchesScanner", fn := fun _ => fun
  | [d1, d2] => { results := [.lit (.bool true)], args := [d1, d2] }
  | _ => none }
def fnIdentifiersMatchesScannerRow : OpenClaim := { program := "qxb6600516adoor", sum := "b97ffc80c7f454f0ca5d257dbd1774195e1bfadb78b981b7626c3d98fdcbd0aa", func := "example.com/parcelwright/parcelwright/zzlaws_semver_b1.FnIdentifiersMatchesScanner", spec := "fnIdentifiersMatchesScanner", inPlace := ["internal/bytealg.CountString", "internal/bytealg.IndexByteString", "internal/bytealg.IndexString"], named := ["unicode/utf8.first", "unicode/utf8.acceptRanges", "internal/bytealg.MaxLen"], apart := false, laid := [("unicode/utf8.acceptRanges", laid_unicode_utf8_acceptRanges), ("unicode/utf8.first", laid_unicode_utf8_first)] }
def FnIdentifiersMatchesScannerSaid : Prop := fnIdentifiersMatchesScannerRow.holds Tryd.pinned (OpenSpec.ofChange fnIdentifiersMatchesScannerSpec)

/-- ITS FALSE NEIGHBOUR: 'it returns false'. Refute it at one input. -/
def fnIdentifiersMatchesScannerWrong : ChangeSpec := { name := "fnIdentifiersMatchesScanner", fn := fun _ => fun
  | [d1, d2] => { results := [.lit (.bool false)], args := [d1, d2] }
  | _ => none }
def FnIdentifiersMatchesScannerWrongFalsely : Prop := fnIdentifiersMatchesScannerRow.holds Tryd.pinned (OpenSpec.ofChange fnIdentifiersMatchesScannerWrong)

/-- 'zzlaws_semver_b1.FnIdentifiersSplitsAtADot': WHATEVER THE INPUT: true; the input reads as it did. -/
def fnIdentifiersSplitsAtADotSpec : ChangeSpec := { name := "fnIdentifiersSplitsAtADot", fn := fun _ => fun
  | [d1, d2, d3] => { results := [.lit (.bool true)], args := [d1, d2, d3] }
  | _ => none }
def fnIdentifiersSplitsAtADotRow : OpenClaim := { program := "qxb6600516adoor", sum := "b97ffc80c7f454f0ca5d257dbd1774195e1bfadb78b981b7626c3d98fdcbd0aa", func := "example.com/parcelwright/parcelwright/zzlaws_semver_b1.FnIdentifiersSplitsAtADot", spec := "fnIdentifiersSplitsAtADot", inPlace := ["internal/bytealg.CountString", "internal/bytealg.IndexByteString", "internal/bytealg.IndexString"], named := ["unicode/utf8.first", "unicode/utf8.acceptRanges", "internal/bytealg.MaxLen"], apart := false, laid := [("unicode/utf8.acceptRanges", laid_unicode_utf8_acceptRanges), ("unicode/utf8.first", laid_unicode_utf8_first)] }
def FnIdentifiersSplitsAtADotSaid : Prop := fnIdentifiersSplitsAtADotRow.holds Tryd.pinned (OpenSpec.ofChange fnIdentifiersSplitsAtADotSpec)

/-- ITS FALSE NEIGHBOUR: 'it returns false'. Refute it at one input. -/
def fnIdentifiersSplitsAtADotWrong : ChangeSpec := { name := "fnIdentifiersSplitsAtADot", fn := fun _ => fun
  | [d1, d2, d3] => { results := [.lit (.bool false)], args := [d1, d2, d3] }
  | _ => none }
def FnIdentifiersSplitsAtADotWrongFalsely : Prop := fnIdentifiersSplitsAtADotRow.holds Tryd.pinned (OpenSpec.ofChange fnIdentifiersSplitsAtADotWrong)

/-- 'zzlaws_semver_b1.FnIdentifiersStrictImpliesLoose': WHATEVER THE INPUT: true; the input reads as it did. -/
def fnIdentifiersStrictImpliesLooseSpec : ChangeSpec := { name := "fnIdentifiersStrictImpliesLoose", fn := fun _ => fun
  | [d] => { results := [.lit (.bool true)], args := [d] }
  | _ => none }
def fnIdentifiersStrictImpliesLooseRow : OpenClaim := { program := "qxb6600516adoor", sum := "b97ffc80c7f454f0ca5d257dbd1774195e1bfadb78b981b7626c3d98fdcbd0aa", func := "example.com/parcelwright/parcelwright/zzlaws_semver_b1.FnIdentifiersStrictImpliesLoose", spec := "fnIdentifiersStrictImpliesLoose", inPlace := ["internal/bytealg.CountString", "internal/bytealg.IndexByteString", "internal/bytealg.IndexString"], named := ["unicode/utf8.first", "unicode/utf8.acceptRanges", "internal/bytealg.MaxLen"], apart := false, laid := [("unicode/utf8.acceptRanges", laid_unicode_utf8_acceptRanges), ("unicode/utf8.first", laid_unicode_utf8_first)] }
def FnIdentifiersStrictImpliesLooseSaid : Prop := fnIdentifiersStrictImpliesLooseRow.holds Tryd.pinned (OpenSpec.ofChange fnIdentifiersStrictImpliesLooseSpec)

/-- ITS FALSE NEIGHBOUR: 'it returns false'. Refute it at one input. -/
def fnIdentifiersStrictImpliesLooseWrong : ChangeSpec := { name := "fnIdentifiersStrictImpliesLoose", fn := fun _ => fun
  | [d] => { results := [.lit (.bool false)], args := [d] }
  | _ => none }
def FnIdentifiersStrictImpliesLooseWrongFalsely : Prop := fnIdentifiersStrictImpliesLooseRow.holds Tryd.pinned (OpenSpec.ofChange fnIdentifiersStrictImpliesLooseWrong)

/-- 'zzlaws_semver_b1.FnParseMatchesGrammarScanner': WHATEVER THE INPUT: true; the input reads as it did. -/
def fnParseMatchesGrammarScannerSpec : ChangeSpec := { name := "fnParseMatchesGrammarScanner", fn := fun _ => fun
  | [d] => { results := [.lit (.bool true)], args := [d] }
  | _ => none }
def fnParseMatchesGrammarScannerRow : OpenClaim := { program := "qxb6600516adoor", sum := "b97ffc80c7f454f0ca5d257dbd1774195e1bfadb78b981b7626c3d98fdcbd0aa", func := "example.com/parcelwright/parcelwright/zzlaws_semver_b1.FnParseMatchesGrammarScanner", spec := "fnParseMatchesGrammarScanner", inPlace := ["internal/bytealg.IndexByteString", "internal/bytealg.IndexString", "internal/bytealg.CountString"], named := ["internal/bytealg.MaxLen", "unicode/utf8.first", "unicode/utf8.acceptRanges"], apart := false, laid := [("unicode/utf8.acceptRanges", laid_unicode_utf8_acceptRanges), ("unicode/utf8.first", laid_unicode_utf8_first)] }
def FnParseMatchesGrammarScannerSaid : Prop := fnParseMatchesGrammarScannerRow.holds Tryd.pinned (OpenSpec.ofChange fnParseMatchesGrammarScannerSpec)

/-- ITS FALSE NEIGHBOUR: 'it returns false'. Refute it at one input. -/
def fnParseMatchesGrammarScannerWrong : ChangeSpec := { name := "fnParseMatchesGrammarScanner", fn := fun _ => fun
  | [d] => { results := [.lit (.bool false)], args := [d] }
  | _ => none }
def FnParseMatchesGrammarScannerWrongFalsely : Prop := fnParseMatchesGrammarScannerRow.holds Tryd.pinned (OpenSpec.ofChange fnParseMatchesGrammarScannerWrong)

/-- 'zzlaws_semver_b1.FnParseBuildIsCheckedThenIgnored': WHATEVER THE INPUT: true; the input reads as it did. -/
def fnParseBuildIsCheckedThenIgnoredSpec : ChangeSpec := { name := "fnParseBuildIsCheckedThenIgnored", fn := fun _ => fun
  | [d1, d2] => { results := [.lit (.bool true)], args := [d1, d2] }
  | _ => none }
def fnParseBuildIsCheckedThenIgnoredRow : OpenClaim := { program := "qxb6600516adoor", sum := "b97ffc80c7f454f0ca5d257dbd1774195e1bfadb78b981b7626c3d98fdcbd0aa", func := "example.com/parcelwright/parcelwright/zzlaws_semver_b1.FnParseBuildIsCheckedThenIgnored", spec := "fnParseBuildIsCheckedThenIgnored", inPlace := ["internal/bytealg.IndexByteString", "internal/bytealg.IndexString", "internal/bytealg.CountString"], named := ["internal/bytealg.MaxLen", "unicode/utf8.first", "unicode/utf8.acceptRanges"], apart := false, laid := [("unicode/utf8.acceptRanges", laid_unicode_utf8_acceptRanges), ("unicode/utf8.first", laid_unicode_utf8_first)] }
def FnParseBuildIsCheckedThenIgnoredSaid : Prop := fnParseBuildIsCheckedThenIgnoredRow.holds Tryd.pinned (OpenSpec.ofChange fnParseBuildIsCheckedThenIgnoredSpec)

/-- ITS FALSE NEIGHBOUR: 'it returns false'. Refute it at one input. -/
def fnParseBuildIsCheckedThenIgnoredWrong : ChangeSpec := { name := "fnParseBuildIsCheckedThenIgnored", fn := fun _ => fun
  | [d1, d2] => { results := [.lit (.bool false)], args := [d1, d2] }
  | _ => none }
def FnParseBuildIsCheckedThenIgnoredWrongFalsely : Prop := fnParseBuildIsCheckedThenIgnoredRow.holds Tryd.pinned (OpenSpec.ofChange fnParseBuildIsCheckedThenIgnoredWrong)

/-- 'zzlaws_semver_b1.FnParseReadsBackRenderedNumbers': WHATEVER THE INPUT: true; the input reads as it did. -/
def fnParseReadsBackRenderedNumbersSpec : ChangeSpec := { name := "fnParseReadsBackRenderedNumbers", fn := fun _ => fun
  | [d1, d2, d3] => { results := [.lit (.bool true)], args := [d1, d2, d3] }
  | _ => none }
def fnParseReadsBackRenderedNumbersRow : OpenClaim := { program := "qxb6600516adoor", sum := "b97ffc80c7f454f0ca5d257dbd1774195e1bfadb78b981b7626c3d98fdcbd0aa", func := "example.com/parcelwright/parcelwright/zzlaws_semver_b1.FnParseReadsBackRenderedNumbers", spec := "fnParseReadsBackRenderedNumbers", inPlace := ["internal/bytealg.IndexByteString", "internal/bytealg.IndexString", "internal/bytealg.CountString"], named := ["internal/bytealg.MaxLen", "unicode/utf8.first", "unicode/utf8.acceptRanges"], apart := false, laid := [("unicode/utf8.acceptRanges", laid_unicode_utf8_acceptRanges), ("unicode/utf8.first", laid_unicode_utf8_first)] }
def FnParseReadsBackRenderedNumbersSaid : Prop := fnParseReadsBackRenderedNumbersRow.holds Tryd.pinned (OpenSpec.ofChange fnParseReadsBackRenderedNumbersSpec)

/-- ITS FALSE NEIGHBOUR: 'it returns false'. Refute it at one input. -/
def fnParseReadsBackRenderedNumbersWrong : ChangeSpec := { name := "fnParseReadsBackRenderedNumbers", fn := fun _ => fun
  | [d1, d2, d3] => { results := [.lit (.bool false)], args := [d1, d2, d3] }
  | _ => none }
def FnParseReadsBackRenderedNumbersWrongFalsely : Prop := fnParseReadsBackRenderedNumbersRow.holds Tryd.pinned (OpenSpec.ofChange fnParseReadsBackRenderedNumbersWrong)

end Rows
end Go.Proofs.Qxb6600516aDoor
