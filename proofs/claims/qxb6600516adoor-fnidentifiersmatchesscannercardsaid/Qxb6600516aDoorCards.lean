/-
  DERIVED. GIVEN WITH THE SEED: THE CARDS: each row of Qxb6600516aDoorRows.lean that lists a variable, with what it lists TIED to the program's text (the seventh form; the later family's looks); each row that meets fmt, with fmt's text TOLD by the authors' own Lean function (tested against real Go, not proved from fmt's source: count such statements apart). THE CARD IS WHAT COUNTS. Prove the row's statement (the work); the ties are given (Qxb6600516aDoorTie.lean); close each card by the builder's one call (the guide's Derived/Test/ToyasCard.lean, 'card_holds'). Laid BY PROGRAM, IN A SANDBOX (cutbox-door.mjs). By AI agents, Wed Nov 11 2026. No macro, syntax, notation, axiom, sorry.
-/
import Derived.Test.Qxb6600516aDoorRows
import GoSem.ClaimSeven
namespace Go.Proofs.Qxb6600516aDoor
namespace Rows

/-- THE TIED CARD OF 'zzlaws_semver_b1.FnIdentifiersMatchesScanner'. -/
def fnIdentifiersMatchesScannerCard : Claim7 := { stood := { row := fnIdentifiersMatchesScannerRow, standIns := [], harness := (true, "400a7dbd802a434aa77703ae8e738877ad5d32ffccb437a33d6a90631789c9b9"), looks := false }, kinds := [], alts := [], laidByText := true, laidKinds := [.data, .pinned], laidTests := true, laidLooks := .later }
def FnIdentifiersMatchesScannerCardSaid : Prop := Claim7.holds Tryd.pinned (.plain (OpenSpec.ofChange fnIdentifiersMatchesScannerSpec)) fnIdentifiersMatchesScannerCard

/-- THE TIED CARD OF 'zzlaws_semver_b1.FnIdentifiersSplitsAtADot'. -/
def fnIdentifiersSplitsAtADotCard : Claim7 := { stood := { row := fnIdentifiersSplitsAtADotRow, standIns := [], harness := (true, "400a7dbd802a434aa77703ae8e738877ad5d32ffccb437a33d6a90631789c9b9"), looks := false }, kinds := [], alts := [], laidByText := true, laidKinds := [.data, .pinned], laidTests := true, laidLooks := .later }
def FnIdentifiersSplitsAtADotCardSaid : Prop := Claim7.holds Tryd.pinned (.plain (OpenSpec.ofChange fnIdentifiersSplitsAtADotSpec)) fnIdentifiersSplitsAtADotCard

/-- THE TIED CARD OF 'zzlaws_semver_b1.FnIdentifiersStrictImpliesLoose'. -/
def fnIdentifiersStrictImpliesLooseCard : Claim7 := { stood := { row := fnIdentifiersStrictImpliesLooseRow, standIns := [], harness := (true, "400a7dbd802a434aa77703ae8e738877ad5d32ffccb437a33d6a90631789c9b9"), looks := false }, kinds := [], alts := [], laidByText := true, laidKinds := [.data, .pinned], laidTests := true, laidLooks := .later }
def FnIdentifiersStrictImpliesLooseCardSaid : Prop := Claim7.holds Tryd.pinned (.plain (OpenSpec.ofChange fnIdentifiersStrictImpliesLooseSpec)) fnIdentifiersStrictImpliesLooseCard

/-- THE TIED CARD OF 'zzlaws_semver_b1.FnParseMatchesGrammarScanner'. -/
def fnParseMatchesGrammarScannerCard : Claim7 := { stood := { row := fnParseMatchesGrammarScannerRow, standIns := [], harness := (true, "400a7dbd802a434aa77703ae8e738877ad5d32ffccb437a33d6a90631789c9b9"), looks := false }, kinds := [], alts := [], laidByText := true, laidKinds := [.data, .pinned], laidTests := true, laidLooks := .later }
def FnParseMatchesGrammarScannerCardSaid : Prop := Claim7.holds Tryd.pinned (.plain (OpenSpec.ofChange fnParseMatchesGrammarScannerSpec)) fnParseMatchesGrammarScannerCard

/-- THE TIED CARD OF 'zzlaws_semver_b1.FnParseBuildIsCheckedThenIgnored'. -/
def fnParseBuildIsCheckedThenIgnoredCard : Claim7 := { stood := { row := fnParseBuildIsCheckedThenIgnoredRow, standIns := [], harness := (true, "400a7dbd802a434aa77703ae8e738877ad5d32ffccb437a33d6a90631789c9b9"), looks := false }, kinds := [], alts := [], laidByText := true, laidKinds := [.data, .pinned], laidTests := true, laidLooks := .later }
def FnParseBuildIsCheckedThenIgnoredCardSaid : Prop := Claim7.holds Tryd.pinned (.plain (OpenSpec.ofChange fnParseBuildIsCheckedThenIgnoredSpec)) fnParseBuildIsCheckedThenIgnoredCard

/-- THE TIED CARD OF 'zzlaws_semver_b1.FnParseReadsBackRenderedNumbers'. -/
def fnParseReadsBackRenderedNumbersCard : Claim7 := { stood := { row := fnParseReadsBackRenderedNumbersRow, standIns := [], harness := (true, "400a7dbd802a434aa77703ae8e738877ad5d32ffccb437a33d6a90631789c9b9"), looks := false }, kinds := [], alts := [], laidByText := true, laidKinds := [.data, .pinned], laidTests := true, laidLooks := .later }
def FnParseReadsBackRenderedNumbersCardSaid : Prop := Claim7.holds Tryd.pinned (.plain (OpenSpec.ofChange fnParseReadsBackRenderedNumbersSpec)) fnParseReadsBackRenderedNumbersCard
end Rows
end Go.Proofs.Qxb6600516aDoor
