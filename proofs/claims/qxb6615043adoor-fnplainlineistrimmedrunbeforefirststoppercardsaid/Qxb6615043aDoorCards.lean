/-
  DERIVED. GIVEN WITH THE SEED: THE CARDS: each row of Qxb6615043aDoorRows.lean that lists a variable, with what it lists TIED to the program's text (the seventh form; the later family's looks); each row that meets fmt, with fmt's text TOLD by the authors' own Lean function (tested against real Go, not proved from fmt's source: count such statements apart). THE CARD IS WHAT COUNTS. Prove the row's statement (the work); the ties are given (Qxb6615043aDoorTie.lean); close each card by the builder's one call (the guide's Derived/Test/ToyasCard.lean, 'card_holds'). Laid BY PROGRAM, IN A SANDBOX (cutbox-door.mjs). By AI agents, Wed Nov 11 2026. No macro, syntax, notation, axiom, sorry.
-/
import Derived.Test.Qxb6615043aDoorRows
import GoSem.ClaimSeven
namespace Go.Proofs.Qxb6615043aDoor
namespace Rows

/-- THE TIED CARD OF 'zzlaws_pkg_document_b1.FnPlainLineIsTrimmedRunBeforeFirstStopper'. -/
def fnPlainLineIsTrimmedRunBeforeFirstStopperCard : Claim7 := { stood := { row := fnPlainLineIsTrimmedRunBeforeFirstStopperRow, standIns := [], harness := (true, "9aef5c19f09ac5eafc744509f920ef7078c7064407d990d952d480c43aa21096"), looks := false }, kinds := [], alts := [], laidByText := true, laidKinds := [.data, .pinned], laidTests := true, laidLooks := .later }
def FnPlainLineIsTrimmedRunBeforeFirstStopperCardSaid : Prop := Claim7.holds Tryd.pinned (.plain (OpenSpec.ofChange fnPlainLineIsTrimmedRunBeforeFirstStopperSpec)) fnPlainLineIsTrimmedRunBeforeFirstStopperCard

/-- THE TIED CARD OF 'zzlaws_pkg_document_b1.FnPlainLineStopsAtLineBreak'. -/
def fnPlainLineStopsAtLineBreakCard : Claim7 := { stood := { row := fnPlainLineStopsAtLineBreakRow, standIns := [], harness := (true, "9aef5c19f09ac5eafc744509f920ef7078c7064407d990d952d480c43aa21096"), looks := false }, kinds := [], alts := [], laidByText := true, laidKinds := [.data, .pinned], laidTests := true, laidLooks := .later }
def FnPlainLineStopsAtLineBreakCardSaid : Prop := Claim7.holds Tryd.pinned (.plain (OpenSpec.ofChange fnPlainLineStopsAtLineBreakSpec)) fnPlainLineStopsAtLineBreakCard
end Rows
end Go.Proofs.Qxb6615043aDoor
