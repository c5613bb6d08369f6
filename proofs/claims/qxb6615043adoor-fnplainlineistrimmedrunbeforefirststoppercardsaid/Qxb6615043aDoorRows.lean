/-
  NARROWER THAN 'FOR EVERY INPUT', by the rows' own cells (each row's printed sentence says how): FnPlainLineIsTrimmedRunBeforeFirstStopper: laid · FnPlainLineStopsAtLineBreak: laid.
  DERIVED. THE GIVEN ROWS OF THIS SEAT. 2 by the template 'for every input the law returns true; each argument reads behind the call as it read before'; 0 by the template 'total and deterministic' (their statements: Qxb6615043aDoorTotals.lean).
  GIVEN WITH THE SEED: the statements are not yours to turn. If you find one false, say at which input.
  Laid BY PROGRAM, IN A SANDBOX (cutbox-rows.mjs): the forced cells as the released guide's own fill.sh prints them over the translation 8dad3f7fc1ac6fb5… (all of the seat's roots in one cut). By AI agents, Wed Nov 11 2026. No macro, syntax, notation, axiom, sorry.
-/
import Derived.Test.Qxb6615043aDoorChecked
import GoSem.PinnedTables
import GoSem.Claim
import GoSem.ClaimJoined
import GoSem.ClaimMapViews
import Derived.JoinedTies
import Derived.KernelRfl
namespace Go.Proofs.Qxb6615043aDoor
/- THE CELL 'sum', in the pinned program and in every row, IS THE sha256 OF THE DUMP (.gsa) THAT Qxb6615043aDoorProg.lean LOADS. Nothing in Lean hashes anything: it is a label: what it is worth is what the hold of that sum in a sandbox is worth. -/
noncomputable def Tryd.pinned : Pinned := { name := "qxb6615043adoor", sum := "8dad3f7fc1ac6fb5a576370537a462f16235ee66b469e6600a1fab8bf4515e2e", checked := Tryd.checked }
namespace Rows
def none {H : Type} : Left H := { results := [], args := [] }

/- WHAT THE LISTED PACKAGE-LEVEL VARIABLES READ AS WHEN THE CALL BEGINS. Each datum BY PROGRAM (the guide's laid-datum.mjs) off the statement by which the dump's own 'gosem.cut.vars' lays the variable. In a bare row this is a premise. The card (Qxb6615043aDoorCards.lean) ties it to the program's text. -/
def laid_unicode_utf8_acceptRanges {H : Type} : DataW H := .agg [.agg [.lit (.int .u8 128), .lit (.int .u8 191)], .agg [.lit (.int .u8 160), .lit (.int .u8 191)], .agg [.lit (.int .u8 128), .lit (.int .u8 159)], .agg [.lit (.int .u8 144), .lit (.int .u8 191)], .agg [.lit (.int .u8 128), .lit (.int .u8 143)], .agg [.lit (.int .u8 0), .lit (.int .u8 0)], .agg [.lit (.int .u8 0), .lit (.int .u8 0)], .agg [.lit (.int .u8 0), .lit (.int .u8 0)], .agg [.lit (.int .u8 0), .lit (.int .u8 0)], .agg [.lit (.int .u8 0), .lit (.int .u8 0)], .agg [.lit (.int .u8 0), .lit (.int .u8 0)], .agg [.lit (.int .u8 0), .lit (.int .u8 0)], .agg [.lit (.int .u8 0), .lit (.int .u8 0)], .agg [.lit (.int .u8 0), .lit (.int .u8 0)], .agg [.lit (.int .u8 0), .lit (.int .u8 0)], .agg [.lit (.int .u8 0), .lit (.int .u8 0)]]
/-- One of Go's own tables, pinned by name: the form's constant. -/
def laid_unicode_utf8_first : DataW Unit := Go.Pinned.utf8First

/-- 'zzlaws_pkg_document_b1.FnPlainLineIsTrimmedRunBeforeFirstStopper': WHATEVER THE INPUT: true; the input reads as it did. -/
def fnPlainLineIsTrimmedRunBeforeFirstStopperSpec : ChangeSpec := { name := "fnPlainLineIsTrimmedRunBeforeFirstStopper", fn := fun _ => fun
  | [d1, d2, d3] => { results := [.lit (.bool true)], args := [d1, d2, d3] }
  | _ => none }
def fnPlainLineIsTrimmedRunBeforeFirstStopperRow : OpenClaim := { program := "qxb6615043adoor", sum := "8dad3f7fc1ac6fb5a576370537a462f16235ee66b469e6600a1fab8bf4515e2e", func := "example.com/procession/procession/zzlaws_pkg_document_b1.FnPlainLineIsTrimmedRunBeforeFirstStopper", spec := "fnPlainLineIsTrimmedRunBeforeFirstStopper", named := ["unicode/utf8.first", "unicode/utf8.acceptRanges"], apart := false, laid := [("unicode/utf8.acceptRanges", laid_unicode_utf8_acceptRanges), ("unicode/utf8.first", laid_unicode_utf8_first)] }
def FnPlainLineIsTrimmedRunBeforeFirstStopperSaid : Prop := fnPlainLineIsTrimmedRunBeforeFirstStopperRow.holds Tryd.pinned (OpenSpec.ofChange fnPlainLineIsTrimmedRunBeforeFirstStopperSpec)

/-- ITS FALSE NEIGHBOUR: 'it returns false'. Refute it at one input. -/
def fnPlainLineIsTrimmedRunBeforeFirstStopperWrong : ChangeSpec := { name := "fnPlainLineIsTrimmedRunBeforeFirstStopper", fn := fun _ => fun
  | [d1, d2, d3] => { results := [.lit (.bool false)], args := [d1, d2, d3] }
  | _ => none }
def FnPlainLineIsTrimmedRunBeforeFirstStopperWrongFalsely : Prop := fnPlainLineIsTrimmedRunBeforeFirstStopperRow.holds Tryd.pinned (OpenSpec.ofChange fnPlainLineIsTrimmedRunBeforeFirstStopperWrong)

/-- 'zzlaws_pkg_document_b1.FnPlainLineStopsAtLineBreak': WHATEVER THE INPUT: true; the input reads as it did. -/
def fnPlainLineStopsAtLineBreakSpec : ChangeSpec := { name := "fnPlainLineStopsAtLineBreak", fn := fun _ => fun
  | [d1, d2, d3, d4] => { results := [.lit (.bool true)], args := [d1, d2, d3, d4] }
  | _ => none }
def fnPlainLineStopsAtLineBreakRow : OpenClaim := { program := "qxb6615043adoor", sum := "8dad3f7fc1ac6fb5a576370537a462f16235ee66b469e6600a1fab8bf4515e2e", func := "example.com/procession/procession/zzlaws_pkg_document_b1.FnPlainLineStopsAtLineBreak", spec := "fnPlainLineStopsAtLineBreak", named := ["unicode/utf8.first", "unicode/utf8.acceptRanges"], apart := false, laid := [("unicode/utf8.acceptRanges", laid_unicode_utf8_acceptRanges), ("unicode/utf8.first", laid_unicode_utf8_first)] }
def FnPlainLineStopsAtLineBreakSaid : Prop := fnPlainLineStopsAtLineBreakRow.holds Tryd.pinned (OpenSpec.ofChange fnPlainLineStopsAtLineBreakSpec)

/-- ITS FALSE NEIGHBOUR: 'it returns false'. Refute it at one input. -/
def fnPlainLineStopsAtLineBreakWrong : ChangeSpec := { name := "fnPlainLineStopsAtLineBreak", fn := fun _ => fun
  | [d1, d2, d3, d4] => { results := [.lit (.bool false)], args := [d1, d2, d3, d4] }
  | _ => none }
def FnPlainLineStopsAtLineBreakWrongFalsely : Prop := fnPlainLineStopsAtLineBreakRow.holds Tryd.pinned (OpenSpec.ofChange fnPlainLineStopsAtLineBreakWrong)

end Rows
end Go.Proofs.Qxb6615043aDoor
