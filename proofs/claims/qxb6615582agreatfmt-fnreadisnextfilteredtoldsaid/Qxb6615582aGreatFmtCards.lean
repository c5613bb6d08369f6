/-
  DERIVED. GIVEN WITH THE SEED: THE CARDS: each row of Qxb6615582aGreatFmtRows.lean that lists a variable, with what it lists TIED to the program's text (the seventh form; the later family's looks); each row that meets fmt, with fmt's text TOLD by the authors' own Lean function (tested against real Go, not proved from fmt's source: count such statements apart). THE CARD IS WHAT COUNTS. Prove the row's statement (the work); the ties are given (Qxb6615582aGreatFmtTie.lean); close each card by the builder's one call (the guide's Derived/Test/ToyasCard.lean, 'card_holds'). Laid BY PROGRAM, IN A SANDBOX (cutbox-door.mjs). By AI agents, Wed Nov 11 2026. No macro, syntax, notation, axiom, sorry.
-/
import Derived.Test.Qxb6615582aGreatFmtRows
import GoSem.ClaimSeven
namespace Go.Proofs.Qxb6615582aGreatFmt
namespace Rows

/-- THE TOLD AND TIED CARD OF 'zzlaws_internal_csvfile_b1.FnReadMatchesModel'. -/
def fnReadMatchesModelCard : Claim7 := { stood := { row := fnReadMatchesModelRow, standIns := [], harness := (true, "faae30d628a5806c350d0dda6223785ec4d7ab833ead5f8617f7e5298e598d84"), looks := true }, told := true, laidByText := true, laidKinds := [.data, .handle, .sentinel, .sentinel, .listed, .sentinel, .sentinel, .sentinel, .sentinel, .sentinel, .sentinel, .pinned], laidTests := true, laidLooks := .later, goes := false }
def FnReadMatchesModelToldSaid : Prop := Claim7.holds Tryz.pinned (.plain (OpenSpec.ofChange fnReadMatchesModelSpec)) fnReadMatchesModelCard
/-- ITS FALSE NEIGHBOUR. Refute it at one input. -/
def FnReadMatchesModelToldWrongFalsely : Prop := Claim7.holds Tryz.pinned (.plain (OpenSpec.ofChange fnReadMatchesModelWrong)) fnReadMatchesModelCard

/-- THE TOLD AND TIED CARD OF 'zzlaws_internal_csvfile_b1.FnNextMatchesModel'. -/
def fnNextMatchesModelCard : Claim7 := { stood := { row := fnNextMatchesModelRow, standIns := [], harness := (true, "faae30d628a5806c350d0dda6223785ec4d7ab833ead5f8617f7e5298e598d84"), looks := true }, told := true, laidByText := true, laidKinds := [.data, .handle, .sentinel, .sentinel, .listed, .sentinel, .sentinel, .sentinel, .sentinel, .sentinel, .sentinel, .pinned], laidTests := true, laidLooks := .later, goes := false }
def FnNextMatchesModelToldSaid : Prop := Claim7.holds Tryz.pinned (.plain (OpenSpec.ofChange fnNextMatchesModelSpec)) fnNextMatchesModelCard
/-- ITS FALSE NEIGHBOUR. Refute it at one input. -/
def FnNextMatchesModelToldWrongFalsely : Prop := Claim7.holds Tryz.pinned (.plain (OpenSpec.ofChange fnNextMatchesModelWrong)) fnNextMatchesModelCard

/-- THE TOLD AND TIED CARD OF 'zzlaws_internal_csvfile_b1.FnReadIsNextFiltered'. -/
def fnReadIsNextFilteredCard : Claim7 := { stood := { row := fnReadIsNextFilteredRow, standIns := [], harness := (true, "faae30d628a5806c350d0dda6223785ec4d7ab833ead5f8617f7e5298e598d84"), looks := true }, told := true, laidByText := true, laidKinds := [.data, .handle, .sentinel, .sentinel, .listed, .sentinel, .sentinel, .sentinel, .sentinel, .sentinel, .sentinel, .pinned], laidTests := true, laidLooks := .later, goes := false }
def FnReadIsNextFilteredToldSaid : Prop := Claim7.holds Tryz.pinned (.plain (OpenSpec.ofChange fnReadIsNextFilteredSpec)) fnReadIsNextFilteredCard
/-- ITS FALSE NEIGHBOUR. Refute it at one input. -/
def FnReadIsNextFilteredToldWrongFalsely : Prop := Claim7.holds Tryz.pinned (.plain (OpenSpec.ofChange fnReadIsNextFilteredWrong)) fnReadIsNextFilteredCard

/-- THE TOLD AND TIED CARD OF 'zzlaws_internal_csvfile_b1.FnFieldErrorfOnReadLines'. -/
def fnFieldErrorfOnReadLinesCard : Claim7 := { stood := { row := fnFieldErrorfOnReadLinesRow, standIns := [], harness := (true, "faae30d628a5806c350d0dda6223785ec4d7ab833ead5f8617f7e5298e598d84"), looks := true }, told := true, laidByText := true, laidKinds := [.data, .handle, .sentinel, .sentinel, .listed, .sentinel, .sentinel, .sentinel, .sentinel, .sentinel, .sentinel, .pinned], laidTests := true, laidLooks := .later, goes := false }
def FnFieldErrorfOnReadLinesToldSaid : Prop := Claim7.holds Tryz.pinned (.plain (OpenSpec.ofChange fnFieldErrorfOnReadLinesSpec)) fnFieldErrorfOnReadLinesCard
/-- ITS FALSE NEIGHBOUR. Refute it at one input. -/
def FnFieldErrorfOnReadLinesToldWrongFalsely : Prop := Claim7.holds Tryz.pinned (.plain (OpenSpec.ofChange fnFieldErrorfOnReadLinesWrong)) fnFieldErrorfOnReadLinesCard
end Rows
end Go.Proofs.Qxb6615582aGreatFmt
