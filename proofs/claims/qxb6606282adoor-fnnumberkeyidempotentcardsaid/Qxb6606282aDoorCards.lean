/-
  DERIVED. GIVEN WITH THE SEED: THE CARDS: each row of Qxb6606282aDoorRows.lean that lists a variable, with what it lists TIED to the program's text (the seventh form; the later family's looks); each row that meets fmt, with fmt's text TOLD by the authors' own Lean function (tested against real Go, not proved from fmt's source: count such statements apart). THE CARD IS WHAT COUNTS. Prove the row's statement (the work); the ties are given (Qxb6606282aDoorTie.lean); close each card by the builder's one call (the guide's Derived/Test/ToyasCard.lean, 'card_holds'). Laid BY PROGRAM, IN A SANDBOX (cutbox-door.mjs). By AI agents, Wed Nov 11 2026. No macro, syntax, notation, axiom, sorry.
-/
import Derived.Test.Qxb6606282aDoorRows
import GoSem.ClaimSeven
namespace Go.Proofs.Qxb6606282aDoor
namespace Rows

/-- THE TIED CARD OF 'zzlaws_internal_jsonvalue_b1.FnParseDecimalIgnoresTrailingFractionZeros'. -/
def fnParseDecimalIgnoresTrailingFractionZerosCard : Claim7 := { stood := { row := fnParseDecimalIgnoresTrailingFractionZerosRow, standIns := [], harness := (true, "26971ab099f2b02bb80a5563e813998599e0abc0ef4f1e1c48d3d65d29764f54"), looks := true }, kinds := [], alts := [], laidByText := true, laidKinds := [.data, .data, .data, .data, .sentinel, .sentinel, .pinned, .pinned], laidTests := true, laidLooks := .later }
def FnParseDecimalIgnoresTrailingFractionZerosCardSaid : Prop := Claim7.holds Tryd.pinned (.plain (OpenSpec.ofChange fnParseDecimalIgnoresTrailingFractionZerosSpec)) fnParseDecimalIgnoresTrailingFractionZerosCard

/-- THE TIED CARD OF 'zzlaws_internal_jsonvalue_b1.FnNumberKeyIdempotent'. -/
def fnNumberKeyIdempotentCard : Claim7 := { stood := { row := fnNumberKeyIdempotentRow, standIns := [], harness := (true, "26971ab099f2b02bb80a5563e813998599e0abc0ef4f1e1c48d3d65d29764f54"), looks := true }, kinds := [], alts := [], laidByText := true, laidKinds := [.data, .data, .data, .data, .sentinel, .sentinel, .pinned, .pinned], laidTests := true, laidLooks := .later }
def FnNumberKeyIdempotentCardSaid : Prop := Claim7.holds Tryd.pinned (.plain (OpenSpec.ofChange fnNumberKeyIdempotentSpec)) fnNumberKeyIdempotentCard

/-- THE TIED CARD OF 'zzlaws_internal_jsonvalue_b1.FnNumberKeyOneKeyForTwoSpellings'. -/
def fnNumberKeyOneKeyForTwoSpellingsCard : Claim7 := { stood := { row := fnNumberKeyOneKeyForTwoSpellingsRow, standIns := [], harness := (true, "26971ab099f2b02bb80a5563e813998599e0abc0ef4f1e1c48d3d65d29764f54"), looks := true }, kinds := [], alts := [], laidByText := true, laidKinds := [.data, .data, .data, .data, .sentinel, .sentinel, .pinned, .pinned], laidTests := true, laidLooks := .later }
def FnNumberKeyOneKeyForTwoSpellingsCardSaid : Prop := Claim7.holds Tryd.pinned (.plain (OpenSpec.ofChange fnNumberKeyOneKeyForTwoSpellingsSpec)) fnNumberKeyOneKeyForTwoSpellingsCard
end Rows
end Go.Proofs.Qxb6606282aDoor
