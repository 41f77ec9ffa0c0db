/-
  DERIVED. GIVEN WITH THE SEED: THE CARDS: each row of Qxb6609094aDoorRows.lean that lists a variable, with what it lists TIED to the program's text (the seventh form; the later family's looks); each row that meets fmt, with fmt's text TOLD by the authors' own Lean function (tested against real Go, not proved from fmt's source: count such statements apart). THE CARD IS WHAT COUNTS. Prove the row's statement (the work); the ties are given (Qxb6609094aDoorTie.lean); close each card by the builder's one call (the guide's Derived/Test/ToyasCard.lean, 'card_holds'). Laid BY PROGRAM, IN A SANDBOX (cutbox-door.mjs). By AI agents, Wed Nov 11 2026. No macro, syntax, notation, axiom, sorry.
-/
import Derived.Test.Qxb6609094aDoorRows
import GoSem.ClaimSeven
namespace Go.Proofs.Qxb6609094aDoor
namespace Rows

/-- THE TIED CARD OF 'zzlaws_internal_report_b1.FnDecimalStringReadsBackAndNegates'. -/
def fnDecimalStringReadsBackAndNegatesCard : Claim7 := { stood := { row := fnDecimalStringReadsBackAndNegatesRow, standIns := [], harness := (true, "fbcfd0784b08f7bc705d54f47693baa83d3ff11d65dd0bf39f3f98e1d7c13e5f"), looks := false }, kinds := [], alts := [], laidByText := true, laidKinds := [.data, .data, .data], laidTests := true, laidLooks := .later }
def FnDecimalStringReadsBackAndNegatesCardSaid : Prop := Claim7.holds Tryd.pinned (.plain (OpenSpec.ofChange fnDecimalStringReadsBackAndNegatesSpec)) fnDecimalStringReadsBackAndNegatesCard

/-- THE TIED CARD OF 'zzlaws_internal_report_b1.FnDecimalStringTellsNumbersApart'. -/
def fnDecimalStringTellsNumbersApartCard : Claim7 := { stood := { row := fnDecimalStringTellsNumbersApartRow, standIns := [], harness := (true, "fbcfd0784b08f7bc705d54f47693baa83d3ff11d65dd0bf39f3f98e1d7c13e5f"), looks := false }, kinds := [], alts := [], laidByText := true, laidKinds := [.data, .data, .data], laidTests := true, laidLooks := .later }
def FnDecimalStringTellsNumbersApartCardSaid : Prop := Claim7.holds Tryd.pinned (.plain (OpenSpec.ofChange fnDecimalStringTellsNumbersApartSpec)) fnDecimalStringTellsNumbersApartCard

/-- THE TIED CARD OF 'zzlaws_internal_report_b1.FnPerKCellOfJoinedFigures'. -/
def fnPerKCellOfJoinedFiguresCard : Claim7 := { stood := { row := fnPerKCellOfJoinedFiguresRow, standIns := [], harness := (true, "fbcfd0784b08f7bc705d54f47693baa83d3ff11d65dd0bf39f3f98e1d7c13e5f"), looks := false }, kinds := [], alts := [], laidByText := true, laidKinds := [.data, .data, .data, .data, .pinned, .pinned], laidTests := true, laidLooks := .later }
def FnPerKCellOfJoinedFiguresCardSaid : Prop := Claim7.holds Tryd.pinned (.plain (OpenSpec.ofChange fnPerKCellOfJoinedFiguresSpec)) fnPerKCellOfJoinedFiguresCard

/-- THE TIED CARD OF 'zzlaws_internal_report_b1.FnPerKCellOfNegatedFigures'. -/
def fnPerKCellOfNegatedFiguresCard : Claim7 := { stood := { row := fnPerKCellOfNegatedFiguresRow, standIns := [], harness := (true, "fbcfd0784b08f7bc705d54f47693baa83d3ff11d65dd0bf39f3f98e1d7c13e5f"), looks := false }, kinds := [], alts := [], laidByText := true, laidKinds := [.data, .data, .data, .data, .pinned, .pinned], laidTests := true, laidLooks := .later }
def FnPerKCellOfNegatedFiguresCardSaid : Prop := Claim7.holds Tryd.pinned (.plain (OpenSpec.ofChange fnPerKCellOfNegatedFiguresSpec)) fnPerKCellOfNegatedFiguresCard
end Rows
end Go.Proofs.Qxb6609094aDoor
