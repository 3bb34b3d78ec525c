/-
  DERIVED. GIVEN WITH THE SEED: THE CARDS: each row of Qxb6608704aFmtRows.lean that lists a variable, with what it lists TIED to the program's text (the seventh form; the later family's looks); each row that meets fmt, with fmt's text TOLD by the authors' own Lean function (tested against real Go, not proved from fmt's source: count such statements apart). THE CARD IS WHAT COUNTS. Prove the row's statement (the work); the ties are given (Qxb6608704aFmtTie.lean); close each card by the builder's one call (the guide's Derived/Test/ToyasCard.lean, 'card_holds'). Laid BY PROGRAM, IN A SANDBOX (cutbox-door.mjs). By AI agents, Wed Nov 11 2026. No macro, syntax, notation, axiom, sorry.
-/
import Derived.Test.Qxb6608704aFmtRows
import GoSem.ClaimSeven
namespace Go.Proofs.Qxb6608704aFmt
namespace Rows

/-- THE TOLD AND TIED CARD OF 'zzlaws_internal_config_b1.FnNameBeforeReadsLongestNameThenSeparator'. -/
def fnNameBeforeReadsLongestNameThenSeparatorCard : Claim7 := { stood := { row := fnNameBeforeReadsLongestNameThenSeparatorRow, standIns := [], harness := (true, "adbc3cd59aa3aaad70173b249be3f438124abdacdb367987aefed26389a152ee"), looks := true }, told := true, laidByText := true, laidKinds := [.data, .pinned], laidTests := true, laidLooks := .later, goes := false }
def FnNameBeforeReadsLongestNameThenSeparatorToldSaid : Prop := Claim7.holds Tryf.pinned (.plain (OpenSpec.ofChange fnNameBeforeReadsLongestNameThenSeparatorSpec)) fnNameBeforeReadsLongestNameThenSeparatorCard
/-- ITS FALSE NEIGHBOUR. Refute it at one input. -/
def FnNameBeforeReadsLongestNameThenSeparatorToldWrongFalsely : Prop := Claim7.holds Tryf.pinned (.plain (OpenSpec.ofChange fnNameBeforeReadsLongestNameThenSeparatorWrong)) fnNameBeforeReadsLongestNameThenSeparatorCard

/-- THE TOLD AND TIED CARD OF 'zzlaws_internal_config_b1.FnNameBeforeErrorStandsWhereReaderStops'. -/
def fnNameBeforeErrorStandsWhereReaderStopsCard : Claim7 := { stood := { row := fnNameBeforeErrorStandsWhereReaderStopsRow, standIns := [], harness := (true, "adbc3cd59aa3aaad70173b249be3f438124abdacdb367987aefed26389a152ee"), looks := true }, told := true, laidByText := true, laidKinds := [.data, .pinned], laidTests := true, laidLooks := .later, goes := false }
def FnNameBeforeErrorStandsWhereReaderStopsToldSaid : Prop := Claim7.holds Tryf.pinned (.plain (OpenSpec.ofChange fnNameBeforeErrorStandsWhereReaderStopsSpec)) fnNameBeforeErrorStandsWhereReaderStopsCard
/-- ITS FALSE NEIGHBOUR. Refute it at one input. -/
def FnNameBeforeErrorStandsWhereReaderStopsToldWrongFalsely : Prop := Claim7.holds Tryf.pinned (.plain (OpenSpec.ofChange fnNameBeforeErrorStandsWhereReaderStopsWrong)) fnNameBeforeErrorStandsWhereReaderStopsCard
end Rows
end Go.Proofs.Qxb6608704aFmt
