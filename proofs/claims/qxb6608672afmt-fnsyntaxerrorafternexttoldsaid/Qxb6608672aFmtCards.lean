/-
  DERIVED. GIVEN WITH THE SEED: THE CARDS: each row of Qxb6608672aFmtRows.lean that lists a variable, with what it lists TIED to the program's text (the seventh form; the later family's looks); each row that meets fmt, with fmt's text TOLD by the authors' own Lean function (tested against real Go, not proved from fmt's source: count such statements apart). THE CARD IS WHAT COUNTS. Prove the row's statement (the work); the ties are given (Qxb6608672aFmtTie.lean); close each card by the builder's one call (the guide's Derived/Test/ToyasCard.lean, 'card_holds'). Laid BY PROGRAM, IN A SANDBOX (cutbox-door.mjs). By AI agents, Wed Nov 11 2026. No macro, syntax, notation, axiom, sorry.
-/
import Derived.Test.Qxb6608672aFmtRows
import GoSem.ClaimSeven
namespace Go.Proofs.Qxb6608672aFmt
namespace Rows

/-- THE TOLD AND TIED CARD OF 'zzlaws_pkg_sql_b1.FnLexNextShift'. -/
def fnLexNextShiftCard : Claim7 := { stood := { row := fnLexNextShiftRow, standIns := [], harness := (true, "0a7a4939dfe982aa4a982c912cb17bef25cd142995b73235f217a3ca9ce0c0df"), looks := true }, told := true, laidByText := true, laidKinds := [.data, .pinned, .pinned], laidTests := true, laidLooks := .later, goes := false }
def FnLexNextShiftToldSaid : Prop := Claim7.holds Tryf.pinned (.plain (OpenSpec.ofChange fnLexNextShiftSpec)) fnLexNextShiftCard
/-- ITS FALSE NEIGHBOUR. Refute it at one input. -/
def FnLexNextShiftToldWrongFalsely : Prop := Claim7.holds Tryf.pinned (.plain (OpenSpec.ofChange fnLexNextShiftWrong)) fnLexNextShiftCard

/-- THE TOLD AND TIED CARD OF 'zzlaws_pkg_sql_b1.FnLexScanTiles'. -/
def fnLexScanTilesCard : Claim7 := { stood := { row := fnLexScanTilesRow, standIns := [], harness := (true, "0a7a4939dfe982aa4a982c912cb17bef25cd142995b73235f217a3ca9ce0c0df"), looks := true }, told := true, laidByText := true, laidKinds := [.data, .pinned, .pinned], laidTests := true, laidLooks := .later, goes := false }
def FnLexScanTilesToldSaid : Prop := Claim7.holds Tryf.pinned (.plain (OpenSpec.ofChange fnLexScanTilesSpec)) fnLexScanTilesCard
/-- ITS FALSE NEIGHBOUR. Refute it at one input. -/
def FnLexScanTilesToldWrongFalsely : Prop := Claim7.holds Tryf.pinned (.plain (OpenSpec.ofChange fnLexScanTilesWrong)) fnLexScanTilesCard

/-- THE TOLD AND TIED CARD OF 'zzlaws_pkg_sql_b1.FnSyntaxErrorAfterNext'. -/
def fnSyntaxErrorAfterNextCard : Claim7 := { stood := { row := fnSyntaxErrorAfterNextRow, standIns := [], harness := (true, "0a7a4939dfe982aa4a982c912cb17bef25cd142995b73235f217a3ca9ce0c0df"), looks := true }, told := true, laidByText := true, laidKinds := [.data, .pinned, .pinned], laidTests := true, laidLooks := .later, goes := false }
def FnSyntaxErrorAfterNextToldSaid : Prop := Claim7.holds Tryf.pinned (.plain (OpenSpec.ofChange fnSyntaxErrorAfterNextSpec)) fnSyntaxErrorAfterNextCard
/-- ITS FALSE NEIGHBOUR. Refute it at one input. -/
def FnSyntaxErrorAfterNextToldWrongFalsely : Prop := Claim7.holds Tryf.pinned (.plain (OpenSpec.ofChange fnSyntaxErrorAfterNextWrong)) fnSyntaxErrorAfterNextCard
end Rows
end Go.Proofs.Qxb6608672aFmt
