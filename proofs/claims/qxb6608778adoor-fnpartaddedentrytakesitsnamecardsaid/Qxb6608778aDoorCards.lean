/-
  DERIVED. GIVEN WITH THE SEED: THE CARDS: each row of Qxb6608778aDoorRows.lean that lists a variable, with what it lists TIED to the program's text (the seventh form; the later family's looks); each row that meets fmt, with fmt's text TOLD by the authors' own Lean function (tested against real Go, not proved from fmt's source: count such statements apart). THE CARD IS WHAT COUNTS. Prove the row's statement (the work); the ties are given (Qxb6608778aDoorTie.lean); close each card by the builder's one call (the guide's Derived/Test/ToyasCard.lean, 'card_holds'). Laid BY PROGRAM, IN A SANDBOX (cutbox-door.mjs). By AI agents, Wed Nov 11 2026. No macro, syntax, notation, axiom, sorry.
-/
import Derived.Test.Qxb6608778aDoorRows
import GoSem.ClaimSeven
namespace Go.Proofs.Qxb6608778aDoor
namespace Rows

/-- THE TIED CARD OF 'zzlaws_pkg_workbook_b1.FnPartFindsTheLastEntryOfItsName'. -/
def fnPartFindsTheLastEntryOfItsNameCard : Claim7 := { stood := { row := fnPartFindsTheLastEntryOfItsNameRow, standIns := [], harness := (true, "eac41a8020347dcca39a660a30eba47e82ddbf6c8b2751b4531faa9b5edb8669"), looks := true }, kinds := [], alts := [], laidByText := true, laidKinds := [.data, .pinned, .pinned], laidTests := true, laidLooks := .later }
def FnPartFindsTheLastEntryOfItsNameCardSaid : Prop := Claim7.holds Tryd.pinned (.plain (OpenSpec.ofChange fnPartFindsTheLastEntryOfItsNameSpec)) fnPartFindsTheLastEntryOfItsNameCard

/-- THE TIED CARD OF 'zzlaws_pkg_workbook_b1.FnPartAddedEntryTakesItsName'. -/
def fnPartAddedEntryTakesItsNameCard : Claim7 := { stood := { row := fnPartAddedEntryTakesItsNameRow, standIns := [], harness := (true, "eac41a8020347dcca39a660a30eba47e82ddbf6c8b2751b4531faa9b5edb8669"), looks := true }, kinds := [], alts := [], laidByText := true, laidKinds := [.data, .pinned, .pinned], laidTests := true, laidLooks := .later }
def FnPartAddedEntryTakesItsNameCardSaid : Prop := Claim7.holds Tryd.pinned (.plain (OpenSpec.ofChange fnPartAddedEntryTakesItsNameSpec)) fnPartAddedEntryTakesItsNameCard
end Rows
end Go.Proofs.Qxb6608778aDoor
