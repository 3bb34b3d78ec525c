/-
  DERIVED. GIVEN WITH THE SEED: THE CARDS: each row of Qxb6608680aFmtRows.lean that lists a variable, with what it lists TIED to the program's text (the seventh form; the later family's looks); each row that meets fmt, with fmt's text TOLD by the authors' own Lean function (tested against real Go, not proved from fmt's source: count such statements apart). THE CARD IS WHAT COUNTS. Prove the row's statement (the work); the ties are given (Qxb6608680aFmtTie.lean); close each card by the builder's one call (the guide's Derived/Test/ToyasCard.lean, 'card_holds'). Laid BY PROGRAM, IN A SANDBOX (cutbox-door.mjs). By AI agents, Wed Nov 11 2026. No macro, syntax, notation, axiom, sorry.
-/
import Derived.Test.Qxb6608680aFmtRows
import GoSem.ClaimSeven
namespace Go.Proofs.Qxb6608680aFmt
namespace Rows

/-- THE TOLD AND TIED CARD OF 'zzlaws_internal_csvfile_b1.FnCheckWordSplitsAtAnyRuneBoundary'. -/
def fnCheckWordSplitsAtAnyRuneBoundaryCard : Claim7 := { stood := { row := fnCheckWordSplitsAtAnyRuneBoundaryRow, standIns := [], harness := (true, "a0fa397358300c6de96c1ed24f188555987bd15ff984bb74eb3e80fa8150f5fe"), looks := false }, told := true, laidByText := true, laidKinds := [.data, .listed, .listed, .listed, .pinned], laidTests := true, laidLooks := .later, goes := false }
def FnCheckWordSplitsAtAnyRuneBoundaryToldSaid : Prop := Claim7.holds Tryf.pinned (.plain (OpenSpec.ofChange fnCheckWordSplitsAtAnyRuneBoundarySpec)) fnCheckWordSplitsAtAnyRuneBoundaryCard
/-- ITS FALSE NEIGHBOUR. Refute it at one input. -/
def FnCheckWordSplitsAtAnyRuneBoundaryToldWrongFalsely : Prop := Claim7.holds Tryf.pinned (.plain (OpenSpec.ofChange fnCheckWordSplitsAtAnyRuneBoundaryWrong)) fnCheckWordSplitsAtAnyRuneBoundaryCard

/-- THE TOLD AND TIED CARD OF 'zzlaws_internal_csvfile_b1.FnCheckWordOneByteBetweenWords'. -/
def fnCheckWordOneByteBetweenWordsCard : Claim7 := { stood := { row := fnCheckWordOneByteBetweenWordsRow, standIns := [], harness := (true, "a0fa397358300c6de96c1ed24f188555987bd15ff984bb74eb3e80fa8150f5fe"), looks := false }, told := true, laidByText := true, laidKinds := [.data, .listed, .listed, .listed, .pinned], laidTests := true, laidLooks := .later, goes := false }
def FnCheckWordOneByteBetweenWordsToldSaid : Prop := Claim7.holds Tryf.pinned (.plain (OpenSpec.ofChange fnCheckWordOneByteBetweenWordsSpec)) fnCheckWordOneByteBetweenWordsCard
/-- ITS FALSE NEIGHBOUR. Refute it at one input. -/
def FnCheckWordOneByteBetweenWordsToldWrongFalsely : Prop := Claim7.holds Tryf.pinned (.plain (OpenSpec.ofChange fnCheckWordOneByteBetweenWordsWrong)) fnCheckWordOneByteBetweenWordsCard
end Rows
end Go.Proofs.Qxb6608680aFmt
