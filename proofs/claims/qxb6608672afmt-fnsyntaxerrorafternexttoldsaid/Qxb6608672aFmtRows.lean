/-
  NARROWER THAN 'FOR EVERY INPUT', by the rows' own cells (each row's printed sentence says how): FnLexNextShift: laid · FnLexScanTiles: laid · FnSyntaxErrorAfterNext: laid.
  DERIVED. THE GIVEN ROWS OF THIS SEAT. 3 by the template 'for every input the law returns true; each argument reads behind the call as it read before'; 0 by the template 'total and deterministic' (their statements: Qxb6608672aFmtTotals.lean).
  GIVEN WITH THE SEED: the statements are not yours to turn. If you find one false, say at which input.
  Laid BY PROGRAM, IN A SANDBOX (cutbox-rows.mjs): the forced cells as the released guide's own fill.sh prints them over the translation d8d6c852d4ea2140… (all of the seat's roots in one cut). By AI agents, Wed Nov 11 2026. No macro, syntax, notation, axiom, sorry.
-/
import Derived.Test.Qxb6608672aFmtChecked
import GoSem.PinnedTables
import GoSem.Claim
import GoSem.ClaimJoined
import GoSem.ClaimMapViews
import Derived.JoinedTies
import Derived.KernelRfl
namespace Go.Proofs.Qxb6608672aFmt
/- THE CELL 'sum', in the pinned program and in every row, IS THE sha256 OF THE DUMP (.gsa) THAT Qxb6608672aFmtProg.lean LOADS. Nothing in Lean hashes anything: it is a label: what it is worth is what the hold of that sum in a sandbox is worth. -/
noncomputable def Tryf.pinned : Pinned := { name := "qxb6608672afmt", sum := "d8d6c852d4ea21401666d838990af42f23cb29df8c8d0196db158ac656dc1ff3", checked := Tryf.checked }
namespace Rows
def none {H : Type} : Left H := { results := [], args := [] }

/- WHAT THE LISTED PACKAGE-LEVEL VARIABLES READ AS WHEN THE CALL BEGINS. Each datum BY PROGRAM (the guide's laid-datum.mjs) off the statement by which the dump's own 'gosem.cut.vars' lays the variable. In a bare row this is a premise. The card (Qxb6608672aFmtCards.lean) ties it to the program's text. -/
def laid_unicode_utf8_acceptRanges {H : Type} : DataW H := .agg [.agg [.lit (.int .u8 128), .lit (.int .u8 191)], .agg [.lit (.int .u8 160), .lit (.int .u8 191)], .agg [.lit (.int .u8 128), .lit (.int .u8 159)], .agg [.lit (.int .u8 144), .lit (.int .u8 191)], .agg [.lit (.int .u8 128), .lit (.int .u8 143)], .agg [.lit (.int .u8 0), .lit (.int .u8 0)], .agg [.lit (.int .u8 0), .lit (.int .u8 0)], .agg [.lit (.int .u8 0), .lit (.int .u8 0)], .agg [.lit (.int .u8 0), .lit (.int .u8 0)], .agg [.lit (.int .u8 0), .lit (.int .u8 0)], .agg [.lit (.int .u8 0), .lit (.int .u8 0)], .agg [.lit (.int .u8 0), .lit (.int .u8 0)], .agg [.lit (.int .u8 0), .lit (.int .u8 0)], .agg [.lit (.int .u8 0), .lit (.int .u8 0)], .agg [.lit (.int .u8 0), .lit (.int .u8 0)], .agg [.lit (.int .u8 0), .lit (.int .u8 0)]]
/-- One of Go's own tables, pinned by name: the form's constant. -/
def laid_unicode_CaseRanges : DataW Unit := Go.Pinned.caseRanges
/-- One of Go's own tables, pinned by name: the form's constant. -/
def laid_unicode_utf8_first : DataW Unit := Go.Pinned.utf8First

/-- 'zzlaws_pkg_sql_b1.FnLexNextShift': WHATEVER THE INPUT: true; the input reads as it did. -/
def fnLexNextShiftSpec : ChangeSpec := { name := "fnLexNextShift", fn := fun _ => fun
  | [d1, d2, d3] => { results := [.lit (.bool true)], args := [d1, d2, d3] }
  | _ => none }
def fnLexNextShiftRow : OpenClaim := { program := "qxb6608672afmt", sum := "d8d6c852d4ea21401666d838990af42f23cb29df8c8d0196db158ac656dc1ff3", func := "example.com/tabulon/tabulon/zzlaws_pkg_sql_b1.FnLexNextShift", spec := "fnLexNextShift", stops := ["fmt.Sprintf, its operands' methods called"], inPlace := ["internal/bytealg.IndexByteString", "internal/bytealg.IndexString", "fmt.Sprintf", "internal/abi.NoEscape", "internal/bytealg.MakeNoZero"], unfollowed := true, recurses := true, named := ["unicode/utf8.first", "unicode/utf8.acceptRanges", "unicode.CaseRanges", "internal/bytealg.MaxLen"], apart := false, laid := [("unicode/utf8.acceptRanges", laid_unicode_utf8_acceptRanges), ("unicode.CaseRanges", laid_unicode_CaseRanges), ("unicode/utf8.first", laid_unicode_utf8_first)] }
/-- NO THEOREM (fmt's text is open here; it may be false): for the released tool's asking of the row's closed facts alone. THE STATEMENT IS 'FnLexNextShiftToldSaid' (Qxb6608672aFmtCards.lean). -/
def FnLexNextShiftFormAsk : Prop := fnLexNextShiftRow.holds Tryf.pinned (OpenSpec.ofChange fnLexNextShiftSpec)

/-- ITS FALSE NEIGHBOUR: 'it returns false'. Refute it at one input. -/
def fnLexNextShiftWrong : ChangeSpec := { name := "fnLexNextShift", fn := fun _ => fun
  | [d1, d2, d3] => { results := [.lit (.bool false)], args := [d1, d2, d3] }
  | _ => none }
def FnLexNextShiftWrongFormAsk : Prop := fnLexNextShiftRow.holds Tryf.pinned (OpenSpec.ofChange fnLexNextShiftWrong)

/-- 'zzlaws_pkg_sql_b1.FnLexScanTiles': WHATEVER THE INPUT: true; the input reads as it did. -/
def fnLexScanTilesSpec : ChangeSpec := { name := "fnLexScanTiles", fn := fun _ => fun
  | [d1, d2] => { results := [.lit (.bool true)], args := [d1, d2] }
  | _ => none }
def fnLexScanTilesRow : OpenClaim := { program := "qxb6608672afmt", sum := "d8d6c852d4ea21401666d838990af42f23cb29df8c8d0196db158ac656dc1ff3", func := "example.com/tabulon/tabulon/zzlaws_pkg_sql_b1.FnLexScanTiles", spec := "fnLexScanTiles", stops := ["fmt.Sprintf, its operands' methods called"], inPlace := ["internal/bytealg.IndexByteString", "internal/bytealg.IndexString", "fmt.Sprintf", "internal/abi.NoEscape", "internal/bytealg.MakeNoZero"], unfollowed := true, recurses := true, named := ["unicode/utf8.first", "unicode/utf8.acceptRanges", "unicode.CaseRanges", "internal/bytealg.MaxLen"], apart := false, laid := [("unicode/utf8.acceptRanges", laid_unicode_utf8_acceptRanges), ("unicode.CaseRanges", laid_unicode_CaseRanges), ("unicode/utf8.first", laid_unicode_utf8_first)] }
/-- NO THEOREM (fmt's text is open here; it may be false): for the released tool's asking of the row's closed facts alone. THE STATEMENT IS 'FnLexScanTilesToldSaid' (Qxb6608672aFmtCards.lean). -/
def FnLexScanTilesFormAsk : Prop := fnLexScanTilesRow.holds Tryf.pinned (OpenSpec.ofChange fnLexScanTilesSpec)

/-- ITS FALSE NEIGHBOUR: 'it returns false'. Refute it at one input. -/
def fnLexScanTilesWrong : ChangeSpec := { name := "fnLexScanTiles", fn := fun _ => fun
  | [d1, d2] => { results := [.lit (.bool false)], args := [d1, d2] }
  | _ => none }
def FnLexScanTilesWrongFormAsk : Prop := fnLexScanTilesRow.holds Tryf.pinned (OpenSpec.ofChange fnLexScanTilesWrong)

/-- 'zzlaws_pkg_sql_b1.FnSyntaxErrorAfterNext': WHATEVER THE INPUT: true; the input reads as it did. -/
def fnSyntaxErrorAfterNextSpec : ChangeSpec := { name := "fnSyntaxErrorAfterNext", fn := fun _ => fun
  | [d1, d2] => { results := [.lit (.bool true)], args := [d1, d2] }
  | _ => none }
def fnSyntaxErrorAfterNextRow : OpenClaim := { program := "qxb6608672afmt", sum := "d8d6c852d4ea21401666d838990af42f23cb29df8c8d0196db158ac656dc1ff3", func := "example.com/tabulon/tabulon/zzlaws_pkg_sql_b1.FnSyntaxErrorAfterNext", spec := "fnSyntaxErrorAfterNext", stops := ["fmt.Sprintf, its operands' methods called"], inPlace := ["internal/bytealg.IndexByteString", "internal/bytealg.IndexString", "fmt.Sprintf", "internal/abi.NoEscape", "internal/bytealg.MakeNoZero"], unfollowed := true, recurses := true, named := ["unicode/utf8.first", "unicode/utf8.acceptRanges", "unicode.CaseRanges", "internal/bytealg.MaxLen"], apart := false, laid := [("unicode/utf8.acceptRanges", laid_unicode_utf8_acceptRanges), ("unicode.CaseRanges", laid_unicode_CaseRanges), ("unicode/utf8.first", laid_unicode_utf8_first)] }
/-- NO THEOREM (fmt's text is open here; it may be false): for the released tool's asking of the row's closed facts alone. THE STATEMENT IS 'FnSyntaxErrorAfterNextToldSaid' (Qxb6608672aFmtCards.lean). -/
def FnSyntaxErrorAfterNextFormAsk : Prop := fnSyntaxErrorAfterNextRow.holds Tryf.pinned (OpenSpec.ofChange fnSyntaxErrorAfterNextSpec)

/-- ITS FALSE NEIGHBOUR: 'it returns false'. Refute it at one input. -/
def fnSyntaxErrorAfterNextWrong : ChangeSpec := { name := "fnSyntaxErrorAfterNext", fn := fun _ => fun
  | [d1, d2] => { results := [.lit (.bool false)], args := [d1, d2] }
  | _ => none }
def FnSyntaxErrorAfterNextWrongFormAsk : Prop := fnSyntaxErrorAfterNextRow.holds Tryf.pinned (OpenSpec.ofChange fnSyntaxErrorAfterNextWrong)

end Rows
end Go.Proofs.Qxb6608672aFmt
