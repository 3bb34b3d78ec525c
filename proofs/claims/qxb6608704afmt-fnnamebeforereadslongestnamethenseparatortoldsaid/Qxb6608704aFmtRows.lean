/-
  NARROWER THAN 'FOR EVERY INPUT', by the rows' own cells (each row's printed sentence says how): FnNameBeforeReadsLongestNameThenSeparator: laid · FnNameBeforeErrorStandsWhereReaderStops: laid.
  DERIVED. THE GIVEN ROWS OF THIS SEAT. 2 by the template 'for every input the law returns true; each argument reads behind the call as it read before'; 0 by the template 'total and deterministic' (their statements: Qxb6608704aFmtTotals.lean).
  GIVEN WITH THE SEED: the statements are not yours to turn. If you find one false, say at which input.
  Laid BY PROGRAM, IN A SANDBOX (cutbox-rows.mjs): the forced cells as the released guide's own fill.sh prints them over the translation 6a5c110fa8d875dc… (all of the seat's roots in one cut). By AI agents, Wed Nov 11 2026. No macro, syntax, notation, axiom, sorry.
-/
import Derived.Test.Qxb6608704aFmtChecked
import GoSem.PinnedTables
import GoSem.Claim
import GoSem.ClaimJoined
import GoSem.ClaimMapViews
import Derived.JoinedTies
import Derived.KernelRfl
namespace Go.Proofs.Qxb6608704aFmt
/- THE CELL 'sum', in the pinned program and in every row, IS THE sha256 OF THE DUMP (.gsa) THAT Qxb6608704aFmtProg.lean LOADS. Nothing in Lean hashes anything: it is a label: what it is worth is what the hold of that sum in a sandbox is worth. -/
noncomputable def Tryf.pinned : Pinned := { name := "qxb6608704afmt", sum := "6a5c110fa8d875dc9fbe141f0d5677d3ca3545849ade30c4e07a4a4f0582a6bf", checked := Tryf.checked }
namespace Rows
def none {H : Type} : Left H := { results := [], args := [] }

/- WHAT THE LISTED PACKAGE-LEVEL VARIABLES READ AS WHEN THE CALL BEGINS. Each datum BY PROGRAM (the guide's laid-datum.mjs) off the statement by which the dump's own 'gosem.cut.vars' lays the variable. In a bare row this is a premise. The card (Qxb6608704aFmtCards.lean) ties it to the program's text. -/
def laid_unicode_utf8_acceptRanges {H : Type} : DataW H := .agg [.agg [.lit (.int .u8 128), .lit (.int .u8 191)], .agg [.lit (.int .u8 160), .lit (.int .u8 191)], .agg [.lit (.int .u8 128), .lit (.int .u8 159)], .agg [.lit (.int .u8 144), .lit (.int .u8 191)], .agg [.lit (.int .u8 128), .lit (.int .u8 143)], .agg [.lit (.int .u8 0), .lit (.int .u8 0)], .agg [.lit (.int .u8 0), .lit (.int .u8 0)], .agg [.lit (.int .u8 0), .lit (.int .u8 0)], .agg [.lit (.int .u8 0), .lit (.int .u8 0)], .agg [.lit (.int .u8 0), .lit (.int .u8 0)], .agg [.lit (.int .u8 0), .lit (.int .u8 0)], .agg [.lit (.int .u8 0), .lit (.int .u8 0)], .agg [.lit (.int .u8 0), .lit (.int .u8 0)], .agg [.lit (.int .u8 0), .lit (.int .u8 0)], .agg [.lit (.int .u8 0), .lit (.int .u8 0)], .agg [.lit (.int .u8 0), .lit (.int .u8 0)]]
/-- One of Go's own tables, pinned by name: the form's constant. -/
def laid_unicode_utf8_first : DataW Unit := Go.Pinned.utf8First

/-- 'zzlaws_internal_config_b1.FnNameBeforeReadsLongestNameThenSeparator': WHATEVER THE INPUT: true; the input reads as it did. -/
def fnNameBeforeReadsLongestNameThenSeparatorSpec : ChangeSpec := { name := "fnNameBeforeReadsLongestNameThenSeparator", fn := fun _ => fun
  | [d1, d2, d3, d4, d5] => { results := [.lit (.bool true)], args := [d1, d2, d3, d4, d5] }
  | _ => none }
def fnNameBeforeReadsLongestNameThenSeparatorRow : OpenClaim := { program := "qxb6608704afmt", sum := "6a5c110fa8d875dc9fbe141f0d5677d3ca3545849ade30c4e07a4a4f0582a6bf", func := "example.com/sluice/sluice/zzlaws_internal_config_b1.FnNameBeforeReadsLongestNameThenSeparator", spec := "fnNameBeforeReadsLongestNameThenSeparator", stops := ["fmt.errorf, its operands' methods called", "fmt.Sprintf"], inPlace := ["fmt.errorf"], unfollowed := true, recurses := true, named := ["unicode/utf8.first", "unicode/utf8.acceptRanges"], apart := false, laid := [("unicode/utf8.acceptRanges", laid_unicode_utf8_acceptRanges), ("unicode/utf8.first", laid_unicode_utf8_first)] }
/-- NO THEOREM (fmt's text is open here; it may be false): for the released tool's asking of the row's closed facts alone. THE STATEMENT IS 'FnNameBeforeReadsLongestNameThenSeparatorToldSaid' (Qxb6608704aFmtCards.lean). -/
def FnNameBeforeReadsLongestNameThenSeparatorFormAsk : Prop := fnNameBeforeReadsLongestNameThenSeparatorRow.holds Tryf.pinned (OpenSpec.ofChange fnNameBeforeReadsLongestNameThenSeparatorSpec)

/-- ITS FALSE NEIGHBOUR: 'it returns false'. Refute it at one input. -/
def fnNameBeforeReadsLongestNameThenSeparatorWrong : ChangeSpec := { name := "fnNameBeforeReadsLongestNameThenSeparator", fn := fun _ => fun
  | [d1, d2, d3, d4, d5] => { results := [.lit (.bool false)], args := [d1, d2, d3, d4, d5] }
  | _ => none }
def FnNameBeforeReadsLongestNameThenSeparatorWrongFormAsk : Prop := fnNameBeforeReadsLongestNameThenSeparatorRow.holds Tryf.pinned (OpenSpec.ofChange fnNameBeforeReadsLongestNameThenSeparatorWrong)

/-- 'zzlaws_internal_config_b1.FnNameBeforeErrorStandsWhereReaderStops': WHATEVER THE INPUT: true; the input reads as it did. -/
def fnNameBeforeErrorStandsWhereReaderStopsSpec : ChangeSpec := { name := "fnNameBeforeErrorStandsWhereReaderStops", fn := fun _ => fun
  | [d1, d2, d3, d4, d5] => { results := [.lit (.bool true)], args := [d1, d2, d3, d4, d5] }
  | _ => none }
def fnNameBeforeErrorStandsWhereReaderStopsRow : OpenClaim := { program := "qxb6608704afmt", sum := "6a5c110fa8d875dc9fbe141f0d5677d3ca3545849ade30c4e07a4a4f0582a6bf", func := "example.com/sluice/sluice/zzlaws_internal_config_b1.FnNameBeforeErrorStandsWhereReaderStops", spec := "fnNameBeforeErrorStandsWhereReaderStops", stops := ["fmt.errorf, its operands' methods called", "fmt.Sprintf"], inPlace := ["fmt.errorf"], unfollowed := true, recurses := true, named := ["unicode/utf8.first", "unicode/utf8.acceptRanges"], apart := false, laid := [("unicode/utf8.acceptRanges", laid_unicode_utf8_acceptRanges), ("unicode/utf8.first", laid_unicode_utf8_first)] }
/-- NO THEOREM (fmt's text is open here; it may be false): for the released tool's asking of the row's closed facts alone. THE STATEMENT IS 'FnNameBeforeErrorStandsWhereReaderStopsToldSaid' (Qxb6608704aFmtCards.lean). -/
def FnNameBeforeErrorStandsWhereReaderStopsFormAsk : Prop := fnNameBeforeErrorStandsWhereReaderStopsRow.holds Tryf.pinned (OpenSpec.ofChange fnNameBeforeErrorStandsWhereReaderStopsSpec)

/-- ITS FALSE NEIGHBOUR: 'it returns false'. Refute it at one input. -/
def fnNameBeforeErrorStandsWhereReaderStopsWrong : ChangeSpec := { name := "fnNameBeforeErrorStandsWhereReaderStops", fn := fun _ => fun
  | [d1, d2, d3, d4, d5] => { results := [.lit (.bool false)], args := [d1, d2, d3, d4, d5] }
  | _ => none }
def FnNameBeforeErrorStandsWhereReaderStopsWrongFormAsk : Prop := fnNameBeforeErrorStandsWhereReaderStopsRow.holds Tryf.pinned (OpenSpec.ofChange fnNameBeforeErrorStandsWhereReaderStopsWrong)

end Rows
end Go.Proofs.Qxb6608704aFmt
