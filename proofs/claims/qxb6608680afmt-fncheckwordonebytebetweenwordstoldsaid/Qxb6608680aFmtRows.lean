/-
  NARROWER THAN 'FOR EVERY INPUT', by the rows' own cells (each row's printed sentence says how): FnCheckWordSplitsAtAnyRuneBoundary: laid · FnCheckWordOneByteBetweenWords: laid.
  DERIVED. THE GIVEN ROWS OF THIS SEAT. 2 by the template 'for every input the law returns true; each argument reads behind the call as it read before'; 0 by the template 'total and deterministic' (their statements: Qxb6608680aFmtTotals.lean).
  GIVEN WITH THE SEED: the statements are not yours to turn. If you find one false, say at which input.
  Laid BY PROGRAM, IN A SANDBOX (cutbox-rows.mjs): the forced cells as the released guide's own fill.sh prints them over the translation 8b083d72d1959a88… (all of the seat's roots in one cut). By AI agents, Wed Nov 11 2026. No macro, syntax, notation, axiom, sorry.
-/
import Derived.Test.Qxb6608680aFmtChecked
import GoSem.PinnedTables
import GoSem.Claim
import GoSem.ClaimJoined
import GoSem.ClaimMapViews
import Derived.JoinedTies
import Derived.KernelRfl
namespace Go.Proofs.Qxb6608680aFmt
/- THE CELL 'sum', in the pinned program and in every row, IS THE sha256 OF THE DUMP (.gsa) THAT Qxb6608680aFmtProg.lean LOADS. Nothing in Lean hashes anything: it is a label: what it is worth is what the hold of that sum in a sandbox is worth. -/
noncomputable def Tryf.pinned : Pinned := { name := "qxb6608680afmt", sum := "8b083d72d1959a88644848b1d298f3b0b251880e1afb0c3b50a87ea7d71cb264", checked := Tryf.checked }
namespace Rows
def none {H : Type} : Left H := { results := [], args := [] }

/- WHAT THE LISTED PACKAGE-LEVEL VARIABLES READ AS WHEN THE CALL BEGINS. Each datum BY PROGRAM (the guide's laid-datum.mjs) off the statement by which the dump's own 'gosem.cut.vars' lays the variable. In a bare row this is a premise. The card (Qxb6608680aFmtCards.lean) ties it to the program's text. -/
def laid_unicode_utf8_acceptRanges {H : Type} : DataW H := .agg [.agg [.lit (.int .u8 128), .lit (.int .u8 191)], .agg [.lit (.int .u8 160), .lit (.int .u8 191)], .agg [.lit (.int .u8 128), .lit (.int .u8 159)], .agg [.lit (.int .u8 144), .lit (.int .u8 191)], .agg [.lit (.int .u8 128), .lit (.int .u8 143)], .agg [.lit (.int .u8 0), .lit (.int .u8 0)], .agg [.lit (.int .u8 0), .lit (.int .u8 0)], .agg [.lit (.int .u8 0), .lit (.int .u8 0)], .agg [.lit (.int .u8 0), .lit (.int .u8 0)], .agg [.lit (.int .u8 0), .lit (.int .u8 0)], .agg [.lit (.int .u8 0), .lit (.int .u8 0)], .agg [.lit (.int .u8 0), .lit (.int .u8 0)], .agg [.lit (.int .u8 0), .lit (.int .u8 0)], .agg [.lit (.int .u8 0), .lit (.int .u8 0)], .agg [.lit (.int .u8 0), .lit (.int .u8 0)], .agg [.lit (.int .u8 0), .lit (.int .u8 0)]]
def laid_unicode_Cc {H : Type} : DataW H := .ptr (.agg [.slice [.agg [.lit (.int .u16 0), .lit (.int .u16 31), .lit (.int .u16 1)], .agg [.lit (.int .u16 127), .lit (.int .u16 159), .lit (.int .u16 1)]] [], .nil, .lit (.int .i64 2)])
def laid_unicode_Cf {H : Type} : DataW H := .ptr (.agg [.slice [.agg [.lit (.int .u16 173), .lit (.int .u16 1536), .lit (.int .u16 1363)], .agg [.lit (.int .u16 1537), .lit (.int .u16 1541), .lit (.int .u16 1)], .agg [.lit (.int .u16 1564), .lit (.int .u16 1757), .lit (.int .u16 193)], .agg [.lit (.int .u16 1807), .lit (.int .u16 2192), .lit (.int .u16 385)], .agg [.lit (.int .u16 2193), .lit (.int .u16 2274), .lit (.int .u16 81)], .agg [.lit (.int .u16 6158), .lit (.int .u16 8203), .lit (.int .u16 2045)], .agg [.lit (.int .u16 8204), .lit (.int .u16 8207), .lit (.int .u16 1)], .agg [.lit (.int .u16 8234), .lit (.int .u16 8238), .lit (.int .u16 1)], .agg [.lit (.int .u16 8288), .lit (.int .u16 8292), .lit (.int .u16 1)], .agg [.lit (.int .u16 8294), .lit (.int .u16 8303), .lit (.int .u16 1)], .agg [.lit (.int .u16 65279), .lit (.int .u16 65529), .lit (.int .u16 250)], .agg [.lit (.int .u16 65530), .lit (.int .u16 65531), .lit (.int .u16 1)]] [], .slice [.agg [.lit (.int .u32 69821), .lit (.int .u32 69837), .lit (.int .u32 16)], .agg [.lit (.int .u32 78896), .lit (.int .u32 78911), .lit (.int .u32 1)], .agg [.lit (.int .u32 113824), .lit (.int .u32 113827), .lit (.int .u32 1)], .agg [.lit (.int .u32 119155), .lit (.int .u32 119162), .lit (.int .u32 1)], .agg [.lit (.int .u32 917505), .lit (.int .u32 917536), .lit (.int .u32 31)], .agg [.lit (.int .u32 917537), .lit (.int .u32 917631), .lit (.int .u32 1)]] [], .lit (.int .i64 0)])
def laid_unicode_White_Space {H : Type} : DataW H := .ptr (.agg [.slice [.agg [.lit (.int .u16 9), .lit (.int .u16 13), .lit (.int .u16 1)], .agg [.lit (.int .u16 32), .lit (.int .u16 133), .lit (.int .u16 101)], .agg [.lit (.int .u16 160), .lit (.int .u16 5760), .lit (.int .u16 5600)], .agg [.lit (.int .u16 8192), .lit (.int .u16 8202), .lit (.int .u16 1)], .agg [.lit (.int .u16 8232), .lit (.int .u16 8233), .lit (.int .u16 1)], .agg [.lit (.int .u16 8239), .lit (.int .u16 8287), .lit (.int .u16 48)], .agg [.lit (.int .u16 12288), .lit (.int .u16 12288), .lit (.int .u16 1)]] [], .nil, .lit (.int .i64 2)])
/-- One of Go's own tables, pinned by name: the form's constant. -/
def laid_unicode_utf8_first : DataW Unit := Go.Pinned.utf8First

/-- 'zzlaws_internal_csvfile_b1.FnCheckWordSplitsAtAnyRuneBoundary': WHATEVER THE INPUT: true; the input reads as it did. -/
def fnCheckWordSplitsAtAnyRuneBoundarySpec : ChangeSpec := { name := "fnCheckWordSplitsAtAnyRuneBoundary", fn := fun _ => fun
  | [d1, d2] => { results := [.lit (.bool true)], args := [d1, d2] }
  | _ => none }
def fnCheckWordSplitsAtAnyRuneBoundaryRow : OpenClaim := { program := "qxb6608680afmt", sum := "8b083d72d1959a88644848b1d298f3b0b251880e1afb0c3b50a87ea7d71cb264", func := "example.com/chigu/chigu/zzlaws_internal_csvfile_b1.FnCheckWordSplitsAtAnyRuneBoundary", spec := "fnCheckWordSplitsAtAnyRuneBoundary", stops := ["fmt.errorf"], inPlace := ["fmt.errorf"], unfollowed := true, recurses := true, named := ["unicode.Cc", "unicode.Cf", "unicode.White_Space", "unicode/utf8.first", "unicode/utf8.acceptRanges"], apart := false, laid := [("unicode/utf8.acceptRanges", laid_unicode_utf8_acceptRanges), ("unicode.Cc", laid_unicode_Cc), ("unicode.Cf", laid_unicode_Cf), ("unicode.White_Space", laid_unicode_White_Space), ("unicode/utf8.first", laid_unicode_utf8_first)] }
/-- NO THEOREM (fmt's text is open here; it may be false): for the released tool's asking of the row's closed facts alone. THE STATEMENT IS 'FnCheckWordSplitsAtAnyRuneBoundaryToldSaid' (Qxb6608680aFmtCards.lean). -/
def FnCheckWordSplitsAtAnyRuneBoundaryFormAsk : Prop := fnCheckWordSplitsAtAnyRuneBoundaryRow.holds Tryf.pinned (OpenSpec.ofChange fnCheckWordSplitsAtAnyRuneBoundarySpec)

/-- ITS FALSE NEIGHBOUR: 'it returns false'. Refute it at one input. -/
def fnCheckWordSplitsAtAnyRuneBoundaryWrong : ChangeSpec := { name := "fnCheckWordSplitsAtAnyRuneBoundary", fn := fun _ => fun
  | [d1, d2] => { results := [.lit (.bool false)], args := [d1, d2] }
  | _ => none }
def FnCheckWordSplitsAtAnyRuneBoundaryWrongFormAsk : Prop := fnCheckWordSplitsAtAnyRuneBoundaryRow.holds Tryf.pinned (OpenSpec.ofChange fnCheckWordSplitsAtAnyRuneBoundaryWrong)

/-- 'zzlaws_internal_csvfile_b1.FnCheckWordOneByteBetweenWords': WHATEVER THE INPUT: true; the input reads as it did. -/
def fnCheckWordOneByteBetweenWordsSpec : ChangeSpec := { name := "fnCheckWordOneByteBetweenWords", fn := fun _ => fun
  | [d1, d2, d3] => { results := [.lit (.bool true)], args := [d1, d2, d3] }
  | _ => none }
def fnCheckWordOneByteBetweenWordsRow : OpenClaim := { program := "qxb6608680afmt", sum := "8b083d72d1959a88644848b1d298f3b0b251880e1afb0c3b50a87ea7d71cb264", func := "example.com/chigu/chigu/zzlaws_internal_csvfile_b1.FnCheckWordOneByteBetweenWords", spec := "fnCheckWordOneByteBetweenWords", stops := ["fmt.errorf"], inPlace := ["fmt.errorf"], unfollowed := true, recurses := true, named := ["unicode.Cc", "unicode.Cf", "unicode.White_Space", "unicode/utf8.first", "unicode/utf8.acceptRanges"], apart := false, laid := [("unicode/utf8.acceptRanges", laid_unicode_utf8_acceptRanges), ("unicode.Cc", laid_unicode_Cc), ("unicode.Cf", laid_unicode_Cf), ("unicode.White_Space", laid_unicode_White_Space), ("unicode/utf8.first", laid_unicode_utf8_first)] }
/-- NO THEOREM (fmt's text is open here; it may be false): for the released tool's asking of the row's closed facts alone. THE STATEMENT IS 'FnCheckWordOneByteBetweenWordsToldSaid' (Qxb6608680aFmtCards.lean). -/
def FnCheckWordOneByteBetweenWordsFormAsk : Prop := fnCheckWordOneByteBetweenWordsRow.holds Tryf.pinned (OpenSpec.ofChange fnCheckWordOneByteBetweenWordsSpec)

/-- ITS FALSE NEIGHBOUR: 'it returns false'. Refute it at one input. -/
def fnCheckWordOneByteBetweenWordsWrong : ChangeSpec := { name := "fnCheckWordOneByteBetweenWords", fn := fun _ => fun
  | [d1, d2, d3] => { results := [.lit (.bool false)], args := [d1, d2, d3] }
  | _ => none }
def FnCheckWordOneByteBetweenWordsWrongFormAsk : Prop := fnCheckWordOneByteBetweenWordsRow.holds Tryf.pinned (OpenSpec.ofChange fnCheckWordOneByteBetweenWordsWrong)

end Rows
end Go.Proofs.Qxb6608680aFmt
