/-
  Seat b6608778aD (dasho). THE CARD's CLOSED FACTS: the listed tables as the contracts ask for them, the witness's parts.
-/
import Derived.Test.Qxb6608778aDoorTie
import Derived.Test.Qxb6608778aDoorCards
import Derived.Test.Qxb6608778aDoorWalkF
import Derived.Test.Qxb6608778aDoorWalkG
import Derived.ProofKit
import Derived.PinnedBridge
import Derived.Lib.LaidU8
import Derived.Lay
import Derived.MakeChecks
import Derived.SevenTiedAt
import Derived.SliceStrings
import Derived.Shelf.Vars
namespace Go.Proofs.Qxb6608778aDoor
open Go.ChangeShapes Go.WideShapes Go.ChangeAt Go.RowKit Go.Lib

theorem own : ownKnob Tryd.prog.godebug = none := by kernel_rfl
theorem laidOut : laidOutB Tryd.prog = true := by kernel_rfl
theorem cells9 : Tryd.prog.cellsOf 9 = 1 := by kernel_rfl

theorem xU8 : U8Extra Tryd.prog Tryd.lays159_ren := ⟨by kernel_rfl, by kernel_rfl, by kernel_rfl, by kernel_rfl, by kernel_rfl, by kernel_rfl, by kernel_rfl⟩
theorem xCase : CaseExtra Tryd.prog Tryd.lays159_ren := ⟨by kernel_rfl, by kernel_rfl, by kernel_rfl, by kernel_rfl, by kernel_rfl, by kernel_rfl⟩
theorem case_eq : Rows.laid_unicode_CaseRanges = caseData := Pinned.caseRanges_eq
theorem first_eq : Rows.laid_unicode_utf8_first = firstData := Pinned.utf8First_eq
theorem accept_eq : (Rows.laid_unicode_utf8_acceptRanges : DataW Unit) = acceptData := by kernel_rfl

/-- The three listed tables. -/
def laid3 : List (String × DataW Unit) := Rows.fnPartAddedEntryTakesItsNameRow.laid
theorem plain3 (W : World) : laidMetH Tryd.prog laid3 W = laidMet Tryd.prog laid3 W := MakeChecks.laidMetH_plain _ _ _ (by kernel_rfl)
theorem tabs_of_laid {W : World} (h : laidMetH Tryd.prog laid3 W) (hs : W.ShapedOpen Tryd.prog) : Tabs W := by
  rw [plain3] at h
  have hA : VarReads Tryd.prog W _ acceptData := accept_eq ▸ Lib.laidMet.reads h (.head _)
  have hC : VarReads Tryd.prog W _ caseData := case_eq ▸ Lib.laidMet.reads h (.tail _ (.head _))
  have hU : VarReads Tryd.prog W _ firstData := first_eq ▸ Lib.laidMet.reads h (.tail _ (.tail _ (.head _)))
  exact ⟨Go.Proofs.cell_of_shapedOpen_int (zero := #[.int .i64 0]) (t := 3) hs (of_decide_eq_true (by kernel_rfl)) (by kernel_rfl) rfl (by kernel_rfl) (by kernel_rfl) Tryd.underlying3, caseVar_of_reads (ρ := Tryd.lays159_ren) { Tryd.lays159 with } Tryd.underlying111 xCase hC, utf8Tabs_of_reads (ρ := Tryd.lays159_ren) { Tryd.lays159 with } xU8 hU hA⟩

theorem fits3 (os : Os) : (World.holding Tryd.prog os ⟨#[], #[], []⟩).layFits Tryd.prog laid3 [] = true := by kernel_rfl
theorem ifaces3 (os : Os) : (World.holding Tryd.prog os ⟨#[], #[], []⟩).layIfaces Tryd.prog laid3 (World.laidAll Tryd.prog os laid3) = true := by kernel_rfl
theorem met3 (os : Os) (args : Array Value) : laidMetH Tryd.prog laid3 ((World.laidAll Tryd.prog os laid3).forCall (fun _ _ => 0) ⟨#[], args, []⟩).memory := by
  rw [plain3]
  exact laidMet_laidAll args (fits3 os) (ifaces3 os)
end Go.Proofs.Qxb6608778aDoor
