/-
  Seat b6608704aF (sluice). WHAT THE CARD NEEDS: closed facts, the listed tables as the contracts ask for them, the witness.
-/
import Derived.Test.Qxb6608704aFmtTie
import Derived.Test.Qxb6608704aFmtCards
import Derived.Test.Qxb6608704aFmtShelf
import Derived.ProofKit
import Derived.PinnedBridge
import Derived.Lib.LaidU8
import Derived.Lay
import Derived.MakeChecks
import Derived.Stop.JoinedTold
import Derived.SevenTiedAt
namespace Go.Proofs.Qxb6608704aFmt
open Go.ChangeShapes Go.WideShapes Go.ChangeAt Go.RowKit Go.Lib
open Go.Extern.Stop Go.Stop Go.Extern

theorem own : ownKnob Tryf.prog.godebug = none := by kernel_rfl
theorem laidOut : laidOutB Tryf.pinned.checked.prog = true := by kernel_rfl
theorem stopKnobs : Tryf.pinned.checked.prog.stopKnobs = [] := by kernel_rfl
theorem quiet (os : Os) : Stop.quiet Tryf.pinned.checked.prog os := by
  intro k hk
  rw [stopKnobs] at hk
  cases hk

theorem xU8 : U8Extra Tryf.prog Tryf.lays260_ren := ⟨by kernel_rfl, by kernel_rfl, by kernel_rfl, by kernel_rfl, by kernel_rfl, by kernel_rfl, by kernel_rfl⟩
theorem first_eq : Rows.laid_unicode_utf8_first = firstData := Pinned.utf8First_eq
theorem accept_eq : (Rows.laid_unicode_utf8_acceptRanges : DataW Unit) = acceptData := by kernel_rfl

/-- The two listed tables. -/
def laid3 : List (String × DataW Unit) := Rows.fnNameBeforeReadsLongestNameThenSeparatorRow.laid
theorem plain3 (W : World) : laidMetH Tryf.prog laid3 W = laidMet Tryf.prog laid3 W := MakeChecks.laidMetH_plain _ _ _ (by kernel_rfl)
theorem tabs_of_laid {W : World} (h : laidMetH Tryf.prog laid3 W) : Utf8Tabs 0 1 W := by
  rw [plain3] at h
  have hA : VarReads Tryf.prog W _ acceptData := accept_eq ▸ Lib.laidMet.reads h (.head _)
  have hU : VarReads Tryf.prog W _ firstData := first_eq ▸ Lib.laidMet.reads h (.tail _ (.head _))
  exact utf8Tabs_of_reads Tryf.lays260 xU8 hU hA

/-- The witness of a told row whose variables are laid by the function. -/
theorem witnessT {H : Type} {enc : TypeId × Value → H} {C : Checked} {os : Os} {f : FuncId} {fn : Func} {s : OpenSpec} {conds : List PathCond} {apart : Bool} {laid : List (String × DataW Unit)} (w0 : World) (args : Array Value) (hos : w0.os = os)
    (hv : ∀ tape, (w0.forCall tape ⟨#[], args, []⟩).variablesZipB C.prog = true)
    (hr : ∀ tape, ((w0.forCall tape ⟨#[], args, []⟩).heap.toList.drop C.prog.globals.size).take ((begin C.prog (fun _ _ => 0) default).world.heap.size - C.prog.globals.size) =
      (begin C.prog (fun _ _ => 0) default).world.heap.toList.drop C.prog.globals.size)
    (hok : Input.okWideB C.prog (w0.forCall (fun _ _ => 0) ⟨#[], args, []⟩) f ⟨#[], args, []⟩ = true)
    (hrow : s.preRow enc C.prog fn conds apart laid (w0.forCall (fun _ _ => 0) ⟨#[], args, []⟩).memory args) (F : Stop.Interp) :
    ∃ (w : World) (tape : Tape) (i : Input), w.os = os ∧ (w.forCall tape i).Shaped C.prog ∧ i.vars = [] ∧ Input.okWide C.prog (w.forCall tape i) .any w.heap.size f i ∧
      s.preRow enc C.prog fn conds apart laid (w.forCall tape i).memory i.args ∧ ({} : Assume).holds C.prog (lone (Frame.enter C.prog f i.args .normal) [] (w.forCall tape i)) ∧ F.answers tape :=
  ⟨w0, F.over fun _ _ => 0, ⟨#[], args, []⟩, hos, World.shaped_of_ZipB (hv _) (hr _), (Input.okWide_of_okWideB (base := 0) hok).1, (Input.okWide_of_okWideB hok).2, hrow, by
    simp only [Assume.holds]
    exact ⟨by simp, by simp, fun _ => F.over_modest Modest.zero, by simp, by simp⟩, F.over_answers _⟩

theorem fits3 (os : Os) : (World.holding Tryf.prog os ⟨#[], #[], []⟩).layFits Tryf.prog laid3 [] = true := by kernel_rfl
theorem ifaces3 (os : Os) : (World.holding Tryf.prog os ⟨#[], #[], []⟩).layIfaces Tryf.prog laid3 (World.laidAll Tryf.prog os laid3) = true := by kernel_rfl
theorem met3 (os : Os) (args : Array Value) : laidMetH Tryf.prog laid3 ((World.laidAll Tryf.prog os laid3).forCall (fun _ _ => 0) ⟨#[], args, []⟩).memory := by
  rw [plain3]
  exact laidMet_laidAll args (fits3 os) (ifaces3 os)
theorem zip3 (os : Os) (args : Array Value) (tape : Tape) : ((World.laidAll Tryf.prog os laid3).forCall tape ⟨#[], args, []⟩).variablesZipB Tryf.prog = true := by kernel_rfl
theorem rest3 (os : Os) (args : Array Value) (tape : Tape) : (((World.laidAll Tryf.prog os laid3).forCall tape ⟨#[], args, []⟩).heap.toList.drop Tryf.prog.globals.size).take ((begin Tryf.prog (fun _ _ => 0) default).world.heap.size - Tryf.prog.globals.size) =
      (begin Tryf.prog (fun _ _ => 0) default).world.heap.toList.drop Tryf.prog.globals.size := by kernel_rfl
end Go.Proofs.Qxb6608704aFmt
