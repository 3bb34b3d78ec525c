/-
  Seat b6608704aF (sluice). CLOSED FACTS on fmt.errorf's calling stop (function 31), each by the kernel's evaluation; the reader's errors by their contracts. The error's message is whatever text fmt gives: no law here looks at it.
-/
import Derived.Test.Qxb6608704aFmtProg
import Derived.Stop.CallBack
import Derived.Stop.IfaceNil
import GoSem.ClaimData
import Derived.WalkKit
import Derived.WalkSpells
import Derived.Deep.RegionWith
namespace Go.Proofs.Qxb6608704aFmt
open Go.RowKit Go.Extern.Stop Go.Stop Go.Extern

theorem call31 (args : Array Value) (w : World) : (callFunc 31 args).run Tryf.prog w = (FmtCalls.errorf #[9, 56] #[36] args).run Tryf.prog w :=
  run_callFunc_next Tryf.func31 (by kernel_rfl) (by kernel_rfl) (by kernel_rfl) args w
theorem guardF (name : String) (w : World) : (FmtStop.guard name).run Tryf.prog w = .ok () w := by kernel_rfl
theorem nextTurns : Extern.next FmtCalls.turnsRow = some (FmtCalls.begun #[] #[]) := by kernel_rfl
def shape9 : List UInt8 := [12, 6, 0, 0, 0, 0, 0, 0, 0, 115, 116, 114, 105, 110, 103]
def shape21 : List UInt8 := [4, 5, 0, 0, 0, 0, 0, 0, 0, 105, 110, 116, 51, 50]
theorem act9 (name : String) (x : Value) (w : World) : (FmtCalls.act name true 113 false (.iface 9 x)).run Tryf.prog w = .ok (.closed true) w := by kernel_rfl
theorem act21 (name : String) (x : Value) (w : World) : (FmtCalls.act name true 113 false (.iface 21 x)).run Tryf.prog w = .ok (.closed true) w := by kernel_rfl
theorem op9 (name : String) (x : ByteArray) (w : World) : (FmtStop.operand name true 113 false (.iface 9 (.string x))).run Tryf.prog w = .ok (shape9, FmtStop.pack x.data.toList) w := by kernel_rfl
theorem op21 (name : String) (x : Int) (w : World) : (FmtStop.operand name true 113 false (.iface 21 (.int .i32 x))).run Tryf.prog w = .ok (shape21, Go.Extern.Stop.digits 8 (x % 2 ^ 64).toNat) w := by kernel_rfl
theorem ptr65 (w : World) : (FmtStop.ptrTo "errors.errorString").run Tryf.prog w = .ok 65 w := by kernel_rfl
theorem elem65 (w : World) : (elemOf 65).run Tryf.prog w = .ok 67 w := by kernel_rfl
theorem isError65 (w : World) : (FmtDoors.textMethod 65 "Error").run Tryf.prog w = .ok true w := by kernel_rfl
attribute [local go_sem] call31 guardF act9 act21 op9 op21 ptr65 elem65 isError65

theorem fmtA : FmtStop.printed? ⟨#[115, 121, 110, 116, 97, 120, 32, 101, 114, 114, 111, 114, 58, 32, 117, 110, 101, 120, 112, 101, 99, 116, 101, 100, 32, 37, 113]⟩ 1 = some [(0, 113, false)] := by kernel_rfl
theorem fmtAr (w : World) : (FmtDoors.printed ⟨#[115, 121, 110, 116, 97, 120, 32, 101, 114, 114, 111, 114, 58, 32, 117, 110, 101, 120, 112, 101, 99, 116, 101, 100, 32, 37, 113]⟩ 1).run Tryf.prog w = .ok [(0, 113, false)] w := by kernel_rfl
theorem fmtB : FmtStop.printed? ⟨#[115, 121, 110, 116, 97, 120, 32, 101, 114, 114, 111, 114, 58, 32, 109, 105, 115, 115, 105, 110, 103, 32, 37, 113, 32, 97, 102, 116, 101, 114, 32, 37, 113]⟩ 2 = some [(0, 113, false), (1, 113, false)] := by kernel_rfl
theorem fmtBr (w : World) : (FmtDoors.printed ⟨#[115, 121, 110, 116, 97, 120, 32, 101, 114, 114, 111, 114, 58, 32, 109, 105, 115, 115, 105, 110, 103, 32, 37, 113, 32, 97, 102, 116, 101, 114, 32, 37, 113]⟩ 2).run Tryf.prog w = .ok [(0, 113, false), (1, 113, false)] w := by kernel_rfl
attribute [local go_sem] fmtA fmtAr fmtB fmtBr

/-- A new error value is returned; whatever lay, lies. -/
def Fails (w : World) (e : Ending) (w' : World) : Prop := (∃ v, e = .returned (.iface 65 v)) ∧ Below w.heap.size w w'

set_option maxHeartbeats 400000 in
theorem errorf_one (F : Interp) (r : Int) (b : Nat) (w : World) (hF : F.answers w.tape) (hc : w.cell? ⟨b, 0, none⟩ = some (.iface 21 (.int .i32 r))) :
    Calls Tryf.prog 30 #[.string ⟨#[115, 121, 110, 116, 97, 120, 32, 101, 114, 114, 111, 114, 58, 32, 117, 110, 101, 120, 112, 101, 99, 116, 101, 100, 32, 37, 113]⟩, .slice (some ⟨b, 0, none⟩) 1 1] w fun e w' => Fails w e w' := by
  have hF' := answers_open hF
  go_enter Tryf.func30, Tryf.ntmps30
  go_wp2
  apply rows_value nextTurns
  case hr =>
    go_simp
    exact ⟨rfl, rfl⟩
  case h =>
    go_wp2
    go_ret
    exact ⟨⟨_, rfl⟩, ((Below.refl _ _).alloc (Nat.le_refl _) _).drew⟩
set_option maxHeartbeats 400000 in
theorem errorf_two (F : Interp) (x y : ByteArray) (b : Nat) (w : World) (hF : F.answers w.tape) (hc : w.cell? ⟨b, 0, none⟩ = some (.iface 9 (.string x))) (hc1 : w.cell? ⟨b, 1, none⟩ = some (.iface 9 (.string y))) :
    Calls Tryf.prog 30 #[.string ⟨#[115, 121, 110, 116, 97, 120, 32, 101, 114, 114, 111, 114, 58, 32, 109, 105, 115, 115, 105, 110, 103, 32, 37, 113, 32, 97, 102, 116, 101, 114, 32, 37, 113]⟩, .slice (some ⟨b, 0, none⟩) 2 2] w fun e w' => Fails w e w' := by
  have hF' := answers_open hF
  go_enter Tryf.func30, Tryf.ntmps30
  go_wp2
  apply rows_value nextTurns
  case hr =>
    go_simp
    exact ⟨rfl, rfl⟩
  case h =>
    go_wp2
    go_ret
    exact ⟨⟨_, rfl⟩, ((Below.refl _ _).alloc (Nat.le_refl _) _).drew⟩
end Go.Proofs.Qxb6608704aFmt
