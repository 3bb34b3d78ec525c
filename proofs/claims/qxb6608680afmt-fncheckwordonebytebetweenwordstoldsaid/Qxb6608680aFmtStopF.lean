/-
  Seat b6608680aF (chigu). CLOSED FACTS on fmt.errorf's plain stop (function 21), each by the kernel's evaluation; errors.New and fmt.Errorf by their contracts. The error's message is whatever text fmt gives: no law here looks at it.
-/
import Derived.Test.Qxb6608680aFmtProg
import Derived.Stop.CallBack
import Derived.Stop.IfaceNil
import GoSem.ClaimData
import Derived.WalkKit
import Derived.WalkSpells
namespace Go.Proofs.Qxb6608680aFmt
open Go.RowKit Go.Extern.Stop Go.Stop Go.Extern

theorem call21 (args : Array Value) (w : World) : (callFunc 21 args).run Tryf.prog w = ((FmtStop.errorf #[9, 43] #[25] args).run Tryf.prog w).andThen fun v w' => .ok (.value v) w' :=
  run_callFunc_extern Tryf.func21 (by kernel_rfl) (by kernel_rfl) (by kernel_rfl) (by kernel_rfl) args w
theorem guardF (name : String) (w : World) : (FmtStop.guard name).run Tryf.prog w = .ok () w := by kernel_rfl
def shape9 : List UInt8 := [12, 6, 0, 0, 0, 0, 0, 0, 0, 115, 116, 114, 105, 110, 103]
def shape21 : List UInt8 := [4, 5, 0, 0, 0, 0, 0, 0, 0, 105, 110, 116, 51, 50]
theorem op9 (name : String) (x : ByteArray) (w : World) : (FmtStop.operand name true 113 false (.iface 9 (.string x))).run Tryf.prog w = .ok (shape9, FmtStop.pack x.data.toList) w := by kernel_rfl
theorem op21 (name : String) (x : Int) (w : World) : (FmtStop.operand name true 88 false (.iface 21 (.int .i32 x))).run Tryf.prog w = .ok (shape21, Go.Extern.Stop.digits 8 (x % 2 ^ 64).toNat) w := by kernel_rfl
theorem op9f (name : String) (x : ByteArray) (w : World) : (FmtStop.operand name false 113 false (.iface 9 (.string x))).run Tryf.prog w = .ok (shape9, FmtStop.pack x.data.toList) w := by kernel_rfl
theorem op21f (name : String) (x : Int) (w : World) : (FmtStop.operand name false 88 false (.iface 21 (.int .i32 x))).run Tryf.prog w = .ok (shape21, Go.Extern.Stop.digits 8 (x % 2 ^ 64).toNat) w := by kernel_rfl
theorem fmt0 : FmtStop.printed? ⟨#[37, 113, 32, 105, 115, 32, 110, 111, 116, 32, 111, 110, 101, 32, 119, 111, 114, 100]⟩ 1 = some [(0, 113, false)] := by kernel_rfl
theorem fmt0r (w : World) : (FmtDoors.printed ⟨#[37, 113, 32, 105, 115, 32, 110, 111, 116, 32, 111, 110, 101, 32, 119, 111, 114, 100]⟩ 1).run Tryf.prog w = .ok [(0, 113, false)] w := by kernel_rfl
theorem fmt1 : FmtStop.printed? ⟨#[37, 113, 32, 104, 111, 108, 100, 115, 32, 85, 43, 37, 48, 52, 88, 44, 32, 97, 32, 99, 104, 97, 114, 97, 99, 116, 101, 114, 32, 116, 104, 97, 116, 32, 100, 111, 101, 115, 32, 110, 111, 116, 32, 112, 114, 105, 110, 116]⟩ 2 = some [(0, 113, false), (1, 88, false)] := by kernel_rfl
theorem fmt1r (w : World) : (FmtDoors.printed ⟨#[37, 113, 32, 104, 111, 108, 100, 115, 32, 85, 43, 37, 48, 52, 88, 44, 32, 97, 32, 99, 104, 97, 114, 97, 99, 116, 101, 114, 32, 116, 104, 97, 116, 32, 100, 111, 101, 115, 32, 110, 111, 116, 32, 112, 114, 105, 110, 116]⟩ 2).run Tryf.prog w = .ok [(0, 113, false), (1, 88, false)] w := by kernel_rfl
theorem ptr38 (w : World) : (FmtStop.ptrTo "errors.errorString").run Tryf.prog w = .ok 38 w := by kernel_rfl
theorem elem38 (w : World) : (elemOf 38).run Tryf.prog w = .ok 40 w := by kernel_rfl
theorem isError38 (w : World) : (FmtDoors.textMethod 38 "Error").run Tryf.prog w = .ok true w := by kernel_rfl
attribute [local go_sem] call21 guardF op9 op21 op9f op21f fmt0 fmt0r fmt1 fmt1r ptr38 elem38 isError38

/-- An error that is not nil is returned; whatever lay, lies. -/
def Fails (w : World) (e : Ending) (w' : World) : Prop := (∃ a, e = .returned (.iface 38 (.pointer (some a)))) ∧ Below w.heap.size w w'

set_option maxHeartbeats 400000 in
theorem errorf_one (F : Interp) (s : ByteArray) (b : Nat) (w : World) (hF : F.answers w.tape) (hc : w.cell? ⟨b, 0, none⟩ = some (.iface 9 (.string s))) :
    Calls Tryf.prog 16 #[.string ⟨#[37, 113, 32, 105, 115, 32, 110, 111, 116, 32, 111, 110, 101, 32, 119, 111, 114, 100]⟩, .slice (some ⟨b, 0, none⟩) 1 1] w fun e w' => Fails w e w' := by
  have hF' := answers_open hF
  go_enter Tryf.func16, Tryf.ntmps16
  go_wp2
  go_ret
  exact ⟨⟨_, rfl⟩, ((Below.refl _ _).alloc (Nat.le_refl _) _).drew⟩

set_option maxHeartbeats 400000 in
theorem errorf_two (F : Interp) (s : ByteArray) (r : Int) (b : Nat) (w : World) (hF : F.answers w.tape) (hc : w.cell? ⟨b, 0, none⟩ = some (.iface 9 (.string s))) (hc1 : w.cell? ⟨b, 1, none⟩ = some (.iface 21 (.int .i32 r))) :
    Calls Tryf.prog 16 #[.string ⟨#[37, 113, 32, 104, 111, 108, 100, 115, 32, 85, 43, 37, 48, 52, 88, 44, 32, 97, 32, 99, 104, 97, 114, 97, 99, 116, 101, 114, 32, 116, 104, 97, 116, 32, 100, 111, 101, 115, 32, 110, 111, 116, 32, 112, 114, 105, 110, 116]⟩, .slice (some ⟨b, 0, none⟩) 2 2] w fun e w' => Fails w e w' := by
  have hF' := answers_open hF
  go_enter Tryf.func16, Tryf.ntmps16
  go_wp2
  go_ret
  exact ⟨⟨_, rfl⟩, ((Below.refl _ _).alloc (Nat.le_refl _) _).drew⟩

set_option maxHeartbeats 400000 in
theorem new_any (s : ByteArray) (w : World) : Calls Tryf.prog 13 #[.string s] w fun e w' => Fails w e w' := by
  go_enter Tryf.func13, Tryf.ntmps13
  go_wp2
  go_ret
  exact ⟨⟨_, rfl⟩, (Below.refl _ _).alloc (Nat.le_refl _) _⟩
end Go.Proofs.Qxb6608680aFmt
