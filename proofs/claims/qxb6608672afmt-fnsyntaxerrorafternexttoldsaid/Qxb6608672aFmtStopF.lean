/-
  Seat b6608672aF (tabulon). CLOSED FACTS on fmt.Sprintf's calling stop (function 40), each by the kernel's evaluation; sqlerr.New and sqlerr.At by their contracts. The error's message is whatever text fmt gives: no law here looks at it.
-/
import Derived.Test.Qxb6608672aFmtProg
import Derived.Stop.CallBack
import Derived.Stop.IfaceNil
import GoSem.ClaimData
import Derived.WalkKit
import Derived.WalkSpells
namespace Go.Proofs.Qxb6608672aFmt
open Go.RowKit Go.Extern.Stop Go.Stop Go.Extern

theorem call40 (args : Array Value) (w : World) : (callFunc 40 args).run Tryf.prog w = (FmtCalls.sprintf #[9, 65] #[9] args).run Tryf.prog w :=
  run_callFunc_next Tryf.func40 (by kernel_rfl) (by kernel_rfl) (by kernel_rfl) args w
theorem guardF (name : String) (w : World) : (FmtStop.guard name).run Tryf.prog w = .ok () w := by kernel_rfl
theorem nextTurns : Extern.next FmtCalls.turnsRow = some (FmtCalls.begun #[] #[]) := by kernel_rfl
def shape9 : List UInt8 := [12, 6, 0, 0, 0, 0, 0, 0, 0, 115, 116, 114, 105, 110, 103]
theorem act9_115 (name : String) (x : Value) (w : World) : (FmtCalls.act name false 115 false (.iface 9 x)).run Tryf.prog w = .ok (.closed false) w := by kernel_rfl
theorem op9_115 (name : String) (x : ByteArray) (w : World) : (FmtStop.operand name false 115 false (.iface 9 (.string x))).run Tryf.prog w = .ok (shape9, FmtStop.pack x.data.toList) w := by kernel_rfl
attribute [local go_sem] call40 guardF act9_115 op9_115

/-- "42601". -/
def code : ByteArray := ⟨#[52, 50, 54, 48, 49]⟩
/-- An *sqlerr.Error's cells: the code, the message, three empty texts, the place. -/
def errCells (t : ByteArray) (p : Int) : Array Value := #[.string ⟨#[52, 50, 54, 48, 49]⟩, .string t, .string ⟨#[]⟩, .string ⟨#[]⟩, .string ⟨#[]⟩, .int .i64 p]

set_option maxHeartbeats 400000 in
theorem new_one (F : Interp) (fm x : ByteArray) (b : Nat) (w : World) (hF : F.answers w.tape) (hp : FmtStop.printed? fm 1 = some [(0, 115, false)])
    (hc : w.cell? ⟨b, 0, none⟩ = some (.iface 9 (.string x))) :
    Calls Tryf.prog 29 #[.string ⟨#[52, 50, 54, 48, 49]⟩, .string fm, .slice (some ⟨b, 0, none⟩) 1 1] w fun e w' => ∃ t, e = .returned (.pointer (some ⟨w.heap.size, 0, none⟩)) ∧ w' = (w.alloc (.cells #[.string ⟨#[52, 50, 54, 48, 49]⟩, .string t, .string ⟨#[]⟩, .string ⟨#[]⟩, .string ⟨#[]⟩, .int .i64 0] 43)).drew := by
  have hF' := answers_open hF
  go_enter Tryf.func29, Tryf.ntmps29
  go_wp2
  apply rows_value nextTurns
  case hr =>
    go_simp
    exact ⟨rfl, rfl⟩
  case h =>
    go_wp2
    go_ret
    exact ⟨_, rfl, rfl⟩

set_option maxHeartbeats 400000 in
theorem new_none (F : Interp) (fm : ByteArray) (w : World) (hF : F.answers w.tape) (hp : FmtStop.printed? fm 0 = some []) :
    Calls Tryf.prog 29 #[.string ⟨#[52, 50, 54, 48, 49]⟩, .string fm, .slice none 0 0] w fun e w' => ∃ t, e = .returned (.pointer (some ⟨w.heap.size, 0, none⟩)) ∧ w' = (w.alloc (.cells #[.string ⟨#[52, 50, 54, 48, 49]⟩, .string t, .string ⟨#[]⟩, .string ⟨#[]⟩, .string ⟨#[]⟩, .int .i64 0] 43)).drew := by
  have hF' := answers_open hF
  go_enter Tryf.func29, Tryf.ntmps29
  go_wp2
  apply rows_value nextTurns
  case hr =>
    go_simp
    exact ⟨rfl, rfl⟩
  case h =>
    go_wp2
    go_ret
    exact ⟨_, rfl, rfl⟩

set_option maxHeartbeats 400000 in
theorem at_one (F : Interp) (off : Nat) (fm x : ByteArray) (b : Nat) (w : World) (hF : F.answers w.tape) (hoff : off ≤ 4611686018427387904) (hp : FmtStop.printed? fm 1 = some [(0, 115, false)])
    (hc : w.cell? ⟨b, 0, none⟩ = some (.iface 9 (.string x))) :
    Calls Tryf.prog 17 #[.int .i64 off, .string ⟨#[52, 50, 54, 48, 49]⟩, .string fm, .slice (some ⟨b, 0, none⟩) 1 1] w fun e w' => ∃ t, e = .returned (.pointer (some ⟨w.heap.size, 0, none⟩)) ∧ w' = (w.alloc (.cells #[.string ⟨#[52, 50, 54, 48, 49]⟩, .string t, .string ⟨#[]⟩, .string ⟨#[]⟩, .string ⟨#[]⟩, .int .i64 ((off : Int) + 1)] 43)).drew := by
  have c := new_one F fm x b w hF hp hc
  clear hp
  go_enter Tryf.func17, Tryf.ntmps17
  go_wp2_with fail
  refine c.mono ?_
  rintro e w' ⟨t, rfl, rfl⟩
  go_wp2
  go_ret
  exact ⟨t, rfl, rfl⟩

set_option maxHeartbeats 400000 in
theorem at_none (F : Interp) (off : Nat) (fm : ByteArray) (w : World) (hF : F.answers w.tape) (hoff : off ≤ 4611686018427387904) (hp : FmtStop.printed? fm 0 = some []) :
    Calls Tryf.prog 17 #[.int .i64 off, .string ⟨#[52, 50, 54, 48, 49]⟩, .string fm, .slice none 0 0] w fun e w' => ∃ t, e = .returned (.pointer (some ⟨w.heap.size, 0, none⟩)) ∧ w' = (w.alloc (.cells #[.string ⟨#[52, 50, 54, 48, 49]⟩, .string t, .string ⟨#[]⟩, .string ⟨#[]⟩, .string ⟨#[]⟩, .int .i64 ((off : Int) + 1)] 43)).drew := by
  have c := new_none F fm w hF hp
  clear hp
  go_enter Tryf.func17, Tryf.ntmps17
  go_wp2_with fail
  refine c.mono ?_
  rintro e w' ⟨t, rfl, rfl⟩
  go_wp2
  go_ret
  exact ⟨t, rfl, rfl⟩

theorem fmtNear : FmtStop.printed? ⟨#[115, 121, 110, 116, 97, 120, 32, 101, 114, 114, 111, 114, 32, 97, 116, 32, 111, 114, 32, 110, 101, 97, 114, 32, 34, 37, 115, 34]⟩ 1 = some [(0, 115, false)] := by kernel_rfl

set_option maxHeartbeats 400000 in
theorem near_any (F : Interp) (off : Nat) (x : ByteArray) (w : World) (hF : F.answers w.tape) (hoff : off ≤ 4611686018427387904) :
    Calls Tryf.prog 18 #[.int .i64 off, .string x] w fun e w' => ∃ t, e = .returned (.iface 39 (.pointer (some ⟨w.heap.size + 1, 0, none⟩))) ∧ w' = ((w.alloc (.cells #[.iface 9 (.string x)] 20)).alloc (.cells #[.string ⟨#[52, 50, 54, 48, 49]⟩, .string t, .string ⟨#[]⟩, .string ⟨#[]⟩, .string ⟨#[]⟩, .int .i64 ((off : Int) + 1)] 43)).drew := by
  have c := at_one F off _ x w.heap.size (w.alloc (.cells #[.iface 9 (.string x)] 20)) hF hoff fmtNear (by simp)
  go_enter Tryf.func18, Tryf.ntmps18
  go_wp2_with fail
  refine c.mono ?_
  rintro e w' ⟨t, rfl, rfl⟩
  go_wp2
  go_ret
  exact ⟨t, rfl, rfl⟩
end Go.Proofs.Qxb6608672aFmt
