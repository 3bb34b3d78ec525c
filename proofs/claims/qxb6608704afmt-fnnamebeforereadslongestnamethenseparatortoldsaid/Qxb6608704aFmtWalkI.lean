/-
  Seat b6608704aF (sluice). WALK: nameBeforeAnswer.
-/
import Derived.Test.Qxb6608704aFmtWalkF
import Derived.Test.Qxb6608704aFmtWalkH
namespace Go.Proofs.Qxb6608704aFmt
open Go.RowKit

set_option maxRecDepth 100000 in
set_option maxHeartbeats 2000000 in
theorem ans_none (T : ByteArray) (i : Nat) (l c : Int) (w : World) (hT : T.size ≤ 1048576) (hi : i ≤ T.size) (hl : 0 ≤ l) (hl' : l ≤ 1073741824) (hq : ∀ h : i < T.size, nm T[i] = false) :
    Calls Tryf.prog 9 #[.string T, .int .i64 i, .int .i64 l, .int .u8 c, .string ⟨#[]⟩, .bool true, .int .i64 i, .int .i64 l] w fun e w' => e = .returned (.bool true) ∧ w' = w := by
  have hx : T.extract i i = ⟨#[]⟩ := bytes_nil (by rw [extract_size T i i hi]; omega)
  have hd1 : decide ((T.size : Int) < (i : Int)) = false := by simp; omega
  have hd2 : decide (T.size < i) = false := by simp; omega
  have hi' : (i : Int) ≤ (T.size : Int) := by omega
  have cC := count_any ⟨#[]⟩ w (by decide)
  have hn0 : nl (⟨#[]⟩ : ByteArray).data.toList = 0 := rfl
  rw [hn0] at cC
  go_enter Tryf.func9, Tryf.ntmps9
  go_wp2_with fail
  refine cC.mono ?_
  rintro e w0 ⟨rfl, hw0⟩
  rw [hw0]
  clear hw0 w0 cC hn0
  go_wp2_with fail
  go_loop [18] (fun j => j = .int .i64 0) (fun _ => 0)
  case atStart => rfl
  case round =>
    obtain rfl := hrel
    by_cases hs : i < T.size
    · have hs' : (i : Int) < (T.size : Int) := by omega
      have cB : ∀ w, Calls Tryf.prog 14 #[.int .u8 (T[i]).toNat] w fun e w' => e = .returned (.bool false) ∧ w' = w := fun w => by have := isNameByte_any T[i] w; rw [hq hs] at this; exact this
      clear hq
      go_wp2_with (go_at_call 14; refine (cB _).mono ?_; rintro e w' ⟨rfl, rfl⟩)
      go_ret
      exact ⟨rfl, rfl⟩
    · have hs' : decide ((i : Int) < (T.size : Int)) = false := by simp; omega
      have hs2 : decide (i < T.size) = false := by simp; omega
      clear hq
      go_wp2
      go_ret
      exact ⟨rfl, rfl⟩

end Go.Proofs.Qxb6608704aFmt
