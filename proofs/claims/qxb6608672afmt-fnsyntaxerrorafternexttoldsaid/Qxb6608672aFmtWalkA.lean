/-
  Seat b6608672aF (tabulon). WALKS: isIdentStart, isDigit, digitsEnd.
-/
import Derived.Test.Qxb6608672aFmtProg
import Derived.Test.Qxb6608672aFmtLaws
import Derived.WalkKit
import Derived.WalkSpells
namespace Go.Proofs.Qxb6608672aFmt
open Go.RowKit

theorem idS_iff (c : UInt8) : Lx.idS c = true ↔ ((97 ≤ (c.toNat : Int) ∧ (c.toNat : Int) ≤ 122) ∨ (65 ≤ (c.toNat : Int) ∧ (c.toNat : Int) ≤ 90) ∨ (c.toNat : Int) = 95 ∨ 128 ≤ (c.toNat : Int)) := by
  unfold Lx.idS
  simp only [Bool.or_eq_true, Bool.and_eq_true, decide_eq_true_eq, UInt8.le_iff_toNat_le, beq_iff_eq, ← UInt8.toNat_inj, or_assoc]
  simp
  omega
theorem dig_iff (c : UInt8) : Lx.dig c = true ↔ (48 ≤ (c.toNat : Int) ∧ (c.toNat : Int) ≤ 57) := by
  unfold Lx.dig
  simp only [Bool.and_eq_true, decide_eq_true_eq, UInt8.le_iff_toNat_le]
  simp
  omega

theorem ret_bool {a b : Bool} (h : a = b) : Ending.returned (.bool a) = .returned (.bool b) := by rw [h]

set_option maxHeartbeats 400000 in
theorem isIdentStart_any (c : UInt8) (w : World) : Calls Tryf.prog 22 #[.int .u8 c.toNat] w fun e w' => e = .returned (.bool (Lx.idS c)) ∧ w' = w := by
  have hb := c.toNat_lt
  have hi := idS_iff c
  generalize Lx.idS c = B at *
  generalize hn : (c.toNat : Int) = n at *
  have hb0 : 0 ≤ n := by omega
  have hb1 : n ≤ 255 := by omega
  clear hb hn
  have HI : Hid _ := hi
  clear hi
  go_enter Tryf.func22, Tryf.ntmps22
  go_wp2
  all_goals
    go_ret
    refine ⟨ret_bool ?_, rfl⟩
    have := HI.out
    rw [Bool.eq_iff_iff, this]
    simp
    try omega

set_option maxHeartbeats 400000 in
theorem isDigit_any (c : UInt8) (w : World) : Calls Tryf.prog 23 #[.int .u8 c.toNat] w fun e w' => e = .returned (.bool (Lx.dig c)) ∧ w' = w := by
  have hb := c.toNat_lt
  have hi := dig_iff c
  generalize Lx.dig c = B at *
  generalize hn : (c.toNat : Int) = n at *
  have hb0 : 0 ≤ n := by omega
  have hb1 : n ≤ 255 := by omega
  clear hb hn
  have HI : Hid _ := hi
  clear hi
  go_enter Tryf.func23, Tryf.ntmps23
  go_wp2
  all_goals
    go_ret
    refine ⟨ret_bool ?_, rfl⟩
    have := HI.out
    rw [Bool.eq_iff_iff, this]
    simp
    try omega

theorem ret_int {k : IntKind} {a b : Int} (h : a = b) : Ending.returned (.int k a) = .returned (.int k b) := by rw [h]
/-- The byte at a place, as the walk writes it. -/
theorem drop_at (s : ByteArray) (k : Nat) (h : k < s.size) : s.data.toList.drop k = s[k] :: s.data.toList.drop (k + 1) := by
  rw [List.drop_eq_getElem_cons (by simpa using h)]; rfl
theorem run_at (p : UInt8 → Bool) (s : ByteArray) (k : Nat) (h : k < s.size) : Lx.run p (s.data.toList.drop k) = if p s[k] then Lx.run p (s.data.toList.drop (k + 1)) + 1 else 0 := by
  rw [drop_at s k h]
  unfold Lx.run
  rw [List.takeWhile_cons]
  split <;> rfl
theorem run_end (p : UInt8 → Bool) (s : ByteArray) (k : Nat) (h : s.size ≤ k) : Lx.run p (s.data.toList.drop k) = 0 := by
  rw [List.drop_eq_nil_of_le (by simpa using h)]; rfl

set_option maxHeartbeats 400000 in
theorem digitsEnd_any (s : ByteArray) (i : Nat) (w : World) (hs : s.size ≤ maxLen) (hi : i ≤ s.size) :
    Calls Tryf.prog 26 #[.string s, .int .i64 i] w fun e w' => e = .returned (.int .i64 (i + Lx.run Lx.dig (s.data.toList.drop i) : Nat)) ∧ w' = w := by
  unfold maxLen at hs
  go_enter Tryf.func26, Tryf.ntmps26
  go_wp2
  go_loop [1] (fun j => ∃ k : Nat, k ≤ s.size ∧ j = .int .i64 k ∧ Hid (k + Lx.run Lx.dig (s.data.toList.drop k) = i + Lx.run Lx.dig (s.data.toList.drop i))) (fun j => s.size - (intOf j).toNat)
  case atStart => exact ⟨i, hi, rfl, rfl⟩
  case round =>
    obtain ⟨k, hk, rfl, HR⟩ := hrel
    by_cases hlt : k < s.size
    · have hlz : (k : Int) < (s.size : Int) := by omega
      have hra := run_at Lx.dig s k hlt
      cases hd : Lx.dig s[k] with
      | true =>
        rw [hd, if_pos rfl] at hra
        have H2 : Hid (k + 1 + Lx.run Lx.dig (s.data.toList.drop (k + 1)) = i + Lx.run Lx.dig (s.data.toList.drop i)) := by show _ = _; rw [← HR.out, hra]; omega
        clear hra
        go_wp2_with (go_at_call 23; refine (isDigit_any _ _).mono ?_; rintro e w' ⟨rfl, rfl⟩)
        go_round
        case rel => exact ⟨k + 1, by omega, by go_num, H2⟩
        case measure => simp [intOf]; omega
      | false =>
        rw [hd] at hra
        have H2 : Hid (k = i + Lx.run Lx.dig (s.data.toList.drop i)) := by rw [← HR.out, hra]; simp [Hid]
        clear hra
        go_wp2_with (go_at_call 23; refine (isDigit_any _ _).mono ?_; rintro e w' ⟨rfl, rfl⟩)
        go_ret
        exact ⟨ret_int (by have := H2.out; omega), rfl⟩
    · have hlz : decide ((k : Int) < (s.size : Int)) = false := by simp; omega
      have H2 : Hid (k = i + Lx.run Lx.dig (s.data.toList.drop i)) := by rw [← HR.out, run_end Lx.dig s k (by omega)]; simp [Hid]
      go_wp2
      go_ret
      exact ⟨ret_int (by have := H2.out; omega), rfl⟩
end Go.Proofs.Qxb6608672aFmt
