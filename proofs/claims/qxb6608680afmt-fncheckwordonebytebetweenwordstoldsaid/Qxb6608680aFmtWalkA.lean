/-
  Seat b6608680aF (chigu). WALKS: the two bounds on the lengths, printableASCII.
-/
import Derived.Test.Qxb6608680aFmtProg
import Derived.Test.Qxb6608680aFmtPlain
import Derived.WalkKit
import Derived.WalkSpells
namespace Go.Proofs.Qxb6608680aFmt
open Go.RowKit

theorem ret_bool {a b : Bool} (h : a = b) : Ending.returned (.bool a) = .returned (.bool b) := by rw [h]
theorem get_at (s : ByteArray) (k : Nat) (h : k < s.size) : s.get! k = s[k] := by
  rw [get_eq]
  simp [List.getD, Array.getElem?_toList, ByteArray.getElem_eq_getElem_data]
  rw [Array.getElem?_eq_getElem (by simpa using h)]
  rfl

set_option maxHeartbeats 400000 in
theorem bytes5 (a b : ByteArray) (w : World) (ha : a.size ≤ maxLen) (hb : b.size ≤ maxLen) : Calls Tryf.prog 5 #[.string a, .string b] w fun en w' => (∃ c, en = .returned (.bool c)) ∧ w' = w := by
  unfold maxLen at ha hb
  go_enter Tryf.func5, Tryf.ntmps5
  go_wp2
  all_goals
    go_ret
    exact ⟨⟨_, rfl⟩, rfl⟩

set_option maxHeartbeats 400000 in
theorem bytes9 (a : ByteArray) (c : Int) (b : ByteArray) (w : World) (ha : a.size ≤ maxLen) (hb : b.size ≤ maxLen) : Calls Tryf.prog 9 #[.string a, .int .u8 c, .string b] w fun en w' => (∃ c, en = .returned (.bool c)) ∧ w' = w := by
  unfold maxLen at ha hb
  go_enter Tryf.func9, Tryf.ntmps9
  go_wp2
  all_goals
    go_ret
    exact ⟨⟨_, rfl⟩, rfl⟩

/-- A bool is returned; where it is true, p stands. -/
def BoolIf (p : Prop) (e : Ending) : Prop := ∃ r, e = .returned (.bool r) ∧ (r = true → p)
theorem bytes_nil {s : ByteArray} (h : s.size = 0) : s = ⟨#[]⟩ := by
  apply ByteArray.ext
  exact Array.eq_empty_of_size_eq_zero h
theorem full_of {s : ByteArray} (h : s ≠ ⟨#[]⟩) : s.toList.isEmpty = false := by
  rw [ByteArray.toList_eq]
  cases hl : s.data.toList with
  | nil => exact absurd (bytes_nil (show s.data.size = 0 by rw [← Array.length_toList, hl]; rfl)) h
  | cons _ _ => rfl
def Prints (s : ByteArray) (k : Nat) : Prop := ∀ i, i < k → 32 < (s.get! i).toNat ∧ (s.get! i).toNat ≤ 126

set_option maxHeartbeats 400000 in
theorem printable_any (s : ByteArray) (w : World) (hs : s.size ≤ maxLen) :
    Calls Tryf.prog 10 #[.string s] w fun e w' => BoolIf (s ≠ ⟨#[]⟩ ∧ Prints s s.size) e ∧ w' = w := by
  unfold maxLen at hs
  go_enter Tryf.func10, Tryf.ntmps10
  go_wp2
  go_loop [6] (fun j => ∃ k : Nat, k ≤ s.size ∧ j = .int .i64 k ∧ Prints s k) (fun j => s.size - (intOf j).toNat)
  case atStart => exact ⟨0, by omega, rfl, fun i h => by omega⟩
  case round =>
    obtain ⟨k, hk, rfl, HR⟩ := hrel
    by_cases hlt : k < s.size
    · have hlz : (k : Int) < (s.size : Int) := by omega
      have hg := get_at s k hlt
      have hb := (s[k]).toNat_lt
      by_cases hp : 32 < (s[k]).toNat ∧ (s[k]).toNat ≤ 126
      · have h1 : decide (((s[k]).toNat : Int) ≤ 32) = false := by simp; omega
        have h2 : decide ((126 : Int) < ((s[k]).toNat : Int)) = false := by simp; omega
        have H2 : Prints s (k + 1) := fun i hi => by
          by_cases he : i = k
          · subst he; rw [hg]; exact hp
          · exact HR i (by omega)
        clear HR hp
        go_wp2
        go_round
        case rel => exact ⟨k + 1, by omega, by go_num, H2⟩
        case measure => simp [intOf]; omega
      · by_cases h1 : ((s[k]).toNat : Int) ≤ 32
        · go_wp2
          go_ret
          exact ⟨⟨false, rfl, fun h => by cases h⟩, rfl⟩
        · have h2 : (126 : Int) < ((s[k]).toNat : Int) := by omega
          have h1' : decide (((s[k]).toNat : Int) ≤ 32) = false := by simp; omega
          go_wp2
          go_ret
          exact ⟨⟨false, rfl, fun h => by cases h⟩, rfl⟩
    · have hlz : decide ((k : Int) < (s.size : Int)) = false := by simp; omega
      have hk' : k = s.size := by omega
      subst hk'
      by_cases he : s = ⟨#[]⟩
      · subst he
        go_wp2
        go_ret
        exact ⟨⟨false, rfl, fun h => by cases h⟩, rfl⟩
      · have hf := full_of he
        go_wp2
        go_ret
        exact ⟨⟨true, rfl, fun _ => by first | trivial | exact ⟨he, HR⟩⟩, rfl⟩
end Go.Proofs.Qxb6608680aFmt
