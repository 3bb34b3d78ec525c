/-
  Seat b6608778aD (dasho). WALK: zzBytes: it answers some Bool and turns nothing.
-/
import Derived.Test.Qxb6608778aDoorProg
import Derived.WalkKit
import Derived.WalkSpells
import Derived.WideShapes
namespace Go.Proofs.Qxb6608778aDoor
open Go.RowKit

set_option maxRecDepth 100000 in
set_option maxHeartbeats 2000000 in
theorem bytes_nil (p : Option Addr) (cap : Nat) (x n : ByteArray) (w : World) (hx : x.size ≤ maxLen) (hn : n.size ≤ maxLen) :
    Calls Tryd.prog 10 #[.slice p 0 cap, .string x, .string n] w fun en w' => (∃ c, en = .returned (.bool c)) ∧ w' = w := by
  unfold maxLen at hx hn
  go_enter Tryd.func10, Tryd.ntmps10
  go_wp2
  refine wp_loop_rounds 1 ?_
  rw [rounds_succ]
  go_wp2
  all_goals
    go_ret
    exact ⟨⟨_, rfl⟩, rfl⟩

set_option maxRecDepth 100000 in
set_option maxHeartbeats 2000000 in
theorem bytes_any (b off len cap : Nat) (ss : List ByteArray) (x n : ByteArray) (w : World) (hx : x.size ≤ maxLen) (hn : n.size ≤ maxLen) (hl : len ≤ ss.length)
    (hc : ∀ j, j < len → w.cell? ⟨b, off + j, none⟩ = some (.string (ss.getD j ByteArray.empty))) (hsz : ∀ s ∈ ss, s.size ≤ maxLen) :
    Calls Tryd.prog 10 #[.slice (some ⟨b, off, none⟩) len cap, .string x, .string n] w fun en w' => (∃ c, en = .returned (.bool c) ∧ (c = true → ∀ j, j < len → (ss.getD j ByteArray.empty).size ≤ 1048576)) ∧ w' = w := by
  unfold maxLen at hx hn
  have HC : Hid (∀ j, j < len → w.cell? ⟨b, off + j, none⟩ = some (.string (ss.getD j ByteArray.empty)) ∧ (ss.getD j ByteArray.empty).size ≤ 9223372036854775807) := fun j hj => ⟨hc j hj, by
    have e : ss.getD j ByteArray.empty = ss[j]'(by omega) := by simp [List.getD, List.getElem?_eq_getElem (show j < ss.length by omega)]
    rw [e]
    have := hsz _ (List.getElem_mem (show j < ss.length by omega))
    unfold maxLen at this
    exact this⟩
  clear hc hsz
  go_enter Tryd.func10, Tryd.ntmps10
  go_wp2
  · go_ret
    exact ⟨⟨_, rfl, fun h => by cases h⟩, rfl⟩
  · go_loopw [7, 8] (fun z i wr => ∃ k m : Nat, k ≤ len ∧ m ≤ 1048576 ∧ Hid (∀ j, j < k → (ss.getD j ByteArray.empty).size ≤ 1048576) ∧ z = .int .i64 m ∧ i = .int .i64 k ∧ wr = w) (fun z i _ => len - (intOf i).toNat)
    case atStart => exact ⟨0, len, Nat.zero_le _, by omega, (fun j hj => absurd hj (Nat.not_lt_zero j)), by simp, rfl, rfl⟩
    case round =>
      obtain ⟨k, m, hk, hm, HK, rfl, rfl, rfl⟩ := hrel
      by_cases hkl : k < len
      · obtain ⟨hcx, hsx⟩ := HC.out k hkl
        obtain ⟨s, hs⟩ : ∃ s, s = ss.getD k ByteArray.empty := ⟨_, rfl⟩
        rw [← hs] at hcx hsx
        have HS : Hid (s = ss.getD k ByteArray.empty) := hs
        clear hs
        have hkz : (k : Int) < (len : Int) := by omega
        go_wp2
        · go_ret
          exact ⟨⟨_, rfl, fun h => by cases h⟩, rfl⟩
        · go_ret
          exact ⟨⟨_, rfl, fun h => by cases h⟩, rfl⟩
        · go_roundw
          case rel => exact ⟨k + 1, m + s.size, by omega, by omega, (fun j hj => by
            rcases Nat.lt_or_ge j k with h | h
            · exact HK.out j h
            · obtain rfl : j = k := by omega
              rw [← HS.out]
              omega), by simp, by simp⟩
          case measure => simp [intOf]; omega
      · have hkz : decide ((k : Int) < (len : Int)) = false := by simp; omega
        go_wp2
        all_goals
          go_ret
          first
          | exact ⟨⟨_, rfl, fun _ j hj => HK.out j (Nat.lt_of_lt_of_le hj (by omega))⟩, rfl⟩
          | exact ⟨⟨false, rfl, fun h => absurd h (by decide)⟩, rfl⟩

theorem bytes_all (a : Addr) (len cap : Nat) (ss : List ByteArray) (x n : ByteArray) (w : World) (hx : x.size ≤ maxLen) (hn : n.size ≤ maxLen) (hl : len ≤ ss.length)
    (hc : ∀ j, j < len → w.cell? (a.add j) = some (.string (ss.getD j ByteArray.empty))) (hsz : ∀ s ∈ ss, s.size ≤ maxLen) :
    Calls Tryd.prog 10 #[.slice (some a) len cap, .string x, .string n] w fun en w' => (∃ c, en = .returned (.bool c) ∧ (c = true → ∀ j, j < len → (ss.getD j ByteArray.empty).size ≤ 1048576)) ∧ w' = w := by
  by_cases h0 : len = 0
  · subst h0
    exact (bytes_nil (some a) cap x n w hx hn).mono (fun en w' ⟨⟨c, h⟩, e⟩ => ⟨⟨c, h, fun _ j hj => absurd hj (Nat.not_lt_zero _)⟩, e⟩)
  · obtain ⟨b, off, spot⟩ := a
    have hspot : spot = none := by simpa [Addr.add] using World.cell?_spot (hc 0 (by omega))
    subst hspot
    exact bytes_any b off len cap ss x n w hx hn hl (fun j hj => by rw [← WideShapes.add_plain]; exact hc j hj) hsz
end Go.Proofs.Qxb6608778aDoor
