/-
  Seat b6608704aF (sluice). WALKS: countNewlines, blanksAndComments; their plain laws.
-/
import Derived.Test.Qxb6608704aFmtWalkC
namespace Go.Proofs.Qxb6608704aFmt
open Go.RowKit

theorem take_at (s : ByteArray) (k : Nat) (h : k < s.size) : s.data.toList.take (k + 1) = s.data.toList.take k ++ [s[k]] := by
  rw [List.take_add_one, List.getElem?_eq_getElem (by simpa using h)]
  rfl
theorem nl_snoc (l : List UInt8) (b : UInt8) : nl (l ++ [b]) = nl l + (if b = 10 then 1 else 0) := by
  unfold nl
  rw [List.countP_append]
  by_cases h : b = 10 <;> simp [h]
theorem nl_le (l : List UInt8) : nl l ≤ l.length := List.countP_le_length

set_option maxHeartbeats 1000000 in
theorem count_any (s : ByteArray) (w : World) (hs : s.size ≤ 1048576) :
    Calls Tryf.prog 12 #[.string s] w fun e w' => e = .returned (.int .i64 (nl s.data.toList : Nat)) ∧ w' = w := by
  generalize hN : nl s.data.toList = N
  have HN : Hid (nl s.data.toList = N) := hN
  clear hN
  go_enter Tryf.func12, Tryf.ntmps12
  go_wp2
  go_loop [3, 4] (fun n j => ∃ (k m : Nat), k ≤ s.size ∧ m ≤ k ∧ n = .int .i64 m ∧ j = .int .i64 k ∧ Hid (nl (s.data.toList.take k) = m)) (fun n j => s.size - (intOf j).toNat)
  case atStart => exact ⟨0, 0, by omega, by omega, rfl, rfl, rfl⟩
  case round =>
    obtain ⟨k, m, hk, hm, rfl, rfl, HR⟩ := hrel
    by_cases hlt : k < s.size
    · have hlz : (k : Int) < (s.size : Int) := by omega
      have ht := take_at s k hlt
      by_cases hb : (s[k]).toNat = 10
      · have hq : (((s[k]).toNat : Int) == 10) = true := by simp; omega
        have H2 : Hid (nl (s.data.toList.take (k + 1)) = m + 1) := by show _ = _; rw [ht, nl_snoc, HR.out, if_pos (show s[k] = 10 from byte_eq hb (by decide))]
        clear ht hb
        go_wp2
        go_round
        case rel => exact ⟨k + 1, m + 1, by omega, by omega, by go_num, by go_num, H2⟩
        case measure => simp [intOf]; omega
      · have hq : (((s[k]).toNat : Int) == 10) = false := by simp; omega
        have H2 : Hid (nl (s.data.toList.take (k + 1)) = m) := by show _ = _; rw [ht, nl_snoc, HR.out, if_neg (fun h => hb (by rw [h]; rfl))]; rfl
        clear ht hb
        go_wp2
        go_round
        case rel => exact ⟨k + 1, m, by omega, by omega, by go_num, by go_num, H2⟩
        case measure => simp [intOf]; omega
    · have hlz : decide ((k : Int) < (s.size : Int)) = false := by simp; omega
      have H2 : Hid (m = N) := by show _ = _; rw [← HR.out, ← HN.out, List.take_of_length_le (by simpa using hlt)]
      go_wp2
      go_ret
      obtain rfl := H2.out
      exact ⟨rfl, rfl⟩

/-- blanksAndComments, by bytes. -/
def bc : Bool → List UInt8 → Bool × Bool
  | fl, [] => (true, fl)
  | true, b :: t => if b = 10 then bc false t else bc true t
  | false, b :: t => if blk b then bc false t else if b = 35 then bc true t else (false, false)

set_option maxHeartbeats 1000000 in
theorem blanks_any (s : ByteArray) (w : World) (hs : s.size ≤ 1048576) :
    Calls Tryf.prog 15 #[.string s] w fun e w' => e = .returned (.tuple #[.bool (bc false s.data.toList).1, .bool (bc false s.data.toList).2]) ∧ w' = w := by
  generalize hN : bc false s.data.toList = N
  have HN : Hid (bc false s.data.toList = N) := hN
  clear hN
  go_enter Tryf.func15, Tryf.ntmps15
  go_wp2
  go_loop [4, 5] (fun f j => ∃ (k : Nat) (fl : Bool), k ≤ s.size ∧ f = .bool fl ∧ j = .int .i64 k ∧ Hid (bc fl (s.data.toList.drop k) = N)) (fun f j => s.size - (intOf j).toNat)
  case atStart => exact ⟨0, false, by omega, rfl, rfl, HN⟩
  case round =>
    obtain ⟨k, fl, hk, rfl, rfl, HR⟩ := hrel
    by_cases hlt : k < s.size
    · have hlz : (k : Int) < (s.size : Int) := by omega
      have hd := HR.out
      rw [drop_at s k hlt] at hd
      cases fl with
      | true =>
        by_cases hb : (s[k]).toNat = 10
        · have hq : (((s[k]).toNat : Int) == 10) = true := by simp; omega
          have H2 : Hid (bc false (s.data.toList.drop (k + 1)) = N) := by show _ = _; rw [← hd]; simp [bc, byte_eq hb (by decide)]
          clear hd hb HR
          go_wp2
          go_round
          case rel => exact ⟨k + 1, false, by omega, rfl, by go_num, H2⟩
          case measure => simp [intOf]; omega
        · have hq : (((s[k]).toNat : Int) == 10) = false := by simp; omega
          have hne : ¬ s[k] = 10 := fun h => hb (by rw [h]; rfl)
          have H2 : Hid (bc true (s.data.toList.drop (k + 1)) = N) := by show _ = _; rw [← hd]; simp [bc, hne]
          clear hd hb HR hne
          go_wp2
          go_round
          case rel => exact ⟨k + 1, true, by omega, rfl, by go_num, H2⟩
          case measure => simp [intOf]; omega
      | false =>
        cases hblk : blk s[k] with
        | true =>
          have cB : ∀ w, Calls Tryf.prog 16 #[.int .u8 (s[k]).toNat] w fun e w' => e = .returned (.bool true) ∧ w' = w := fun w => by have := isBlank_any s[k] w; rw [hblk] at this; exact this
          have H2 : Hid (bc false (s.data.toList.drop (k + 1)) = N) := by show _ = _; rw [← hd]; simp [bc, hblk]
          clear hd HR hblk
          go_wp2_with (go_at_call 16; refine (cB _).mono ?_; rintro e w' ⟨rfl, rfl⟩)
          go_round
          case rel => exact ⟨k + 1, false, by omega, rfl, by go_num, H2⟩
          case measure => simp [intOf]; omega
        | false =>
          have cB : ∀ w, Calls Tryf.prog 16 #[.int .u8 (s[k]).toNat] w fun e w' => e = .returned (.bool false) ∧ w' = w := fun w => by have := isBlank_any s[k] w; rw [hblk] at this; exact this
          by_cases hb : (s[k]).toNat = 35
          · have hq : (((s[k]).toNat : Int) == 35) = true := by simp; omega
            have H2 : Hid (bc true (s.data.toList.drop (k + 1)) = N) := by show _ = _; rw [← hd]; simp [bc, byte_eq hb (by decide), not_blank_hash]
            clear hd HR hblk hb
            go_wp2_with (go_at_call 16; refine (cB _).mono ?_; rintro e w' ⟨rfl, rfl⟩)
            go_round
            case rel => exact ⟨k + 1, true, by omega, rfl, by go_num, H2⟩
            case measure => simp [intOf]; omega
          · have hq : (((s[k]).toNat : Int) == 35) = false := by simp; omega
            have hne : ¬ s[k] = 35 := fun h => hb (by rw [h]; rfl)
            have H2 : Hid ((false, false) = N) := by show _ = _; rw [← hd]; simp [bc, hblk, hne]
            clear hd HR hblk hb hne
            go_wp2_with (go_at_call 16; refine (cB _).mono ?_; rintro e w' ⟨rfl, rfl⟩)
            go_ret2
            rw [← H2.out]
            exact ⟨rfl, rfl⟩
    · have hlz : decide ((k : Int) < (s.size : Int)) = false := by simp; omega
      have H2 : Hid ((true, fl) = N) := by show _ = _; rw [← HR.out, List.drop_eq_nil_of_le (by simpa using hlt)]; simp [bc]
      go_wp2
      go_ret2
      rw [← H2.out]
      exact ⟨rfl, rfl⟩

/-- What skipSpace steps over is blanks and comments; it stops at the end, or outside a comment on a byte that is neither. -/
theorem bc_sk : ∀ (l : List UInt8) (fl : Bool), (bc fl (l.take (sk fl l))).1 = true ∧ ∀ h : sk fl l < l.length, (bc fl (l.take (sk fl l))).2 = false ∧ blk (l[sk fl l]) = false ∧ l[sk fl l] ≠ 35
  | [], fl => by cases fl <;> simp [bc, sk]
  | b :: t, true => by
    by_cases hb : b = 10
    · have ih := bc_sk t false
      have e : sk true (b :: t) = sk false t + 1 := by simp [sk, hb]; omega
      simp only [e, List.take_succ_cons]
      have e2 : ∀ x, bc true (b :: x) = bc false x := fun x => by simp [bc, hb]
      simp only [e2, List.length_cons, Nat.add_lt_add_iff_right, List.getElem_cons_succ]
      exact ih
    · have ih := bc_sk t true
      have e : sk true (b :: t) = sk true t + 1 := by simp [sk, hb]; omega
      simp only [e, List.take_succ_cons]
      have e2 : ∀ x, bc true (b :: x) = bc true x := fun x => by simp [bc, hb]
      simp only [e2, List.length_cons, Nat.add_lt_add_iff_right, List.getElem_cons_succ]
      exact ih
  | b :: t, false => by
    by_cases hb : blk b = true
    · have ih := bc_sk t false
      have e : sk false (b :: t) = sk false t + 1 := by simp [sk, hb]; omega
      simp only [e, List.take_succ_cons]
      have e2 : ∀ x, bc false (b :: x) = bc false x := fun x => by simp [bc, hb]
      simp only [e2, List.length_cons, Nat.add_lt_add_iff_right, List.getElem_cons_succ]
      exact ih
    · by_cases hh : b = 35
      · have ih := bc_sk t true
        have e : sk false (b :: t) = sk true t + 1 := by simp [sk, hh, not_blank_hash]; omega
        simp only [e, List.take_succ_cons]
        have e2 : ∀ x, bc false (b :: x) = bc true x := fun x => by simp [bc, hh, not_blank_hash]
        simp only [e2, List.length_cons, Nat.add_lt_add_iff_right, List.getElem_cons_succ]
        exact ih
      · have e : sk false (b :: t) = 0 := by simp [sk, hb, hh]
        simp only [e]
        simp [bc, hh]
        simpa using hb
end Go.Proofs.Qxb6608704aFmt
