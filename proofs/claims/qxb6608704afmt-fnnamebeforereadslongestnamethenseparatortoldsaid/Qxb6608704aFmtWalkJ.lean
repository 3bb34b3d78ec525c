/-
  Seat b6608704aF (sluice). WALK: nameBeforeAnswer, where the separator lacks.
-/
import Derived.Test.Qxb6608704aFmtWalkI
namespace Go.Proofs.Qxb6608704aFmt
open Go.RowKit

set_option maxRecDepth 100000 in
set_option maxHeartbeats 1000000 in
theorem ans_no (T X : ByteArray) (i N : Nat) (l lA c : Int) (w : World) (hT : T.size ≤ 1048576) (hi : i + X.size ≤ N) (hN : N ≤ T.size) (hn : 1 ≤ X.size) (hl : 0 ≤ l) (hl' : l ≤ 1073741824)
    (hX : T.extract i (i + X.size) = X) (hall : ∀ j (h : j < X.size), nm X[j] = true) (hq : ∀ h : i + X.size < T.size, nm T[i + X.size] = false)
    (hlA : lA = l + (nl (T.extract i N).data.toList : Nat)) (hb1 : (bc false (T.extract (i + X.size) N).data.toList).1 = true) (hb2 : N < T.size → (bc false (T.extract (i + X.size) N).data.toList).2 = false)
    (hf : ∀ h : N < T.size, blk T[N] = false ∧ (T[N]).toNat ≠ 35 ∧ ((T[N]).toNat : Int) ≠ c) :
    Calls Tryf.prog 9 #[.string T, .int .i64 i, .int .i64 l, .int .u8 c, .string X, .bool true, .int .i64 ((N : Nat) : Int), .int .i64 lA] w fun e w' => e = .returned (.bool true) ∧ w' = w := by
  have hd1 : decide (((N : Nat) : Int) < (i : Int)) = false := by simp; omega
  have hd2 : decide ((T.size : Int) < ((N : Nat) : Int)) = false := by simp; omega
  have hd3 : decide (T.size < N) = false := by simp; omega
  have hd4 : decide (N < i) = false := by simp; omega
  have hd5 : decide ((T.size : Int) < (i : Int) + (X.size : Int)) = false := by simp; omega
  have hd6 : decide (((N : Nat) : Int) < (i : Int) + (X.size : Int)) = false := by simp; omega
  have hs1 : (T.extract i N).size ≤ 1048576 := by rw [extract_size T i N (by omega)]; omega
  have hs2 : (T.extract (i + X.size) N).size ≤ 1048576 := by rw [extract_size T (i + X.size) N hN]; omega
  have cC := count_any (T.extract i N) w hs1
  have cK := fun w => blanks_any (T.extract (i + X.size) N) w hs2
  rw [hb1] at cK
  have hnl : nl (T.extract i N).data.toList ≤ 1048576 := Nat.le_trans (nl_le _) hs1
  have hXe := full_of (s := X) (by omega)
  generalize nl (T.extract i N).data.toList = M at *
  generalize hO : (bc false (T.extract (i + X.size) N).data.toList).2 = O at *
  clear hb1 hs1 hs2 hO
  subst hlA
  have HA : Hid (∀ j (h : j < X.size), nm X[j] = true) := hall
  have HQ : Hid (∀ h : i + X.size < T.size, nm T[i + X.size] = false) := hq
  have HB : Hid (N < T.size → O = false) := hb2
  have HF : Hid (∀ h : N < T.size, blk T[N] = false ∧ (T[N]).toNat ≠ 35 ∧ ((T[N]).toNat : Int) ≠ c) := hf
  clear hall hq hb2 hf
  have hm : ((l + (M : Int)) != (l + (M : Int))) = false := by simp
  go_enter Tryf.func9, Tryf.ntmps9
  go_wp2_with fail
  refine cC.mono ?_
  rintro e w0 ⟨rfl, hw0⟩
  rw [hw0]
  clear hw0 w0 cC
  go_wp2_with fail
  go_loop [18] (fun j => ∃ k : Nat, k ≤ X.size ∧ j = .int .i64 k) (fun j => X.size - (intOf j).toNat)
  case atStart => exact ⟨0, by omega, rfl⟩
  case round =>
    obtain ⟨k, hk, rfl⟩ := hrel
    clear hX
    by_cases hkn : k < X.size
    · have hkz : (k : Int) < (X.size : Int) := by omega
      have cB : ∀ w, Calls Tryf.prog 14 #[.int .u8 (X[k]).toNat] w fun e w' => e = .returned (.bool true) ∧ w' = w := fun w => by have := isNameByte_any (X[k]) w; rw [HA.out k (by omega)] at this; exact this
      go_wp2_with (go_at_call 14; refine (cB _).mono ?_; rintro e w' ⟨rfl, rfl⟩)
      go_round
      case rel => exact ⟨k + 1, by omega, by go_num⟩
      case measure => simp [intOf]; omega
    · have hkz : decide ((k : Int) < (X.size : Int)) = false := by simp; omega
      have hkz' : decide (k < X.size) = false := by simp; omega
      by_cases hNs : N < T.size
      · have hqs : i + X.size < T.size := by omega
        obtain ⟨g1, g2, g3⟩ := HF.out hNs
        clear HF
        obtain rfl := HB.out hNs
        have cBl : ∀ w, Calls Tryf.prog 16 #[.int .u8 (T[N]).toNat] w fun e w' => e = .returned (.bool false) ∧ w' = w := fun w => by have := isBlank_any T[N] w; rw [g1] at this; exact this
        have e35 : (((T[N]).toNat : Int) == 35) = false := by simp; omega
        have ec : (((T[N]).toNat : Int) != c) = true := by simp; exact g3
        have ec' : (((T[N]).toNat : Int) == c) = false := by simp; exact g3
        have hNz : (N : Int) < (T.size : Int) := by omega
        have eN : ((N : Int) == (T.size : Int)) = false := by simp; omega
        have eN' : (N == T.size) = false := by simp; omega
        clear HB g1 g2 g3
        have hqz : (i : Int) + (X.size : Int) < (T.size : Int) := by omega
        have cB : ∀ w, Calls Tryf.prog 14 #[.int .u8 (T[i + X.size]).toNat] w fun e w' => e = .returned (.bool false) ∧ w' = w := fun w => by have := isNameByte_any T[i + X.size] w; rw [HQ.out hqs] at this; exact this
        clear HQ
        go_wp2_with (first | (go_at_call 14; refine (cB _).mono ?_; rintro e w' ⟨rfl, rfl⟩) | (go_at_call 15; refine (cK _).mono ?_; rintro e w' ⟨rfl, rfl⟩) | (go_at_call 16; refine (cBl _).mono ?_; rintro e w' ⟨rfl, rfl⟩))
        go_ret
        exact ⟨rfl, rfl⟩
      · have eN : N = T.size := by omega
        subst eN
        clear HB
        by_cases hqs : i + X.size < T.size
        · have hqz : (i : Int) + (X.size : Int) < (T.size : Int) := by omega
          have cB : ∀ w, Calls Tryf.prog 14 #[.int .u8 (T[i + X.size]).toNat] w fun e w' => e = .returned (.bool false) ∧ w' = w := fun w => by have := isNameByte_any T[i + X.size] w; rw [HQ.out hqs] at this; exact this
          clear HQ
          go_wp2_with (first | (go_at_call 14; refine (cB _).mono ?_; rintro e w' ⟨rfl, rfl⟩) | (go_at_call 15; refine (cK _).mono ?_; rintro e w' ⟨rfl, rfl⟩))
          go_ret
          exact ⟨rfl, rfl⟩
        · have hqz : decide ((i : Int) + (X.size : Int) < (T.size : Int)) = false := by simp; omega
          clear HQ
          go_wp2_with (first | (go_at_call 15; refine (cK _).mono ?_; rintro e w' ⟨rfl, rfl⟩))
          go_ret
          exact ⟨rfl, rfl⟩
end Go.Proofs.Qxb6608704aFmt
