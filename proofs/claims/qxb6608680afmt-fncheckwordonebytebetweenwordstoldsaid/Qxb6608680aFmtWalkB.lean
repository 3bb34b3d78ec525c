/-
  Seat b6608680aF (chigu). WALK: zzValidUTF8: where it says yes, the text is whole runes.
-/
import Derived.Test.Qxb6608680aFmtWalkA
import Derived.Deep.DeepCutAuto
import Derived.Deep.CutBlock
namespace Go.Proofs.Qxb6608680aFmt
open Go.RowKit

/-- What the switch lays for a first byte c: n further bytes, the second within lo .. hi. -/
def Cls (c n lo hi : Nat) : Prop :=
  (n = 1 ∧ 194 ≤ c ∧ c ≤ 223 ∧ lo = 128 ∧ hi = 191) ∨ (n = 2 ∧ 224 ≤ c ∧ c ≤ 239 ∧ 128 ≤ lo ∧ hi ≤ 191 ∧ (c = 224 → lo = 160) ∧ (c = 237 → hi = 159)) ∨ (n = 3 ∧ 240 ≤ c ∧ c ≤ 244 ∧ 128 ≤ lo ∧ hi ≤ 191 ∧ (c = 240 → lo = 144) ∧ (c = 244 → hi = 143))

theorem wid_cls (s : ByteArray) (i n lo hi : Nat) (hc : Cls (s.get! i).toNat n lo hi) (hn : i + n < s.size) (h1 : lo ≤ (s.get! (i + 1)).toNat) (h1' : (s.get! (i + 1)).toNat ≤ hi)
    (hk : ∀ k, 2 ≤ k → k ≤ n → 128 ≤ (s.get! (i + k)).toNat ∧ (s.get! (i + k)).toNat ≤ 191) : Wid s i (n + 1) := by
  rcases hc with ⟨rfl, a1, a2, a3, a4⟩ | ⟨rfl, a1, a2, a3, a4, a5, a6⟩ | ⟨rfl, a1, a2, a3, a4, a5, a6⟩
  · exact wid_two s i hn a1 a2 (by omega) (by omega)
  · have := hk 2 (by omega) (by omega)
    exact wid_three s i hn a1 a2 (by omega) (by omega) this.1 this.2 (fun h => by have := a5 h; omega) (fun h => by have := a6 h; omega)
  · have e2 := hk 2 (by omega) (by omega)
    have e3 := hk 3 (by omega) (by omega)
    exact wid_four s i hn a1 a2 (by omega) (by omega) e2.1 e2.2 e3.1 e3.2 (fun h => by have := a5 h; omega) (fun h => by have := a6 h; omega)

def Conts (s : ByteArray) (i k : Nat) : Prop := ∀ j, 2 ≤ j → j < k → 128 ≤ (s.get! (i + j)).toNat ∧ (s.get! (i + j)).toNat ≤ 191

set_option maxRecDepth 100000 in
set_option maxHeartbeats 2000000 in
theorem valid_any (s : ByteArray) (w : World) (hs : s.size ≤ maxLen) :
    Calls Tryf.prog 6 #[.string s] w fun e w' => BoolIf (Runs s s.size) e ∧ w' = w := by
  unfold maxLen at hs
  go_enter Tryf.func6, Tryf.ntmps6
  go_wp2
  go_loop [3] (fun j => ∃ k : Nat, k ≤ s.size ∧ j = .int .i64 k ∧ Runs s k) (fun j => s.size - (intOf j).toNat)
  case atStart => exact ⟨0, by omega, rfl, .start⟩
  case round =>
    obtain ⟨i, hi, rfl, HR⟩ := hrel
    by_cases hlt : i < s.size
    · have hlz : (i : Int) < (s.size : Int) := by omega
      have hg := get_at s i hlt
      by_cases hc : ((s[i]).toNat : Int) < 128
      · have H2 : Runs s (i + 1) := HR.more (wid_one s i hlt (by rw [hg]; omega))
        go_wp2
        go_round
        case rel => exact ⟨i + 1, by omega, by go_num, H2⟩
        case measure => simp [intOf]; omega
      · have hc' : decide (((s[i]).toNat : Int) < 128) = false := by simp; omega
        have hlc := (s[i]).toNat_lt
        go_upto_block 2 with fail
        go_cut [5, 6, 7] (fun s5 s6 s7 wx => ∃ n lo hi : Nat, s5 = .int .i64 n ∧ s6 = .int .u8 lo ∧ s7 = .int .u8 hi ∧ Hid (Cls (s[i]).toNat n lo hi) ∧ wx = w)
        case first =>
          have hall : (128 ≤ (s[i]).toNat ∧ (s[i]).toNat ≤ 193) ∨ (194 ≤ (s[i]).toNat ∧ (s[i]).toNat ≤ 223) ∨ (224 ≤ (s[i]).toNat ∧ (s[i]).toNat ≤ 224) ∨ (225 ≤ (s[i]).toNat ∧ (s[i]).toNat ≤ 236) ∨ (237 ≤ (s[i]).toNat ∧ (s[i]).toNat ≤ 237) ∨ (238 ≤ (s[i]).toNat ∧ (s[i]).toNat ≤ 238) ∨ (239 ≤ (s[i]).toNat ∧ (s[i]).toNat ≤ 239) ∨ (240 ≤ (s[i]).toNat ∧ (s[i]).toNat ≤ 240) ∨ (241 ≤ (s[i]).toNat ∧ (s[i]).toNat ≤ 243) ∨ (244 ≤ (s[i]).toNat ∧ (s[i]).toNat ≤ 244) ∨ (245 ≤ (s[i]).toNat ∧ (s[i]).toNat ≤ 255) := by omega
          rcases hall with ⟨g1, g2⟩ | ⟨g1, g2⟩ | ⟨g1, g2⟩ | ⟨g1, g2⟩ | ⟨g1, g2⟩ | ⟨g1, g2⟩ | ⟨g1, g2⟩ | ⟨g1, g2⟩ | ⟨g1, g2⟩ | ⟨g1, g2⟩ | ⟨g1, g2⟩
          · have f1 : decide ((194 : Int) ≤ ((s[i]).toNat : Int)) = false := by simp; omega
            have f2 : (((s[i]).toNat : Int) == 224) = false := by simp; omega
            have f3 : decide ((225 : Int) ≤ ((s[i]).toNat : Int)) = false := by simp; omega
            have f4 : (((s[i]).toNat : Int) == 237) = false := by simp; omega
            have f5 : (((s[i]).toNat : Int) == 238) = false := by simp; omega
            have f6 : (((s[i]).toNat : Int) == 239) = false := by simp; omega
            have f7 : (((s[i]).toNat : Int) == 240) = false := by simp; omega
            have f8 : decide ((241 : Int) ≤ ((s[i]).toNat : Int)) = false := by simp; omega
            have f9 : (((s[i]).toNat : Int) == 244) = false := by simp; omega
            go_wp2
            go_ret
            exact ⟨⟨false, rfl, fun h => by cases h⟩, rfl⟩
          · have f1 : decide ((194 : Int) ≤ ((s[i]).toNat : Int)) = true := by simp; omega
            have f2 : decide (((s[i]).toNat : Int) ≤ (223 : Int)) = true := by simp; omega
            have HC : Hid (Cls (s[i]).toNat 1 128 191) := by show Cls _ _ _ _; unfold Cls; omega
            clear g1 g2 hc hlc
            go_wp2
            go_meet
            exact ⟨1, 128, 191, rfl, rfl, rfl, HC, rfl⟩
          · have f1 : decide ((194 : Int) ≤ ((s[i]).toNat : Int)) = true := by simp; omega
            have f2 : decide (((s[i]).toNat : Int) ≤ (223 : Int)) = false := by simp; omega
            have f3 : (((s[i]).toNat : Int) == 224) = true := by simp; omega
            have HC : Hid (Cls (s[i]).toNat 2 160 191) := by show Cls _ _ _ _; unfold Cls; omega
            clear g1 g2 hc hlc
            go_wp2
            go_meet
            exact ⟨2, 160, 191, rfl, rfl, rfl, HC, rfl⟩
          · have f1 : decide ((194 : Int) ≤ ((s[i]).toNat : Int)) = true := by simp; omega
            have f2 : decide (((s[i]).toNat : Int) ≤ (223 : Int)) = false := by simp; omega
            have f3 : (((s[i]).toNat : Int) == 224) = false := by simp; omega
            have f4 : decide ((225 : Int) ≤ ((s[i]).toNat : Int)) = true := by simp; omega
            have f5 : decide (((s[i]).toNat : Int) ≤ (236 : Int)) = true := by simp; omega
            have HC : Hid (Cls (s[i]).toNat 2 128 191) := by show Cls _ _ _ _; unfold Cls; omega
            clear g1 g2 hc hlc
            go_wp2
            go_meet
            exact ⟨2, 128, 191, rfl, rfl, rfl, HC, rfl⟩
          · have f1 : decide ((194 : Int) ≤ ((s[i]).toNat : Int)) = true := by simp; omega
            have f2 : decide (((s[i]).toNat : Int) ≤ (223 : Int)) = false := by simp; omega
            have f3 : (((s[i]).toNat : Int) == 224) = false := by simp; omega
            have f4 : decide ((225 : Int) ≤ ((s[i]).toNat : Int)) = true := by simp; omega
            have f5 : decide (((s[i]).toNat : Int) ≤ (236 : Int)) = false := by simp; omega
            have f6 : (((s[i]).toNat : Int) == 237) = true := by simp; omega
            have HC : Hid (Cls (s[i]).toNat 2 128 159) := by show Cls _ _ _ _; unfold Cls; omega
            clear g1 g2 hc hlc
            go_wp2
            go_meet
            exact ⟨2, 128, 159, rfl, rfl, rfl, HC, rfl⟩
          · have f1 : decide ((194 : Int) ≤ ((s[i]).toNat : Int)) = true := by simp; omega
            have f2 : decide (((s[i]).toNat : Int) ≤ (223 : Int)) = false := by simp; omega
            have f3 : (((s[i]).toNat : Int) == 224) = false := by simp; omega
            have f4 : decide ((225 : Int) ≤ ((s[i]).toNat : Int)) = true := by simp; omega
            have f5 : decide (((s[i]).toNat : Int) ≤ (236 : Int)) = false := by simp; omega
            have f6 : (((s[i]).toNat : Int) == 237) = false := by simp; omega
            have f7 : (((s[i]).toNat : Int) == 238) = true := by simp; omega
            have HC : Hid (Cls (s[i]).toNat 2 128 191) := by show Cls _ _ _ _; unfold Cls; omega
            clear g1 g2 hc hlc
            go_wp2
            go_meet
            exact ⟨2, 128, 191, rfl, rfl, rfl, HC, rfl⟩
          · have f1 : decide ((194 : Int) ≤ ((s[i]).toNat : Int)) = true := by simp; omega
            have f2 : decide (((s[i]).toNat : Int) ≤ (223 : Int)) = false := by simp; omega
            have f3 : (((s[i]).toNat : Int) == 224) = false := by simp; omega
            have f4 : decide ((225 : Int) ≤ ((s[i]).toNat : Int)) = true := by simp; omega
            have f5 : decide (((s[i]).toNat : Int) ≤ (236 : Int)) = false := by simp; omega
            have f6 : (((s[i]).toNat : Int) == 237) = false := by simp; omega
            have f7 : (((s[i]).toNat : Int) == 238) = false := by simp; omega
            have f8 : (((s[i]).toNat : Int) == 239) = true := by simp; omega
            have HC : Hid (Cls (s[i]).toNat 2 128 191) := by show Cls _ _ _ _; unfold Cls; omega
            clear g1 g2 hc hlc
            go_wp2
            go_meet
            exact ⟨2, 128, 191, rfl, rfl, rfl, HC, rfl⟩
          · have f1 : decide ((194 : Int) ≤ ((s[i]).toNat : Int)) = true := by simp; omega
            have f2 : decide (((s[i]).toNat : Int) ≤ (223 : Int)) = false := by simp; omega
            have f3 : (((s[i]).toNat : Int) == 224) = false := by simp; omega
            have f4 : decide ((225 : Int) ≤ ((s[i]).toNat : Int)) = true := by simp; omega
            have f5 : decide (((s[i]).toNat : Int) ≤ (236 : Int)) = false := by simp; omega
            have f6 : (((s[i]).toNat : Int) == 237) = false := by simp; omega
            have f7 : (((s[i]).toNat : Int) == 238) = false := by simp; omega
            have f8 : (((s[i]).toNat : Int) == 239) = false := by simp; omega
            have f9 : (((s[i]).toNat : Int) == 240) = true := by simp; omega
            have HC : Hid (Cls (s[i]).toNat 3 144 191) := by show Cls _ _ _ _; unfold Cls; omega
            clear g1 g2 hc hlc
            go_wp2
            go_meet
            exact ⟨3, 144, 191, rfl, rfl, rfl, HC, rfl⟩
          · have f1 : decide ((194 : Int) ≤ ((s[i]).toNat : Int)) = true := by simp; omega
            have f2 : decide (((s[i]).toNat : Int) ≤ (223 : Int)) = false := by simp; omega
            have f3 : (((s[i]).toNat : Int) == 224) = false := by simp; omega
            have f4 : decide ((225 : Int) ≤ ((s[i]).toNat : Int)) = true := by simp; omega
            have f5 : decide (((s[i]).toNat : Int) ≤ (236 : Int)) = false := by simp; omega
            have f6 : (((s[i]).toNat : Int) == 237) = false := by simp; omega
            have f7 : (((s[i]).toNat : Int) == 238) = false := by simp; omega
            have f8 : (((s[i]).toNat : Int) == 239) = false := by simp; omega
            have f9 : (((s[i]).toNat : Int) == 240) = false := by simp; omega
            have f10 : decide ((241 : Int) ≤ ((s[i]).toNat : Int)) = true := by simp; omega
            have f11 : decide (((s[i]).toNat : Int) ≤ (243 : Int)) = true := by simp; omega
            have HC : Hid (Cls (s[i]).toNat 3 128 191) := by show Cls _ _ _ _; unfold Cls; omega
            clear g1 g2 hc hlc
            go_wp2
            go_meet
            exact ⟨3, 128, 191, rfl, rfl, rfl, HC, rfl⟩
          · have f1 : decide ((194 : Int) ≤ ((s[i]).toNat : Int)) = true := by simp; omega
            have f2 : decide (((s[i]).toNat : Int) ≤ (223 : Int)) = false := by simp; omega
            have f3 : (((s[i]).toNat : Int) == 224) = false := by simp; omega
            have f4 : decide ((225 : Int) ≤ ((s[i]).toNat : Int)) = true := by simp; omega
            have f5 : decide (((s[i]).toNat : Int) ≤ (236 : Int)) = false := by simp; omega
            have f6 : (((s[i]).toNat : Int) == 237) = false := by simp; omega
            have f7 : (((s[i]).toNat : Int) == 238) = false := by simp; omega
            have f8 : (((s[i]).toNat : Int) == 239) = false := by simp; omega
            have f9 : (((s[i]).toNat : Int) == 240) = false := by simp; omega
            have f10 : decide ((241 : Int) ≤ ((s[i]).toNat : Int)) = true := by simp; omega
            have f11 : decide (((s[i]).toNat : Int) ≤ (243 : Int)) = false := by simp; omega
            have f12 : (((s[i]).toNat : Int) == 244) = true := by simp; omega
            have HC : Hid (Cls (s[i]).toNat 3 128 143) := by show Cls _ _ _ _; unfold Cls; omega
            clear g1 g2 hc hlc
            go_wp2
            go_meet
            exact ⟨3, 128, 143, rfl, rfl, rfl, HC, rfl⟩
          · have f1 : decide ((194 : Int) ≤ ((s[i]).toNat : Int)) = true := by simp; omega
            have f2 : decide (((s[i]).toNat : Int) ≤ (223 : Int)) = false := by simp; omega
            have f3 : (((s[i]).toNat : Int) == 224) = false := by simp; omega
            have f4 : decide ((225 : Int) ≤ ((s[i]).toNat : Int)) = true := by simp; omega
            have f5 : decide (((s[i]).toNat : Int) ≤ (236 : Int)) = false := by simp; omega
            have f6 : (((s[i]).toNat : Int) == 237) = false := by simp; omega
            have f7 : (((s[i]).toNat : Int) == 238) = false := by simp; omega
            have f8 : (((s[i]).toNat : Int) == 239) = false := by simp; omega
            have f9 : (((s[i]).toNat : Int) == 240) = false := by simp; omega
            have f10 : decide ((241 : Int) ≤ ((s[i]).toNat : Int)) = true := by simp; omega
            have f11 : decide (((s[i]).toNat : Int) ≤ (243 : Int)) = false := by simp; omega
            have f12 : (((s[i]).toNat : Int) == 244) = false := by simp; omega
            go_wp2
            go_ret
            exact ⟨⟨false, rfl, fun h => by cases h⟩, rfl⟩
        case rest =>
        obtain ⟨n, lo, hi', rfl, rfl, rfl, HC, rfl⟩ := hcut
        have hn1 : 1 ≤ n := by have := HC.out; unfold Cls at this; omega
        have hn3 : n ≤ 3 := by have := HC.out; unfold Cls at this; omega
        have hCg : Hid (Cls (s.get! i).toNat n lo hi') := by show Cls _ _ _ _; rw [hg]; exact HC.out
        by_cases hz : i + n < s.size
        · have hz' : decide ((s.size : Int) - (i : Int) ≤ (n : Int)) = false := by simp; omega
          have hi1 : i + 1 < s.size := by omega
          have hg1 := get_at s (i + 1) hi1
          have hl1 := (s[i + 1]).toNat_lt
          by_cases h1 : ((s[i + 1]).toNat : Int) < (lo : Int)
          · go_wp2
            go_ret
            exact ⟨⟨false, rfl, fun h => by cases h⟩, rfl⟩
          · have h1' : decide (((s[i + 1]).toNat : Int) < (lo : Int)) = false := by simp; omega
            have h1n : decide ((s[i + 1]).toNat < lo) = false := by simp; omega
            by_cases h2 : (hi' : Int) < ((s[i + 1]).toNat : Int)
            · go_wp2
              go_ret
              exact ⟨⟨false, rfl, fun h => by cases h⟩, rfl⟩
            · have h2' : decide ((hi' : Int) < ((s[i + 1]).toNat : Int)) = false := by simp; omega
              have h2n : decide (hi' < (s[i + 1]).toNat) = false := by simp; omega
              go_wp2
              go_loop [8] (fun j => ∃ k : Nat, 2 ≤ k ∧ k ≤ n + 1 ∧ j = .int .i64 k ∧ Conts s i k) (fun j => 4 - (intOf j).toNat)
              case atStart => exact ⟨2, by omega, by omega, rfl, fun j h h' => by omega⟩
              case round =>
                obtain ⟨k, hk2, hkn, rfl, HK⟩ := hrel
                by_cases hkl : k ≤ n
                · have hkz : (k : Int) ≤ (n : Int) := by omega
                  have hik : i + k < s.size := by omega
                  have hgk := get_at s (i + k) hik
                  by_cases hp1 : ((s[i + k]).toNat : Int) < 128
                  · go_wp2
                    go_ret
                    exact ⟨⟨false, rfl, fun h => by cases h⟩, rfl⟩
                  · have hp1' : decide (((s[i + k]).toNat : Int) < 128) = false := by simp; omega
                    by_cases hp2 : (191 : Int) < ((s[i + k]).toNat : Int)
                    · go_wp2
                      go_ret
                      exact ⟨⟨false, rfl, fun h => by cases h⟩, rfl⟩
                    · have hp2' : decide ((191 : Int) < ((s[i + k]).toNat : Int)) = false := by simp; omega
                      have HK2 : Conts s i (k + 1) := fun j hj hj' => by
                        by_cases he : j = k
                        · subst he; rw [hgk]; omega
                        · exact HK j hj (by omega)
                      go_wp2
                      go_round
                      case rel => exact ⟨k + 1, by omega, by omega, by go_num, HK2⟩
                      case measure => simp [intOf]; omega
                · have hkz : decide ((k : Int) ≤ (n : Int)) = false := by simp; omega
                  have H2 : Runs s (i + (n + 1)) := HR.more (wid_cls s i n lo hi' hCg.out hz (by rw [hg1]; omega) (by rw [hg1]; omega) (fun j hj hj' => HK j hj (by omega)))
                  go_wp2
                  go_round
                  case rel => exact ⟨i + (n + 1), by omega, by go_num, H2⟩
                  case measure => simp [intOf]; omega
        · have hz' : (s.size : Int) - (i : Int) ≤ (n : Int) := by omega
          go_wp2
          go_ret
          exact ⟨⟨false, rfl, fun h => by cases h⟩, rfl⟩
    · have hlz : decide ((i : Int) < (s.size : Int)) = false := by simp; omega
      have hk' : i = s.size := by omega
      subst hk'
      go_wp2
      go_ret
      exact ⟨⟨true, rfl, fun _ => by first | trivial | exact HR⟩, rfl⟩
end Go.Proofs.Qxb6608680aFmt
