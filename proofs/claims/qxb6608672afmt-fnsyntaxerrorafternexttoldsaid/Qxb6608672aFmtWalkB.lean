/-
  Seat b6608672aF (tabulon). WALKS: strings.ContainsRune at the spaces, at every byte (the shelf's contract serves ASCII alone).
-/
import Derived.Test.Qxb6608672aFmtShelf
import Derived.Test.Qxb6608672aFmtWalkA
import Derived.Deep.QuietTactic
import Derived.BigQuiet
import Derived.Deep.RegionWith
import Derived.WalkMore
import Derived.WalkLawsBesides
namespace Go.Proofs.Qxb6608672aFmt
open Go.RowKit

theorem index_mem : ∀ (l : List UInt8) (c : UInt8), decide (0 ≤ Lib.indexByte l c) = l.contains c
  | [], c => by simp [Lib.indexByte]
  | b :: l, c => by
    have ih := index_mem l c
    have hg := Lib.indexByte_ge l c
    unfold Lib.indexByte
    rw [List.contains_cons]
    by_cases hb : b == c
    · have : (c == b) = true := by simp at hb ⊢; exact hb.symm
      simp [hb, this]
    · have : (c == b) = false := by simp at hb ⊢; exact fun h => hb h.symm
      rw [if_neg hb, this, Bool.false_or, ← ih]
      split
      · rename_i h; simp at h; simp [h]
      · rename_i h
        simp at h
        rw [decide_eq_decide]
        omega

theorem encode_high (n : Int) (h1 : 128 ≤ n) (h2 : n ≤ 255) : ∃ a b : UInt8, Utf8.encode n = ⟨#[a, b]⟩ ∧ 128 ≤ (b.toNat : Int) := by
  have hv : Utf8.valid n = true := by unfold Utf8.valid; simp; omega
  refine ⟨UInt8.ofNat (0xC0 + n.toNat / 64), UInt8.ofNat (0x80 + n.toNat % 64), ?_, ?_⟩
  · unfold Utf8.encode
    rw [hv]
    simp only [if_true]
    rw [if_neg (by omega), if_pos (by omega)]
  · have : (UInt8.ofNat (0x80 + n.toNat % 64)).toNat = 0x80 + n.toNat % 64 := by rw [UInt8.toNat_ofNat']; omega
    omega

theorem index_tail (b : UInt8) (hb : 128 ≤ (b.toNat : Int)) (w : World) :
    Calls Tryf.prog 21 #[.string ((⟨#[32, 9, 10, 13, 12, 11]⟩ : ByteArray).extract 2 6), .int .u8 b.toNat] w fun e w' => e = .returned (.int .i64 (-1)) ∧ w' = w := by
  refine (Tryf.strings_IndexByte _ _ _).mono ?_
  rintro e w' ⟨rfl, rfl⟩
  refine ⟨ret_int ?_, rfl⟩
  have e1 : ((⟨#[32, 9, 10, 13, 12, 11]⟩ : ByteArray).extract 2 6).data.toList = [10, 13, 12, 11] := by decide
  have e2 : ((b.toNat : Int)).toNat.toUInt8 = b := by simp
  rw [e1, e2]
  have hn : ∀ c : UInt8, c.toNat < 128 → (c == b) = false := fun c hc => by
    cases h : c == b with
    | false => rfl
    | true => simp at h; subst h; omega
  simp [Lib.indexByte, hn 10 (by decide), hn 13 (by decide), hn 12 (by decide), hn 11 (by decide)]

set_option maxRecDepth 100000 in
set_option maxHeartbeats 400000 in
theorem indexRune_high (n : Int) (w : World) (h1 : 128 ≤ n) (h2 : n ≤ 255) :
    Calls Tryf.prog 30 #[.string ⟨#[32, 9, 10, 13, 12, 11]⟩, .int .i32 n] w fun e w' => e = .returned (.int .i64 (-1)) ∧ Below w.heap.size w w' := by
  obtain ⟨a, b, henc, hb⟩ := encode_high n h1 h2
  have hv : Lib.validRune n = true := by unfold Lib.validRune; simp; omega
  have hne : (n == 65533) = false := by simp; omega
  have hw2 : IntKind.i64.wrap 2 = 2 := by decide
  have hx : ((((⟨#[32, 9, 10, 13, 12, 11]⟩ : ByteArray)[1]'(by decide)).toNat : Int) != (((⟨#[a, b]⟩ : ByteArray)[1]'(by show 1 < 2; decide)).toNat : Int)) = true := by
    show ((9 : Int) != (b.toNat : Int)) = true
    simp; omega
  go_enter Tryf.func30, Tryf.ntmps30
  go_wp2_with (go_at_call 41; refine (Tryf.utf8_ValidRune _ _).mono ?_; rintro e w' ⟨rfl, rfl⟩)
  go_step3
  go_wp2
  refine wp_loop_rounds 1 ?_
  rw [rounds_succ]
  go_wp2
  go_step3
  go_wp2
  go_quiet (fail)
  go_wp2
  go_quiet ((go_at_call 21; exact (index_tail b hb _).mono fun _ _ h => ⟨h.1, _, h.2⟩))
  go_wp2
  rw [Exit.noGoto_ret]
  go_wp2
  rw [Exit.noGoto_ret]
  go_ret
  exact ⟨rfl, below_drewN (Below.refl _ _) _⟩

/-- strings.ContainsRune over the six spaces, at every byte. -/
theorem containsSpace (c : UInt8) (w : World) :
    Calls Tryf.prog 19 #[.string ⟨#[32, 9, 10, 13, 12, 11]⟩, .int .i32 c.toNat] w fun e w' => e = .returned (.bool (Lx.spc c)) ∧ Below w.heap.size w w' := by
  by_cases hc : c.toNat < 128
  · refine (Tryf.strings_ContainsRune_ascii _ _ _ (by omega) (by omega)).mono ?_
    rintro e w' ⟨rfl, rfl⟩
    refine ⟨ret_bool ?_, Below.refl _ _⟩
    rw [index_mem]
    have e2 : ((c.toNat : Int)).toNat.toUInt8 = c := by simp
    rw [e2]
    rfl
  · have hlt := c.toNat_lt
    have hs : Lx.spc c = false := by
      unfold Lx.spc Lx.spaces
      have hn : ∀ d : UInt8, d.toNat < 128 → (c == d) = false := fun d hd => by
        cases h : c == d with
        | false => rfl
        | true => simp at h; subst h; omega
      simp only [List.contains_cons, hn 32 (by decide), hn 9 (by decide), hn 10 (by decide), hn 13 (by decide), hn 12 (by decide), hn 11 (by decide), List.contains_nil, Bool.or_false]
    have cI := indexRune_high (c.toNat : Int) w (by omega) (by omega)
    generalize (c.toNat : Int) = n at *
    rw [hs]
    clear hs hc hlt
    go_enter Tryf.func19, Tryf.ntmps19
    go_wp2_with fail
    refine cI.mono ?_
    rintro e w' ⟨rfl, hb⟩
    go_wp2
    go_ret
    exact ⟨rfl, hb⟩
end Go.Proofs.Qxb6608672aFmt
