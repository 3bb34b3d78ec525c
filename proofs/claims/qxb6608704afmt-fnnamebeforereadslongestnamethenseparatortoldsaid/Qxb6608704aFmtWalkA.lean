/-
  Seat b6608704aF (sluice). WALKS: the reader's small methods.
-/
import Derived.Test.Qxb6608704aFmtProg
import Derived.WalkKit
import Derived.WalkSpells
import Derived.Deep.QuietTactic
import Derived.BigQuiet
import Derived.Deep.RegionWith
namespace Go.Proofs.Qxb6608704aFmt
open Go.RowKit

/-- The reader lies at block b. -/
def Rd (b : Nat) (path T : ByteArray) (i l : Int) (w : World) : Prop :=
  w.cell? ⟨b, 0, none⟩ = some (.string path) ∧ w.cell? ⟨b, 1, none⟩ = some (.string T) ∧ w.cell? ⟨b, 2, none⟩ = some (.int .i64 i) ∧ w.cell? ⟨b, 3, none⟩ = some (.int .i64 l) ∧ w.frozen? ⟨b, 2, none⟩ = false ∧ w.frozen? ⟨b, 3, none⟩ = false
/-- The line behind a byte. -/
def lineAt (b : UInt8) (l : Int) : Int := if b.toNat = 10 then l + 1 else l

theorem Rd.drewN {b : Nat} {path T : ByteArray} {i l : Int} {w : World} (h : Rd b path T i l w) (n : Nat) : Rd b path T i l (w.drewN n) := h
theorem Rd.set2 {b : Nat} {path T : ByteArray} {i l : Int} {w : World} (h : Rd b path T i l w) (j : Int) : Rd b path T j l (w.setCell ⟨b, 2, none⟩ (.int .i64 j)) := by
  obtain ⟨h0, h1, h2, h3, f2, f3⟩ := h
  refine ⟨?_, ?_, World.cell?_setCell_same _ _ _ h2, ?_, ?_, ?_⟩
  · rw [World.cell?_setCell_other _ _ _ _ (by simp)]; exact h0
  · rw [World.cell?_setCell_other _ _ _ _ (by simp)]; exact h1
  · rw [World.cell?_setCell_other _ _ _ _ (by simp)]; exact h3
  · rw [World.frozen?_setCell]; exact f2
  · rw [World.frozen?_setCell]; exact f3
theorem Rd.set3 {b : Nat} {path T : ByteArray} {i l : Int} {w : World} (h : Rd b path T i l w) (j : Int) : Rd b path T i j (w.setCell ⟨b, 3, none⟩ (.int .i64 j)) := by
  obtain ⟨h0, h1, h2, h3, f2, f3⟩ := h
  refine ⟨?_, ?_, ?_, World.cell?_setCell_same _ _ _ h3, ?_, ?_⟩
  · rw [World.cell?_setCell_other _ _ _ _ (by simp)]; exact h0
  · rw [World.cell?_setCell_other _ _ _ _ (by simp)]; exact h1
  · rw [World.cell?_setCell_other _ _ _ _ (by simp)]; exact h2
  · rw [World.frozen?_setCell]; exact f2
  · rw [World.frozen?_setCell]; exact f3
theorem Rd.below {b : Nat} {path T : ByteArray} {i l : Int} {w w' : World} (h : Rd b path T i l w) (hb : Below w.heap.size w w') (hk : b < w.heap.size) : Rd b path T i l w' := by
  obtain ⟨h0, h1, h2, h3, f2, f3⟩ := h
  exact ⟨(hb.cell (p := ⟨b, 0, none⟩) hk).trans h0, (hb.cell (p := ⟨b, 1, none⟩) hk).trans h1, (hb.cell (p := ⟨b, 2, none⟩) hk).trans h2, (hb.cell (p := ⟨b, 3, none⟩) hk).trans h3, (hb.frozen (p := ⟨b, 2, none⟩) hk).trans f2, (hb.frozen (p := ⟨b, 3, none⟩) hk).trans f3⟩
theorem below_drewN {B : Nat} {a w : World} (h : Below B a w) : ∀ n, Below B a (w.drewN n)
  | 0 => h
  | n + 1 => (below_drewN h n).drew

set_option maxHeartbeats 400000 in
theorem atEnd_any (b : Nat) (T : ByteArray) (i : Int) (w : World) (h1 : w.cell? ⟨b, 1, none⟩ = some (.string T)) (h2 : w.cell? ⟨b, 2, none⟩ = some (.int .i64 i)) :
    Calls Tryf.prog 23 #[.pointer (some ⟨b, 0, none⟩)] w fun e w' => e = .returned (.bool (decide ((T.size : Int) ≤ i))) ∧ ∃ m, w' = w.drewN m := by
  go_enter Tryf.func23, Tryf.ntmps23
  go_wp2
  go_quiet (fail)
  go_wp2
  go_ret
  exact ⟨rfl, nq, rfl⟩

/-- The reader has turned to (i, l); what lay below it, lies. -/
def To (w0 : World) (b : Nat) (path T : ByteArray) (i l : Int) (w : World) : Prop := Rd b path T i l w ∧ Below w0.heap.size w0 w

set_option maxHeartbeats 400000 in
theorem next_any (w0 : World) (b : Nat) (path T : ByteArray) (i : Nat) (l : Int) (w : World) (hb0 : w0.heap.size ≤ b) (hT : T.size ≤ maxLen) (hi : i < T.size) (hl : 0 ≤ l) (hl' : l ≤ 4294967296) (h : To w0 b path T i l w) :
    Calls Tryf.prog 26 #[.pointer (some ⟨b, 0, none⟩)] w fun e w' => e = .returned (.int .u8 (T[i]).toNat) ∧ To w0 b path T ((i + 1 : Nat) : Int) (lineAt T[i] l) w' := by
  unfold maxLen at hT
  obtain ⟨hR, hB⟩ := h
  have hR' := hR
  obtain ⟨h0, h1, h2, h3, f2, f3⟩ := hR
  have HR : Hid (Rd b path T i l w) := hR'
  have HB : Hid (Below w0.heap.size w0 w) := hB
  clear hR' hB h0
  by_cases hb : (T[i]).toNat = 10
  · have hq : (((T[i]).toNat : Int) == 10) = true := by simp; omega
    have hL : Hid (lineAt T[i] l = l + 1) := if_pos hb
    clear hb
    generalize lineAt T[i] l = L at *
    go_enter Tryf.func26, Tryf.ntmps26
    go_wp2
    go_quiet (fail)
    go_wp2
    go_ret
    refine ⟨rfl, ?_⟩
    rw [hL.out]
    exact ⟨((Rd.drewN HR.out nq).set2 _).set3 _, ((below_drewN HB.out nq).setCell hb0 _).setCell hb0 _⟩
  · have hq : (((T[i]).toNat : Int) == 10) = false := by simp; omega
    have hL : Hid (lineAt T[i] l = l) := if_neg hb
    clear hb
    generalize lineAt T[i] l = L at *
    go_enter Tryf.func26, Tryf.ntmps26
    go_wp2
    go_quiet (fail)
    go_wp2
    go_ret
    refine ⟨rfl, ?_⟩
    rw [hL.out]
    exact ⟨(Rd.drewN HR.out nq).set2 _, (below_drewN HB.out nq).setCell hb0 _⟩

theorem ret_bool {a b : Bool} (h : a = b) : Ending.returned (.bool a) = .returned (.bool b) := by rw [h]
def nm (c : UInt8) : Bool := (97 ≤ c && c ≤ 122) || (65 ≤ c && c ≤ 90) || (48 ≤ c && c ≤ 57) || c == 95 || c == 46 || c == 45
def blk (c : UInt8) : Bool := c == 32 || c == 9 || c == 13 || c == 10
theorem nm_iff (c : UInt8) : nm c = true ↔ ((97 ≤ (c.toNat : Int) ∧ (c.toNat : Int) ≤ 122) ∨ (65 ≤ (c.toNat : Int) ∧ (c.toNat : Int) ≤ 90) ∨ (48 ≤ (c.toNat : Int) ∧ (c.toNat : Int) ≤ 57) ∨ (c.toNat : Int) = 95 ∨ (c.toNat : Int) = 46 ∨ (c.toNat : Int) = 45) := by
  unfold nm
  simp only [Bool.or_eq_true, Bool.and_eq_true, decide_eq_true_eq, UInt8.le_iff_toNat_le, beq_iff_eq, ← UInt8.toNat_inj, or_assoc]
  simp
  omega
theorem blk_iff (c : UInt8) : blk c = true ↔ ((c.toNat : Int) = 32 ∨ (c.toNat : Int) = 9 ∨ (c.toNat : Int) = 13 ∨ (c.toNat : Int) = 10) := by
  unfold blk
  simp only [Bool.or_eq_true, beq_iff_eq, ← UInt8.toNat_inj, or_assoc]
  simp
  omega

set_option maxHeartbeats 400000 in
theorem isNameByte_any (c : UInt8) (w : World) : Calls Tryf.prog 14 #[.int .u8 c.toNat] w fun e w' => e = .returned (.bool (nm c)) ∧ w' = w := by
  have hb := c.toNat_lt
  have hi := nm_iff c
  generalize nm c = B at *
  generalize hn : (c.toNat : Int) = n at *
  have hb0 : 0 ≤ n := by omega
  have hb1 : n ≤ 255 := by omega
  clear hb hn
  have HI : Hid _ := hi
  clear hi
  go_enter Tryf.func14, Tryf.ntmps14
  go_wp2
  all_goals
    go_ret
    refine ⟨ret_bool ?_, rfl⟩
    have := HI.out
    rw [Bool.eq_iff_iff, this]
    simp
    try omega

def lod (c : UInt8) : Bool := (97 ≤ c && c ≤ 122) || (65 ≤ c && c ≤ 90) || (48 ≤ c && c ≤ 57)
theorem lod_iff (c : UInt8) : lod c = true ↔ ((97 ≤ (c.toNat : Int) ∧ (c.toNat : Int) ≤ 122) ∨ (65 ≤ (c.toNat : Int) ∧ (c.toNat : Int) ≤ 90) ∨ (48 ≤ (c.toNat : Int) ∧ (c.toNat : Int) ≤ 57)) := by
  unfold lod
  simp only [Bool.or_eq_true, Bool.and_eq_true, decide_eq_true_eq, UInt8.le_iff_toNat_le, or_assoc]
  simp
  omega
set_option maxHeartbeats 400000 in
theorem isLod_any (c : UInt8) (w : World) : Calls Tryf.prog 28 #[.int .u8 c.toNat] w fun e w' => e = .returned (.bool (lod c)) ∧ w' = w := by
  have hb := c.toNat_lt
  have hi := lod_iff c
  generalize lod c = B at *
  generalize hn : (c.toNat : Int) = n at *
  have hb0 : 0 ≤ n := by omega
  have hb1 : n ≤ 255 := by omega
  clear hb hn
  have HI : Hid _ := hi
  clear hi
  go_enter Tryf.func28, Tryf.ntmps28
  go_wp2
  all_goals
    go_ret
    refine ⟨ret_bool ?_, rfl⟩
    have := HI.out
    rw [Bool.eq_iff_iff, this]
    simp
    try omega
set_option maxHeartbeats 400000 in
theorem isWordByte_any (c : UInt8) (w : World) : Calls Tryf.prog 24 #[.int .u8 c.toNat] w fun e w' => e = .returned (.bool (nm c)) ∧ w' = w := by
  have hb := c.toNat_lt
  have hn : nm c = true ↔ (lod c = true ∨ (c.toNat : Int) = 95 ∨ (c.toNat : Int) = 46 ∨ (c.toNat : Int) = 45) := by rw [nm_iff, lod_iff]; omega
  have cL := isLod_any c w
  generalize nm c = B at *
  generalize lod c = D at *
  have HI : Hid _ := hn
  clear hn
  go_enter Tryf.func24, Tryf.ntmps24
  go_wp2_with (go_at_call 28; refine cL.mono ?_; rintro e w' ⟨rfl, rfl⟩)
  all_goals
    go_ret
    refine ⟨ret_bool ?_, rfl⟩
    have := HI.out
    rw [Bool.eq_iff_iff, this]
    simp_all
set_option maxHeartbeats 400000 in
theorem isBlank_any (c : UInt8) (w : World) : Calls Tryf.prog 16 #[.int .u8 c.toNat] w fun e w' => e = .returned (.bool (blk c)) ∧ w' = w := by
  have hb := c.toNat_lt
  have hi := blk_iff c
  generalize blk c = B at *
  generalize hn : (c.toNat : Int) = n at *
  have hb0 : 0 ≤ n := by omega
  have hb1 : n ≤ 255 := by omega
  clear hb hn
  have HI : Hid _ := hi
  clear hi
  go_enter Tryf.func16, Tryf.ntmps16
  go_wp2
  all_goals
    go_ret
    refine ⟨ret_bool ?_, rfl⟩
    have := HI.out
    rw [Bool.eq_iff_iff, this]
    simp
    try omega
end Go.Proofs.Qxb6608704aFmt
