/-
  Seat b6608778aD (dasho). WALK: ZZnewWorkbook.
-/
import Derived.Test.Qxb6608778aDoorWalkB
namespace Go.Proofs.Qxb6608778aDoor
open Go.RowKit Go.Lib Go.Shelf Go.WideMaps Go.Maps
attribute [local go_sem] makes30

theorem below_drew {w w' : World} (h : Below w.drew.heap.size w.drew w') : Below w.heap.size w w' := (Below.refl _ w).drew.trans h

/-- One store into the book. -/
theorem upd {mb k a : Nat} {D : DataW Unit} {s : ByteArray} {w1 : World} (ho : w1.ownsMap Tryd.prog 9 ptrR mb k D) (hk : k < maxLen) (hs : s.size ≤ 1048576) :
    ∃ w', (Instr.mapUpdate 30 (.map (some mb)) (.string (pk s)) (.pointer (some ⟨a, 0, none⟩))).run Tryd.prog w1 = .ok () w' ∧ w'.ownsMap Tryd.prog 9 ptrR mb (k + 1) (D.put (.string (pk s).data.toList) (.lit (.int .i64 a))) ∧ w1.grownBy w' (some mb) :=
  ho.update law Tryd.underlying30 hk (keyOf_string_mk Tryd.underlying9 (pk_size s hs)) rfl

/-- For each a some b: a function that gives it. -/
theorem pick_all {α β : Type} {p : α → β → Prop} (h : ∀ a, ∃ b, p a b) : ∃ f : α → β, ∀ a, p a (f a) := ⟨fun a => Classical.choose (h a), fun a => Classical.choose_spec (h a)⟩

/-- What stands behind k rounds. -/
def Filed (w : World) (ss : List ByteArray) (k : Nat) (wA : World) : Prop :=
  ∃ D, Book w.heap.size ss k D wA ∧ Below w.heap.size w wA ∧ wA.cell? ⟨w.heap.size + 1, 0, none⟩ = some (.map (some w.heap.size)) ∧ w.heap.size + 2 ≤ wA.heap.size

theorem Filed.rel {w wA : World} {ss : List ByteArray} {k len : Nat} (h : Filed w ss k wA) (hk : k ≤ len) {i : Value} (hi : i = .int .i64 k) :
    ∃ (k' : Nat) (D : DataW Unit), k' ≤ len ∧ i = .int .i64 k' ∧ Hid (Book w.heap.size ss k' D wA) ∧ Hid (Below w.heap.size w wA) ∧ wA.cell? ⟨w.heap.size + 1, 0, none⟩ = some (.map (some w.heap.size)) ∧ w.heap.size + 2 ≤ wA.heap.size := by
  obtain ⟨D, h1, h2, h3, h4⟩ := h
  exact ⟨k, D, hk, hi, h1, h2, h3, h4⟩

/-- What one round leaves: wr at the round's start, wB ahead of the store, wA behind it. -/
theorem round_all {w wr wB wA : World} {ss : List ByteArray} {k a : Nat} {D : DataW Unit} {s : ByteArray} (hB : Book w.heap.size ss k D wr) (hW : Below w.heap.size w wr) (hcb : wr.cell? ⟨w.heap.size + 1, 0, none⟩ = some (.map (some w.heap.size))) (h2 : w.heap.size + 2 ≤ wr.heap.size)
    (hb : Below wr.heap.size wr wB) (hs : s = ss.getD k ByteArray.empty) (ha : wr.heap.size ≤ a) (hc : wB.cell? ⟨a, 0, none⟩ = some (.string s))
    (ho : wA.ownsMap Tryd.prog 9 ptrR w.heap.size (k + 1) (D.put (.string (pk s).data.toList) (.lit (.int .i64 a)))) (hg : wB.grownBy wA (some w.heap.size)) :
    Filed w ss (k + 1) wA := by
  subst hs
  have hBB := hB.below hb
  have hWB : Below w.heap.size w wB := hW.trans (hb.mono (by omega))
  have hszB := hb.size
  have hszA := hg.size
  have hcB : wB.cell? ⟨w.heap.size + 1, 0, none⟩ = some (.map (some w.heap.size)) := (hb.cell (p := ⟨w.heap.size + 1, 0, none⟩) (by show w.heap.size + 1 < wr.heap.size; omega)).trans hcb
  refine ⟨_, hBB.step ho hg (by omega) hc, hWB.grown hg hWB.size (fun j hj => by cases hj; exact Nat.le_refl _), ?_, by omega⟩
  exact (World.cell?_of_block (w := wB) (hg.block (w.heap.size + 1) (World.block_lt_of_cell? wB ⟨w.heap.size + 1, 0, none⟩ hcB) (by simp))).trans hcB

set_option maxRecDepth 100000 in
set_option maxHeartbeats 2000000 in
theorem book_any (b off len cap : Nat) (ss : List ByteArray) (w : World) (hT : Tabs w) (hz : len ≤ ss.length) (hlen : len ≤ 65537) (hb : b < w.heap.size)
    (hc : ∀ j, j < len → w.cell? ⟨b, off + j, none⟩ = some (.string (ss.getD j ByteArray.empty))) (hsz : ∀ s ∈ ss, s.size ≤ 1048576) :
    Calls Tryd.prog 6 #[.slice (some ⟨b, off, none⟩) len cap] w fun e w' => e = .returned (.pointer (some ⟨w.heap.size + 1, 0, none⟩)) ∧ Below w.heap.size w w' ∧ w'.cell? ⟨w.heap.size + 1, 0, none⟩ = some (.map (some w.heap.size)) ∧ ∃ D, Book w.heap.size ss len D w' := by
  have HT : Hid (Tabs w) := hT
  have HC : Hid (∀ j, j < len → w.cell? ⟨b, off + j, none⟩ = some (.string (ss.getD j ByteArray.empty))) := hc
  have HZ : Hid (∀ s ∈ ss, s.size ≤ 1048576) := hsz
  clear hT hc hsz
  go_enter Tryd.func6, Tryd.ntmps6
  go_wp2
  go_loopw [13] (fun i wr => ∃ (k : Nat) (D : DataW Unit), k ≤ len ∧ i = .int .i64 k ∧ Hid (Book w.heap.size ss k D wr) ∧ Hid (Below w.heap.size w wr) ∧ wr.cell? ⟨w.heap.size + 1, 0, none⟩ = some (.map (some w.heap.size)) ∧ w.heap.size + 2 ≤ wr.heap.size) (fun i _ => len - (intOf i).toNat)
  case atStart =>
    have hm : ∀ o, Below (w.alloc (.map #[] 0)).heap.size (w.alloc (.map #[] 0)) ((w.alloc (.map #[] 0)).alloc o) := fun o => (Below.refl _ _).alloc (Nat.le_refl _) o
    exact ⟨0, .map [], Nat.zero_le _, rfl, (Book.made ss w).below (hm _), ((Below.refl w.heap.size w).alloc (Nat.le_refl _) _).alloc (by simp) _, by simp [go_sem], by simp⟩
  case round =>
    obtain ⟨k, D, hk, rfl, HBk, HB, hcb, hsz2⟩ := hrel
    by_cases hkl : k < len
    · have hkz : (k : Int) < (len : Int) := by omega
      have hcx : wr.cell? ⟨b, off + k, none⟩ = some (.string (ss.getD k ByteArray.empty)) := (HB.out.cell (p := ⟨b, off + k, none⟩) hb).trans (HC.out k hkl)
      have hss : (ss.getD k ByteArray.empty).size ≤ 1048576 := HZ.out _ (by
        have e : ss.getD k ByteArray.empty = ss[k]'(by omega) := by simp [List.getD, List.getElem?_eq_getElem (show k < ss.length by omega)]
        rw [e]; exact List.getElem_mem _)
      have HT1 : Hid (Tabs wr) := HT.out.below HB.out
      obtain ⟨s, hs⟩ : ∃ s, s = ss.getD k ByteArray.empty := ⟨_, rfl⟩
      rw [← hs] at hcx hss
      have HS : Hid (s = ss.getD k ByteArray.empty) := hs
      have HSS : Hid (s.size ≤ 1048576) := hss
      clear hs hss
      have HTa : Hid (∀ o, Tabs (wr.drew.alloc o)) := fun o => Tabs.below (w := wr) HT1.out (((Below.refl _ wr).drew).alloc (by exact Nat.le_refl _) o)
      -- the call first, the file's block then
      have HU1 : Hid (∀ w1, Below wr.heap.size wr w1 → w1.cell? ⟨w.heap.size + 1, 0, none⟩ = some (.map (some w.heap.size)) ∧ w.heap.size + 1 < w1.heap.size ∧ ∀ o, ∃ w', (Instr.mapUpdate 30 (.map (some w.heap.size)) (.string (pk s)) (.pointer (some ⟨w1.heap.size, 0, none⟩))).run Tryd.prog (w1.alloc o) = .ok () w' ∧ ((w1.alloc o).cell? ⟨w1.heap.size, 0, none⟩ = some (.string s) → Filed w ss (k + 1) w')) := fun w1 h1 => by
        have hs1 := h1.size
        have hc1 : w1.cell? ⟨w.heap.size + 1, 0, none⟩ = some (.map (some w.heap.size)) := (h1.cell (p := ⟨w.heap.size + 1, 0, none⟩) (by show w.heap.size + 1 < wr.heap.size; omega)).trans hcb
        refine ⟨hc1, by omega, fun o => ?_⟩
        obtain ⟨w', e1, e2, e3⟩ := upd (a := w1.heap.size) ((HBk.out.below h1).1.alloc o) (by unfold maxLen; omega) HSS.out
        exact ⟨w', e1, fun hx => round_all HBk.out HB.out hcb hsz2 (h1.alloc hs1 o) HS.out hs1 hx e2 e3⟩
      -- the file's block first, the call then
      have HU2 : Hid (∀ o w1, (wr.alloc o).cell? ⟨wr.heap.size, 0, none⟩ = some (.string s) → Below (wr.drew.alloc o).heap.size (wr.drew.alloc o) w1 → w1.cell? ⟨w.heap.size + 1, 0, none⟩ = some (.map (some w.heap.size)) ∧ ∃ w', (Instr.mapUpdate 30 (.map (some w.heap.size)) (.string (pk s)) (.pointer (some ⟨wr.heap.size, 0, none⟩))).run Tryd.prog w1 = .ok () w' ∧ Filed w ss (k + 1) w') := fun o w1 hx h1 => by
        have h0 : Below wr.heap.size wr w1 := (((Below.refl _ wr).drew).alloc (by exact Nat.le_refl _) o).trans (h1.mono (by simp))
        have hc1 : w1.cell? ⟨w.heap.size + 1, 0, none⟩ = some (.map (some w.heap.size)) := (h0.cell (p := ⟨w.heap.size + 1, 0, none⟩) (by show w.heap.size + 1 < wr.heap.size; omega)).trans hcb
        obtain ⟨w', e1, e2, e3⟩ := upd (a := wr.heap.size) (HBk.out.below h0).1 (by unfold maxLen; omega) HSS.out
        have hx2 : w1.cell? ⟨wr.heap.size, 0, none⟩ = some (.string s) := (h1.cell (p := ⟨wr.heap.size, 0, none⟩) (by show wr.heap.size < _; simp)).trans hx
        exact ⟨hc1, w', e1, round_all HBk.out HB.out hcb hsz2 h0 HS.out (Nat.le_refl _) hx2 e2 e3⟩
      have hne : w.heap.size + 1 < wr.heap.size := by omega
      go_wp2_with fail
      go_region_with (first
          | (go_at_call 11
             refine (partKey_any s wr.drew HSS.out (by exact HT1.out)).mono ?_
             rintro e w1 ⟨rfl, hb1⟩
             have HB1 : Hid (Below wr.heap.size wr w1) := below_drew hb1
             clear hb1
             obtain ⟨hx1, hne1, hx3⟩ := HU1.out w1 HB1.out
             obtain ⟨wA, hA⟩ := pick_all hx3
             clear hx3
             have hrun := (fun o => (hA o).1)
             have HF : Hid (∀ o, (w1.alloc o).cell? ⟨w1.heap.size, 0, none⟩ = some (.string s) → Filed w ss (k + 1) (wA o)) := (fun o => (hA o).2)
             clear hA)
          | (go_at_call 11
             refine (partKey_any s _ HSS.out (by exact HTa.out _)).mono ?_
             rintro e w1 ⟨rfl, hb1⟩
             obtain ⟨hx1, wA, hrun, hA⟩ := HU2.out _ w1 (by simp [go_sem]) hb1
             have HF : Hid (Filed w ss (k + 1) wA) := hA
             clear hb1 hA))
      all_goals clear HU1 HU2
      all_goals
        go_wp2
        go_roundw
        case rel =>
          first
          | exact Filed.rel HF.out (by omega) (by simp)
          | (refine Filed.rel (HF.out _ ?_) (by omega) (by simp)
             simp [go_sem])
        case measure => simp [intOf]; omega
    · have hkz : decide ((k : Int) < (len : Int)) = false := by simp; omega
      obtain rfl : k = len := by omega
      go_wp2
      go_ret
      exact ⟨rfl, HB.out, hcb, D, HBk.out⟩
end Go.Proofs.Qxb6608778aDoor
