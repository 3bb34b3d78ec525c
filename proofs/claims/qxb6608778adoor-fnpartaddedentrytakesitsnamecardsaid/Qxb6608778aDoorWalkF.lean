/-
  Seat b6608778aD (dasho). WALK: the law FnPartAddedEntryTakesItsName, entries not nil.
-/
import Derived.Test.Qxb6608778aDoorWalkE
namespace Go.Proofs.Qxb6608778aDoor
open Go.RowKit Go.Lib Go.Shelf Go.WideMaps Go.Maps
attribute [local go_sem] neq_some neq_none

set_option maxRecDepth 100000 in
set_option maxHeartbeats 4000000 in
theorem law_any (a : Addr) (len cap : Nat) (ss : List ByteArray) (x n : ByteArray) (w : World) (hT : Tabs w) (hl : ss.length = len) (hlm : len ≤ maxLen) (hx : x.size ≤ maxLen) (hn : n.size ≤ maxLen)
    (hc : ∀ j, j < len → w.cell? (a.add j) = some (.string (ss.getD j ByteArray.empty))) (hsz : ∀ s ∈ ss, s.size ≤ maxLen) :
    Calls Tryd.prog 4 #[.slice (some a) len cap, .string x, .string n] w fun e w' => e = .returned (.bool true) ∧ Below w.heap.size w w' := by
  have cB := bytes_all a len cap ss x n w hx hn (by omega) hc hsz
  unfold maxLen at hx hn hlm
  have HT : Hid (Tabs w) := hT
  have HC : Hid (∀ j, j < len → w.cell? (a.add j) = some (.string (ss.getD j ByteArray.empty))) := hc
  have HL : Hid (ss.length = len) := hl
  clear hT hc hsz hl
  go_enter Tryd.func4, Tryd.ntmps4
  go_wp2_with fail
  refine cB.mono ?_
  clear cB
  rintro en w1 ⟨⟨c, rfl, hcc⟩, hw1⟩
  rw [hw1]; clear hw1 w1
  cases c with
  | false =>
    go_wp2
    go_ret
    exact ⟨rfl, Below.refl _ _⟩
  | true =>
    have HJ : Hid (∀ j, j < len → (ss.getD j ByteArray.empty).size ≤ 1048576) := hcc rfl
    clear hcc
    by_cases h1 : len ≤ 65536
    · by_cases h2 : x.size ≤ 262144
      · by_cases h3 : n.size ≤ 262144
        · have d1 : decide ((65536 : Int) < (len : Int)) = false := by simp; omega
          have d2 : decide ((262144 : Int) < (x.size : Int)) = false := by simp; omega
          have d3 : decide ((262144 : Int) < (n.size : Int)) = false := by simp; omega
          obtain ⟨Z1, hZ1, hmk1⟩ := made len (by omega)
          have HZ1 : Hid (Z1.length = len) := hZ1
          clear hZ1
          go_wp2_with (refine wpList_copy_splice rfl _ _ _ _ (by rfl) 9 Tryd.underlying22 size9 _ _ _ _ _ _ (by rfl) (by rfl) w.heap.size 0 Z1 9 (heap_alloc_new w _) (strs ss) (by rw [strs_length, HL.out]; simp) (fun _ => ⟨rfl, _, rfl, strs_src HL.out (fun j hj => kept (HC.out j hj) ((Below.refl _ w).alloc (Nat.le_refl _) _))⟩) (by rw [strs_length, HL.out, HZ1.out]; omega) (strs_one ss) w.heap.size w ((Below.refl _ w).alloc (Nat.le_refl _) _) (Nat.le_refl _) ?_; intro w2 HR2 hb2)
          have HB2 : Hid (Below w.heap.size w w2) := hb2
          have HV2 : Hid (∀ j, j < len → w2.cell? ⟨w.heap.size, 0 + j, none⟩ = some (.string (ss.getD j ByteArray.empty))) := fun j hj => row_cells HR2.out j (by rw [HL.out]; exact hj)
          have hlt2 : w.heap.size < w2.heap.size := Array.getElem?_eq_some_iff.1 HR2.out |>.1
          clear hb2 HR2 HZ1 hmk1 HC
          go_loopw [8, 9] (fun t i wr => ∃ k m : Nat, k ≤ len ∧ m ≤ 1048576 ∧ t = .int .i64 m ∧ i = .int .i64 k ∧ wr = w2) (fun t i _ => len - (intOf i).toNat)
          case atStart => exact ⟨0, 16 + x.size + n.size, Nat.zero_le _, by omega, by simp, rfl, rfl⟩
          case round =>
            obtain ⟨k, m, hk, hm, rfl, rfl, hwr⟩ := hrel
            subst hwr
            by_cases hkl : k < len
            · have hkz : (k : Int) < (len : Int) := by omega
              have hcx := HV2.out k hkl
              have hsx := HJ.out k hkl
              obtain ⟨s, hs⟩ : ∃ s, s = ss.getD k ByteArray.empty := ⟨_, rfl⟩
              rw [← hs] at hcx hsx
              rw [Nat.zero_add] at hcx
              clear hs
              go_wp2
              · go_ret
                exact ⟨rfl, HB2.out⟩
              · go_roundw
                case rel => exact ⟨k + 1, m + (16 + s.size), by omega, by omega, by simp, by simp⟩
                case measure => simp [intOf]; omega
            · have hkz : decide ((k : Int) < (len : Int)) = false := by simp; omega
              obtain rfl : len = k := by omega
              obtain ⟨Z2, hZ2, hmk⟩ := made (len + 1) (by omega)
              have HZ2 : Hid (Z2.length = len + 1) := hZ2
              have hmk2 : ∀ v : World, (Instr.makeSlice 22 (.int .i64 ((len : Int) + 1)) (.int .i64 ((len : Int) + 1))).run Tryd.prog v = .ok (.slice (some ⟨v.heap.size, 0, none⟩) (len + 1) (len + 1)) (v.alloc (.cells Z2.toArray 9)) := fun v => by
                have := hmk v
                rw [show ((len + 1 : Nat) : Int) = (len : Int) + 1 from by omega] at this
                exact this
              clear hZ2 hmk
              go_wp2_with (refine wpList_copy_splice rfl _ _ _ _ (by rfl) 9 Tryd.underlying22 size9 _ _ _ _ _ _ (by rfl) (by rfl) wr.heap.size 0 Z2 9 (heap_alloc_new wr _) (strs ss) (by rw [strs_length, HL.out]; simp) (fun _ => ⟨rfl, _, rfl, strs_src HL.out (fun j hj => by rw [WideShapes.add_plain]; exact kept (HV2.out j hj) ((Below.refl _ wr).alloc (Nat.le_refl _) _))⟩) (by rw [strs_length, HL.out, HZ2.out]; omega) (strs_one ss) wr.heap.size wr ((Below.refl _ wr).alloc (Nat.le_refl _) _) (Nat.le_refl _) ?_; intro w3 HR3 hb3; have HB3 : Hid (Below wr.heap.size wr w3) := hb3; clear hb3; obtain ⟨⟨v3, hv3⟩, hf3⟩ := row_last HL.out HZ2.out HR3.out)
              have HM3 : Hid (∀ j, j < len + 1 → (w3.setCell ⟨wr.heap.size, len, none⟩ (.string x)).cell? ⟨wr.heap.size, 0 + j, none⟩ = some (.string ((ss ++ [x]).getD j ByteArray.empty))) := more_cells HL.out HZ2.out HR3.out
              have HB4 : Hid (Below wr.heap.size wr (w3.setCell ⟨wr.heap.size, len, none⟩ (.string x))) := HB3.out.setCell (Nat.le_refl _) _
              have hlt3 : wr.heap.size < w3.heap.size := World.block_lt_of_cell? w3 ⟨wr.heap.size, len, none⟩ hv3
              have hlt4 : wr.heap.size < (w3.setCell ⟨wr.heap.size, len, none⟩ (.string x)).heap.size := by simpa using hlt3
              clear HR3 HB3 hv3 hf3 hlt3 hmk2 HZ2
              generalize w3.setCell ⟨wr.heap.size, len, none⟩ (.string x) = w4 at HM3 HB4 hlt4 ⊢
              have HT4 : Hid (Tabs w4) := (HT.out.below HB2.out).below HB4.out
              have HZ : Hid (∀ s ∈ ss, s.size ≤ 1048576) := all_size HL.out HJ.out
              have HW4 : Hid (Below w.heap.size w w4) := HB2.out.trans (HB4.out.mono (by omega))
              refine (book_any w.heap.size 0 len len ss w4 HT4.out (by rw [HL.out]; exact Nat.le_refl _) (by omega) (by omega) (fun j hj => (HB4.out.cell (p := ⟨w.heap.size, 0 + j, none⟩) hlt2).trans (HV2.out j hj)) HZ.out).mono ?_
              rintro e w5 ⟨rfl, hb5, hc5, D1, hD1⟩
              have HB5 : Hid (Below w4.heap.size w4 w5) := hb5
              have HC5 : Hid (w5.cell? ⟨w4.heap.size + 1, 0, none⟩ = some (.map (some w4.heap.size))) := hc5
              have HD5 : Hid (Book w4.heap.size ss len D1 w5) := hD1
              clear hb5 hc5 hD1
              have c2 := book_any wr.heap.size 0 (len + 1) (len + 1) (ss ++ [x]) w5 (HT4.out.below HB5.out) (by rw [List.length_append, HL.out]; exact Nat.le_refl _) (by omega) (Nat.lt_of_lt_of_le hlt4 HB5.out.size) (fun j hj => (HB5.out.cell (p := ⟨wr.heap.size, 0 + j, none⟩) hlt4).trans (HM3.out j hj)) (more_size HZ.out h2)
              go_wp2_with fail
              refine c2.mono ?_
              clear c2
              rintro e w6 ⟨rfl, hb6, hc6, D2, hD2⟩
              have HT6 : Hid (Tabs w6) := (HT4.out.below HB5.out).below hb6
              have HW6 : Hid (Below w.heap.size w w6) := (HW4.out.trans (HB5.out.mono (Nat.le_trans (Nat.le_of_lt hlt2) (Nat.le_of_lt hlt4)))).trans (hb6.mono (Nat.le_trans (Nat.le_trans (Nat.le_of_lt hlt2) (Nat.le_of_lt hlt4)) HB5.out.size))
              obtain ⟨A1, A2, hq1, hq2, hC⟩ := tail_facts (n := n) HT6.out HL.out h2 h3 ((hb6.cell (p := ⟨w4.heap.size + 1, 0, none⟩) (World.block_lt_of_cell? w5 _ HC5.out)).trans HC5.out) (HD5.out.below hb6) hc6 hD2
              clear hb6 hc6 hD2 HC5 HD5 HB5 HM3 HB4 HV2 HJ HZ HT6 HT4
              have HS6 : Hid (w.heap.size ≤ w6.heap.size) := HW6.out.size
              by_cases hq : pk n = pk x
              · obtain rfl := hq1 hq
                clear hq1 hq2
                cases A1 with
                | none =>
                  simp only [ans] at hC
                  have HC : Hid (∀ v, Below w6.heap.size w6 v → _) := hC
                  clear hC
                  go_wp2_with fail
                  refine ((HC.out w6 (Below.refl _ _)).1).mono ?_
                  rintro e w7 ⟨rfl, hb7⟩
                  have HB7 : Hid (Below w6.heap.size w6 w7) := hb7
                  clear hb7
                  go_wp2_with fail
                  refine ((HC.out w7 HB7.out).2.1).mono ?_
                  rintro e w8 ⟨rfl, hb8⟩
                  have HB8 : Hid (Below w6.heap.size w6 w8) := HB7.out.trans (hb8.mono HB7.out.size)
                  clear hb8
                  go_wp2_with fail
                  refine ((HC.out w8 HB8.out).2.2.1).mono ?_
                  rintro e w9 ⟨rfl, hb9⟩
                  have HB9 : Hid (Below w6.heap.size w6 w9) := HB8.out.trans (hb9.mono HB8.out.size)
                  clear hb9
                  go_wp2_with fail
                  refine ((HC.out w9 HB9.out).2.2.2.1).mono ?_
                  rintro e w10 ⟨rfl, hb10⟩
                  have HB10 : Hid (Below w6.heap.size w6 w10) := HB9.out.trans (hb10.mono HB9.out.size)
                  clear hb10
                  go_wp2_with fail
                  refine ((HC.out w10 HB10.out).2.2.2.2).mono ?_
                  rintro e w11 ⟨rfl, hb11⟩
                  have HB11 : Hid (Below w6.heap.size w6 w11) := HB10.out.trans (hb11.mono HB10.out.size)
                  clear hb11
                  go_wp2_with fail
                  go_ret
                  exact ⟨rfl, HW6.out.trans (HB11.out.mono HS6.out)⟩
                | some y =>
                  simp only [ans] at hC
                  have HC : Hid (∀ v, Below w6.heap.size w6 v → _) := hC
                  clear hC
                  go_wp2_with fail
                  refine ((HC.out w6 (Below.refl _ _)).1).mono ?_
                  rintro e w7 ⟨rfl, hb7⟩
                  have HB7 : Hid (Below w6.heap.size w6 w7) := hb7
                  clear hb7
                  go_wp2_with fail
                  refine ((HC.out w7 HB7.out).2.1).mono ?_
                  rintro e w8 ⟨rfl, hb8⟩
                  have HB8 : Hid (Below w6.heap.size w6 w8) := HB7.out.trans (hb8.mono HB7.out.size)
                  clear hb8
                  go_wp2_with fail
                  refine ((HC.out w8 HB8.out).2.2.1).mono ?_
                  rintro e w9 ⟨rfl, hb9⟩
                  have HB9 : Hid (Below w6.heap.size w6 w9) := HB8.out.trans (hb9.mono HB8.out.size)
                  clear hb9
                  go_wp2_with fail
                  refine ((HC.out w9 HB9.out).2.2.2.1).mono ?_
                  rintro e w10 ⟨rfl, hb10⟩
                  have HB10 : Hid (Below w6.heap.size w6 w10) := HB9.out.trans (hb10.mono HB9.out.size)
                  clear hb10
                  go_wp2_with fail
                  refine ((HC.out w10 HB10.out).2.2.2.2).mono ?_
                  rintro e w11 ⟨rfl, hb11⟩
                  have HB11 : Hid (Below w6.heap.size w6 w11) := HB10.out.trans (hb11.mono HB10.out.size)
                  clear hb11
                  go_wp2_with fail
                  go_ret
                  exact ⟨rfl, HW6.out.trans (HB11.out.mono HS6.out)⟩
              · have hqb := ne_beq hq
                obtain rfl := hq2 hq
                clear hq1 hq2
                cases A2 with
                | none =>
                  simp only [ans] at hC
                  have HC : Hid (∀ v, Below w6.heap.size w6 v → _) := hC
                  clear hC
                  go_wp2_with fail
                  refine ((HC.out w6 (Below.refl _ _)).1).mono ?_
                  rintro e w7 ⟨rfl, hb7⟩
                  have HB7 : Hid (Below w6.heap.size w6 w7) := hb7
                  clear hb7
                  go_wp2_with fail
                  refine ((HC.out w7 HB7.out).2.1).mono ?_
                  rintro e w8 ⟨rfl, hb8⟩
                  have HB8 : Hid (Below w6.heap.size w6 w8) := HB7.out.trans (hb8.mono HB7.out.size)
                  clear hb8
                  go_wp2_with fail
                  refine ((HC.out w8 HB8.out).2.2.1).mono ?_
                  rintro e w9 ⟨rfl, hb9⟩
                  have HB9 : Hid (Below w6.heap.size w6 w9) := HB8.out.trans (hb9.mono HB8.out.size)
                  clear hb9
                  go_wp2_with fail
                  refine ((HC.out w9 HB9.out).2.2.2.1).mono ?_
                  rintro e w10 ⟨rfl, hb10⟩
                  have HB10 : Hid (Below w6.heap.size w6 w10) := HB9.out.trans (hb10.mono HB9.out.size)
                  clear hb10
                  go_wp2_with fail
                  refine ((HC.out w10 HB10.out).2.2.2.2).mono ?_
                  rintro e w11 ⟨rfl, hb11⟩
                  have HB11 : Hid (Below w6.heap.size w6 w11) := HB10.out.trans (hb11.mono HB10.out.size)
                  clear hb11
                  go_wp2_with fail
                  go_ret
                  exact ⟨rfl, HW6.out.trans (HB11.out.mono HS6.out)⟩
                | some y =>
                  simp only [ans] at hC
                  have HC : Hid (∀ v, Below w6.heap.size w6 v → _) := hC
                  clear hC
                  go_wp2_with fail
                  refine ((HC.out w6 (Below.refl _ _)).1).mono ?_
                  rintro e w7 ⟨rfl, hb7⟩
                  have HB7 : Hid (Below w6.heap.size w6 w7) := hb7
                  clear hb7
                  go_wp2_with fail
                  refine ((HC.out w7 HB7.out).2.1).mono ?_
                  rintro e w8 ⟨rfl, hb8⟩
                  have HB8 : Hid (Below w6.heap.size w6 w8) := HB7.out.trans (hb8.mono HB7.out.size)
                  clear hb8
                  go_wp2_with fail
                  refine ((HC.out w8 HB8.out).2.2.1).mono ?_
                  rintro e w9 ⟨rfl, hb9⟩
                  have HB9 : Hid (Below w6.heap.size w6 w9) := HB8.out.trans (hb9.mono HB8.out.size)
                  clear hb9
                  go_wp2_with fail
                  refine ((HC.out w9 HB9.out).2.2.2.1).mono ?_
                  rintro e w10 ⟨rfl, hb10⟩
                  have HB10 : Hid (Below w6.heap.size w6 w10) := HB9.out.trans (hb10.mono HB9.out.size)
                  clear hb10
                  go_wp2_with fail
                  refine ((HC.out w10 HB10.out).2.2.2.2).mono ?_
                  rintro e w11 ⟨rfl, hb11⟩
                  have HB11 : Hid (Below w6.heap.size w6 w11) := HB10.out.trans (hb11.mono HB10.out.size)
                  clear hb11
                  go_wp2_with fail
                  go_ret
                  exact ⟨rfl, HW6.out.trans (HB11.out.mono HS6.out)⟩
        · have d1 : decide ((65536 : Int) < (len : Int)) = false := by simp; omega
          have d2 : decide ((262144 : Int) < (x.size : Int)) = false := by simp; omega
          have d3 : decide ((262144 : Int) < (n.size : Int)) = true := by simp; omega
          go_wp2
          go_ret
          exact ⟨rfl, Below.refl _ _⟩
      · have d1 : decide ((65536 : Int) < (len : Int)) = false := by simp; omega
        have d2 : decide ((262144 : Int) < (x.size : Int)) = true := by simp; omega
        go_wp2
        go_ret
        exact ⟨rfl, Below.refl _ _⟩
    · have d1 : decide ((65536 : Int) < (len : Int)) = true := by simp; omega
      go_wp2
      go_ret
      exact ⟨rfl, Below.refl _ _⟩
end Go.Proofs.Qxb6608778aDoor
