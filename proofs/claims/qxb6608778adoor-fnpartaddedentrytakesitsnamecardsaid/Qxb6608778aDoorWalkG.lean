/-
  Seat b6608778aD (dasho). WALK: the law FnPartAddedEntryTakesItsName, entries nil.
-/
import Derived.Test.Qxb6608778aDoorWalkE
namespace Go.Proofs.Qxb6608778aDoor
open Go.RowKit Go.Lib Go.Shelf Go.WideMaps Go.Maps
attribute [local go_sem] neq_some neq_none

set_option maxRecDepth 100000 in
set_option maxHeartbeats 4000000 in
theorem law_nil (x n : ByteArray) (w : World) (hT : Tabs w) (hx : x.size ≤ maxLen) (hn : n.size ≤ maxLen) :
    Calls Tryd.prog 4 #[.slice none 0 0, .string x, .string n] w fun e w' => e = .returned (.bool true) ∧ Below w.heap.size w w' := by
  have cB := bytes_nil none 0 x n w hx hn
  unfold maxLen at hx hn
  have HT : Hid (Tabs w) := hT
  clear hT
  go_enter Tryd.func4, Tryd.ntmps4
  go_wp2_with fail
  refine cB.mono ?_
  clear cB
  rintro en w1 ⟨⟨c, rfl⟩, hw1⟩
  rw [hw1]; clear hw1 w1
  cases c with
  | false =>
    go_wp2
    go_ret
    exact ⟨rfl, Below.refl _ _⟩
  | true =>
    by_cases h2 : x.size ≤ 262144
    · by_cases h3 : n.size ≤ 262144
      · have d2 : decide ((262144 : Int) < (x.size : Int)) = false := by simp; omega
        have d3 : decide ((262144 : Int) < (n.size : Int)) = false := by simp; omega
        obtain ⟨Z2, hZ2, hmk⟩ := made 1 (by omega)
        have hmk2 : ∀ v : World, (Instr.makeSlice 22 (.int .i64 1) (.int .i64 1)).run Tryd.prog v = .ok (.slice (some ⟨v.heap.size, 0, none⟩) 1 1) (v.alloc (.cells Z2.toArray 9)) := hmk
        have HZ2 : Hid (Z2.length = 0 + 1) := hZ2
        have HL : Hid (([] : List ByteArray).length = 0) := rfl
        clear hZ2 hmk
        go_wp2_with fail
        refine wp_loop_rounds 1 ?_
        rw [rounds_succ]
        go_wp2_with (refine wpList_copy_splice rfl _ _ _ _ (by rfl) 9 Tryd.underlying22 size9 _ _ _ _ _ _ (by rfl) (by rfl) w.heap.size 0 Z2 9 (heap_alloc_new w _) (strs []) (by rfl) (fun h => absurd h (by decide)) (by rw [strs_length, HL.out, HZ2.out]; omega) (strs_one []) w.heap.size w ((Below.refl _ w).alloc (Nat.le_refl _) _) (Nat.le_refl _) ?_; intro w3 HR3 hb3; have HB3 : Hid (Below w.heap.size w w3) := hb3; clear hb3; obtain ⟨⟨v3, hv3⟩, hf3⟩ := row_last HL.out HZ2.out HR3.out)
        have HM3 : Hid (∀ j, j < 0 + 1 → (w3.setCell ⟨w.heap.size, 0, none⟩ (.string x)).cell? ⟨w.heap.size, 0 + j, none⟩ = some (.string (([] ++ [x]).getD j ByteArray.empty))) := more_cells HL.out HZ2.out HR3.out
        have HB4 : Hid (Below w.heap.size w (w3.setCell ⟨w.heap.size, 0, none⟩ (.string x))) := HB3.out.setCell (Nat.le_refl _) _
        have hlt3 : w.heap.size < w3.heap.size := World.block_lt_of_cell? w3 ⟨w.heap.size, 0, none⟩ hv3
        have hlt4 : w.heap.size < (w3.setCell ⟨w.heap.size, 0, none⟩ (.string x)).heap.size := by simpa using hlt3
        clear HR3 HB3 hv3 hf3 hlt3 hmk2 HZ2
        generalize w3.setCell ⟨w.heap.size, 0, none⟩ (.string x) = w4 at HM3 HB4 hlt4 ⊢
        have HT4 : Hid (Tabs w4) := HT.out.below HB4.out
        refine (book_nil [] w4).mono ?_
        rintro e w5 ⟨rfl, hb5, hc5, D1, hD1⟩
        have HB5 : Hid (Below w4.heap.size w4 w5) := hb5
        have HC5 : Hid (w5.cell? ⟨w4.heap.size + 1, 0, none⟩ = some (.map (some w4.heap.size))) := hc5
        have HD5 : Hid (Book w4.heap.size [] 0 D1 w5) := hD1
        clear hb5 hc5 hD1
        have c2 := book_any w.heap.size 0 (0 + 1) (0 + 1) ([] ++ [x]) w5 (HT4.out.below HB5.out) (by rw [List.length_append, HL.out]; exact Nat.le_refl _) (by omega) (Nat.lt_of_lt_of_le hlt4 HB5.out.size) (fun j hj => (HB5.out.cell (p := ⟨w.heap.size, 0 + j, none⟩) hlt4).trans (HM3.out j hj)) (more_size (fun s hs => by cases hs) h2)
        go_wp2_with fail
        refine c2.mono ?_
        clear c2
        rintro e w6 ⟨rfl, hb6, hc6, D2, hD2⟩
        have HT6 : Hid (Tabs w6) := (HT4.out.below HB5.out).below hb6
        have HW6 : Hid (Below w.heap.size w w6) := (HB4.out.trans (HB5.out.mono (Nat.le_of_lt hlt4))).trans (hb6.mono (Nat.le_trans (Nat.le_of_lt hlt4) HB5.out.size))
        obtain ⟨A1, A2, hq1, hq2, hC⟩ := tail_facts (n := n) HT6.out HL.out h2 h3 ((hb6.cell (p := ⟨w4.heap.size + 1, 0, none⟩) (World.block_lt_of_cell? w5 _ HC5.out)).trans HC5.out) (HD5.out.below hb6) hc6 hD2
        clear hb6 hc6 hD2 HC5 HD5 HB5 HM3 HB4 HT6 HT4
        have HS6 : Hid (w.heap.size ≤ w6.heap.size) := HW6.out.size
        by_cases hq : pk n = pk x
        · obtain rfl := hq1 hq
          clear hq1 hq2
          cases A1 with
          | none =>
            simp only [ans] at hC
            have HC : Hid (∀ v, Below w6.heap.size w6 v → _) := hC
            clear hC
            go_wp2_with fail
            refine ((HC.out w6 (Below.refl _ _)).1).mono ?_
            rintro e w7 ⟨rfl, hb7⟩
            have HB7 : Hid (Below w6.heap.size w6 w7) := hb7
            clear hb7
            go_wp2_with fail
            refine ((HC.out w7 HB7.out).2.1).mono ?_
            rintro e w8 ⟨rfl, hb8⟩
            have HB8 : Hid (Below w6.heap.size w6 w8) := HB7.out.trans (hb8.mono HB7.out.size)
            clear hb8
            go_wp2_with fail
            refine ((HC.out w8 HB8.out).2.2.1).mono ?_
            rintro e w9 ⟨rfl, hb9⟩
            have HB9 : Hid (Below w6.heap.size w6 w9) := HB8.out.trans (hb9.mono HB8.out.size)
            clear hb9
            go_wp2_with fail
            refine ((HC.out w9 HB9.out).2.2.2.1).mono ?_
            rintro e w10 ⟨rfl, hb10⟩
            have HB10 : Hid (Below w6.heap.size w6 w10) := HB9.out.trans (hb10.mono HB9.out.size)
            clear hb10
            go_wp2_with fail
            refine ((HC.out w10 HB10.out).2.2.2.2).mono ?_
            rintro e w11 ⟨rfl, hb11⟩
            have HB11 : Hid (Below w6.heap.size w6 w11) := HB10.out.trans (hb11.mono HB10.out.size)
            clear hb11
            go_wp2_with fail
            go_ret
            exact ⟨rfl, HW6.out.trans (HB11.out.mono HS6.out)⟩
          | some y =>
            simp only [ans] at hC
            have HC : Hid (∀ v, Below w6.heap.size w6 v → _) := hC
            clear hC
            go_wp2_with fail
            refine ((HC.out w6 (Below.refl _ _)).1).mono ?_
            rintro e w7 ⟨rfl, hb7⟩
            have HB7 : Hid (Below w6.heap.size w6 w7) := hb7
            clear hb7
            go_wp2_with fail
            refine ((HC.out w7 HB7.out).2.1).mono ?_
            rintro e w8 ⟨rfl, hb8⟩
            have HB8 : Hid (Below w6.heap.size w6 w8) := HB7.out.trans (hb8.mono HB7.out.size)
            clear hb8
            go_wp2_with fail
            refine ((HC.out w8 HB8.out).2.2.1).mono ?_
            rintro e w9 ⟨rfl, hb9⟩
            have HB9 : Hid (Below w6.heap.size w6 w9) := HB8.out.trans (hb9.mono HB8.out.size)
            clear hb9
            go_wp2_with fail
            refine ((HC.out w9 HB9.out).2.2.2.1).mono ?_
            rintro e w10 ⟨rfl, hb10⟩
            have HB10 : Hid (Below w6.heap.size w6 w10) := HB9.out.trans (hb10.mono HB9.out.size)
            clear hb10
            go_wp2_with fail
            refine ((HC.out w10 HB10.out).2.2.2.2).mono ?_
            rintro e w11 ⟨rfl, hb11⟩
            have HB11 : Hid (Below w6.heap.size w6 w11) := HB10.out.trans (hb11.mono HB10.out.size)
            clear hb11
            go_wp2_with fail
            go_ret
            exact ⟨rfl, HW6.out.trans (HB11.out.mono HS6.out)⟩
        · have hqb := ne_beq hq
          obtain rfl := hq2 hq
          clear hq1 hq2
          cases A2 with
          | none =>
            simp only [ans] at hC
            have HC : Hid (∀ v, Below w6.heap.size w6 v → _) := hC
            clear hC
            go_wp2_with fail
            refine ((HC.out w6 (Below.refl _ _)).1).mono ?_
            rintro e w7 ⟨rfl, hb7⟩
            have HB7 : Hid (Below w6.heap.size w6 w7) := hb7
            clear hb7
            go_wp2_with fail
            refine ((HC.out w7 HB7.out).2.1).mono ?_
            rintro e w8 ⟨rfl, hb8⟩
            have HB8 : Hid (Below w6.heap.size w6 w8) := HB7.out.trans (hb8.mono HB7.out.size)
            clear hb8
            go_wp2_with fail
            refine ((HC.out w8 HB8.out).2.2.1).mono ?_
            rintro e w9 ⟨rfl, hb9⟩
            have HB9 : Hid (Below w6.heap.size w6 w9) := HB8.out.trans (hb9.mono HB8.out.size)
            clear hb9
            go_wp2_with fail
            refine ((HC.out w9 HB9.out).2.2.2.1).mono ?_
            rintro e w10 ⟨rfl, hb10⟩
            have HB10 : Hid (Below w6.heap.size w6 w10) := HB9.out.trans (hb10.mono HB9.out.size)
            clear hb10
            go_wp2_with fail
            refine ((HC.out w10 HB10.out).2.2.2.2).mono ?_
            rintro e w11 ⟨rfl, hb11⟩
            have HB11 : Hid (Below w6.heap.size w6 w11) := HB10.out.trans (hb11.mono HB10.out.size)
            clear hb11
            go_wp2_with fail
            go_ret
            exact ⟨rfl, HW6.out.trans (HB11.out.mono HS6.out)⟩
          | some y =>
            simp only [ans] at hC
            have HC : Hid (∀ v, Below w6.heap.size w6 v → _) := hC
            clear hC
            go_wp2_with fail
            refine ((HC.out w6 (Below.refl _ _)).1).mono ?_
            rintro e w7 ⟨rfl, hb7⟩
            have HB7 : Hid (Below w6.heap.size w6 w7) := hb7
            clear hb7
            go_wp2_with fail
            refine ((HC.out w7 HB7.out).2.1).mono ?_
            rintro e w8 ⟨rfl, hb8⟩
            have HB8 : Hid (Below w6.heap.size w6 w8) := HB7.out.trans (hb8.mono HB7.out.size)
            clear hb8
            go_wp2_with fail
            refine ((HC.out w8 HB8.out).2.2.1).mono ?_
            rintro e w9 ⟨rfl, hb9⟩
            have HB9 : Hid (Below w6.heap.size w6 w9) := HB8.out.trans (hb9.mono HB8.out.size)
            clear hb9
            go_wp2_with fail
            refine ((HC.out w9 HB9.out).2.2.2.1).mono ?_
            rintro e w10 ⟨rfl, hb10⟩
            have HB10 : Hid (Below w6.heap.size w6 w10) := HB9.out.trans (hb10.mono HB9.out.size)
            clear hb10
            go_wp2_with fail
            refine ((HC.out w10 HB10.out).2.2.2.2).mono ?_
            rintro e w11 ⟨rfl, hb11⟩
            have HB11 : Hid (Below w6.heap.size w6 w11) := HB10.out.trans (hb11.mono HB10.out.size)
            clear hb11
            go_wp2_with fail
            go_ret
            exact ⟨rfl, HW6.out.trans (HB11.out.mono HS6.out)⟩
      · have d2 : decide ((262144 : Int) < (x.size : Int)) = false := by simp; omega
        have d3 : decide ((262144 : Int) < (n.size : Int)) = true := by simp; omega
        go_wp2
        go_ret
        exact ⟨rfl, Below.refl _ _⟩
    · have d2 : decide ((262144 : Int) < (x.size : Int)) = true := by simp; omega
      go_wp2
      go_ret
      exact ⟨rfl, Below.refl _ _⟩
end Go.Proofs.Qxb6608778aDoor
