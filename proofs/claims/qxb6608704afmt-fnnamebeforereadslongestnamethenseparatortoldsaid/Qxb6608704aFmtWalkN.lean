/-
  Seat b6608704aF (sluice). WALK: the law.
-/
import Derived.Test.Qxb6608704aFmtWalkM
namespace Go.Proofs.Qxb6608704aFmt
open Go.RowKit Go.Lib Go.Shelf

theorem tail_list (T : ByteArray) (i : Nat) (h : i ≤ T.size) : (T.extract i T.size).data.toList.drop 0 = T.data.toList.drop i := by
  have := list_extract T i (T.size - i)
  rw [show i + (T.size - i) = T.size from by omega] at this
  rw [List.drop_zero, this, List.take_of_length_le (by rw [drop_len]; omega)]

set_option maxRecDepth 100000 in
set_option maxHeartbeats 2000000 in
theorem law_any (F : Go.Stop.Interp) (path T : ByteArray) (x l : Int) (c : UInt8) (w : World) (hp : path.size ≤ maxLen) (hT : T.size ≤ maxLen) (hF : F.answers w.tape) (hU : Utf8Tabs 0 1 w) :
    Calls Tryf.prog 3 #[.string path, .string T, .int .i64 x, .int .i64 l, .int .u8 c.toNat] w fun e w' => e = .returned (.bool true) ∧ Below w.heap.size w w' := by
  have cB := bytes5 path T x l c.toNat w hp hT
  unfold maxLen at hp hT
  go_enter Tryf.func3, Tryf.ntmps3
  go_wp2_with fail
  refine cB.mono ?_
  rintro e w0 ⟨⟨r, rfl⟩, hw0⟩
  rw [hw0]
  clear hw0 w0 cB
  cases r with
  | false =>
    go_wp2_with fail
    go_ret
    exact ⟨rfl, Below.refl _ _⟩
  | true =>
  by_cases h1 : (524288 : Int) < (path.size : Int)
  · go_wp2_with fail
    go_ret
    exact ⟨rfl, Below.refl _ _⟩
  have h1' : decide ((524288 : Int) < (path.size : Int)) = false := by simp; omega
  have h1n : decide (524288 < path.size) = false := by simp; omega
  by_cases h2 : (524288 : Int) < (T.size : Int)
  · go_wp2_with fail
    go_ret
    exact ⟨rfl, Below.refl _ _⟩
  have h2' : decide ((524288 : Int) < (T.size : Int)) = false := by simp; omega
  have h2n : decide (524288 < T.size) = false := by simp; omega
  by_cases h3 : x < 0
  · go_wp2_with fail
    go_ret
    exact ⟨rfl, Below.refl _ _⟩
  have h3' : decide (x < 0) = false := by simp; omega
  by_cases h4 : (T.size : Int) < x
  · go_wp2_with fail
    go_ret
    exact ⟨rfl, Below.refl _ _⟩
  have h4' : decide ((T.size : Int) < x) = false := by simp; omega
  by_cases h5 : l < 0
  · go_wp2_with fail
    go_ret
    exact ⟨rfl, Below.refl _ _⟩
  have h5' : decide (l < 0) = false := by simp; omega
  by_cases h6 : (1073741824 : Int) < l
  · go_wp2_with fail
    go_ret
    exact ⟨rfl, Below.refl _ _⟩
  have h6' : decide ((1073741824 : Int) < l) = false := by simp; omega
  obtain ⟨i, rfl⟩ := Int.eq_ofNat_of_zero_le (show 0 ≤ x by omega)
  have h4n : decide (T.size < i) = false := by simp; omega
  have hi : i ≤ T.size := by omega
  have hi' : (i : Int) ≤ (T.size : Int) := by omega
  have hs2 : (T.extract i T.size).size ≤ 1048576 := by rw [extract_size _ _ _ (Nat.le_refl _)]; omega
  have hK1 := oM_le (T.data.toList.drop i)
  have hD := drop_len T i
  have cN := newReader_any path T i l w
  clear h1
  go_wp2_with fail
  refine cN.mono ?_
  clear cN
  rintro e w1 ⟨rfl, hTo1⟩
  have cZ := zz_all F w w.heap.size path T i l c w1 (Nat.le_refl _) hTo1 (by omega) hi (by omega) (by omega) hF hU
  have cA := fun w => ans_all T i l c w (by omega) hi (by omega) (by omega)
  have hk : i + oK (T.data.toList.drop i) c ≤ T.size + 1 := by unfold oK; split; omega; split <;> omega
  have hlk : oL (T.data.toList.drop i) c l ≤ 4294967296 ∧ 0 ≤ oL (T.data.toList.drop i) c l := by
    have := nl_le ((T.data.toList.drop i).take (oK (T.data.toList.drop i) c))
    rw [List.length_take] at this
    unfold oL
    omega
  have hTl := tail_list T i hi
  have cZ2 := fun w0 w1 hT1 h h' => zz_all F w0 w0.heap.size path (T.extract i T.size) 0 l c w1 (Nat.le_refl _) hT1 hs2 (by omega) (by omega) (by omega) h h'
  rw [hTl] at cZ2
  clear hTl hs2 hTo1
  generalize oX (T.data.toList.drop i) = X at *
  generalize oOk (T.data.toList.drop i) c = ok at *
  generalize oL (T.data.toList.drop i) c l = L at *
  generalize oK (T.data.toList.drop i) c = k at *
  clear hK1 hD
  have HF : Hid (F.answers w.tape ∧ Utf8Tabs 0 1 w) := ⟨hF, hU⟩
  clear hF hU
  go_wp2_with fail
  refine cZ.mono ?_
  clear cZ
  rintro e w2 ⟨⟨y1, y2, y3, rfl⟩, hTo2⟩
  have cR := readerAt_any w w.heap.size path T _ L w2 hTo2
  clear hTo2
  go_wp2_with fail
  refine cR.mono ?_
  clear cR
  rintro e w3 ⟨rfl, hTo3⟩
  have HB3 : Hid (Below w.heap.size w w3) := hTo3.2
  clear hTo3
  go_wp2_with fail
  refine (cA _).mono ?_
  clear cA
  rintro e w4 ⟨rfl, hw4⟩
  rw [hw4]
  clear hw4 w4
  have cN2 := newReader_any path (T.extract i T.size) ((0 : Nat) : Int) l w3
  go_wp2_with fail
  refine cN2.mono ?_
  clear cN2
  rintro e w5 ⟨rfl, hTo5⟩
  have cZ := cZ2 w3 w5 hTo5 (by rw [HB3.out.tape]; exact HF.out.1) (Utf8Tabs_below HF.out.2 HB3.out)
  clear cZ2 hTo5
  go_wp2_with fail
  refine cZ.mono ?_
  clear cZ
  rintro e w6 ⟨⟨z1, z2, z3, rfl⟩, hTo6⟩
  have cR := readerAt_any w3 w3.heap.size path (T.extract i T.size) _ L w6 hTo6
  clear hTo6
  go_wp2_with fail
  refine cR.mono ?_
  clear cR
  rintro e w7 ⟨rfl, hTo7⟩
  have HB7 : Hid (Below w.heap.size w w7) := HB3.out.trans (hTo7.2.mono HB3.out.size)
  clear hTo7 HB3 HF
  have hsub : (i : Int) + (k : Int) - (i : Int) = (k : Int) := by omega
  go_wp2
  go_ret
  exact ⟨rfl, HB7.out⟩
end Go.Proofs.Qxb6608704aFmt
