/-
  Seat b6608704aF (sluice). WALK: nameBefore.
-/
import Derived.Test.Qxb6608704aFmtWalkC
import Derived.Test.Qxb6608704aFmtWalkE
namespace Go.Proofs.Qxb6608704aFmt
open Go.RowKit Go.Lib Go.Shelf

theorem bytes_nil {s : ByteArray} (h : s.size = 0) : s = ⟨#[]⟩ := by
  apply ByteArray.ext
  exact Array.eq_empty_of_size_eq_zero h
theorem full_of {s : ByteArray} (h : s.size ≠ 0) : s.toList.isEmpty = false := by
  rw [ByteArray.toList_eq]
  cases hl : s.data.toList with
  | nil => exact absurd (show s.data.size = 0 by rw [← Array.length_toList, hl]; rfl) h
  | cons _ _ => rfl
theorem extract_size (T : ByteArray) (i j : Nat) (hj : j ≤ T.size) : (T.extract i j).size = j - i := by
  rw [ByteArray.size_extract]; omega

/-- An error of the reader's make, and the reader at (i, l). -/
def Err2 (w0 : World) (b : Nat) (path T nm0 : ByteArray) (i l : Int) (e : Ending) (w' : World) : Prop :=
  (∃ a, e = .returned (.tuple #[.string nm0, .iface 39 (.pointer (some ⟨a, 0, none⟩))]) ∧ w'.cell? ⟨a, 0, none⟩ = some (.string path) ∧ w'.cell? ⟨a, 1, none⟩ = some (.int .i64 l)) ∧ To w0 b path T i l w' ∧ b < w'.heap.size

theorem To.below {w0 : World} {b : Nat} {path T : ByteArray} {i l : Int} {w w' : World} (h : To w0 b path T i l w) (hb : Below w.heap.size w w') (hk : b < w.heap.size) : To w0 b path T i l w' :=
  ⟨h.1.below hb hk, h.2.trans (hb.mono h.2.size)⟩
theorem To.lt {w0 : World} {b : Nat} {path T : ByteArray} {i l : Int} {w : World} (h : To w0 b path T i l w) : b < w.heap.size := World.block_lt_of_cell? w ⟨b, 1, none⟩ h.1.2.1

set_option maxRecDepth 100000 in
set_option maxHeartbeats 1000000 in
theorem nb_none (F : Go.Stop.Interp) (w0 : World) (b : Nat) (path T : ByteArray) (i : Nat) (l c : Int) (w : World) (hb0 : w0.heap.size ≤ b) (h : To w0 b path T i l w) (hT : T.size ≤ maxLen) (hi : i ≤ T.size) (hF : F.answers w0.tape) (hU : Utf8Tabs 0 1 w0) (hn : run nm (T.data.toList.drop i) = 0) :
    Calls Tryf.prog 13 #[.pointer (some ⟨b, 0, none⟩), .int .u8 c] w fun e w' => Err2 w0 b path T ⟨#[]⟩ i l e w' := by
  have cW := word_any w0 b path T i l w hb0 h hT hi
  rw [hn, Nat.add_zero, bytes_nil (s := T.extract i i) (by rw [extract_size T i i hi]; omega)] at cW
  clear h hn
  go_enter Tryf.func13, Tryf.ntmps13
  go_wp2_with fail
  refine cW.mono ?_
  rintro e w1 ⟨rfl, hTo⟩
  have hlt := hTo.lt
  have cU := unexpected_any F b path T i l w1 (by rw [hTo.2.tape]; exact hF) (Utf8Tabs_below hU hTo.2) hTo.1 hlt hi
  have HTo : Hid (To w0 b path T i l w1) := hTo
  clear hTo cW hU hF
  go_wp2_with fail
  refine cU.mono ?_
  rintro e w2 ⟨a, rfl, k0, k1, hb2⟩
  clear cU
  have HF : Hid (To w0 b path T i l w2) := HTo.out.below hb2 hlt
  clear HTo hb2
  go_wp2_with fail
  go_ret2
  exact ⟨⟨a, rfl, k0, k1⟩, HF.out, HF.out.lt⟩

set_option maxRecDepth 100000 in
set_option maxHeartbeats 1000000 in
theorem nb_yes (w0 : World) (b : Nat) (path T : ByteArray) (i : Nat) (l c : Int) (N : Nat) (L : Int) (w : World) (hb0 : w0.heap.size ≤ b) (h : To w0 b path T i l w) (hT : T.size ≤ 1048576) (hi : i + run nm (T.data.toList.drop i) ≤ T.size) (hl : 0 ≤ l) (hl' : l ≤ 1073741824)
    (hn : run nm (T.data.toList.drop i) ≠ 0) (hS : SR false T (i + run nm (T.data.toList.drop i)) l N L) (hL : 0 ≤ L) (hL' : L ≤ 4294967296) (hN : N < T.size) (hc : ((T[N]).toNat : Int) = c) :
    Calls Tryf.prog 13 #[.pointer (some ⟨b, 0, none⟩), .int .u8 c] w fun e w' => e = .returned (.tuple #[.string (T.extract i (i + run nm (T.data.toList.drop i))), .nilIface]) ∧ To w0 b path T ((N + 1 : Nat) : Int) (lineAt T[N] L) w' := by
  have hz : T.size ≤ maxLen := by unfold maxLen; omega
  have cW := word_any w0 b path T i l w hb0 h hz (by omega)
  have he := full_of (s := T.extract i (i + run nm (T.data.toList.drop i))) (by rw [extract_size _ _ _ hi]; omega)
  generalize run nm (T.data.toList.drop i) = q at *
  generalize T.extract i (i + q) = X at *
  go_enter Tryf.func13, Tryf.ntmps13
  go_wp2_with fail
  refine cW.mono ?_
  rintro e w1 ⟨rfl, hTo⟩
  have cK := skip_any w0 b path T (i + q) l N L w1 hb0 hTo hT hi hl (by omega) hS
  clear cW h hTo hS
  go_wp2_with fail
  refine cK.mono ?_
  rintro e w2 ⟨rfl, hTo2⟩
  have cT := take_yes w0 b path T N L c w2 hb0 hTo2 hz hN hL hL' hc
  clear cK hTo2 hc
  go_wp2_with fail
  refine cT.mono ?_
  rintro e w3 ⟨rfl, hTo3⟩
  clear cT
  have HF : Hid (To w0 b path T ((N + 1 : Nat) : Int) (lineAt T[N] L) w3) := hTo3
  clear hTo3
  go_wp2_with fail
  go_ret2
  exact ⟨rfl, HF.out⟩

set_option maxRecDepth 100000 in
set_option maxHeartbeats 1000000 in
theorem nb_no (F : Go.Stop.Interp) (w0 : World) (b : Nat) (path T : ByteArray) (i : Nat) (l c : Int) (N : Nat) (L : Int) (w : World) (hb0 : w0.heap.size ≤ b) (h : To w0 b path T i l w) (hT : T.size ≤ 1048576) (hi : i + run nm (T.data.toList.drop i) ≤ T.size) (hl : 0 ≤ l) (hl' : l ≤ 1073741824) (hF : F.answers w0.tape)
    (hn : run nm (T.data.toList.drop i) ≠ 0) (hS : SR false T (i + run nm (T.data.toList.drop i)) l N L) (hN : ∀ h : N < T.size, ((T[N]).toNat : Int) ≠ c) :
    Calls Tryf.prog 13 #[.pointer (some ⟨b, 0, none⟩), .int .u8 c] w fun e w' => Err2 w0 b path T (T.extract i (i + run nm (T.data.toList.drop i))) N L e w' := by
  have hz : T.size ≤ maxLen := by unfold maxLen; omega
  have cW := word_any w0 b path T i l w hb0 h hz (by omega)
  have he := full_of (s := T.extract i (i + run nm (T.data.toList.drop i))) (by rw [extract_size _ _ _ hi]; omega)
  generalize run nm (T.data.toList.drop i) = q at *
  generalize T.extract i (i + q) = X at *
  go_enter Tryf.func13, Tryf.ntmps13
  go_wp2_with fail
  refine cW.mono ?_
  rintro e w1 ⟨rfl, hTo⟩
  have cK := skip_any w0 b path T (i + q) l N L w1 hb0 hTo hT hi hl (by omega) hS
  clear cW h hTo hS
  go_wp2_with fail
  refine cK.mono ?_
  rintro e w2 ⟨rfl, hTo2⟩
  have cT : Calls Tryf.prog 21 #[.pointer (some ⟨b, 0, none⟩), .int .u8 c] w2 fun e w' => e = .returned (.bool false) ∧ To w0 b path T N L w' := by
    by_cases hNs : N < T.size
    · exact take_not w0 b path T N L c w2 hTo2 hNs (hN hNs)
    · exact take_end w0 b path T N L c w2 hTo2 (by omega)
  clear cK hTo2 hN
  go_wp2_with fail
  refine cT.mono ?_
  rintro e w3 ⟨rfl, hTo3⟩
  clear cT
  have hlt := hTo3.lt
  have cE : ∀ y : ByteArray, Calls Tryf.prog 22 #[.pointer (some ⟨b, 0, none⟩), .string ⟨#[115, 121, 110, 116, 97, 120, 32, 101, 114, 114, 111, 114, 58, 32, 109, 105, 115, 115, 105, 110, 103, 32, 37, 113, 32, 97, 102, 116, 101, 114, 32, 37, 113]⟩, .slice (some ⟨w3.heap.size, 0, none⟩) 2 2] (w3.alloc (.cells #[.iface 9 (.string y), .iface 9 (.string X)] 20)) fun e w' => ErrAt path L (w3.alloc (.cells #[.iface 9 (.string y), .iface 9 (.string X)] 20)) e w' := fun y => by
    have hB2 : Below w3.heap.size w3 (w3.alloc (.cells #[.iface 9 (.string y), .iface 9 (.string X)] 20)) := (Below.refl _ _).alloc (Nat.le_refl _) _
    have hF2 : F.answers (w3.alloc (.cells #[.iface 9 (.string y), .iface 9 (.string X)] 20)).tape := by rw [hB2.tape, hTo3.2.tape]; exact hF
    exact rErrorf b path T _ N L ⟨w3.heap.size, 0, none⟩ 2 2 _ (hTo3.1.below hB2 hlt) (Nat.lt_of_lt_of_le hlt hB2.size) (fun w2 h2 => errorf_two F y X w3.heap.size w2 (by rw [h2.tape]; exact hF2) (by rw [h2.cell (p := ⟨w3.heap.size, 0, none⟩) (by simp)]; simp) (by rw [h2.cell (p := ⟨w3.heap.size, 1, none⟩) (by simp)]; simp))
  have HTo : Hid (To w0 b path T N L w3) := hTo3
  clear hTo3 hF
  go_wp2_with fail
  refine (cE _).mono ?_
  rintro e w4 ⟨a, rfl, k0, k1, hb4⟩
  clear cE
  have HF : Hid (To w0 b path T N L w4) := HTo.out.below (((Below.refl _ _).alloc (Nat.le_refl _) _).trans (hb4.mono (by simp))) hlt
  clear HTo hb4
  go_wp2_with fail
  go_ret2
  exact ⟨⟨a, rfl, k0, k1⟩, HF.out, HF.out.lt⟩
end Go.Proofs.Qxb6608704aFmt
