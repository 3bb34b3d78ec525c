/-
  Seat b6608680aF (chigu). WALK: the law FnCheckWordSplitsAtAnyRuneBoundary.
-/
import Derived.Test.Qxb6608680aFmtWalkB
import Derived.Test.Qxb6608680aFmtWalkC
namespace Go.Proofs.Qxb6608680aFmt
open Go.RowKit Go.Lib Go.Shelf

theorem app_assoc (a b c : ByteArray) : a ++ b ++ c = a ++ (b ++ c) := by
  apply ByteArray.ext
  simp [ByteArray.data_append]
theorem app_none {a b : ByteArray} (h : a ++ b = ⟨#[]⟩) : a = ⟨#[]⟩ ∧ b = ⟨#[]⟩ := by
  have h' : (a ++ b).size = 0 := by rw [h]; rfl
  rw [ByteArray.size_append] at h'
  exact ⟨bytes_nil (by omega), bytes_nil (by omega)⟩
theorem spaced_not (a b : ByteArray) (h : Runs a a.size) : ¬ Word (a ++ ⟨#[32]⟩ ++ b) := by
  intro hW
  have hf : Fine (a ++ ⟨#[32]⟩ ++ b) := hW.2
  rw [app_assoc, fine_split a _ h, fine_split ⟨#[32]⟩ b (lone_runs 32 (by decide)), lone_fine 32 (by decide)] at hf
  exact absurd hf.2.1.1 (by decide)

theorem grow {F : Go.Stop.Interp} {w w1 w2 : World} (h : F.answers w1.tape ∧ Tabs w1 ∧ Below w.heap.size w w1) (hb : Below w1.heap.size w1 w2) : F.answers w2.tape ∧ Tabs w2 ∧ Below w.heap.size w w2 :=
  ⟨by rw [hb.tape]; exact h.1, h.2.1.below hb, h.2.2.trans (hb.mono h.2.2.size)⟩

set_option maxRecDepth 100000 in
set_option maxHeartbeats 2000000 in
theorem splits_any (F : Go.Stop.Interp) (a b : ByteArray) (w : World) (ha : a.size ≤ maxLen) (hb : b.size ≤ maxLen) (hF : F.answers w.tape) (hT : Tabs w) :
    Calls Tryf.prog 3 #[.string a, .string b] w fun e w' => e = .returned (.bool true) ∧ Below w.heap.size w w' := by
  have cB := bytes5 a b w ha hb
  have cV := valid_any a w ha
  unfold maxLen at ha hb
  go_enter Tryf.func3, Tryf.ntmps3
  go_wp2_with fail
  refine cB.mono ?_
  rintro e w0 ⟨⟨r, rfl⟩, hw0⟩
  rw [hw0]
  clear hw0 w0 cB
  cases r with
  | false =>
    go_wp2_with fail
    go_ret
    exact ⟨rfl, Below.refl _ _⟩
  | true =>
  by_cases h1 : (1048576 : Int) < (a.size : Int)
  · go_wp2_with fail
    go_ret
    exact ⟨rfl, Below.refl _ _⟩
  have h1' : decide ((1048576 : Int) < (a.size : Int)) = false := by simp; omega
  have h1n : decide (1048576 < a.size) = false := by simp; omega
  by_cases h2 : (1048576 : Int) < (b.size : Int)
  · go_wp2_with fail
    go_ret
    exact ⟨rfl, Below.refl _ _⟩
  have h2' : decide ((1048576 : Int) < (b.size : Int)) = false := by simp; omega
  have h2n : decide (1048576 < b.size) = false := by simp; omega
  by_cases h3 : (1048576 : Int) < (a.size : Int) + (b.size : Int)
  · go_wp2_with fail
    go_ret
    exact ⟨rfl, Below.refl _ _⟩
  have h3' : decide ((1048576 : Int) < (a.size : Int) + (b.size : Int)) = false := by simp; omega
  go_wp2_with fail
  refine cV.mono ?_
  rintro e w0 ⟨⟨r, rfl, hV⟩, hw0⟩
  rw [hw0]
  clear hw0 w0 cV
  cases r with
  | false =>
    go_wp2_with fail
    go_ret
    exact ⟨rfl, Below.refl _ _⟩
  | true =>
  have hR := hV rfl
  clear hV
  have HSP : Hid ((a ++ ⟨#[32]⟩ ++ b).size ≤ maxLen) := by show _ ≤ _; rw [ByteArray.size_append, ByteArray.size_append]; show a.size + 1 + b.size ≤ _; unfold maxLen; omega
  have HSZ : Hid ((a ++ b).size ≤ maxLen) := by show _ ≤ _; rw [ByteArray.size_append]; unfold maxLen; omega
  have HA : Hid (a.size ≤ maxLen ∧ b.size ≤ maxLen) := by show _ ∧ _; unfold maxLen; omega
  have HNS : Hid (¬ Word (a ++ ⟨#[32]⟩ ++ b)) := spaced_not a b hR
  have HS : Hid (Fine (a ++ b) ↔ Fine a ∧ Fine b) := fine_split a b hR
  have G0 : Hid (F.answers w.tape ∧ Tabs w ∧ Below w.heap.size w w) := ⟨hF, hT, Below.refl _ _⟩
  clear hR hF hT h1' h1n h2' h2n h3'
  have cC := check_any F (a ++ b) w HSZ.out G0.out.1 G0.out.2.1
  go_wp2_with fail
  refine cC.mono ?_
  clear cC
  rintro e w1 ⟨hv, hb1⟩
  have G1 : Hid (F.answers w1.tape ∧ Tabs w1 ∧ Below w.heap.size w w1) := grow G0.out hb1
  clear hb1 G0
  rcases hv with ⟨hW, rfl⟩ | ⟨hW, v, rfl⟩
  · have he := full_of hW.1
    have HF : Hid (Fine a ∧ Fine b) := HS.out.1 hW.2
    clear hW HS HSZ
    have cA := orEmpty_any F a w1 HA.out.1 G1.out.1 G1.out.2.1
    go_wp2_with fail
    refine cA.mono ?_
    clear cA
    rintro e w2 ⟨⟨r2, rfl, h2r⟩, hb2⟩
    obtain rfl := h2r.2 HF.out.1
    clear h2r
    have G2 : Hid (F.answers w2.tape ∧ Tabs w2 ∧ Below w.heap.size w w2) := grow G1.out hb2
    clear hb2 G1
    have cB := orEmpty_any F b w2 HA.out.2 G2.out.1 G2.out.2.1
    go_wp2_with fail
    refine cB.mono ?_
    clear cB
    rintro e w3 ⟨⟨r3, rfl, h3r⟩, hb3⟩
    obtain rfl := h3r.2 HF.out.2
    clear h3r HF
    have G3 : Hid (F.answers w3.tape ∧ Tabs w3 ∧ Below w.heap.size w w3) := grow G2.out hb3
    clear hb3 G2
    have cX := check_any F (a ++ ⟨#[32]⟩ ++ b) w3 HSP.out G3.out.1 G3.out.2.1
    go_wp2_with fail
    refine cX.mono ?_
    clear cX
    rintro e w9 ⟨⟨hW9, rfl⟩ | ⟨hW9, v9, rfl⟩, hb9⟩
    · exact absurd hW9 HNS.out
    have hfin := G3.out.2.2.trans (hb9.mono G3.out.2.2.size)
    clear hW9 hb9 G3 HSP HNS
    go_wp2
    go_ret
    exact ⟨rfl, hfin⟩
  · by_cases hn : a ++ b = ⟨#[]⟩
    · have he : (a ++ b).toList.isEmpty = true := by rw [hn, ByteArray.toList_eq]; rfl
      clear hn hW HS HSZ
      have cX := check_any F (a ++ ⟨#[32]⟩ ++ b) w1 HSP.out G1.out.1 G1.out.2.1
      go_wp2_with fail
      refine cX.mono ?_
      clear cX
      rintro e w9 ⟨⟨hW9, rfl⟩ | ⟨hW9, v9, rfl⟩, hb9⟩
      · exact absurd hW9 HNS.out
      have hfin := G1.out.2.2.trans (hb9.mono G1.out.2.2.size)
      clear hW9 hb9 G1 HSP HNS
      go_wp2
      go_ret
      exact ⟨rfl, hfin⟩
    · have he := full_of hn
      have HF : Hid (¬ (Fine a ∧ Fine b)) := fun h => hW ⟨hn, HS.out.2 h⟩
      clear hn hW HS HSZ
      have cA := orEmpty_any F a w1 HA.out.1 G1.out.1 G1.out.2.1
      go_wp2_with fail
      refine cA.mono ?_
      clear cA
      rintro e w2 ⟨⟨r2, rfl, h2r⟩, hb2⟩
      have G2 : Hid (F.answers w2.tape ∧ Tabs w2 ∧ Below w.heap.size w w2) := grow G1.out hb2
      clear hb2 G1
      have H2R : Hid (r2 = true ↔ Fine a) := h2r
      clear h2r
      cases r2 with
      | false =>
        clear H2R HF
        have cX := check_any F (a ++ ⟨#[32]⟩ ++ b) w2 HSP.out G2.out.1 G2.out.2.1
        go_wp2_with fail
        refine cX.mono ?_
        clear cX
        rintro e w9 ⟨⟨hW9, rfl⟩ | ⟨hW9, v9, rfl⟩, hb9⟩
        · exact absurd hW9 HNS.out
        have hfin := G2.out.2.2.trans (hb9.mono G2.out.2.2.size)
        clear hW9 hb9 G2 HSP HNS
        go_wp2
        go_ret
        exact ⟨rfl, hfin⟩
      | true =>
        have cB := orEmpty_any F b w2 HA.out.2 G2.out.1 G2.out.2.1
        go_wp2_with fail
        refine cB.mono ?_
        clear cB
        rintro e w3 ⟨⟨r3, rfl, h3r⟩, hb3⟩
        cases r3 with
        | true => exact absurd ⟨H2R.out.1 (by first | trivial | rfl), h3r.1 rfl⟩ HF.out
        | false =>
          clear H2R h3r HF
          have G3 : Hid (F.answers w3.tape ∧ Tabs w3 ∧ Below w.heap.size w w3) := grow G2.out hb3
          clear hb3 G2
          have cX := check_any F (a ++ ⟨#[32]⟩ ++ b) w3 HSP.out G3.out.1 G3.out.2.1
          go_wp2_with fail
          refine cX.mono ?_
          clear cX
          rintro e w9 ⟨⟨hW9, rfl⟩ | ⟨hW9, v9, rfl⟩, hb9⟩
          · exact absurd hW9 HNS.out
          have hfin := G3.out.2.2.trans (hb9.mono G3.out.2.2.size)
          clear hW9 hb9 G3 HSP HNS
          go_wp2
          go_ret
          exact ⟨rfl, hfin⟩
end Go.Proofs.Qxb6608680aFmt
