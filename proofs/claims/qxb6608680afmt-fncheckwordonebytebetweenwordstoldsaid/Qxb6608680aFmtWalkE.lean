/-
  Seat b6608680aF (chigu). WALK: the law FnCheckWordOneByteBetweenWords.
-/
import Derived.Test.Qxb6608680aFmtWalkD
import Derived.Laws.BytesArg
namespace Go.Proofs.Qxb6608680aFmt
open Go.RowKit Go.Lib Go.Shelf

theorem between_word (a b : ByteArray) (c : UInt8) (h : Runs a a.size) (hc : ¬ (194 ≤ c.toNat ∧ c.toNat ≤ 244)) : Word (a ++ ⟨#[c]⟩ ++ b) ↔ (32 < c.toNat ∧ c.toNat ≠ 127) ∧ Fine a ∧ Fine b := by
  have hne : a ++ ⟨#[c]⟩ ++ b ≠ ⟨#[]⟩ := fun h => by
    have h' : (a ++ ⟨#[c]⟩ ++ b).size = 0 := by rw [h]; rfl
    rw [ByteArray.size_append, ByteArray.size_append] at h'
    have : (⟨#[c]⟩ : ByteArray).size = 1 := rfl
    omega
  have hf : Fine (a ++ ⟨#[c]⟩ ++ b) ↔ Fine a ∧ (32 < c.toNat ∧ c.toNat ≠ 127) ∧ Fine b := by
    rw [app_assoc, fine_split a _ h, fine_split ⟨#[c]⟩ b (lone_runs c hc), lone_fine c hc]
  constructor
  · rintro ⟨_, h2⟩
    obtain ⟨x, y, z⟩ := hf.1 h2
    exact ⟨y, x, z⟩
  · rintro ⟨y, x, z⟩
    exact ⟨hne, hf.2 ⟨x, y, z⟩⟩

theorem conv_one (c : UInt8) (w : World) : (convert 28 9 (.slice (some ⟨w.heap.size, 0, none⟩) 1 1)).run Tryf.prog (w.alloc (.cells #[.int .u8 c.toNat] 5)) = .ok (.string ⟨#[c]⟩) (w.alloc (.cells #[.int .u8 c.toNat] 5)) := by
  have hcell : ∀ i, i < 1 → (w.alloc (.cells #[.int .u8 c.toNat] 5)).cell? ⟨w.heap.size, 0 + i, none⟩ = some (.int .u8 ([(c.toNat : Int)].getD i 0)) := by
    intro i hi
    have h0 : i = 0 := by omega
    subst h0
    simp
  have h := run_convert_bytes_arg (P := Tryf.prog) (w.alloc (.cells #[.int .u8 c.toNat] 5)) 28 5 Tryf.underlying28 Tryf.underlying5 w.heap.size 0 1 1 [(c.toNat : Int)] rfl hcell 9 Tryf.underlying9
  rw [h]
  simp [strOfNums]

set_option maxRecDepth 100000 in
set_option maxHeartbeats 2000000 in
theorem between_any (F : Go.Stop.Interp) (a : ByteArray) (c : UInt8) (b : ByteArray) (w : World) (ha : a.size ≤ maxLen) (hb : b.size ≤ maxLen) (hF : F.answers w.tape) (hT : Tabs w) :
    Calls Tryf.prog 4 #[.string a, .int .u8 c.toNat, .string b] w fun e w' => e = .returned (.bool true) ∧ Below w.heap.size w w' := by
  have cB := bytes9 a c.toNat b w ha hb
  have cV := valid_any a w ha
  have hcl := c.toNat_lt
  unfold maxLen at ha hb
  go_enter Tryf.func4, Tryf.ntmps4
  go_wp2_with fail
  refine cB.mono ?_
  rintro e w0 ⟨⟨r, rfl⟩, hw0⟩
  rw [hw0]
  clear hw0 w0 cB
  cases r with
  | false =>
    go_wp2_with fail
    go_ret
    exact ⟨rfl, Below.refl _ _⟩
  | true =>
  by_cases h1 : (1048576 : Int) < (a.size : Int)
  · go_wp2_with fail
    go_ret
    exact ⟨rfl, Below.refl _ _⟩
  have h1' : decide ((1048576 : Int) < (a.size : Int)) = false := by simp; omega
  have h1n : decide (1048576 < a.size) = false := by simp; omega
  by_cases h2 : (1048576 : Int) < (b.size : Int)
  · go_wp2_with fail
    go_ret
    exact ⟨rfl, Below.refl _ _⟩
  have h2' : decide ((1048576 : Int) < (b.size : Int)) = false := by simp; omega
  have h2n : decide (1048576 < b.size) = false := by simp; omega
  by_cases h3 : (1048576 : Int) < (a.size : Int) + (b.size : Int)
  · go_wp2_with fail
    go_ret
    exact ⟨rfl, Below.refl _ _⟩
  have h3' : decide ((1048576 : Int) < (a.size : Int) + (b.size : Int)) = false := by simp; omega
  go_wp2_with fail
  refine cV.mono ?_
  rintro e w0 ⟨⟨r, rfl, hV⟩, hw0⟩
  rw [hw0]
  clear hw0 w0 cV
  cases r with
  | false =>
    go_wp2_with fail
    go_ret
    exact ⟨rfl, Below.refl _ _⟩
  | true =>
  have hR := hV rfl
  clear hV
  by_cases hc1 : 194 ≤ (c.toNat : Int)
  · by_cases hc2 : (c.toNat : Int) ≤ 244
    · go_wp2_with fail
      go_ret
      exact ⟨rfl, Below.refl _ _⟩
    · have hc2' : decide ((c.toNat : Int) ≤ 244) = false := by simp; omega
      have HSP : Hid ((a ++ ⟨#[c]⟩ ++ b).size ≤ maxLen) := by show _ ≤ _; rw [ByteArray.size_append, ByteArray.size_append]; show a.size + 1 + b.size ≤ _; unfold maxLen; omega
      have HA : Hid (a.size ≤ maxLen ∧ b.size ≤ maxLen) := by show _ ∧ _; unfold maxLen; omega
      have HS : Hid (Word (a ++ ⟨#[c]⟩ ++ b) ↔ (32 < c.toNat ∧ c.toNat ≠ 127) ∧ Fine a ∧ Fine b) := between_word a b c hR (by omega)
      have hba : Below w.heap.size w (w.alloc (.cells #[.int .u8 c.toNat] 5)) := (Below.refl _ _).alloc (Nat.le_refl _) _
      have G0 : Hid (F.answers (w.alloc (.cells #[.int .u8 c.toNat] 5)).tape ∧ Tabs (w.alloc (.cells #[.int .u8 c.toNat] 5)) ∧ Below w.heap.size w (w.alloc (.cells #[.int .u8 c.toNat] 5))) := ⟨hF, hT.below hba, hba⟩
      have cC := check_any F (a ++ ⟨#[c]⟩ ++ b) (w.alloc (.cells #[.int .u8 c.toNat] 5)) HSP.out G0.out.1 G0.out.2.1
      have hconv := conv_one c w
      clear hR hF hT hba h1' h1n h2' h2n h3'
      go_wp2_with fail
      refine cC.mono ?_
      clear cC hconv HSP
      rintro e w1 ⟨hv, hb1⟩
      have G1 : Hid (F.answers w1.tape ∧ Tabs w1 ∧ Below w.heap.size w w1) := grow G0.out hb1
      clear hb1 G0
      by_cases hp1 : (32 : Int) < (c.toNat : Int)
      · by_cases hp2 : (c.toNat : Int) = 127
        · have hq1 : ((c.toNat : Int) == 127) = true := by simp; omega
          have hq2 : ((c.toNat : Int) != 127) = false := by simp; omega
          have HN : Hid (¬ Word (a ++ ⟨#[c]⟩ ++ b)) := fun h => by have := (HS.out.1 h).1; omega
          clear HS hp2
          rcases hv with ⟨hW, rfl⟩ | ⟨hW, v, rfl⟩
          · exact absurd hW HN.out
          clear hW HN
          have hfin := G1.out.2.2
          clear G1
          go_wp2
          go_ret
          exact ⟨rfl, hfin⟩
        · have hq1 : ((c.toNat : Int) == 127) = false := by simp; omega
          have hq2 : ((c.toNat : Int) != 127) = true := by simp; omega
          have HP : Hid (Word (a ++ ⟨#[c]⟩ ++ b) ↔ Fine a ∧ Fine b) := by show _ ↔ _; rw [HS.out]; constructor; exact fun h => h.2; exact fun h => ⟨by omega, h⟩
          clear HS hp2
          rcases hv with ⟨hW, rfl⟩ | ⟨hW, v, rfl⟩
          · have HF : Hid (Fine a ∧ Fine b) := HP.out.1 hW
            clear hW HP
            have cA := orEmpty_any F a w1 HA.out.1 G1.out.1 G1.out.2.1
            go_wp2_with fail
            refine cA.mono ?_
            clear cA
            rintro e w2 ⟨⟨r2, rfl, h2r⟩, hb2⟩
            obtain rfl := h2r.2 HF.out.1
            clear h2r
            have G2 : Hid (F.answers w2.tape ∧ Tabs w2 ∧ Below w.heap.size w w2) := grow G1.out hb2
            clear hb2 G1
            have cB := orEmpty_any F b w2 HA.out.2 G2.out.1 G2.out.2.1
            go_wp2_with fail
            refine cB.mono ?_
            clear cB
            rintro e w3 ⟨⟨r3, rfl, h3r⟩, hb3⟩
            obtain rfl := h3r.2 HF.out.2
            clear h3r HF
            have G3 : Hid (F.answers w3.tape ∧ Tabs w3 ∧ Below w.heap.size w w3) := grow G2.out hb3
            clear hb3 G2
            have hfin := G3.out.2.2
            clear G3
            go_wp2
            go_ret
            exact ⟨rfl, hfin⟩
          · have HF : Hid (¬ (Fine a ∧ Fine b)) := fun h => hW (HP.out.2 h)
            clear hW HP
            have cA := orEmpty_any F a w1 HA.out.1 G1.out.1 G1.out.2.1
            go_wp2_with fail
            refine cA.mono ?_
            clear cA
            rintro e w2 ⟨⟨r2, rfl, h2r⟩, hb2⟩
            have G2 : Hid (F.answers w2.tape ∧ Tabs w2 ∧ Below w.heap.size w w2) := grow G1.out hb2
            clear hb2 G1
            have H2R : Hid (r2 = true ↔ Fine a) := h2r
            clear h2r
            cases r2 with
            | false =>
              clear H2R HF
              have hfin := G2.out.2.2
              clear G2
              go_wp2
              go_ret
              exact ⟨rfl, hfin⟩
            | true =>
              have cB := orEmpty_any F b w2 HA.out.2 G2.out.1 G2.out.2.1
              go_wp2_with fail
              refine cB.mono ?_
              clear cB
              rintro e w3 ⟨⟨r3, rfl, h3r⟩, hb3⟩
              cases r3 with
              | true => exact absurd ⟨H2R.out.1 (by first | trivial | rfl), h3r.1 rfl⟩ HF.out
              | false =>
                clear H2R h3r HF
                have G3 : Hid (F.answers w3.tape ∧ Tabs w3 ∧ Below w.heap.size w w3) := grow G2.out hb3
                clear hb3 G2
                have hfin := G3.out.2.2
                clear G3
                go_wp2
                go_ret
                exact ⟨rfl, hfin⟩
      · have hq1 : decide ((32 : Int) < (c.toNat : Int)) = false := by simp; omega
        have hq3 : decide (32 < c.toNat) = false := by simp; omega
        have HN : Hid (¬ Word (a ++ ⟨#[c]⟩ ++ b)) := fun h => by have := (HS.out.1 h).1; omega
        clear HS
        rcases hv with ⟨hW, rfl⟩ | ⟨hW, v, rfl⟩
        · exact absurd hW HN.out
        clear hW HN
        have hfin := G1.out.2.2
        clear G1
        go_wp2
        go_ret
        exact ⟨rfl, hfin⟩
  · have hc1' : decide ((194 : Int) ≤ (c.toNat : Int)) = false := by simp; omega
    have HSP : Hid ((a ++ ⟨#[c]⟩ ++ b).size ≤ maxLen) := by show _ ≤ _; rw [ByteArray.size_append, ByteArray.size_append]; show a.size + 1 + b.size ≤ _; unfold maxLen; omega
    have HA : Hid (a.size ≤ maxLen ∧ b.size ≤ maxLen) := by show _ ∧ _; unfold maxLen; omega
    have HS : Hid (Word (a ++ ⟨#[c]⟩ ++ b) ↔ (32 < c.toNat ∧ c.toNat ≠ 127) ∧ Fine a ∧ Fine b) := between_word a b c hR (by omega)
    have hba : Below w.heap.size w (w.alloc (.cells #[.int .u8 c.toNat] 5)) := (Below.refl _ _).alloc (Nat.le_refl _) _
    have G0 : Hid (F.answers (w.alloc (.cells #[.int .u8 c.toNat] 5)).tape ∧ Tabs (w.alloc (.cells #[.int .u8 c.toNat] 5)) ∧ Below w.heap.size w (w.alloc (.cells #[.int .u8 c.toNat] 5))) := ⟨hF, hT.below hba, hba⟩
    have cC := check_any F (a ++ ⟨#[c]⟩ ++ b) (w.alloc (.cells #[.int .u8 c.toNat] 5)) HSP.out G0.out.1 G0.out.2.1
    have hconv := conv_one c w
    clear hR hF hT hba h1' h1n h2' h2n h3'
    go_wp2_with fail
    refine cC.mono ?_
    clear cC hconv HSP
    rintro e w1 ⟨hv, hb1⟩
    have G1 : Hid (F.answers w1.tape ∧ Tabs w1 ∧ Below w.heap.size w w1) := grow G0.out hb1
    clear hb1 G0
    by_cases hp1 : (32 : Int) < (c.toNat : Int)
    · by_cases hp2 : (c.toNat : Int) = 127
      · have hq1 : ((c.toNat : Int) == 127) = true := by simp; omega
        have hq2 : ((c.toNat : Int) != 127) = false := by simp; omega
        have HN : Hid (¬ Word (a ++ ⟨#[c]⟩ ++ b)) := fun h => by have := (HS.out.1 h).1; omega
        clear HS hp2
        rcases hv with ⟨hW, rfl⟩ | ⟨hW, v, rfl⟩
        · exact absurd hW HN.out
        clear hW HN
        have hfin := G1.out.2.2
        clear G1
        go_wp2
        go_ret
        exact ⟨rfl, hfin⟩
      · have hq1 : ((c.toNat : Int) == 127) = false := by simp; omega
        have hq2 : ((c.toNat : Int) != 127) = true := by simp; omega
        have HP : Hid (Word (a ++ ⟨#[c]⟩ ++ b) ↔ Fine a ∧ Fine b) := by show _ ↔ _; rw [HS.out]; constructor; exact fun h => h.2; exact fun h => ⟨by omega, h⟩
        clear HS hp2
        rcases hv with ⟨hW, rfl⟩ | ⟨hW, v, rfl⟩
        · have HF : Hid (Fine a ∧ Fine b) := HP.out.1 hW
          clear hW HP
          have cA := orEmpty_any F a w1 HA.out.1 G1.out.1 G1.out.2.1
          go_wp2_with fail
          refine cA.mono ?_
          clear cA
          rintro e w2 ⟨⟨r2, rfl, h2r⟩, hb2⟩
          obtain rfl := h2r.2 HF.out.1
          clear h2r
          have G2 : Hid (F.answers w2.tape ∧ Tabs w2 ∧ Below w.heap.size w w2) := grow G1.out hb2
          clear hb2 G1
          have cB := orEmpty_any F b w2 HA.out.2 G2.out.1 G2.out.2.1
          go_wp2_with fail
          refine cB.mono ?_
          clear cB
          rintro e w3 ⟨⟨r3, rfl, h3r⟩, hb3⟩
          obtain rfl := h3r.2 HF.out.2
          clear h3r HF
          have G3 : Hid (F.answers w3.tape ∧ Tabs w3 ∧ Below w.heap.size w w3) := grow G2.out hb3
          clear hb3 G2
          have hfin := G3.out.2.2
          clear G3
          go_wp2
          go_ret
          exact ⟨rfl, hfin⟩
        · have HF : Hid (¬ (Fine a ∧ Fine b)) := fun h => hW (HP.out.2 h)
          clear hW HP
          have cA := orEmpty_any F a w1 HA.out.1 G1.out.1 G1.out.2.1
          go_wp2_with fail
          refine cA.mono ?_
          clear cA
          rintro e w2 ⟨⟨r2, rfl, h2r⟩, hb2⟩
          have G2 : Hid (F.answers w2.tape ∧ Tabs w2 ∧ Below w.heap.size w w2) := grow G1.out hb2
          clear hb2 G1
          have H2R : Hid (r2 = true ↔ Fine a) := h2r
          clear h2r
          cases r2 with
          | false =>
            clear H2R HF
            have hfin := G2.out.2.2
            clear G2
            go_wp2
            go_ret
            exact ⟨rfl, hfin⟩
          | true =>
            have cB := orEmpty_any F b w2 HA.out.2 G2.out.1 G2.out.2.1
            go_wp2_with fail
            refine cB.mono ?_
            clear cB
            rintro e w3 ⟨⟨r3, rfl, h3r⟩, hb3⟩
            cases r3 with
            | true => exact absurd ⟨H2R.out.1 (by first | trivial | rfl), h3r.1 rfl⟩ HF.out
            | false =>
              clear H2R h3r HF
              have G3 : Hid (F.answers w3.tape ∧ Tabs w3 ∧ Below w.heap.size w w3) := grow G2.out hb3
              clear hb3 G2
              have hfin := G3.out.2.2
              clear G3
              go_wp2
              go_ret
              exact ⟨rfl, hfin⟩
    · have hq1 : decide ((32 : Int) < (c.toNat : Int)) = false := by simp; omega
      have hq3 : decide (32 < c.toNat) = false := by simp; omega
      have HN : Hid (¬ Word (a ++ ⟨#[c]⟩ ++ b)) := fun h => by have := (HS.out.1 h).1; omega
      clear HS
      rcases hv with ⟨hW, rfl⟩ | ⟨hW, v, rfl⟩
      · exact absurd hW HN.out
      clear hW HN
      have hfin := G1.out.2.2
      clear G1
      go_wp2
      go_ret
      exact ⟨rfl, hfin⟩
end Go.Proofs.Qxb6608680aFmt
