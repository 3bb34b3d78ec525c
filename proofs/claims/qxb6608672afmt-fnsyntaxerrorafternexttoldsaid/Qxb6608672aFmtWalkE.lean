/-
  Seat b6608672aF (tabulon). WALK: lexNumber.
-/
import Derived.Test.Qxb6608672aFmtWalkD
import Derived.Deep.DeepCutAuto
namespace Go.Proofs.Qxb6608672aFmt
open Go.RowKit Go.Extern.Stop Go.Stop Go.Extern

theorem isAt_in (p : UInt8 → Bool) (s : ByteArray) (k : Nat) (h : k < s.size) : Lx.isAt p s.data.toList k = p s[k] := by
  unfold Lx.isAt
  rw [List.getElem?_eq_getElem (by simpa using h)]
  rfl
theorem isAt_out (p : UInt8 → Bool) (s : ByteArray) (k : Nat) (h : s.size ≤ k) : Lx.isAt p s.data.toList k = false := by
  unfold Lx.isAt
  rw [List.getElem?_eq_none (by simpa using h)]
theorem isAt_drop (p : UInt8 → Bool) (l : List UInt8) (i j : Nat) : Lx.isAt p (l.drop i) j = Lx.isAt p l (i + j) := by
  unfold Lx.isAt
  rw [List.getElem?_drop]
theorem beq_byte (c d : UInt8) : ((c.toNat : Int) == (d.toNat : Int)) = (c == d) := by
  rw [Bool.eq_iff_iff]
  simp only [beq_iff_eq, Int.natCast_inj, UInt8.toNat_inj]

def NAns (s : ByteArray) (i B : Nat) (e : Ending) (w' : World) : Prop :=
  match Lx.num (s.data.toList.drop i) with
  | none => ∃ a, e = .returned (.tuple #[.agg #[.int .u8 0, .string ⟨#[]⟩, .string ⟨#[]⟩, .int .i64 0], .iface 39 (.pointer (some ⟨a, 0, none⟩))]) ∧ ErrAt B w' a (i + 1)
  | some x => e = .returned (.tuple #[.agg #[.int .u8 (if x.2 then 4 else 3), .string (s.extract i (i + x.1)), .string (s.extract i (i + x.1)), .int .i64 i], .nilIface])

theorem one_in (d : UInt8) (s : ByteArray) (k : Nat) (h : k < s.size) : ((s[k].toNat : Int) == (d.toNat : Int)) = Lx.isAt (· == d) s.data.toList k := by
  rw [isAt_in _ s k h, beq_byte]
theorem two_true {a b : UInt8} (s : ByteArray) (k : Nat) (h : k < s.size) (hx : s[k] = a ∨ s[k] = b) : Lx.isAt (fun c => c == a || c == b) s.data.toList k = true := by
  rw [isAt_in _ s k h]; simpa using hx
theorem two_false {a b : UInt8} (s : ByteArray) (k : Nat) (h : k < s.size) (ha : ¬ s[k] = a) (hb : ¬ s[k] = b) : Lx.isAt (fun c => c == a || c == b) s.data.toList k = false := by
  rw [isAt_in _ s k h]; simp [ha, hb]
theorem byte_eq {c d : UInt8} (h : c = d) : ((c.toNat : Int) == (d.toNat : Int)) = true := by rw [beq_byte]; simpa using h
theorem byte_ne {c d : UInt8} (h : ¬ c = d) : ((c.toNat : Int) == (d.toNat : Int)) = false := by rw [beq_byte]; simpa using h

theorem num1_no {s : ByteArray} {i j : Nat} (HJ : i + Lx.run Lx.dig (s.data.toList.drop i) = j) (hb : Lx.isAt (· == 46) s.data.toList j = false) : Lx.num1 (s.data.toList.drop i) = (j - i, false) := by
  unfold Lx.num1
  rw [isAt_drop, HJ, hb, if_neg (by simp)]
  congr 1; omega
theorem num1_yes {s : ByteArray} {i j : Nat} (HJ : i + Lx.run Lx.dig (s.data.toList.drop i) = j) (hb : Lx.isAt (· == 46) s.data.toList j = true) : Lx.num1 (s.data.toList.drop i) = (j + 1 + Lx.run Lx.dig (s.data.toList.drop (j + 1)) - i, true) := by
  unfold Lx.num1
  rw [isAt_drop, HJ, hb, if_pos rfl, List.drop_drop]
  rw [show i + (Lx.run Lx.dig (s.data.toList.drop i) + 1) = j + 1 from by omega]
  congr 1; omega
/-- Where the exponent's digits would begin. -/
def sgA (s : ByteArray) (j : Nat) : Nat := if Lx.isAt (fun c => c == 43 || c == 45) s.data.toList j then j + 1 else j
theorem signed_abs (s : ByteArray) (i k : Nat) : i + Lx.signed (s.data.toList.drop i) k = sgA s (i + k) := by
  unfold Lx.signed sgA
  rw [isAt_drop]
  split <;> omega
theorem num2_no {s : ByteArray} {i j : Nat} {k : Bool} (hij : i ≤ j) (hb : (Lx.isAt (fun c => c == 101 || c == 69) s.data.toList j && Lx.isAt Lx.dig s.data.toList (sgA s (j + 1))) = false) : Lx.num2 (s.data.toList.drop i) (j - i) k = (j - i, k) := by
  unfold Lx.num2
  rw [isAt_drop, isAt_drop, signed_abs, show i + (j - i) = j from by omega, show i + (j - i + 1) = j + 1 from by omega, hb]
  rfl
theorem num2_yes {s : ByteArray} {i j : Nat} {k : Bool} (hij : i ≤ j) (hb : (Lx.isAt (fun c => c == 101 || c == 69) s.data.toList j && Lx.isAt Lx.dig s.data.toList (sgA s (j + 1))) = true) :
    Lx.num2 (s.data.toList.drop i) (j - i) k = (sgA s (j + 1) + Lx.run Lx.dig (s.data.toList.drop (sgA s (j + 1))) - i, true) := by
  have hsg := signed_abs s i (j - i + 1)
  rw [show i + (j - i + 1) = j + 1 from by omega] at hsg
  unfold Lx.num2
  rw [isAt_drop, isAt_drop, hsg, show i + (j - i) = j from by omega, hb, if_pos rfl, List.drop_drop, hsg]
  congr 1; omega
theorem num_abs {s : ByteArray} {i j j2 : Nat} {k k2 : Bool} (h1 : Lx.num1 (s.data.toList.drop i) = (j - i, k)) (h2 : Lx.num2 (s.data.toList.drop i) (j - i) k = (j2 - i, k2)) (hij : i ≤ j2) :
    Lx.num (s.data.toList.drop i) = if Lx.isAt Lx.idS s.data.toList j2 then none else some (j2 - i, k2) := by
  unfold Lx.num
  rw [h1, h2]
  simp only
  rw [isAt_drop, show i + (j2 - i) = j2 from by omega]
theorem nans_ok {s : ByteArray} {i j B : Nat} {k : Bool} {kd : Int} {w' : World} (h : Lx.num (s.data.toList.drop i) = some (j - i, k)) (hij : i ≤ j) (hk : kd = if k then 4 else 3) :
    NAns s i B (.returned (.tuple #[.agg #[.int .u8 kd, .string (s.extract i j), .string (s.extract i j), .int .i64 i], .nilIface])) w' := by
  unfold NAns
  rw [h]
  simp only
  rw [show i + (j - i) = j from by omega, hk]
theorem nans_err {s : ByteArray} {i B a : Nat} {w' : World} (h : Lx.num (s.data.toList.drop i) = none) (hE : ErrAt B w' a (i + 1)) :
    NAns s i B (.returned (.tuple #[.agg #[.int .u8 0, .string ⟨#[]⟩, .string ⟨#[]⟩, .int .i64 0], .iface 39 (.pointer (some ⟨a, 0, none⟩))])) w' := by
  unfold NAns
  rw [h]
  exact ⟨a, rfl, hE⟩

theorem fmtJunk : FmtStop.printed? ⟨#[116, 114, 97, 105, 108, 105, 110, 103, 32, 106, 117, 110, 107, 32, 97, 102, 116, 101, 114, 32, 110, 117, 109, 101, 114, 105, 99, 32, 108, 105, 116, 101, 114, 97, 108, 32, 97, 116, 32, 111, 114, 32, 110, 101, 97, 114, 32, 34, 37, 115, 34]⟩ 1 = some [(0, 115, false)] := by kernel_rfl
/-- The cells of a token that holds nothing. -/
theorem digitsEndZ (s : ByteArray) (i : Nat) (z : Int) (w : World) (hs : s.size ≤ 1000000000) (hi : i ≤ s.size) (hz : z = i) :
    Calls Tryf.prog 26 #[.string s, .int .i64 z] w fun e w' => e = .returned (.int .i64 (i + Lx.run Lx.dig (s.data.toList.drop i) : Nat)) ∧ w' = w := by
  subst hz
  exact digitsEnd_any s i w (by unfold maxLen; omega) hi
theorem run_bound (p : UInt8 → Bool) (s : ByteArray) (i : Nat) (h : i ≤ s.size) : i + Lx.run p (s.data.toList.drop i) ≤ s.size := by
  have hj := Lx.run_le p (s.data.toList.drop i)
  simp only [List.length_drop, Array.length_toList, ByteArray.size_data] at hj
  omega

set_option maxRecDepth 100000 in
set_option maxHeartbeats 4000000 in
theorem lexNumber_any (F : Interp) (s : ByteArray) (i : Nat) (w : World) (hF : F.answers w.tape) (hs : s.size ≤ 1000000000) (hi : i < s.size) :
    Calls Tryf.prog 25 #[.string s, .int .i64 i] w fun e w' => NAns s i w.heap.size e w' ∧ Below w.heap.size w w' := by
  have cD := digitsEndZ s i i (w.alloc (.cells #[.int .u8 0, .string ⟨#[]⟩, .string ⟨#[]⟩, .int .i64 0] 34)) hs (by omega) rfl
  have hj := run_bound Lx.dig s i (by omega)
  obtain ⟨j1, HJ⟩ : ∃ j1, Hid (i + Lx.run Lx.dig (s.data.toList.drop i) = j1) := ⟨_, rfl⟩
  rw [HJ.out] at cD hj
  have hj1 : i ≤ j1 := by have := HJ.out; omega
  go_enter Tryf.func25, Tryf.ntmps25
  go_wp2_with fail
  refine cD.mono ?_
  rintro e w1 ⟨rfl, rfl⟩
  clear cD
  go_upto_region 3 with fail
  go_cut [22] (fun s22 wx => s22 = .bool (Lx.isAt (· == 46) s.data.toList j1) ∧ wx = w.alloc (.cells #[.int .u8 0, .string ⟨#[]⟩, .string ⟨#[]⟩, .int .i64 0] 34))
  case first =>
    by_cases hlt : j1 < s.size
    · have hlz : (j1 : Int) < (s.size : Int) := by omega
      go_wp2_with fail
      go_meet
      exact ⟨congrArg Value.bool (one_in 46 s j1 hlt), rfl⟩
    · have hlz : decide ((j1 : Int) < (s.size : Int)) = false := by simp; omega
      go_wp2_with fail
      go_meet
      exact ⟨congrArg Value.bool (isAt_out _ s j1 (by omega)).symm, rfl⟩
  case rest =>
  obtain ⟨rfl, rfl⟩ := hcut
  obtain ⟨b1, HB1⟩ : ∃ b, Hid (Lx.isAt (· == 46) s.data.toList j1 = b) := ⟨_, rfl⟩
  rw [HB1.out]
  go_upto_if 22 with fail
  go_cut [6, 7] (fun s6 s7 wx => ∃ (j2 : Nat) (kk : Bool) (kd : Int), s6 = .int .i64 j2 ∧ s7 = .int .u8 kd ∧ Hid (kd = if kk then 4 else 3) ∧ i ≤ j2 ∧ j2 ≤ s.size ∧ Hid (Lx.num1 (s.data.toList.drop i) = (j2 - i, kk)) ∧ wx = w.alloc (.cells #[.int .u8 0, .string ⟨#[]⟩, .string ⟨#[]⟩, .int .i64 0] 34))
  case first =>
    cases b1 with
    | false =>
      have HN : Hid (Lx.num1 (s.data.toList.drop i) = (j1 - i, false)) := num1_no HJ.out HB1.out
      go_wp2_with fail
      go_meet
      exact ⟨j1, false, 3, rfl, rfl, rfl, hj1, hj, HN, rfl⟩
    | true =>
      have HN : Hid (Lx.num1 (s.data.toList.drop i) = (j1 + 1 + Lx.run Lx.dig (s.data.toList.drop (j1 + 1)) - i, true)) := num1_yes HJ.out HB1.out
      have hlt : j1 < s.size := by simpa using Lx.isAt_lt HB1.out
      have cE := digitsEndZ s (j1 + 1) (j1 + 1) (w.alloc (.cells #[.int .u8 0, .string ⟨#[]⟩, .string ⟨#[]⟩, .int .i64 0] 34)) hs (by omega) (by omega)
      have hb := run_bound Lx.dig s (j1 + 1) (by omega)
      have hb2 : j1 + 1 ≤ j1 + 1 + Lx.run Lx.dig (s.data.toList.drop (j1 + 1)) := Nat.le_add_right _ _
      generalize j1 + 1 + Lx.run Lx.dig (s.data.toList.drop (j1 + 1)) = j2 at *
      go_wp2_with fail
      refine cE.mono ?_
      rintro e w1 ⟨rfl, rfl⟩
      go_wp2_with fail
      go_meet
      exact ⟨j2, true, 4, rfl, rfl, rfl, by omega, hb, HN, rfl⟩
  case rest =>
  obtain ⟨j2, kk, kd, rfl, rfl, HK, hi2, hj2, HN1, rfl⟩ := hcut
  clear HJ HB1 hj1 hj b1 j1
  go_upto_region 6 with fail
  go_cut [42] (fun s42 wx => s42 = .bool (Lx.isAt (fun c => c == 101 || c == 69) s.data.toList j2) ∧ wx = w.alloc (.cells #[.int .u8 0, .string ⟨#[]⟩, .string ⟨#[]⟩, .int .i64 0] 34))
  case first =>
    by_cases hlt : j2 < s.size
    · have hlz : (j2 : Int) < (s.size : Int) := by omega
      by_cases he : s[j2] = 101
      · have HT : Hid (Lx.isAt (fun c => c == 101 || c == 69) s.data.toList j2 = true) := two_true s j2 hlt (Or.inl he)
        have h1 : ((s[j2].toNat : Int) == 101) = true := byte_eq he
        clear he
        go_wp2_with fail
        go_meet
        exact ⟨congrArg Value.bool HT.out.symm, rfl⟩
      · by_cases he2 : s[j2] = 69
        · have HT : Hid (Lx.isAt (fun c => c == 101 || c == 69) s.data.toList j2 = true) := two_true s j2 hlt (Or.inr he2)
          have h1 : ((s[j2].toNat : Int) == 101) = false := byte_ne he
          have h2 : ((s[j2].toNat : Int) == 69) = true := byte_eq he2
          clear he he2
          go_wp2_with fail
          go_meet
          exact ⟨congrArg Value.bool HT.out.symm, rfl⟩
        · have HT : Hid (Lx.isAt (fun c => c == 101 || c == 69) s.data.toList j2 = false) := two_false s j2 hlt he he2
          have h1 : ((s[j2].toNat : Int) == 101) = false := byte_ne he
          have h2 : ((s[j2].toNat : Int) == 69) = false := byte_ne he2
          clear he he2
          go_wp2_with fail
          go_meet
          exact ⟨congrArg Value.bool HT.out.symm, rfl⟩
    · have hlz : decide ((j2 : Int) < (s.size : Int)) = false := by simp; omega
      go_wp2_with fail
      go_meet
      exact ⟨congrArg Value.bool (isAt_out _ s j2 (by omega)).symm, rfl⟩
  case rest =>
  obtain ⟨rfl, rfl⟩ := hcut
  obtain ⟨b2, HB2⟩ : ∃ b, Hid (Lx.isAt (fun c => c == 101 || c == 69) s.data.toList j2 = b) := ⟨_, rfl⟩
  rw [HB2.out]
  go_upto_if 42 with fail
  go_cut [6, 7] (fun s6 s7 wx => ∃ (j3 : Nat) (kk3 : Bool) (kd3 : Int), s6 = .int .i64 j3 ∧ s7 = .int .u8 kd3 ∧ Hid (kd3 = if kk3 then 4 else 3) ∧ i ≤ j3 ∧ j3 ≤ s.size ∧ Hid (Lx.num2 (s.data.toList.drop i) (j2 - i) kk = (j3 - i, kk3)) ∧ wx = w.alloc (.cells #[.int .u8 0, .string ⟨#[]⟩, .string ⟨#[]⟩, .int .i64 0] 34))
  case first =>
    cases b2 with
    | false =>
      have HN : Hid (Lx.num2 (s.data.toList.drop i) (j2 - i) kk = (j2 - i, kk)) := num2_no hi2 (by rw [HB2.out]; rfl)
      go_wp2_with fail
      go_meet
      exact ⟨j2, kk, kd, rfl, rfl, HK, hi2, hj2, HN, rfl⟩
    | true =>
      have hlt : j2 < s.size := by simpa using Lx.isAt_lt HB2.out
      go_upto_region 8 with fail
      go_cut [60] (fun s60 wx => s60 = .bool (Lx.isAt (fun c => c == 43 || c == 45) s.data.toList (j2 + 1)) ∧ wx = w.alloc (.cells #[.int .u8 0, .string ⟨#[]⟩, .string ⟨#[]⟩, .int .i64 0] 34))
      case first =>
        by_cases hl3 : j2 + 1 < s.size
        · have hlz : (j2 : Int) + 1 < (s.size : Int) := by omega
          by_cases he : s[j2 + 1] = 43
          · have HT : Hid (Lx.isAt (fun c => c == 43 || c == 45) s.data.toList (j2 + 1) = true) := two_true s (j2 + 1) hl3 (Or.inl he)
            have h1 : ((s[j2 + 1].toNat : Int) == 43) = true := byte_eq he
            clear he
            go_wp2_with fail
            go_meet
            exact ⟨congrArg Value.bool HT.out.symm, rfl⟩
          · by_cases he2 : s[j2 + 1] = 45
            · have HT : Hid (Lx.isAt (fun c => c == 43 || c == 45) s.data.toList (j2 + 1) = true) := two_true s (j2 + 1) hl3 (Or.inr he2)
              have h1 : ((s[j2 + 1].toNat : Int) == 43) = false := byte_ne he
              have h2 : ((s[j2 + 1].toNat : Int) == 45) = true := byte_eq he2
              clear he he2
              go_wp2_with fail
              go_meet
              exact ⟨congrArg Value.bool HT.out.symm, rfl⟩
            · have HT : Hid (Lx.isAt (fun c => c == 43 || c == 45) s.data.toList (j2 + 1) = false) := two_false s (j2 + 1) hl3 he he2
              have h1 : ((s[j2 + 1].toNat : Int) == 43) = false := byte_ne he
              have h2 : ((s[j2 + 1].toNat : Int) == 45) = false := byte_ne he2
              clear he he2
              go_wp2_with fail
              go_meet
              exact ⟨congrArg Value.bool HT.out.symm, rfl⟩
        · have hlz : decide ((j2 : Int) + 1 < (s.size : Int)) = false := by simp; omega
          go_wp2_with fail
          go_meet
          exact ⟨congrArg Value.bool (isAt_out _ s (j2 + 1) (by omega)).symm, rfl⟩
      case rest =>
      obtain ⟨rfl, rfl⟩ := hcut
      obtain ⟨b3, HB3⟩ : ∃ b, Hid (Lx.isAt (fun c => c == 43 || c == 45) s.data.toList (j2 + 1) = b) := ⟨_, rfl⟩
      rw [HB3.out]
      go_upto_if 60 with fail
      go_cut [8] (fun s8 wx => ∃ g : Nat, s8 = .int .i64 g ∧ Hid (sgA s (j2 + 1) = g) ∧ j2 + 1 ≤ g ∧ g ≤ s.size ∧ wx = w.alloc (.cells #[.int .u8 0, .string ⟨#[]⟩, .string ⟨#[]⟩, .int .i64 0] 34))
      case first =>
        cases b3 with
        | false =>
          have HG : Hid (sgA s (j2 + 1) = j2 + 1) := by show _ = _; unfold sgA; rw [HB3.out]; rfl
          go_wp2_with fail
          go_meet
          exact ⟨j2 + 1, by go_num, HG, by omega, by omega, rfl⟩
        | true =>
          have HG : Hid (sgA s (j2 + 1) = j2 + 2) := by show _ = _; unfold sgA; rw [HB3.out]; rfl
          have hl3 : j2 + 1 < s.size := by simpa using Lx.isAt_lt HB3.out
          go_wp2_with fail
          go_meet
          exact ⟨j2 + 2, by go_num, HG, by omega, by omega, rfl⟩
      case rest =>
      obtain ⟨g, rfl, HG, hg1, hg2, rfl⟩ := hcut
      clear HB3 b3
      by_cases hlg : g < s.size
      · have hlz : (g : Int) < (s.size : Int) := by omega
        cases hd : Lx.dig s[g] with
        | true =>
          have HN : Hid (Lx.num2 (s.data.toList.drop i) (j2 - i) kk = (g + Lx.run Lx.dig (s.data.toList.drop g) - i, true)) := by
            have := num2_yes (k := kk) hi2 (s := s) (by rw [HB2.out, HG.out, isAt_in _ s g hlg, hd]; rfl)
            rw [HG.out] at this
            exact this
          have cI := isDigit_any s[g] (w.alloc (.cells #[.int .u8 0, .string ⟨#[]⟩, .string ⟨#[]⟩, .int .i64 0] 34))
          rw [hd] at cI
          have cE := digitsEndZ s g g (w.alloc (.cells #[.int .u8 0, .string ⟨#[]⟩, .string ⟨#[]⟩, .int .i64 0] 34)) hs (by omega) rfl
          have hb := run_bound Lx.dig s g (by omega)
          have hb2 : g ≤ g + Lx.run Lx.dig (s.data.toList.drop g) := Nat.le_add_right _ _
          generalize g + Lx.run Lx.dig (s.data.toList.drop g) = j3 at *
          clear hd
          go_wp2_with fail
          refine cI.mono ?_
          rintro e w1 ⟨rfl, rfl⟩
          go_wp2_with fail
          refine cE.mono ?_
          rintro e w1 ⟨rfl, rfl⟩
          go_wp2_with fail
          go_meet
          exact ⟨j3, true, 4, rfl, rfl, rfl, by omega, hb, HN, rfl⟩
        | false =>
          have HN : Hid (Lx.num2 (s.data.toList.drop i) (j2 - i) kk = (j2 - i, kk)) := num2_no hi2 (by rw [HB2.out, HG.out, isAt_in _ s g hlg, hd]; rfl)
          have cI := isDigit_any s[g] (w.alloc (.cells #[.int .u8 0, .string ⟨#[]⟩, .string ⟨#[]⟩, .int .i64 0] 34))
          rw [hd] at cI
          clear hd
          go_wp2_with fail
          refine cI.mono ?_
          rintro e w1 ⟨rfl, rfl⟩
          go_wp2_with fail
          go_meet
          exact ⟨j2, kk, kd, rfl, rfl, HK, hi2, hj2, HN, rfl⟩
      · have hlz : decide ((g : Int) < (s.size : Int)) = false := by simp; omega
        have HN : Hid (Lx.num2 (s.data.toList.drop i) (j2 - i) kk = (j2 - i, kk)) := num2_no hi2 (by rw [HB2.out, HG.out, isAt_out _ s g (by omega)]; rfl)
        go_wp2_with fail
        go_meet
        exact ⟨j2, kk, kd, rfl, rfl, HK, hi2, hj2, HN, rfl⟩
  case rest =>
  obtain ⟨j3, kk3, kd3, rfl, rfl, HK3, hi3, hj3, HN2, rfl⟩ := hcut
  have HN : Hid (Lx.num (s.data.toList.drop i) = if Lx.isAt Lx.idS s.data.toList j3 then none else some (j3 - i, kk3)) := num_abs HN1.out HN2.out hi3
  clear HK HN1 HN2 HB2 hi2 hj2 b2
  have hi3z : (i : Int) ≤ (j3 : Int) := by omega
  have hj3z : (j3 : Int) ≤ (s.size : Int) := by omega
  by_cases hlt : j3 < s.size
  · have hlz : (j3 : Int) < (s.size : Int) := by omega
    cases hd : Lx.idS s[j3] with
    | false =>
      have HE : Hid (Lx.num (s.data.toList.drop i) = some (j3 - i, kk3)) := by show _ = _; rw [HN.out, isAt_in _ s j3 hlt, hd]; rfl
      have cI := isIdentStart_any s[j3] (w.alloc (.cells #[.int .u8 0, .string ⟨#[]⟩, .string ⟨#[]⟩, .int .i64 0] 34))
      rw [hd] at cI
      clear hd HN
      go_wp2_with fail
      refine cI.mono ?_
      rintro e w1 ⟨rfl, rfl⟩
      go_wp2
      go_region
      all_goals
        go_wp2
        refine bodyPost_ret (v := .tuple #[.agg #[.int .u8 kd3, .string (s.extract i j3), .string (s.extract i j3), .int .i64 i], .nilIface]) (by simp [results, Tryf.results25, go_sem]) rfl ⟨nans_ok HE.out hi3 HK3.out, ?_⟩
        exact ((Below.refl _ _).alloc (Nat.le_refl _) _).drew
    | true =>
      have HE : Hid (Lx.num (s.data.toList.drop i) = none) := by show _ = _; rw [HN.out, isAt_in _ s j3 hlt, hd]; rfl
      have cI := isIdentStart_any s[j3] (w.alloc (.cells #[.int .u8 0, .string ⟨#[]⟩, .string ⟨#[]⟩, .int .i64 0] 34))
      rw [hd] at cI
      clear hd HN
      go_wp2_with fail
      refine cI.mono ?_
      rintro e w1 ⟨rfl, rfl⟩
      clear cI
      go_wp2
      go_loop [9] (fun t => ∃ k : Nat, i ≤ k ∧ k ≤ s.size ∧ t = .int .i64 k) (fun t => s.size - (intOf t).toNat)
      case atStart => exact ⟨j3, hi3, hj3, rfl⟩
      case round =>
        obtain ⟨k, hik, hk, rfl⟩ := hrel
        have hikz : (i : Int) ≤ (k : Int) := by omega
        have hkz : (k : Int) ≤ (s.size : Int) := by omega
        have cA := at_one F i _ (s.extract i k) (w.heap.size + 1) ((w.alloc (.cells #[.int .u8 0, .string ⟨#[]⟩, .string ⟨#[]⟩, .int .i64 0] 34)).alloc (.cells #[.iface 9 (.string (s.extract i k))] 20)) hF (by omega) fmtJunk (by simp)
        by_cases hlk : k < s.size
        · have hlz2 : (k : Int) < (s.size : Int) := by omega
          have cS := isIdentStart_any s[k] (w.alloc (.cells #[.int .u8 0, .string ⟨#[]⟩, .string ⟨#[]⟩, .int .i64 0] 34))
          cases hd : Lx.idS s[k] with
          | true =>
            rw [hd] at cS
            clear hd cA
            go_wp2_with fail
            refine cS.mono ?_
            rintro e w1 ⟨rfl, rfl⟩
            go_wp2
            exact ⟨⟨k + 1, by omega, by omega, by go_num⟩, by simp [intOf]; omega⟩
          | false =>
            rw [hd] at cS
            have cG := isDigit_any s[k] (w.alloc (.cells #[.int .u8 0, .string ⟨#[]⟩, .string ⟨#[]⟩, .int .i64 0] 34))
            cases hd2 : Lx.dig s[k] with
            | true =>
              rw [hd2] at cG
              clear hd hd2 cA
              go_wp2_with fail
              refine cS.mono ?_
              rintro e w1 ⟨rfl, rfl⟩
              go_wp2_with fail
              refine cG.mono ?_
              rintro e w1 ⟨rfl, rfl⟩
              go_wp2
              exact ⟨⟨k + 1, by omega, by omega, by go_num⟩, by simp [intOf]; omega⟩
            | false =>
              rw [hd2] at cG
              clear hd hd2
              go_wp2_with fail
              refine cS.mono ?_
              rintro e w1 ⟨rfl, rfl⟩
              go_wp2_with fail
              refine cG.mono ?_
              rintro e w1 ⟨rfl, rfl⟩
              go_wp2_with fail
              refine cA.mono ?_
              rintro e w1 ⟨t, rfl, rfl⟩
              go_wp2
              refine bodyPost_ret (v := .tuple #[.agg #[.int .u8 0, .string ⟨#[]⟩, .string ⟨#[]⟩, .int .i64 0], .iface 39 (.pointer (some ⟨w.heap.size + 1 + 1, 0, none⟩))]) (by simp [results, Tryf.results25, go_sem]) rfl ⟨nans_err HE.out (errAt_new ((w.alloc _).alloc _) _ t i (by omega) (by simp)), ?_⟩
              exact ((((Below.refl _ _).alloc (Nat.le_refl _) _).alloc (by simp) _).alloc (by simp; omega) _).drew
        · have hlz2 : decide ((k : Int) < (s.size : Int)) = false := by simp; omega
          go_wp2_with fail
          refine cA.mono ?_
          rintro e w1 ⟨t, rfl, rfl⟩
          go_wp2
          refine bodyPost_ret (v := .tuple #[.agg #[.int .u8 0, .string ⟨#[]⟩, .string ⟨#[]⟩, .int .i64 0], .iface 39 (.pointer (some ⟨w.heap.size + 1 + 1, 0, none⟩))]) (by simp [results, Tryf.results25, go_sem]) rfl ⟨nans_err HE.out (errAt_new ((w.alloc _).alloc _) _ t i (by omega) (by simp)), ?_⟩
          exact ((((Below.refl _ _).alloc (Nat.le_refl _) _).alloc (by simp) _).alloc (by simp; omega) _).drew
  · have hlz : decide ((j3 : Int) < (s.size : Int)) = false := by simp; omega
    have HE : Hid (Lx.num (s.data.toList.drop i) = some (j3 - i, kk3)) := by show _ = _; rw [HN.out, isAt_out _ s j3 (by omega)]; rfl
    clear HN
    go_wp2
    go_region
    all_goals
      go_wp2
      refine bodyPost_ret (v := .tuple #[.agg #[.int .u8 kd3, .string (s.extract i j3), .string (s.extract i j3), .int .i64 i], .nilIface]) (by simp [results, Tryf.results25, go_sem]) rfl ⟨nans_ok HE.out hi3 HK3.out, ?_⟩
      exact ((Below.refl _ _).alloc (Nat.le_refl _) _).drew
end Go.Proofs.Qxb6608672aFmt
