/-
  Seat b6608672aF (tabulon). WALKS: lexToken at a parameter, a quoted string, a quoted identifier.
-/
import Derived.Test.Qxb6608672aFmtWalkH
namespace Go.Proofs.Qxb6608672aFmt
open Go.RowKit Go.Extern.Stop Go.Stop Go.Extern Go.Lib

set_option maxRecDepth 100000 in
set_option maxHeartbeats 4000000 in
theorem lexToken_par (s : ByteArray) (i : Nat) (w : World) (hs : s.size ≤ 1000000000) (hi : i < s.size) (hid : Lx.idS s[i] = false)
    (h36 : s[i] = 36) (hn : Lx.isAt Lx.dig s.data.toList (i + 1) = true) :
    Calls Tryf.prog 15 #[.string s, .int .i64 i] w fun e w' => TAns s i w.heap.size e w' ∧ Below w.heap.size w w' := by
  have ht := tok_par hi hid h36 hn
  have cI := isIdentStart_any s[i] (w.alloc (.cells #[.int .u8 0, .string ⟨#[]⟩, .string ⟨#[]⟩, .int .i64 0] 34))
  rw [hid] at cI
  have cD := isDigit_any s[i] (w.alloc (.cells #[.int .u8 0, .string ⟨#[]⟩, .string ⟨#[]⟩, .int .i64 0] 34))
  rw [show Lx.dig s[i] = false from by rw [h36]; rfl] at cD
  have h46z : ((s[i].toNat : Int) == 46) = false := byte_ne (c := s[i]) (d := 46) (by rw [h36]; decide)
  have h36z : ((s[i].toNat : Int) == 36) = true := byte_eq h36
  have hlt : i + 1 < s.size := by simpa using Lx.isAt_lt hn
  have hltz : (i : Int) + 1 < (s.size : Int) := by omega
  have cD2 := isDigit_any s[i + 1] (w.alloc (.cells #[.int .u8 0, .string ⟨#[]⟩, .string ⟨#[]⟩, .int .i64 0] 34))
  rw [show Lx.dig s[i + 1] = true from by rw [← isAt_in Lx.dig s (i + 1) hlt]; exact hn] at cD2
  have cE := digitsEndZ s (i + 1) (i + 1) (w.alloc (.cells #[.int .u8 0, .string ⟨#[]⟩, .string ⟨#[]⟩, .int .i64 0] 34)) hs (by omega) (by omega)
  have hb := run_bound Lx.dig s (i + 1) (by omega)
  have hb2 : i + 1 ≤ i + 1 + Lx.run Lx.dig (s.data.toList.drop (i + 1)) := Nat.le_add_right _ _
  have HT : Hid (Lx.tok (s.data.toList.drop i) = some (6, (s.data.toList.drop (i + 1)).take (i + 1 + Lx.run Lx.dig (s.data.toList.drop (i + 1)) - (i + 1)), i + 1 + Lx.run Lx.dig (s.data.toList.drop (i + 1)) - i)) := by
    show _ = _
    rw [ht, show i + 1 + Lx.run Lx.dig (s.data.toList.drop (i + 1)) - (i + 1) = Lx.run Lx.dig (s.data.toList.drop (i + 1)) from by omega, show i + 1 + Lx.run Lx.dig (s.data.toList.drop (i + 1)) - i = Lx.run Lx.dig (s.data.toList.drop (i + 1)) + 1 from by omega]
  generalize i + 1 + Lx.run Lx.dig (s.data.toList.drop (i + 1)) = j at *
  have hiz : (i : Int) < (s.size : Int) := by omega
  clear ht hn hid h36
  go_enter Tryf.func15, Tryf.ntmps15
  go_wp2_with fail
  refine cI.mono ?_
  rintro e w1 ⟨rfl, rfl⟩
  go_wp2_with fail
  refine cD.mono ?_
  rintro e w1 ⟨rfl, rfl⟩
  go_wp2_with fail
  refine cD2.mono ?_
  rintro e w1 ⟨rfl, rfl⟩
  go_wp2_with fail
  refine cE.mono ?_
  rintro e w1 ⟨rfl, rfl⟩
  go_wp2
  have hwr := wrap_in ((i : Int) + 1) (by omega) (by omega)
  have hijz : (i : Int) ≤ (j : Int) := by omega
  have hij1z : (i : Int) + 1 ≤ (j : Int) := by omega
  have hjz : (j : Int) ≤ (s.size : Int) := by omega
  go_region
  all_goals
    go_wp2
    refine bodyPost_ret (v := .tuple #[.agg #[.int .u8 6, .string (s.extract (i + 1) j), .string (s.extract i j), .int .i64 i], .nilIface]) (by simp [results, Tryf.results15, go_sem]) rfl ⟨?_, ?_⟩
    · have h1 := tans_upto (B := w.heap.size) (w' := w) HT.out (by omega)
      rw [text_eq, show i + 1 + (j - (i + 1)) = j from by omega] at h1
      unfold TAns at h1 ⊢
      rw [HT.out] at h1 ⊢
      exact h1
    · exact ((Below.refl _ _).alloc (Nat.le_refl _) _).drew

theorem quo_from (q : UInt8) (s : ByteArray) (i : Nat) : Lx.quo q ((s.extract i s.size).data.toList.drop 1) = Lx.quo q (s.data.toList.drop (i + 1)) := by
  rw [extract_end, List.drop_drop]
theorem tok_str {s : ByteArray} {i : Nat} (hi : i < s.size) (h : s[i] = 39) : Lx.tok (s.data.toList.drop i) = (Lx.quo 39 (s.data.toList.drop (i + 1))).map fun x => (5, x.1, x.2 + 1) := by
  rw [drop_at s i hi, h, Lx.tok]
  rfl
theorem tok_qid {s : ByteArray} {i : Nat} (hi : i < s.size) (h : s[i] = 34) : Lx.tok (s.data.toList.drop i) = (match Lx.quo 34 (s.data.toList.drop (i + 1)) with | none => none | some x => if x.1.isEmpty then none else some (2, x.1, x.2 + 1)) := by
  rw [drop_at s i hi, h, Lx.tok]
  rfl
theorem raw_eq (s : ByteArray) (i m : Nat) : (s.extract i s.size).extract 0 m = s.extract i (i + m) := by
  have h1 : ((s.extract i s.size).extract 0 m).data.toList = (s.extract i (i + m)).data.toList := by
    rw [extract_mid, extract_end, extract_mid]
    simp
  have h2 : ((s.extract i s.size).extract 0 m).data = (s.extract i (i + m)).data := Array.toList_inj.1 h1
  exact ByteArray.ext h2

theorem fmtStr : FmtStop.printed? ⟨#[117, 110, 116, 101, 114, 109, 105, 110, 97, 116, 101, 100, 32, 113, 117, 111, 116, 101, 100, 32, 115, 116, 114, 105, 110, 103, 32, 97, 116, 32, 111, 114, 32, 110, 101, 97, 114, 32, 34, 37, 115, 34]⟩ 1 = some [(0, 115, false)] := by kernel_rfl

set_option maxRecDepth 100000 in
set_option maxHeartbeats 4000000 in
theorem lexToken_str (F : Interp) (s : ByteArray) (i : Nat) (w : World) (hF : F.answers w.tape) (hs : s.size ≤ 1000000000) (hi : i < s.size) (h39 : s[i] = 39) :
    Calls Tryf.prog 15 #[.string s, .int .i64 i] w fun e w' => TAns s i w.heap.size e w' ∧ Below w.heap.size w w' := by
  have ht := tok_str hi h39
  have cI := isIdentStart_any s[i] (w.alloc (.cells #[.int .u8 0, .string ⟨#[]⟩, .string ⟨#[]⟩, .int .i64 0] 34))
  rw [show Lx.idS s[i] = false from by rw [h39]; rfl] at cI
  have cD := isDigit_any s[i] (w.alloc (.cells #[.int .u8 0, .string ⟨#[]⟩, .string ⟨#[]⟩, .int .i64 0] 34))
  rw [show Lx.dig s[i] = false from by rw [h39]; rfl] at cD
  have cQ := quoted_any 39 (s.extract i s.size) (w.alloc (.cells #[.int .u8 0, .string ⟨#[]⟩, .string ⟨#[]⟩, .int .i64 0] 34)) (by simp; omega) (by simp; omega)
  have h46z : ((s[i].toNat : Int) == 46) = false := byte_ne (c := s[i]) (d := 46) (by rw [h39]; decide)
  have h36z : ((s[i].toNat : Int) == 36) = false := byte_ne (c := s[i]) (d := 36) (by rw [h39]; decide)
  have h39z : ((s[i].toNat : Int) == 39) = true := byte_eq h39
  have hiz : (i : Int) < (s.size : Int) := by omega
  have HTok : Hid _ := ht
  clear h39 ht
  go_enter Tryf.func15, Tryf.ntmps15
  go_wp2_with fail
  refine cI.mono ?_
  rintro e w1 ⟨rfl, rfl⟩
  go_wp2_with fail
  refine cD.mono ?_
  rintro e w1 ⟨rfl, rfl⟩
  go_wp2_with fail
  refine cQ.mono ?_
  rintro e w1 ⟨hQ, hb⟩
  obtain ⟨hc, hf⟩ := bcell hb
  have hz : w.heap.size < w1.heap.size := by have := hb.size; simp at this; omega
  have hb' : Below w.heap.size w w1 := ((Below.refl _ _).alloc (Nat.le_refl _) _).trans (hb.mono (by simp))
  unfold QAns at hQ
  rw [quo_from 39 s i] at hQ
  clear cI cD cQ
  cases hq : Lx.quo 39 (s.data.toList.drop (i + 1)) with
  | none =>
    rw [hq] at hQ
    have hQ' : e = .returned (.tuple #[.string ⟨#[]⟩, .string ⟨#[]⟩, .bool false]) := hQ
    subst hQ'
    have HT : Hid (Lx.tok (s.data.toList.drop i) = none) := by show _ = _; rw [HTok.out, hq]; rfl
    have hF1 : F.answers w1.tape := by rw [hb'.tape]; exact hF
    have cA := at_one F i _ (s.extract i s.size) w1.heap.size (w1.alloc (.cells #[.iface 9 (.string (s.extract i s.size))] 20)) hF1 (by omega) fmtStr (by simp)
    clear hQ hq HTok hF1
    go_wp2_with fail
    refine cA.mono ?_
    rintro e w2 ⟨t, rfl, rfl⟩
    go_wp2
    refine bodyPost_ret (v := .tuple #[.agg #[.int .u8 0, .string ⟨#[]⟩, .string ⟨#[]⟩, .int .i64 0], .iface 39 (.pointer (some ⟨w1.heap.size + 1, 0, none⟩))]) (by simp [results, Tryf.results15, go_sem, hc, hz]) rfl ⟨tans_err HT.out (errAt_new (World.alloc _ _) _ t i (by omega) (by simp)), ?_⟩
    exact (((((((hb'.setCell (Nat.le_refl _) _).setCell (Nat.le_refl _) _).setCell (Nat.le_refl _) _).setCell (Nat.le_refl _) _).alloc (by simp; omega) _).alloc (by simp; omega) _)).drew
  | some x =>
    rw [hq] at hQ
    have hQ' : e = .returned (.tuple #[.string ⟨x.1.toArray⟩, .string ((s.extract i s.size).extract 0 (x.2 + 1)), .bool true]) := hQ
    have hle := (Lx.quo_le 39 _ x hq).2
    simp only [List.length_drop, Array.length_toList, ByteArray.size_data] at hle
    rw [raw_eq s i (x.2 + 1)] at hQ'
    subst hQ'
    have HT : Hid (Lx.tok (s.data.toList.drop i) = some (5, x.1, x.2 + 1)) := by show _ = _; rw [HTok.out, hq]; rfl
    clear hQ hq HTok hle
    go_wp2
    refine bodyPost_ret (v := .tuple #[.agg #[.int .u8 5, .string ⟨x.1.toArray⟩, .string (s.extract i (i + (x.2 + 1))), .int .i64 i], .nilIface]) (by simp [results, Tryf.results15, go_sem, hc]) rfl ⟨tans_ok HT.out, ?_⟩
    exact (((hb'.setCell (Nat.le_refl _) _).setCell (Nat.le_refl _) _).setCell (Nat.le_refl _) _).setCell (Nat.le_refl _) _
theorem fmtQid : FmtStop.printed? ⟨#[117, 110, 116, 101, 114, 109, 105, 110, 97, 116, 101, 100, 32, 113, 117, 111, 116, 101, 100, 32, 105, 100, 101, 110, 116, 105, 102, 105, 101, 114, 32, 97, 116, 32, 111, 114, 32, 110, 101, 97, 114, 32, 34, 37, 115, 34]⟩ 1 = some [(0, 115, false)] := by kernel_rfl
theorem fmtZero : FmtStop.printed? ⟨#[122, 101, 114, 111, 45, 108, 101, 110, 103, 116, 104, 32, 100, 101, 108, 105, 109, 105, 116, 101, 100, 32, 105, 100, 101, 110, 116, 105, 102, 105, 101, 114, 32, 97, 116, 32, 111, 114, 32, 110, 101, 97, 114, 32, 34, 37, 115, 34]⟩ 1 = some [(0, 115, false)] := by kernel_rfl
set_option maxRecDepth 100000 in
set_option maxHeartbeats 4000000 in
theorem lexToken_qid (F : Interp) (s : ByteArray) (i : Nat) (w : World) (hF : F.answers w.tape) (hs : s.size ≤ 1000000000) (hi : i < s.size) (h34 : s[i] = 34) :
    Calls Tryf.prog 15 #[.string s, .int .i64 i] w fun e w' => TAns s i w.heap.size e w' ∧ Below w.heap.size w w' := by
  have ht := tok_qid hi h34
  have cI := isIdentStart_any s[i] (w.alloc (.cells #[.int .u8 0, .string ⟨#[]⟩, .string ⟨#[]⟩, .int .i64 0] 34))
  rw [show Lx.idS s[i] = false from by rw [h34]; rfl] at cI
  have cD := isDigit_any s[i] (w.alloc (.cells #[.int .u8 0, .string ⟨#[]⟩, .string ⟨#[]⟩, .int .i64 0] 34))
  rw [show Lx.dig s[i] = false from by rw [h34]; rfl] at cD
  have cQ := quoted_any 34 (s.extract i s.size) (w.alloc (.cells #[.int .u8 0, .string ⟨#[]⟩, .string ⟨#[]⟩, .int .i64 0] 34)) (by simp; omega) (by simp; omega)
  have h46z : ((s[i].toNat : Int) == 46) = false := byte_ne (c := s[i]) (d := 46) (by rw [h34]; decide)
  have h36z : ((s[i].toNat : Int) == 36) = false := byte_ne (c := s[i]) (d := 36) (by rw [h34]; decide)
  have h39z : ((s[i].toNat : Int) == 39) = false := byte_ne (c := s[i]) (d := 39) (by rw [h34]; decide)
  have h34z : ((s[i].toNat : Int) == 34) = true := byte_eq h34
  have hiz : (i : Int) < (s.size : Int) := by omega
  have HTok : Hid _ := ht
  clear h34 ht
  go_enter Tryf.func15, Tryf.ntmps15
  go_wp2_with fail
  refine cI.mono ?_
  rintro e w1 ⟨rfl, rfl⟩
  go_wp2_with fail
  refine cD.mono ?_
  rintro e w1 ⟨rfl, rfl⟩
  go_wp2_with fail
  refine cQ.mono ?_
  rintro e w1 ⟨hQ, hb⟩
  obtain ⟨hc, hf⟩ := bcell hb
  have hz : w.heap.size < w1.heap.size := by have := hb.size; simp at this; omega
  have hb' : Below w.heap.size w w1 := ((Below.refl _ _).alloc (Nat.le_refl _) _).trans (hb.mono (by simp))
  unfold QAns at hQ
  rw [quo_from 34 s i] at hQ
  clear cI cD cQ
  cases hq : Lx.quo 34 (s.data.toList.drop (i + 1)) with
  | none =>
    rw [hq] at hQ
    have hQ' : e = .returned (.tuple #[.string ⟨#[]⟩, .string ⟨#[]⟩, .bool false]) := hQ
    subst hQ'
    have HT : Hid (Lx.tok (s.data.toList.drop i) = none) := by show _ = _; rw [HTok.out, hq]
    have hF1 : F.answers w1.tape := by rw [hb'.tape]; exact hF
    have cA := at_one F i _ (s.extract i s.size) w1.heap.size (w1.alloc (.cells #[.iface 9 (.string (s.extract i s.size))] 20)) hF1 (by omega) fmtQid (by simp)
    clear hQ hq HTok hF1
    go_wp2_with fail
    refine cA.mono ?_
    rintro e w2 ⟨t, rfl, rfl⟩
    go_wp2
    refine bodyPost_ret (v := .tuple #[.agg #[.int .u8 0, .string ⟨#[]⟩, .string ⟨#[]⟩, .int .i64 0], .iface 39 (.pointer (some ⟨w1.heap.size + 1, 0, none⟩))]) (by simp [results, Tryf.results15, go_sem, hc, hz]) rfl ⟨tans_err HT.out (errAt_new (World.alloc _ _) _ t i (by omega) (by simp)), ?_⟩
    exact (((((((hb'.setCell (Nat.le_refl _) _).setCell (Nat.le_refl _) _).setCell (Nat.le_refl _) _).setCell (Nat.le_refl _) _).alloc (by simp; omega) _).alloc (by simp; omega) _)).drew
  | some x =>
    rw [hq] at hQ
    have hQ' : e = .returned (.tuple #[.string ⟨x.1.toArray⟩, .string ((s.extract i s.size).extract 0 (x.2 + 1)), .bool true]) := hQ
    have hle := (Lx.quo_le 34 _ x hq).2
    simp only [List.length_drop, Array.length_toList, ByteArray.size_data] at hle
    rw [raw_eq s i (x.2 + 1)] at hQ'
    subst hQ'
    cases hx : x.1.isEmpty with
    | true =>
      have HT : Hid (Lx.tok (s.data.toList.drop i) = none) := by show _ = _; rw [HTok.out, hq]; simp only; rw [hx]; rfl
      have hF1 : F.answers w1.tape := by rw [hb'.tape]; exact hF
      have cA := at_one F i _ (s.extract i (i + (x.2 + 1))) w1.heap.size (w1.alloc (.cells #[.iface 9 (.string (s.extract i (i + (x.2 + 1))))] 20)) hF1 (by omega) fmtZero (by simp)
      have hx0 : x.1 = [] := List.isEmpty_iff.1 hx
      rw [hx0]
      clear hQ hq HTok hle hF1 hx hx0
      go_wp2_with fail
      refine cA.mono ?_
      rintro e w2 ⟨t, rfl, rfl⟩
      go_wp2
      refine bodyPost_ret (v := .tuple #[.agg #[.int .u8 0, .string ⟨#[]⟩, .string ⟨#[]⟩, .int .i64 0], .iface 39 (.pointer (some ⟨w1.heap.size + 1, 0, none⟩))]) (by simp [results, Tryf.results15, go_sem, hc, hz]) rfl ⟨tans_err HT.out (errAt_new (World.alloc _ _) _ t i (by omega) (by simp)), ?_⟩
      exact (((((((hb'.setCell (Nat.le_refl _) _).setCell (Nat.le_refl _) _).setCell (Nat.le_refl _) _).setCell (Nat.le_refl _) _).alloc (by simp; omega) _).alloc (by simp; omega) _)).drew
    | false =>
      have HT : Hid (Lx.tok (s.data.toList.drop i) = some (2, x.1, x.2 + 1)) := by show _ = _; rw [HTok.out, hq]; simp only; rw [hx]; rfl
      clear hQ hq HTok hle
      go_wp2
      refine bodyPost_ret (v := .tuple #[.agg #[.int .u8 2, .string ⟨x.1.toArray⟩, .string (s.extract i (i + (x.2 + 1))), .int .i64 i], .nilIface]) (by simp [results, Tryf.results15, go_sem, hc]) rfl ⟨tans_ok HT.out, ?_⟩
      exact (((hb'.setCell (Nat.le_refl _) _).setCell (Nat.le_refl _) _).setCell (Nat.le_refl _) _).setCell (Nat.le_refl _) _
end Go.Proofs.Qxb6608672aFmt
