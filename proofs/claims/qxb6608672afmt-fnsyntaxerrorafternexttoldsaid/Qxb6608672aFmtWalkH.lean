/-
  Seat b6608672aF (tabulon). WALKS: lexToken at a number, a parameter.
-/
import Derived.Test.Qxb6608672aFmtWalkG
namespace Go.Proofs.Qxb6608672aFmt
open Go.RowKit Go.Extern.Stop Go.Stop Go.Extern Go.Lib

theorem tok_num {s : ByteArray} {i : Nat} (hi : i < s.size) (hid : Lx.idS s[i] = false) (hn : (Lx.dig s[i] || (s[i] == 46 && Lx.isAt Lx.dig s.data.toList (i + 1))) = true) :
    Lx.tok (s.data.toList.drop i) = (Lx.num (s.data.toList.drop i)).map fun x => (if x.2 then 4 else 3, (s.data.toList.drop i).take x.1, x.1) := by
  rw [drop_at s i hi, Lx.tok, if_neg (by simp [hid]), if_pos]
  rw [isAt_drop]
  exact hn
theorem tok_par {s : ByteArray} {i : Nat} (hi : i < s.size) (hid : Lx.idS s[i] = false) (h36 : s[i] = 36) (hn : Lx.isAt Lx.dig s.data.toList (i + 1) = true) :
    Lx.tok (s.data.toList.drop i) = some (6, (s.data.toList.drop (i + 1)).take (Lx.run Lx.dig (s.data.toList.drop (i + 1))), Lx.run Lx.dig (s.data.toList.drop (i + 1)) + 1) := by
  rw [drop_at s i hi, Lx.tok, if_neg (by simp [hid]), if_neg, if_pos]
  · rw [h36, isAt_drop]; simpa using hn
  · rw [h36]; simp [Lx.dig]

theorem fromNum {s : ByteArray} {i B : Nat} {e : Ending} {w' : World} (h : NAns s i B e w') (ht : Lx.tok (s.data.toList.drop i) = (Lx.num (s.data.toList.drop i)).map fun x => (if x.2 then 4 else 3, (s.data.toList.drop i).take x.1, x.1)) :
    (∃ a, e = .returned (.tuple #[.agg #[.int .u8 0, .string ⟨#[]⟩, .string ⟨#[]⟩, .int .i64 0], .iface 39 (.pointer (some ⟨a, 0, none⟩))]) ∧ ErrAt B w' a (i + 1) ∧ Lx.tok (s.data.toList.drop i) = none) ∨
    (∃ (kd m : Nat), e = .returned (.tuple #[.agg #[.int .u8 kd, .string (s.extract i (i + m)), .string (s.extract i (i + m)), .int .i64 i], .nilIface]) ∧ Lx.tok (s.data.toList.drop i) = some (kd, (s.data.toList.drop i).take m, m)) := by
  unfold NAns at h
  cases hn : Lx.num (s.data.toList.drop i) with
  | none =>
    rw [hn] at h ht
    obtain ⟨a, he, hE⟩ := h
    exact Or.inl ⟨a, he, hE, ht⟩
  | some x =>
    rw [hn] at h ht
    refine Or.inr ⟨if x.2 then 4 else 3, x.1, ?_, ht⟩
    rw [h]
    cases x.2 <;> rfl
theorem text_eq (s : ByteArray) (i m : Nat) : (⟨((s.data.toList.drop i).take m).toArray⟩ : ByteArray) = s.extract i (i + m) := by
  have := extract_mid s i (i + m)
  rw [show i + m - i = m from by omega] at this
  rw [← this]

theorem tans_num {s : ByteArray} {i m B : Nat} {k : Nat} {w' : World} (h : Lx.tok (s.data.toList.drop i) = some (k, (s.data.toList.drop i).take m, m)) :
    TAns s i B (.returned (.tuple #[.agg #[.int .u8 (k : Int), .string (s.extract i (i + m)), .string (s.extract i (i + m)), .int .i64 i], .nilIface])) w' := by
  have := tans_ok (B := B) (w' := w') h
  rwa [text_eq] at this
theorem ErrAt.set {B : Nat} {w : World} {a p : Nat} (h : ErrAt B w a p) {b o : Nat} (hb : b < B) (v : Value) : ErrAt B (w.setCell ⟨b, o, none⟩ v) a p := by
  have hne : a ≠ b := by have := h.1; omega
  refine ⟨h.1, ?_, ?_⟩
  · rw [World.cell?_of_block (w := w) (Below.heap_setCell w _ _ a (by simpa using hne))]; exact h.2.1
  · rw [World.cell?_of_block (w := w) (Below.heap_setCell w _ _ a (by simpa using hne))]; exact h.2.2
theorem ErrAt.weak {B B' : Nat} {w : World} {a p : Nat} (h : ErrAt B w a p) (hB : B' ≤ B) : ErrAt B' w a p := ⟨Nat.le_trans hB h.1, h.2⟩

set_option maxRecDepth 100000 in
set_option maxHeartbeats 4000000 in
theorem lexToken_num (F : Interp) (s : ByteArray) (i : Nat) (w : World) (hF : F.answers w.tape) (hs : s.size ≤ 1000000000) (hi : i < s.size) (hid : Lx.idS s[i] = false)
    (hn : (Lx.dig s[i] || (s[i] == 46 && Lx.isAt Lx.dig s.data.toList (i + 1))) = true) :
    Calls Tryf.prog 15 #[.string s, .int .i64 i] w fun e w' => TAns s i w.heap.size e w' ∧ Below w.heap.size w w' := by
  have HTok : Hid (Lx.tok (s.data.toList.drop i) = (Lx.num (s.data.toList.drop i)).map fun x => (if x.2 then 4 else 3, (s.data.toList.drop i).take x.1, x.1)) := tok_num hi hid hn
  have cI := isIdentStart_any s[i] (w.alloc (.cells #[.int .u8 0, .string ⟨#[]⟩, .string ⟨#[]⟩, .int .i64 0] 34))
  rw [hid] at cI
  have cD := isDigit_any s[i] (w.alloc (.cells #[.int .u8 0, .string ⟨#[]⟩, .string ⟨#[]⟩, .int .i64 0] 34))
  have cN := lexNumber_any F s i (w.alloc (.cells #[.int .u8 0, .string ⟨#[]⟩, .string ⟨#[]⟩, .int .i64 0] 34)) hF hs hi
  have hiz : (i : Int) < (s.size : Int) := by omega
  go_enter Tryf.func15, Tryf.ntmps15
  go_wp2_with fail
  refine cI.mono ?_
  rintro e w1 ⟨rfl, rfl⟩
  clear cI
  go_upto_region 7 with fail
  go_cut [62] (fun s62 wx => s62 = .bool true ∧ wx = w.alloc (.cells #[.int .u8 0, .string ⟨#[]⟩, .string ⟨#[]⟩, .int .i64 0] 34))
  case first =>
    cases hd : Lx.dig s[i] with
    | true =>
      rw [hd] at cD
      clear hd hn hid cN
      go_wp2_with fail
      refine cD.mono ?_
      rintro e w1 ⟨rfl, rfl⟩
      go_wp2_with fail
      go_meet
      exact ⟨rfl, rfl⟩
    | false =>
      rw [hd] at cD hn
      simp only [Bool.false_or, Bool.and_eq_true, beq_iff_eq] at hn
      have h46 : ((s[i].toNat : Int) == 46) = true := byte_eq hn.1
      have hlt : i + 1 < s.size := by simpa using Lx.isAt_lt hn.2
      have hltz : (i : Int) + 1 < (s.size : Int) := by omega
      have cD2 := isDigit_any s[i + 1] (w.alloc (.cells #[.int .u8 0, .string ⟨#[]⟩, .string ⟨#[]⟩, .int .i64 0] 34))
      rw [show Lx.dig s[i + 1] = true from by rw [← isAt_in Lx.dig s (i + 1) hlt]; exact hn.2] at cD2
      clear hd hn hid cN
      go_wp2_with fail
      refine cD.mono ?_
      rintro e w1 ⟨rfl, rfl⟩
      go_wp2_with fail
      refine cD2.mono ?_
      rintro e w1 ⟨rfl, rfl⟩
      go_wp2_with fail
      go_meet
      exact ⟨rfl, rfl⟩
  case rest =>
  obtain ⟨rfl, rfl⟩ := hcut
  clear hn hid cD
  go_wp2_with fail
  refine cN.mono ?_
  rintro e w1 ⟨hN, hb⟩
  obtain ⟨hc, hf⟩ := bcell hb
  have hz : w.heap.size < w1.heap.size := by have := hb.size; simp at this; omega
  rcases fromNum hN HTok.out with ⟨a, rfl, hE, ht⟩ | ⟨kd, m, rfl, ht⟩
  · have HT : Hid _ := ht
    have HE : Hid _ := hE
    clear ht hE hN HTok cN
    go_wp2
    refine bodyPost_ret (v := .tuple #[.agg #[.int .u8 0, .string ⟨#[]⟩, .string ⟨#[]⟩, .int .i64 0], .iface 39 (.pointer (some ⟨a, 0, none⟩))]) (by simp [results, Tryf.results15, go_sem, hc]) rfl ⟨tans_err HT.out ?_, ?_⟩
    · have hlt : w.heap.size < (w.alloc (.cells #[.int .u8 0, .string ⟨#[]⟩, .string ⟨#[]⟩, .int .i64 0] 34)).heap.size := by simp
      exact ErrAt.weak (ErrAt.set (ErrAt.set (ErrAt.set (ErrAt.set HE.out hlt _) hlt _) hlt _) hlt _) (Nat.le_of_lt hlt)
    · exact (((((Below.refl _ _).alloc (Nat.le_refl _) _).trans (hb.mono (by simp))).setCell (Nat.le_refl _) _).setCell (Nat.le_refl _) _).setCell (Nat.le_refl _) _ |>.setCell (Nat.le_refl _) _
  · have HT : Hid _ := ht
    clear ht hN HTok cN
    go_wp2
    refine bodyPost_ret (v := .tuple #[.agg #[.int .u8 kd, .string (s.extract i (i + m)), .string (s.extract i (i + m)), .int .i64 i], .nilIface]) (by simp [results, Tryf.results15, go_sem, hc]) rfl ⟨tans_num HT.out, ?_⟩
    · exact (((((Below.refl _ _).alloc (Nat.le_refl _) _).trans (hb.mono (by simp))).setCell (Nat.le_refl _) _).setCell (Nat.le_refl _) _).setCell (Nat.le_refl _) _ |>.setCell (Nat.le_refl _) _
end Go.Proofs.Qxb6608672aFmt
