/-
  Seat b6608672aF (tabulon). WALK: (*lexer).next, in its four ways.
-/
import Derived.Test.Qxb6608672aFmtWalkJ
import Derived.Deep.DeepCutAuto
namespace Go.Proofs.Qxb6608672aFmt
open Go.RowKit Go.Extern.Stop Go.Stop Go.Extern Go.Lib

theorem lexToken_any (F : Interp) (s : ByteArray) (i : Nat) (w : World) (hF : F.answers w.tape) (hV : CaseVar 3 caseA w) (hT : Utf8Tabs 0 1 w) (hs : s.size ≤ 1000000000) (hi : i < s.size) :
    Calls Tryf.prog 15 #[.string s, .int .i64 i] w fun e w' => TAns s i w.heap.size e w' ∧ Below w.heap.size w w' := by
  cases hid : Lx.idS s[i] with
  | true => exact lexToken_ident s i w hV hT hs hi hid
  | false =>
    cases hn : (Lx.dig s[i] || (s[i] == 46 && Lx.isAt Lx.dig s.data.toList (i + 1))) with
    | true => exact lexToken_num F s i w hF hs hi hid hn
    | false =>
      cases hp : (s[i] == 36 && Lx.isAt Lx.dig s.data.toList (i + 1)) with
      | true =>
        simp only [Bool.and_eq_true, beq_iff_eq] at hp
        exact lexToken_par s i w hs hi hid hp.1 hp.2
      | false =>
        by_cases h39 : s[i] = 39
        · exact lexToken_str F s i w hF hs hi h39
        · by_cases h34 : s[i] = 34
          · exact lexToken_qid F s i w hF hs hi h34
          · exact lexToken_ops F s i w hF hT hs hi hid hn hp h39 h34

theorem skipSpace_ok (F : Interp) (s : ByteArray) (i n : Nat) (w : World) (hF : F.answers w.tape) (hs : s.size ≤ 1000000000) (hi : i ≤ s.size) (h : skA s i = (true, n)) :
    Calls Tryf.prog 14 #[.string s, .int .i64 i] w fun e w' => e = .returned (.tuple #[.int .i64 (n : Int), .nilIface]) ∧ Below w.heap.size w w' :=
  (skipSpace_any F s i w hF hs hi).mono fun e w' ⟨hA, hb⟩ => by
    rcases hA with ⟨_, he⟩ | ⟨hf, _⟩
    · rw [h] at he; exact ⟨he, hb⟩
    · rw [h] at hf; cases hf
theorem skipSpace_err (F : Interp) (s : ByteArray) (i n : Nat) (w : World) (hF : F.answers w.tape) (hs : s.size ≤ 1000000000) (hi : i ≤ s.size) (h : skA s i = (false, n)) :
    Calls Tryf.prog 14 #[.string s, .int .i64 i] w fun e w' => ∃ a, e = .returned (.tuple #[.int .i64 0, .iface 39 (.pointer (some ⟨a, 0, none⟩))]) ∧ ErrAt w.heap.size w' a (n + 1) ∧ Below w.heap.size w w' :=
  (skipSpace_any F s i w hF hs hi).mono fun e w' ⟨hA, hb⟩ => by
    rcases hA with ⟨hf, _⟩ | ⟨_, a, he, hE⟩
    · rw [h] at hf; cases hf
    · rw [h] at hE; exact ⟨a, he, hE, hb⟩
theorem lexToken_ok (F : Interp) (s : ByteArray) (i : Nat) (x : Nat × List UInt8 × Nat) (w : World) (hF : F.answers w.tape) (hV : CaseVar 3 caseA w) (hT : Utf8Tabs 0 1 w) (hs : s.size ≤ 1000000000) (hi : i < s.size) (h : Lx.tok (s.data.toList.drop i) = some x) :
    Calls Tryf.prog 15 #[.string s, .int .i64 i] w fun e w' => e = .returned (.tuple #[.agg #[.int .u8 (x.1 : Int), .string ⟨x.2.1.toArray⟩, .string (s.extract i (i + x.2.2)), .int .i64 i], .nilIface]) ∧ Below w.heap.size w w' :=
  (lexToken_any F s i w hF hV hT hs hi).mono fun e w' ⟨hA, hb⟩ => by
    unfold TAns at hA; rw [h] at hA; exact ⟨hA, hb⟩
theorem lexToken_bad (F : Interp) (s : ByteArray) (i : Nat) (w : World) (hF : F.answers w.tape) (hV : CaseVar 3 caseA w) (hT : Utf8Tabs 0 1 w) (hs : s.size ≤ 1000000000) (hi : i < s.size) (h : Lx.tok (s.data.toList.drop i) = none) :
    Calls Tryf.prog 15 #[.string s, .int .i64 i] w fun e w' => ∃ a, e = .returned (.tuple #[.agg #[.int .u8 0, .string ⟨#[]⟩, .string ⟨#[]⟩, .int .i64 0], .iface 39 (.pointer (some ⟨a, 0, none⟩))]) ∧ ErrAt w.heap.size w' a (i + 1) ∧ Below w.heap.size w w' :=
  (lexToken_any F s i w hF hV hT hs hi).mono fun e w' ⟨hA, hb⟩ => by
    unfold TAns at hA; rw [h] at hA; obtain ⟨a, he, hE⟩ := hA; exact ⟨a, he, hE, hb⟩

/-- A lexer lies at ⟨L, o⟩, over 's', standing at 'i'. -/
structure LexAt (w : World) (L o : Nat) (s : ByteArray) (i : Nat) : Prop where
  lt : L < w.heap.size
  q : w.cell? ⟨L, o, none⟩ = some (.string s)
  p : w.cell? ⟨L, o + 1, none⟩ = some (.int .i64 (i : Int))
  fr : w.frozen? ⟨L, o + 1, none⟩ = false

theorem below_set_both {B : Nat} {w w1 : World} (h : Below B w w1) (a : Addr) (v : Value) : Below B (w.setCell a v) (w1.setCell a v) := by
  refine ⟨h.os, h.tape, h.output, by simpa using h.size, fun k hk => ?_⟩
  have := h.block k hk
  simp only [World.setCell, Array.getElem?_modify]
  rw [this]
theorem ErrAt.set4 {B : Nat} {w : World} {a p b : Nat} (h : ErrAt B w a p) (hb : b < B) (v0 v1 v2 v3 : Value) : ErrAt B ((((w.setCell ⟨b, 0, none⟩ v0).setCell ⟨b, 1, none⟩ v1).setCell ⟨b, 2, none⟩ v2).setCell ⟨b, 3, none⟩ v3) a p :=
  ErrAt.set (ErrAt.set (ErrAt.set (ErrAt.set h hb v0) hb v1) hb v2) hb v3

theorem ErrAt.lt {B : Nat} {w : World} {a p : Nat} (h : ErrAt B w a p) : a < w.heap.size := by
  rcases Nat.lt_or_ge a w.heap.size with h' | h'
  · exact h'
  · have := h.2.1
    simp [World.cell?, Array.getElem?_eq_none h'] at this
theorem ErrAt.alloc {B : Nat} {w : World} {a p : Nat} (h : ErrAt B w a p) (o : Obj) : ErrAt B (w.alloc o) a p := by
  have hlt := ErrAt.lt h
  refine ⟨h.1, ?_, ?_⟩
  · rw [World.cell?_of_block (w := w) (Below.heap_alloc w o a hlt)]; exact h.2.1
  · rw [World.cell?_of_block (w := w) (Below.heap_alloc w o a hlt)]; exact h.2.2

set_option maxRecDepth 100000 in
set_option maxHeartbeats 2000000 in
theorem next_open (F : Interp) (s : ByteArray) (i n L o : Nat) (w : World) (hL : LexAt w L o s i) (hF : F.answers w.tape) (hs : s.size ≤ 1000000000) (hi : i ≤ s.size) (h : skA s i = (false, n)) :
    Calls Tryf.prog 12 #[.pointer (some ⟨L, o, none⟩)] w fun e w' => ∃ a, e = .returned (.tuple #[.agg #[.int .u8 8, .string ⟨#[]⟩, .string ⟨#[]⟩, .int .i64 i], .iface 39 (.pointer (some ⟨a, 0, none⟩))]) ∧ ErrAt w.heap.size w' a (n + 1) ∧ Below w.heap.size w w' := by
  have hq := hL.q
  have hp := hL.p
  have hlt := hL.lt
  have cS := skipSpace_err F s i n (w.alloc (.cells #[.int .u8 0, .string ⟨#[]⟩, .string ⟨#[]⟩, .int .i64 0] 34)).drew hF hs hi h
  have hlt1 : L < w.heap.size + 1 := by omega
  clear h hL
  go_enter Tryf.func12, Tryf.ntmps12
  go_wp2_with fail
  go_region_with (go_at_call 14; refine cS.mono ?_; rintro e w1 ⟨a, rfl, hE, hb⟩; obtain ⟨hc, hf⟩ := bcell hb; have hz : w.heap.size < w1.heap.size := (by have := hb.size; simp at this; omega))
  all_goals
    go_wp2
    refine bodyPost_ret (v := .tuple #[.agg #[.int .u8 8, .string ⟨#[]⟩, .string ⟨#[]⟩, .int .i64 i], .iface 39 (.pointer (some ⟨a, 0, none⟩))]) (by simp [results, Tryf.results12, go_sem, hc]) rfl ⟨a, rfl, ErrAt.weak (ErrAt.set4 hE (by simp) _ _ _ _) (by simp), ?_⟩
    exact (((((((Below.refl _ _).alloc (Nat.le_refl _) _).drew.trans (hb.mono (by simp))).setCell (Nat.le_refl _) _).setCell (Nat.le_refl _) _).setCell (Nat.le_refl _) _).setCell (Nat.le_refl _) _)

set_option maxRecDepth 100000 in
set_option maxHeartbeats 2000000 in
theorem next_eof (F : Interp) (s : ByteArray) (i L o : Nat) (w : World) (hL : LexAt w L o s i) (hF : F.answers w.tape) (hs : s.size ≤ 1000000000) (hi : i ≤ s.size) (h : skA s i = (true, s.size)) :
    Calls Tryf.prog 12 #[.pointer (some ⟨L, o, none⟩)] w fun e w' => e = .returned (.tuple #[.agg #[.int .u8 0, .string ⟨#[]⟩, .string ⟨#[]⟩, .int .i64 s.size], .nilIface]) ∧ Below w.heap.size (w.setCell ⟨L, o + 1, none⟩ (.int .i64 s.size)) w' := by
  have hq := hL.q
  have hp := hL.p
  have hlt := hL.lt
  have hfz := hL.fr
  have cS := skipSpace_ok F s i s.size (w.alloc (.cells #[.int .u8 0, .string ⟨#[]⟩, .string ⟨#[]⟩, .int .i64 0] 34)).drew hF hs hi h
  have hlt1 : L < w.heap.size + 1 := by omega
  have hne : ¬ L = w.heap.size := by omega
  clear h hL
  go_enter Tryf.func12, Tryf.ntmps12
  go_upto_region 1 with fail
  go_cut [4, 5] (fun s4 s5 wx => s4 = .int .i64 s.size ∧ s5 = .nilIface ∧ Below (w.heap.size + 1) (w.alloc (.cells #[.int .u8 0, .string ⟨#[]⟩, .string ⟨#[]⟩, .int .i64 0] 34)).drew wx)
  case first =>
    go_region_with (go_at_call 14; refine cS.mono ?_; rintro e w1 ⟨rfl, hb⟩)
    all_goals (go_wp2_with fail; go_meet; exact ⟨rfl, rfl, by simpa using hb⟩)
  case rest =>
  obtain ⟨rfl, rfl, hb⟩ := hcut
  obtain ⟨hc, hf⟩ := bcell (W := (w.alloc (.cells #[.int .u8 0, .string ⟨#[]⟩, .string ⟨#[]⟩, .int .i64 0] 34)).drew) (by simpa using hb)
  have hz : w.heap.size < wc.heap.size := by have := hb.size; simp at this; omega
  have hzL : L < wc.heap.size := by omega
  have hbel : Below w.heap.size w wc := ((Below.refl _ _).alloc (Nat.le_refl _) _).drew.trans (hb.mono (by simp))
  clear cS
  go_wp2
  refine bodyPost_ret (v := .tuple #[.agg #[.int .u8 0, .string ⟨#[]⟩, .string ⟨#[]⟩, .int .i64 s.size], .nilIface]) (by simp [results, Tryf.results12, go_sem, hc]) rfl ⟨rfl, ?_⟩
  exact ((((below_set_both hbel _ _).setCell (Nat.le_refl _) _).setCell (Nat.le_refl _) _).setCell (Nat.le_refl _) _).setCell (Nat.le_refl _) _

set_option maxRecDepth 100000 in
set_option maxHeartbeats 2000000 in
theorem next_bad (F : Interp) (s : ByteArray) (i n L o : Nat) (w : World) (hL : LexAt w L o s i) (hF : F.answers w.tape) (hV : CaseVar 3 caseA w) (hT : Utf8Tabs 0 1 w) (hs : s.size ≤ 1000000000) (hi : i ≤ s.size) (h : skA s i = (true, n)) (hn : n < s.size)
    (ht : Lx.tok (s.data.toList.drop n) = none) :
    Calls Tryf.prog 12 #[.pointer (some ⟨L, o, none⟩)] w fun e w' => ∃ a, e = .returned (.tuple #[.agg #[.int .u8 8, .string ⟨#[]⟩, .string ⟨#[]⟩, .int .i64 n], .iface 39 (.pointer (some ⟨a, 0, none⟩))]) ∧ ErrAt w.heap.size w' a (n + 1) ∧ Below w.heap.size w w' := by
  have hq := hL.q
  have hp := hL.p
  have hlt := hL.lt
  have cS := skipSpace_ok F s i n (w.alloc (.cells #[.int .u8 0, .string ⟨#[]⟩, .string ⟨#[]⟩, .int .i64 0] 34)).drew hF hs hi h
  have hlt1 : L < w.heap.size + 1 := by omega
  have hnz : ((n : Int) == (s.size : Int)) = false := by simp; omega
  have HV : Hid (CaseVar 3 caseA w) := hV
  have HT : Hid (Utf8Tabs 0 1 w) := hT
  have HTok : Hid (Lx.tok (s.data.toList.drop n) = none) := ht
  clear h hL hV hT ht
  go_enter Tryf.func12, Tryf.ntmps12
  go_upto_region 1 with fail
  go_cut [4, 5] (fun s4 s5 wx => s4 = .int .i64 n ∧ s5 = .nilIface ∧ Below (w.heap.size + 1) (w.alloc (.cells #[.int .u8 0, .string ⟨#[]⟩, .string ⟨#[]⟩, .int .i64 0] 34)).drew wx)
  case first =>
    clear hnz
    go_region_with (go_at_call 14; refine cS.mono ?_; rintro e w1 ⟨rfl, hb⟩)
    all_goals (go_wp2_with fail; go_meet; exact ⟨rfl, rfl, by simpa using hb⟩)
  case rest =>
  obtain ⟨rfl, rfl, hb⟩ := hcut
  obtain ⟨hc, hf⟩ := bcell (W := (w.alloc (.cells #[.int .u8 0, .string ⟨#[]⟩, .string ⟨#[]⟩, .int .i64 0] 34)).drew) (by simpa using hb)
  have hz : w.heap.size < wc.heap.size := by have := hb.size; simp at this; omega
  have hbel : Below w.heap.size w wc := ((Below.refl _ _).alloc (Nat.le_refl _) _).drew.trans (hb.mono (by simp))
  have cT := lexToken_bad F s n wc (by rw [hbel.tape]; exact hF) (CaseVar_below HV.out hbel) (Utf8Tabs_below HT.out hbel) hs hn HTok.out
  clear cS
  go_wp2_with fail
  refine cT.mono ?_
  rintro e w2 ⟨a, rfl, hE, hb2⟩
  obtain ⟨hc2, hf2⟩ := bcell hb2
  have hz2 : w.heap.size < w2.heap.size := by have := hb2.size; omega
  have hbel2 : Below w.heap.size w w2 := hbel.trans (hb2.mono (by omega))
  have hzc := hb2.size
  clear cT
  go_wp2
  refine bodyPost_ret (v := .tuple #[.agg #[.int .u8 8, .string ⟨#[]⟩, .string ⟨#[]⟩, .int .i64 n], .iface 39 (.pointer (some ⟨a, 0, none⟩))]) (by simp [results, Tryf.results12, go_sem, hc2, hc, hz, hz2]) rfl ⟨a, rfl, ErrAt.weak (ErrAt.alloc (ErrAt.set4 hE hz _ _ _ _) _) (by omega), ?_⟩
  exact ((((hbel2.setCell (Nat.le_refl _) _).setCell (Nat.le_refl _) _).setCell (Nat.le_refl _) _).setCell (Nat.le_refl _) _).alloc (by simp; omega) _

set_option maxRecDepth 100000 in
set_option maxHeartbeats 2000000 in
theorem next_tok (F : Interp) (s : ByteArray) (i n L o : Nat) (x : Nat × List UInt8 × Nat) (w : World) (hL : LexAt w L o s i) (hF : F.answers w.tape) (hV : CaseVar 3 caseA w) (hT : Utf8Tabs 0 1 w) (hs : s.size ≤ 1000000000) (hi : i ≤ s.size) (h : skA s i = (true, n)) (hn : n < s.size)
    (ht : Lx.tok (s.data.toList.drop n) = some x) (hx : n + x.2.2 ≤ s.size) :
    Calls Tryf.prog 12 #[.pointer (some ⟨L, o, none⟩)] w fun e w' => e = .returned (.tuple #[.agg #[.int .u8 (x.1 : Int), .string ⟨x.2.1.toArray⟩, .string (s.extract n (n + x.2.2)), .int .i64 n], .nilIface]) ∧ Below w.heap.size (w.setCell ⟨L, o + 1, none⟩ (.int .i64 ((n + x.2.2 : Nat) : Int))) w' := by
  have hq := hL.q
  have hp := hL.p
  have hlt := hL.lt
  have hfz := hL.fr
  have cS := skipSpace_ok F s i n (w.alloc (.cells #[.int .u8 0, .string ⟨#[]⟩, .string ⟨#[]⟩, .int .i64 0] 34)).drew hF hs hi h
  have hlt1 : L < w.heap.size + 1 := by omega
  have hne : ¬ L = w.heap.size := by omega
  have hnz : ((n : Int) == (s.size : Int)) = false := by simp; omega
  have HV : Hid (CaseVar 3 caseA w) := hV
  have HT : Hid (Utf8Tabs 0 1 w) := hT
  have HTok : Hid (Lx.tok (s.data.toList.drop n) = some x) := ht
  have hrs : (s.extract n (n + x.2.2)).size = x.2.2 := by simp; omega
  obtain ⟨r, hr⟩ : ∃ r, s.extract n (n + x.2.2) = r := ⟨_, rfl⟩
  rw [hr] at hrs
  have HR : Hid (s.extract n (n + x.2.2) = r) := hr
  clear h hL hV hT ht hr
  go_enter Tryf.func12, Tryf.ntmps12
  go_upto_region 1 with fail
  go_cut [4, 5] (fun s4 s5 wx => s4 = .int .i64 n ∧ s5 = .nilIface ∧ Below (w.heap.size + 1) (w.alloc (.cells #[.int .u8 0, .string ⟨#[]⟩, .string ⟨#[]⟩, .int .i64 0] 34)).drew wx)
  case first =>
    clear hnz
    go_region_with (go_at_call 14; refine cS.mono ?_; rintro e w1 ⟨rfl, hb⟩)
    all_goals (go_wp2_with fail; go_meet; exact ⟨rfl, rfl, by simpa using hb⟩)
  case rest =>
  obtain ⟨rfl, rfl, hb⟩ := hcut
  obtain ⟨hc, hf⟩ := bcell (W := (w.alloc (.cells #[.int .u8 0, .string ⟨#[]⟩, .string ⟨#[]⟩, .int .i64 0] 34)).drew) (by simpa using hb)
  have hz : w.heap.size < wc.heap.size := by have := hb.size; simp at this; omega
  have hzL : L < wc.heap.size := by omega
  have hbel : Below w.heap.size w wc := ((Below.refl _ _).alloc (Nat.le_refl _) _).drew.trans (hb.mono (by simp))
  have cT := lexToken_ok F s n x wc (by rw [hbel.tape]; exact hF) (CaseVar_below HV.out hbel) (Utf8Tabs_below HT.out hbel) hs hn HTok.out
  rw [HR.out] at cT
  clear cS
  go_wp2_with fail
  refine cT.mono ?_
  rintro e w2 ⟨rfl, hb2⟩
  obtain ⟨hc2, hf2⟩ := bcell hb2
  have hz2 : w.heap.size < w2.heap.size := by have := hb2.size; omega
  have hbel2 : Below w.heap.size w w2 := hbel.trans (hb2.mono (by omega))
  have hzc := hb2.size
  have hzL2 : L < w2.heap.size := by omega
  have hneL : ¬ L = w2.heap.size := by omega
  have hneR : ¬ w.heap.size = w2.heap.size := by omega
  clear cT
  go_wp2
  refine bodyPost_ret (v := .tuple #[.agg #[.int .u8 (x.1 : Int), .string ⟨x.2.1.toArray⟩, .string r, .int .i64 n], .nilIface]) (by simp [results, Tryf.results12, go_sem, hc2, hc, hz, hz2]) rfl ⟨by rw [HR.out], ?_⟩
  rw [show ((n + x.2.2 : Nat) : Int) = (n : Int) + (x.2.2 : Int) from by omega]
  exact (((((below_set_both hbel2 _ _).setCell (Nat.le_refl _) _).setCell (Nat.le_refl _) _).setCell (Nat.le_refl _) _).setCell (Nat.le_refl _) _).alloc (by simp; omega) _
end Go.Proofs.Qxb6608672aFmt
