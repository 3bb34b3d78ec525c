/-
  Seat b6608672aF (tabulon). WALK: ZZlexNext.
-/
import Derived.Test.Qxb6608672aFmtWalkK
namespace Go.Proofs.Qxb6608672aFmt
open Go.RowKit Go.Extern.Stop Go.Stop Go.Extern Go.Lib

/-- What ZZlexNext hands out, of an answer 'A' of a lexer that began at 'i'. -/
def zzVals (A : Lx.Ans) (i : Nat) : Array Value :=
  #[.int .u8 (A.k : Int), .string ⟨A.t.toArray⟩, .string ⟨A.r.toArray⟩, .int .i64 ((i + A.o : Nat) : Int), .bool A.f, .int .i64 ((if A.f then i + A.e else 0 : Nat) : Int), .int .i64 ((i + A.n : Nat) : Int)]

theorem nxt_open {s : ByteArray} {i n : Nat} (h : skA s i = (false, n)) : Lx.nxt (s.data.toList.drop i) = ⟨8, [], [], 0, true, n - i + 1, 0⟩ ∧ i ≤ n := by
  unfold skA Lx.add at h
  simp only [Prod.mk.injEq] at h
  obtain ⟨h1, h2⟩ := h
  refine ⟨?_, by omega⟩
  unfold Lx.nxt
  rw [h1]
  simp only [Bool.false_eq_true, if_false]
  congr 1; omega
theorem nxt_eof {s : ByteArray} {i : Nat} (hi : i ≤ s.size) (h : skA s i = (true, s.size)) : Lx.nxt (s.data.toList.drop i) = ⟨0, [], [], s.size - i, false, 0, s.size - i⟩ := by
  unfold skA Lx.add at h
  simp only [Prod.mk.injEq] at h
  obtain ⟨h1, h2⟩ := h
  unfold Lx.nxt
  have hl : (s.data.toList.drop i).length = s.size - i := by simp
  rw [if_pos h1, hl, if_pos (by omega)]
theorem nxt_mid {s : ByteArray} {i n : Nat} (h : skA s i = (true, n)) (hn : n < s.size) : i ≤ n ∧ Lx.nxt (s.data.toList.drop i) = (match Lx.tok (s.data.toList.drop n) with
    | none => ⟨8, [], [], n - i, true, n - i + 1, 0⟩
    | some x => ⟨x.1, x.2.1, (s.data.toList.drop n).take x.2.2, n - i, false, 0, n - i + x.2.2⟩) := by
  unfold skA Lx.add at h
  simp only [Prod.mk.injEq] at h
  obtain ⟨h1, h2⟩ := h
  have hl : (s.data.toList.drop i).length = s.size - i := by simp
  have e : (Lx.skip (s.data.toList.drop i)).2 = n - i := by omega
  refine ⟨by omega, ?_⟩
  unfold Lx.nxt
  rw [if_pos h1, hl, if_neg (by omega), e, List.drop_drop, show i + (n - i) = n from by omega]
  cases Lx.tok (s.data.toList.drop n) <;> rfl
theorem skA_le (s : ByteArray) (i : Nat) (hi : i ≤ s.size) : (skA s i).2 ≤ s.size := by
  have := (Lx.skip_bound _ (s.data.toList.drop i) (Nat.le_refl _)).1
  unfold skA Lx.add
  simp at this ⊢
  omega

theorem assert39 (v : Value) (W : World) : (Instr.typeAssert (.iface 39 v) 36 39 true).run Tryf.prog W = .ok (.tuple #[v, .bool true]) W := by kernel_rfl
theorem assertNil (W : World) : (Instr.typeAssert .nilIface 36 39 true).run Tryf.prog W = .ok (.tuple #[.pointer none, .bool false]) W := by kernel_rfl
attribute [local go_sem] assert39 assertNil

set_option maxRecDepth 100000 in
set_option maxHeartbeats 2000000 in
theorem zz_err (s : ByteArray) (i n e : Nat) (w : World)
    (cN : Calls Tryf.prog 12 #[.pointer (some ⟨w.heap.size, 0, none⟩)] (w.alloc (.cells #[.string s, .int .i64 (i : Int)] 31)) fun en w' => ∃ a, en = .returned (.tuple #[.agg #[.int .u8 8, .string ⟨#[]⟩, .string ⟨#[]⟩, .int .i64 (n : Int)], .iface 39 (.pointer (some ⟨a, 0, none⟩))]) ∧ ErrAt (w.heap.size + 1) w' a e ∧ Below (w.heap.size + 1) (w.alloc (.cells #[.string s, .int .i64 (i : Int)] 31)) w') :
    Calls Tryf.prog 7 #[.string s, .int .i64 i] w fun en w' => en = .returned (.tuple #[.int .u8 8, .string ⟨#[]⟩, .string ⟨#[]⟩, .int .i64 (n : Int), .bool true, .int .i64 (e : Int), .int .i64 (i : Int)]) ∧ Below w.heap.size w w' := by
  go_enter Tryf.func7, Tryf.ntmps7
  go_wp2_with fail
  refine cN.mono ?_
  rintro en w1 ⟨a, rfl, hE, hb⟩
  obtain ⟨hc, hf⟩ := bcell (W := w.alloc (.cells #[.string s, .int .i64 (i : Int)] 31)) (by simpa using hb)
  have hz : w.heap.size < w1.heap.size := by have := hb.size; simp at this; omega
  have he5 := hE.2.2
  have hlt := ErrAt.lt hE
  have hbel : Below w.heap.size w w1 := ((Below.refl _ _).alloc (Nat.le_refl _) _).trans (hb.mono (by simp))
  clear cN hE
  go_wp2
  refine bodyPost_ret (v := .tuple #[.int .u8 8, .string ⟨#[]⟩, .string ⟨#[]⟩, .int .i64 (n : Int), .bool true, .int .i64 (e : Int), .int .i64 (i : Int)]) (by simp [results, Tryf.results7, go_sem]) rfl ⟨rfl, ?_⟩
  exact hbel.alloc hbel.size _

set_option maxRecDepth 100000 in
set_option maxHeartbeats 2000000 in
theorem zz_ok (s t r : ByteArray) (i n k p : Nat) (w : World)
    (cN : Calls Tryf.prog 12 #[.pointer (some ⟨w.heap.size, 0, none⟩)] (w.alloc (.cells #[.string s, .int .i64 (i : Int)] 31)) fun en w' => en = .returned (.tuple #[.agg #[.int .u8 (k : Int), .string t, .string r, .int .i64 (n : Int)], .nilIface]) ∧ Below (w.heap.size + 1) (w.alloc (.cells #[.string s, .int .i64 (p : Int)] 31)) w') :
    Calls Tryf.prog 7 #[.string s, .int .i64 i] w fun en w' => en = .returned (.tuple #[.int .u8 (k : Int), .string t, .string r, .int .i64 (n : Int), .bool false, .int .i64 0, .int .i64 (p : Int)]) ∧ Below w.heap.size w w' := by
  go_enter Tryf.func7, Tryf.ntmps7
  go_wp2_with fail
  refine cN.mono ?_
  rintro en w1 ⟨rfl, hb⟩
  obtain ⟨hc, hf⟩ := bcell (W := w.alloc (.cells #[.string s, .int .i64 (p : Int)] 31)) (by simpa using hb)
  have hz : w.heap.size < w1.heap.size := by have := hb.size; simp at this; omega
  have hbel : Below w.heap.size w w1 := ((Below.refl _ _).alloc (Nat.le_refl _) _).trans (hb.mono (by simp))
  clear cN
  go_wp2
  refine bodyPost_ret (v := .tuple #[.int .u8 (k : Int), .string t, .string r, .int .i64 (n : Int), .bool false, .int .i64 0, .int .i64 (p : Int)]) (by simp [results, Tryf.results7, go_sem]) rfl ⟨rfl, ?_⟩
  exact hbel.alloc hbel.size _

theorem below_boxed {w w' : World} {s : ByteArray} {i p : Int} (h : Below (w.alloc (.cells #[.string s, .int .i64 i] 31)).heap.size ((w.alloc (.cells #[.string s, .int .i64 i] 31)).setCell ⟨w.heap.size, 0 + 1, none⟩ (.int .i64 p)) w') :
    Below (w.heap.size + 1) (w.alloc (.cells #[.string s, .int .i64 p] 31)) w' := by
  have e : (w.alloc (.cells #[.string s, .int .i64 i] 31)).setCell ⟨w.heap.size, 0 + 1, none⟩ (.int .i64 p) = w.alloc (.cells #[.string s, .int .i64 p] 31) := by
    rw [World.setCell_alloc_at _ _ _ _ _ rfl]; rfl
  rw [e] at h
  simpa using h

theorem zzLexNext_any (F : Interp) (s : ByteArray) (i : Nat) (w : World) (hF : F.answers w.tape) (hV : CaseVar 3 caseA w) (hT : Utf8Tabs 0 1 w) (hs : s.size ≤ 1000000000) (hi : i ≤ s.size) :
    Calls Tryf.prog 7 #[.string s, .int .i64 i] w fun e w' => e = .returned (.tuple (zzVals (Lx.nxt (s.data.toList.drop i)) i)) ∧ Below w.heap.size w w' := by
  have hb0 : Below w.heap.size w (w.alloc (.cells #[.string s, .int .i64 (i : Int)] 31)) := (Below.refl _ _).alloc (Nat.le_refl _) _
  have hL : LexAt (w.alloc (.cells #[.string s, .int .i64 (i : Int)] 31)) w.heap.size 0 s i := ⟨by simp, by simp, by simp, by simp⟩
  have hF1 : F.answers (w.alloc (.cells #[.string s, .int .i64 (i : Int)] 31)).tape := hF
  have hV1 := CaseVar_below hV hb0
  have hT1 := Utf8Tabs_below hT hb0
  have hle := skA_le s i hi
  obtain ⟨x, hx⟩ : ∃ x, skA s i = x := ⟨_, rfl⟩
  obtain ⟨b, n⟩ := x
  rw [hx] at hle
  cases b with
  | false =>
    obtain ⟨e1, hin⟩ := nxt_open hx
    rw [e1]
    refine (zz_err s i i (n + 1) w ((next_open F s i n _ 0 _ hL hF1 hs hi hx).mono ?_)).mono ?_
    · rintro en w' ⟨a, he, hE, hb⟩
      exact ⟨a, he, by simpa using hE, by simpa using hb⟩
    · rintro en w' ⟨rfl, hb⟩
      refine ⟨?_, hb⟩
      simp only [zzVals, if_true]
      rw [show i + (n - i + 1) = n + 1 from by omega]
      rfl
  | true =>
    by_cases hn : n < s.size
    · obtain ⟨hin, e1⟩ := nxt_mid hx hn
      rw [e1]
      cases ht : Lx.tok (s.data.toList.drop n) with
      | none =>
        refine (zz_err s i n (n + 1) w ((next_bad F s i n _ 0 _ hL hF1 hV1 hT1 hs hi hx hn ht).mono ?_)).mono ?_
        · rintro en w' ⟨a, he, hE, hb⟩
          exact ⟨a, he, by simpa using hE, by simpa using hb⟩
        · rintro en w' ⟨rfl, hb⟩
          refine ⟨?_, hb⟩
          simp only [zzVals, if_true]
          rw [show i + (n - i + 1) = n + 1 from by omega, show i + (n - i) = n from by omega]
          rfl
      | some y =>
        have hy := (Lx.tok_alone _ y ht).2.2.2.1
        simp only [List.length_drop, Array.length_toList, ByteArray.size_data] at hy
        refine (zz_ok s ⟨y.2.1.toArray⟩ (s.extract n (n + y.2.2)) i n y.1 (n + y.2.2) w ((next_tok F s i n _ 0 y _ hL hF1 hV1 hT1 hs hi hx hn ht (by omega)).mono ?_)).mono ?_
        · rintro en w' ⟨he, hb⟩
          exact ⟨he, below_boxed hb⟩
        · rintro en w' ⟨rfl, hb⟩
          refine ⟨?_, hb⟩
          simp only [zzVals, Bool.false_eq_true, if_false]
          rw [show i + (n - i) = n from by omega, show i + (n - i + y.2.2) = n + y.2.2 from by omega, text_eq]
          rfl
    · obtain rfl : n = s.size := by simp only at hle; omega
      rw [nxt_eof hi hx]
      refine (zz_ok s ⟨#[]⟩ ⟨#[]⟩ i s.size 0 s.size w ((next_eof F s i _ 0 _ hL hF1 hs hi hx).mono ?_)).mono ?_
      · rintro en w' ⟨he, hb⟩
        exact ⟨he, below_boxed hb⟩
      · rintro en w' ⟨rfl, hb⟩
        refine ⟨?_, hb⟩
        simp only [zzVals, Bool.false_eq_true, if_false]
        rw [show i + (s.size - i) = s.size from by omega]
        rfl
end Go.Proofs.Qxb6608672aFmt
