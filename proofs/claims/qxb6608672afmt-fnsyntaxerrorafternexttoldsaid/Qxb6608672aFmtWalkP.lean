/-
  Seat b6608672aF (tabulon). WALKS: ZZsyntaxErrorAfterNext, FnSyntaxErrorAfterNext.
-/
import Derived.Test.Qxb6608672aFmtWalkO
import Derived.LaidEqlPtr
namespace Go.Proofs.Qxb6608672aFmt
open Go.RowKit Go.Extern.Stop Go.Stop Go.Extern Go.Lib
theorem info43 : (Tryf.prog.info? 43).isSome = true := by kernel_rfl
theorem eql39 (a : Addr) (w : World) : (binOp .eql 39 (.pointer (some a)) (.pointer (some a))).run Tryf.prog w = .ok (.bool true) w := by
  obtain ⟨j, hj⟩ := Option.isSome_iff_exists.1 info43
  exact run_eql_ptr_same w a Tryf.underlying39 hj
attribute [local go_sem] assert39 assertNil eql39

/-- The world in which syntaxError is called: the token and the lexer's error laid into the parser, a copy of the token behind. -/
def synW (w1 : World) (P : Nat) (k : Int) (t r : ByteArray) (n : Nat) (err : Value) : World :=
  (((((w1.setCell ⟨P, 2, none⟩ (.int .u8 k)).setCell ⟨P, 3, none⟩ (.string t)).setCell ⟨P, 4, none⟩ (.string r)).setCell ⟨P, 5, none⟩ (.int .i64 (n : Int))).setCell ⟨P, 6, none⟩ err).alloc (.cells #[.int .u8 k, .string t, .string r, .int .i64 (n : Int)] 34)
theorem synW_size (w1 : World) (P : Nat) (k : Int) (t r : ByteArray) (n : Nat) (err : Value) : (synW w1 P k t r n err).heap.size = w1.heap.size + 1 := by unfold synW; simp
theorem synW_pars (w1 : World) (P : Nat) (k : Int) (t r : ByteArray) (n : Nat) (err v2 v3 v4 v5 v6 : Value) (hz : P < w1.heap.size) (h2 : w1.cell? ⟨P, 2, none⟩ = some v2) (h3 : w1.cell? ⟨P, 3, none⟩ = some v3)
    (h4 : w1.cell? ⟨P, 4, none⟩ = some v4) (h5 : w1.cell? ⟨P, 5, none⟩ = some v5) (h6 : w1.cell? ⟨P, 6, none⟩ = some v6) : ParsAt (synW w1 P k t r n err) P k t r n err := by
  unfold synW
  refine ⟨by simp; omega, ?_, ?_, ?_, ?_, ?_⟩ <;> simp [go_sem, hz, h2, h3, h4, h5, h6]
theorem synW_below {w w1 : World} (k : Int) (t r : ByteArray) (n : Nat) (err : Value) (hb : Below w.heap.size w w1) : Below w.heap.size w (synW w1 w.heap.size k t r n err) := by
  unfold synW
  exact (((((hb.setCell (Nat.le_refl _) _).setCell (Nat.le_refl _) _).setCell (Nat.le_refl _) _).setCell (Nat.le_refl _) _).setCell (Nat.le_refl _) _).alloc (by simpa using hb.size) _
theorem synW_err {B : Nat} {w1 : World} {a p P : Nat} (k : Int) (t r : ByteArray) (n : Nat) (err : Value) (h : ErrAt B w1 a p) (hP : P < B) : ErrAt B (synW w1 P k t r n err) a p := by
  unfold synW
  exact ErrAt.alloc (ErrAt.set (ErrAt.set (ErrAt.set (ErrAt.set (ErrAt.set h hP _) hP _) hP _) hP _) hP _) _
theorem synW_tok (w1 : World) (P : Nat) (k : Int) (t r : ByteArray) (n : Nat) (err : Value) : (synW w1 P k t r n err).cell? ⟨w1.heap.size, 0, none⟩ = some (.int .u8 k) ∧ (synW w1 P k t r n err).cell? ⟨w1.heap.size, 2, none⟩ = some (.string r) ∧ (synW w1 P k t r n err).cell? ⟨w1.heap.size, 3, none⟩ = some (.int .i64 (n : Int)) := by
  have hb : (synW w1 P k t r n err).heap[w1.heap.size]? = some (.cells #[.int .u8 k, .string t, .string r, .int .i64 (n : Int)] 34) := by
    unfold synW
    have := heap_alloc_new (((((w1.setCell ⟨P, 2, none⟩ (.int .u8 k)).setCell ⟨P, 3, none⟩ (.string t)).setCell ⟨P, 4, none⟩ (.string r)).setCell ⟨P, 5, none⟩ (.int .i64 (n : Int))).setCell ⟨P, 6, none⟩ err) (.cells #[.int .u8 k, .string t, .string r, .int .i64 (n : Int)] 34)
    simpa using this
  exact ⟨Lib.cell_of_heap hb 0, Lib.cell_of_heap hb 2, Lib.cell_of_heap hb 3⟩
theorem ErrAt.keep {B : Nat} {w w' : World} {a p : Nat} (h : ErrAt B w a p) (hb : Below w.heap.size w w') : ErrAt B w' a p := by
  have hlt := ErrAt.lt h
  exact ⟨h.1, by rw [hb.cell (p := ⟨a, 0, none⟩) hlt]; exact h.2.1, by rw [hb.cell (p := ⟨a, 5, none⟩) hlt]; exact h.2.2⟩

set_option maxRecDepth 100000 in
set_option maxHeartbeats 2000000 in
theorem syn_err (s : ByteArray) (i n e : Nat) (w : World)
    (cN : Calls Tryf.prog 12 #[.pointer (some ⟨w.heap.size, 0, none⟩)] (w.alloc (.cells #[.string s, .int .i64 (i : Int), .int .u8 0, .string ⟨#[]⟩, .string ⟨#[]⟩, .int .i64 0, .nilIface, .int .i64 0] 46)) fun en w' => ∃ a, en = .returned (.tuple #[.agg #[.int .u8 8, .string ⟨#[]⟩, .string ⟨#[]⟩, .int .i64 (n : Int)], .iface 39 (.pointer (some ⟨a, 0, none⟩))]) ∧ ErrAt (w.heap.size + 1) w' a e ∧
      Below (w.heap.size + 1) (w.alloc (.cells #[.string s, .int .i64 (i : Int), .int .u8 0, .string ⟨#[]⟩, .string ⟨#[]⟩, .int .i64 0, .nilIface, .int .i64 0] 46)) w') :
    Calls Tryf.prog 11 #[.string s, .int .i64 i] w fun en w' => en = .returned (.tuple #[.int .u8 8, .string ⟨#[]⟩, .int .i64 (n : Int), .bool false, .string ⟨#[52, 50, 54, 48, 49]⟩, .int .i64 (e : Int), .bool true]) ∧ Below w.heap.size w w' := by
  go_enter Tryf.func11, Tryf.ntmps11
  go_wp2_with fail
  refine cN.mono ?_
  rintro en w1 ⟨a, rfl, hE, hb⟩
  obtain ⟨hc, hf⟩ := bcell (W := w.alloc (.cells #[.string s, .int .i64 (i : Int), .int .u8 0, .string ⟨#[]⟩, .string ⟨#[]⟩, .int .i64 0, .nilIface, .int .i64 0] 46)) (by simpa using hb)
  have hz : w.heap.size < w1.heap.size := by have := hb.size; simp at this; omega
  have hbel : Below w.heap.size w w1 := ((Below.refl _ _).alloc (Nat.le_refl _) _).trans (hb.mono (by simp))
  have hP := synW_pars w1 w.heap.size 8 ⟨#[]⟩ ⟨#[]⟩ n (.iface 39 (.pointer (some ⟨a, 0, none⟩))) _ _ _ _ _ hz ((hc w.heap.size 2 (by simp)).trans (by simp; rfl)) ((hc w.heap.size 3 (by simp)).trans (by simp; rfl)) ((hc w.heap.size 4 (by simp)).trans (by simp; rfl)) ((hc w.heap.size 5 (by simp)).trans (by simp; rfl)) ((hc w.heap.size 6 (by simp)).trans (by simp; rfl))
  have cE := synErr_err w.heap.size _ _ n a _ hP
  have fE := synW_err 8 ⟨#[]⟩ ⟨#[]⟩ n (.iface 39 (.pointer (some ⟨a, 0, none⟩))) hE (Nat.lt_succ_self _)
  have fB := synW_below 8 ⟨#[]⟩ ⟨#[]⟩ n (.iface 39 (.pointer (some ⟨a, 0, none⟩))) hbel
  have fS := synW_size w1 w.heap.size 8 ⟨#[]⟩ ⟨#[]⟩ n (.iface 39 (.pointer (some ⟨a, 0, none⟩)))
  obtain ⟨t0, t2, t3⟩ := synW_tok w1 w.heap.size 8 ⟨#[]⟩ ⟨#[]⟩ n (.iface 39 (.pointer (some ⟨a, 0, none⟩)))
  have HF : Hid _ := And.intro fE (And.intro fB (And.intro fS (And.intro t0 (And.intro t2 t3))))
  clear cN hP fE fB fS t0 t2 t3 hE
  go_wp2_with fail
  refine cE.mono ?_
  rintro en w2 ⟨rfl, hb2⟩
  obtain ⟨fE, fB, fS, t0, t2, t3⟩ := HF.out
  have hE2 := ErrAt.keep fE hb2
  have k0 := hE2.2.1
  have k5 := hE2.2.2
  rw [← hb2.cell (p := ⟨w1.heap.size, 0, none⟩) (by rw [fS]; exact Nat.lt_succ_self _)] at t0
  rw [← hb2.cell (p := ⟨w1.heap.size, 2, none⟩) (by rw [fS]; exact Nat.lt_succ_self _)] at t2
  rw [← hb2.cell (p := ⟨w1.heap.size, 3, none⟩) (by rw [fS]; exact Nat.lt_succ_self _)] at t3
  have fin : Below w.heap.size w w2 := fB.trans (hb2.mono (by rw [fS]; omega))
  clear cE HF fE fB fS hE2 hb2 hc hf hb hbel
  go_wp2
  refine bodyPost_ret (v := .tuple #[.int .u8 8, .string ⟨#[]⟩, .int .i64 (n : Int), .bool false, .string ⟨#[52, 50, 54, 48, 49]⟩, .int .i64 (e : Int), .bool true]) (by simp [results, Tryf.results11, go_sem]) rfl ⟨rfl, fin⟩

set_option maxRecDepth 100000 in
set_option maxHeartbeats 2000000 in
theorem syn_ok (F : Interp) (s t r : ByteArray) (i n p : Nat) (k : Int) (w : World) (hF : F.answers w.tape) (hn : n ≤ 1000000000) (hk : k = 0 ∨ (1 ≤ k ∧ k ≤ 7))
    (cN : Calls Tryf.prog 12 #[.pointer (some ⟨w.heap.size, 0, none⟩)] (w.alloc (.cells #[.string s, .int .i64 (i : Int), .int .u8 0, .string ⟨#[]⟩, .string ⟨#[]⟩, .int .i64 0, .nilIface, .int .i64 0] 46)) fun en w' => en = .returned (.tuple #[.agg #[.int .u8 k, .string t, .string r, .int .i64 (n : Int)], .nilIface]) ∧
      Below (w.heap.size + 1) (w.alloc (.cells #[.string s, .int .i64 (p : Int), .int .u8 0, .string ⟨#[]⟩, .string ⟨#[]⟩, .int .i64 0, .nilIface, .int .i64 0] 46)) w') :
    Calls Tryf.prog 11 #[.string s, .int .i64 i] w fun en w' => en = .returned (.tuple #[.int .u8 k, .string r, .int .i64 (n : Int), .bool false, .string ⟨#[52, 50, 54, 48, 49]⟩, .int .i64 ((n : Int) + 1), .bool false]) ∧ Below w.heap.size w w' := by
  go_enter Tryf.func11, Tryf.ntmps11
  go_wp2_with fail
  refine cN.mono ?_
  rintro en w1 ⟨rfl, hb⟩
  obtain ⟨hc, hf⟩ := bcell (W := w.alloc (.cells #[.string s, .int .i64 (p : Int), .int .u8 0, .string ⟨#[]⟩, .string ⟨#[]⟩, .int .i64 0, .nilIface, .int .i64 0] 46)) (by simpa using hb)
  have hz : w.heap.size < w1.heap.size := by have := hb.size; simp at this; omega
  have hbel : Below w.heap.size w w1 := ((Below.refl _ _).alloc (Nat.le_refl _) _).trans (hb.mono (by simp))
  have hP := synW_pars w1 w.heap.size k t r n .nilIface _ _ _ _ _ hz ((hc w.heap.size 2 (by simp)).trans (by simp; rfl)) ((hc w.heap.size 3 (by simp)).trans (by simp; rfl)) ((hc w.heap.size 4 (by simp)).trans (by simp; rfl)) ((hc w.heap.size 5 (by simp)).trans (by simp; rfl)) ((hc w.heap.size 6 (by simp)).trans (by simp; rfl))
  have fB := synW_below k t r n .nilIface hbel
  have hF1 : F.answers (synW w1 w.heap.size k t r n .nilIface).tape := by rw [fB.tape]; exact hF
  have cE : Calls Tryf.prog 13 #[.pointer (some ⟨w.heap.size, 0, none⟩)] (synW w1 w.heap.size k t r n .nilIface) fun e w' => ∃ a, e = .returned (.iface 39 (.pointer (some ⟨a, 0, none⟩))) ∧ ErrAt (synW w1 w.heap.size k t r n .nilIface).heap.size w' a (n + 1) ∧ Below (synW w1 w.heap.size k t r n .nilIface).heap.size (synW w1 w.heap.size k t r n .nilIface) w' := by
    rcases hk with rfl | ⟨h1, h7⟩
    · exact synErr_eof F w.heap.size t r n _ _ hF1 hn hP
    · exact synErr_tok F w.heap.size k t r n _ _ hF1 hn h1 h7 hP
  have fS := synW_size w1 w.heap.size k t r n .nilIface
  obtain ⟨t0, t2, t3⟩ := synW_tok w1 w.heap.size k t r n .nilIface
  have HF : Hid _ := And.intro fB (And.intro fS (And.intro t0 (And.intro t2 t3)))
  clear cN hP fB fS t0 t2 t3 hF1 hk
  go_wp2_with fail
  refine cE.mono ?_
  rintro en w2 ⟨a, rfl, hE2, hb2⟩
  obtain ⟨fB, fS, t0, t2, t3⟩ := HF.out
  have k0 := hE2.2.1
  have k5 := hE2.2.2
  rw [show ((n + 1 : Nat) : Int) = (n : Int) + 1 from by omega] at k5
  rw [← hb2.cell (p := ⟨w1.heap.size, 0, none⟩) (by rw [fS]; exact Nat.lt_succ_self _)] at t0
  rw [← hb2.cell (p := ⟨w1.heap.size, 2, none⟩) (by rw [fS]; exact Nat.lt_succ_self _)] at t2
  rw [← hb2.cell (p := ⟨w1.heap.size, 3, none⟩) (by rw [fS]; exact Nat.lt_succ_self _)] at t3
  have fin : Below w.heap.size w w2 := fB.trans (hb2.mono (by rw [fS]; omega))
  clear cE HF fB fS hE2 hb2 hc hf hb hbel
  go_wp2
  refine bodyPost_ret (v := .tuple #[.int .u8 k, .string r, .int .i64 (n : Int), .bool false, .string ⟨#[52, 50, 54, 48, 49]⟩, .int .i64 ((n : Int) + 1), .bool false]) (by simp [results, Tryf.results11, go_sem]) rfl ⟨rfl, fin⟩

/-- What ZZsyntaxErrorAfterNext hands out. -/
def synVals (A : Lx.Ans) (i : Nat) : Array Value :=
  #[.int .u8 (A.k : Int), .string ⟨A.r.toArray⟩, .int .i64 ((i + A.o : Nat) : Int), .bool false, .string ⟨#[52, 50, 54, 48, 49]⟩, .int .i64 (if A.f then ((i + A.e : Nat) : Int) else ((i + A.o : Nat) : Int) + 1), .bool A.f]

theorem below_boxedP {w w' : World} {s : ByteArray} {i p : Int} (h : Below (w.alloc (.cells #[.string s, .int .i64 i, .int .u8 0, .string ⟨#[]⟩, .string ⟨#[]⟩, .int .i64 0, .nilIface, .int .i64 0] 46)).heap.size ((w.alloc (.cells #[.string s, .int .i64 i, .int .u8 0, .string ⟨#[]⟩, .string ⟨#[]⟩, .int .i64 0, .nilIface, .int .i64 0] 46)).setCell ⟨w.heap.size, 0 + 1, none⟩ (.int .i64 p)) w') :
    Below (w.heap.size + 1) (w.alloc (.cells #[.string s, .int .i64 p, .int .u8 0, .string ⟨#[]⟩, .string ⟨#[]⟩, .int .i64 0, .nilIface, .int .i64 0] 46)) w' := by
  have e : (w.alloc (.cells #[.string s, .int .i64 i, .int .u8 0, .string ⟨#[]⟩, .string ⟨#[]⟩, .int .i64 0, .nilIface, .int .i64 0] 46)).setCell ⟨w.heap.size, 0 + 1, none⟩ (.int .i64 p) = w.alloc (.cells #[.string s, .int .i64 p, .int .u8 0, .string ⟨#[]⟩, .string ⟨#[]⟩, .int .i64 0, .nilIface, .int .i64 0] 46) := by
    rw [World.setCell_alloc_at _ _ _ _ _ rfl]; rfl
  rw [e] at h
  simpa using h

theorem zzSyn_any (F : Interp) (s : ByteArray) (i : Nat) (w : World) (hF : F.answers w.tape) (hV : CaseVar 3 caseA w) (hT : Utf8Tabs 0 1 w) (hs : s.size ≤ 1000000000) (hi : i ≤ s.size) :
    Calls Tryf.prog 11 #[.string s, .int .i64 i] w fun e w' => e = .returned (.tuple (synVals (Lx.nxt (s.data.toList.drop i)) i)) ∧ Below w.heap.size w w' := by
  have hb0 : Below w.heap.size w (w.alloc (.cells #[.string s, .int .i64 (i : Int), .int .u8 0, .string ⟨#[]⟩, .string ⟨#[]⟩, .int .i64 0, .nilIface, .int .i64 0] 46)) := (Below.refl _ _).alloc (Nat.le_refl _) _
  have hL : LexAt (w.alloc (.cells #[.string s, .int .i64 (i : Int), .int .u8 0, .string ⟨#[]⟩, .string ⟨#[]⟩, .int .i64 0, .nilIface, .int .i64 0] 46)) w.heap.size 0 s i := ⟨by simp, by simp, by simp, by simp⟩
  have hF1 : F.answers (w.alloc (.cells #[.string s, .int .i64 (i : Int), .int .u8 0, .string ⟨#[]⟩, .string ⟨#[]⟩, .int .i64 0, .nilIface, .int .i64 0] 46)).tape := hF
  have hV1 := CaseVar_below hV hb0
  have hT1 := Utf8Tabs_below hT hb0
  have hle := skA_le s i hi
  obtain ⟨x, hx⟩ : ∃ x, skA s i = x := ⟨_, rfl⟩
  obtain ⟨b, n⟩ := x
  rw [hx] at hle
  cases b with
  | false =>
    obtain ⟨e1, hin⟩ := nxt_open hx
    rw [e1]
    refine (syn_err s i i (n + 1) w ((next_open F s i n _ 0 _ hL hF1 hs hi hx).mono ?_)).mono ?_
    · rintro en w' ⟨a, he, hE, hb⟩
      exact ⟨a, he, by simpa using hE, by simpa using hb⟩
    · rintro en w' ⟨rfl, hb⟩
      refine ⟨?_, hb⟩
      simp only [synVals, if_true]
      rw [show i + (n - i + 1) = n + 1 from by omega]
      rfl
  | true =>
    by_cases hn : n < s.size
    · obtain ⟨hin, e1⟩ := nxt_mid hx hn
      rw [e1]
      cases ht : Lx.tok (s.data.toList.drop n) with
      | none =>
        refine (syn_err s i n (n + 1) w ((next_bad F s i n _ 0 _ hL hF1 hV1 hT1 hs hi hx hn ht).mono ?_)).mono ?_
        · rintro en w' ⟨a, he, hE, hb⟩
          exact ⟨a, he, by simpa using hE, by simpa using hb⟩
        · rintro en w' ⟨rfl, hb⟩
          refine ⟨?_, hb⟩
          simp only [synVals, if_true]
          rw [show i + (n - i + 1) = n + 1 from by omega, show i + (n - i) = n from by omega]
          rfl
      | some y =>
        obtain ⟨hk1, hk7, _, hy, _⟩ := Lx.tok_alone _ y ht
        simp only [List.length_drop, Array.length_toList, ByteArray.size_data] at hy
        refine (syn_ok F s ⟨y.2.1.toArray⟩ (s.extract n (n + y.2.2)) i n (n + y.2.2) y.1 w hF (by omega) (Or.inr ⟨by omega, by omega⟩) ((next_tok F s i n _ 0 y _ hL hF1 hV1 hT1 hs hi hx hn ht (by omega)).mono ?_)).mono ?_
        · rintro en w' ⟨he, hb⟩
          exact ⟨he, below_boxedP hb⟩
        · rintro en w' ⟨rfl, hb⟩
          refine ⟨?_, hb⟩
          simp only [synVals, Bool.false_eq_true, if_false]
          rw [show i + (n - i) = n from by omega, text_eq]
    · obtain rfl : n = s.size := by simp only at hle; omega
      rw [nxt_eof hi hx]
      refine (syn_ok F s ⟨#[]⟩ ⟨#[]⟩ i s.size s.size 0 w hF hs (Or.inl rfl) ((next_eof F s i _ 0 _ hL hF1 hs hi hx).mono ?_)).mono ?_
      · rintro en w' ⟨he, hb⟩
        exact ⟨he, below_boxedP hb⟩
      · rintro en w' ⟨rfl, hb⟩
        refine ⟨?_, hb⟩
        simp only [synVals, Bool.false_eq_true, if_false]
        rw [show i + (s.size - i) = s.size from by omega]
        rfl

set_option maxRecDepth 100000 in
set_option maxHeartbeats 2000000 in
theorem syntax_any (F : Interp) (s : ByteArray) (p : Int) (w : World) (hF : F.answers w.tape) (hV : CaseVar 3 caseA w) (hT : Utf8Tabs 0 1 w) (hs : s.size ≤ maxLen) :
    Calls Tryf.prog 5 #[.string s, .int .i64 p] w fun en w' => en = .returned (.bool true) ∧ Below w.heap.size w w' := by
  have cB := bytesS s p w hs
  unfold maxLen at hs
  by_cases hok : s.size ≤ 65536 ∧ 0 ≤ p ∧ p ≤ (s.size : Int)
  · obtain ⟨h2, h3, h4⟩ := hok
    obtain ⟨i, rfl⟩ : ∃ i : Nat, p = i := ⟨p.toNat, by omega⟩
    have d2 : decide ((65536 : Int) < (s.size : Int)) = false := by simp; omega
    have d3 : decide ((s.size : Int) < (i : Int)) = false := by simp; omega
    have c1 := zzSyn_any F s i w hF hV hT (by omega) (by omega)
    obtain ⟨h1', h2', h3'⟩ := Lx.nxt_ok (s.data.toList.drop i)
    have hl : (s.data.toList.drop i).length = s.size - i := by simp
    obtain ⟨A, hA⟩ : ∃ A, Lx.nxt (s.data.toList.drop i) = A := ⟨_, rfl⟩
    rw [hA] at c1 h1' h2' h3'
    rw [hl] at h1' h2' h3'
    obtain ⟨k, t, r, o, f, e, n⟩ := A
    simp only at h1' h2' h3'
    clear hV hT hA hl
    cases f with
    | true =>
      obtain ⟨rfl, rfl, rfl, rfl, ho, he⟩ := h1' rfl
      simp only [synVals, if_true] at c1
      have e1 : decide ((i : Int) < ((i + e : Nat) : Int)) = true := by simp; omega
      have e2 : decide (((i + e : Nat) : Int) ≤ (s.size : Int)) = true := by simp; omega
      have e3 : i < i + e := by omega
      have e4 : i + e ≤ s.size := by omega
      generalize i + e = E at *
      clear h1' h2' h3'
      go_enter Tryf.func5, Tryf.ntmps5
      go_wp2_with fail
      refine cB.mono ?_
      rintro en w1 ⟨⟨c, rfl⟩, rfl⟩
      clear cB
      cases c with
      | false =>
        go_wp2
        go_ret
        exact ⟨rfl, Below.refl _ _⟩
      | true =>
        go_wp2_with fail
        refine c1.mono ?_
        rintro en w2 ⟨rfl, hb1⟩
        go_wp2
        go_ret
        exact ⟨rfl, hb1⟩
    | false =>
      by_cases hk : k = 0
      · obtain ⟨rfl, rfl, rfl, rfl⟩ := h2' rfl hk
        subst hk
        simp only [synVals, Bool.false_eq_true, if_false] at c1
        rw [show i + (s.size - i) = s.size from by omega] at c1
        clear h1' h2' h3'
        go_enter Tryf.func5, Tryf.ntmps5
        go_wp2_with fail
        refine cB.mono ?_
        rintro en w1 ⟨⟨c, rfl⟩, rfl⟩
        clear cB
        cases c with
        | false =>
          go_wp2
          go_ret
          exact ⟨rfl, Below.refl _ _⟩
        | true =>
          go_wp2_with fail
          refine c1.mono ?_
          rintro en w2 ⟨rfl, hb1⟩
          go_wp2
          go_ret
          exact ⟨rfl, hb1⟩
      · obtain ⟨hk7, hr1, hr2, rfl, hr3⟩ := h3' rfl hk
        have hx : s.extract (i + o) (i + o + r.length) = ⟨r.toArray⟩ := by
          rw [← text_eq, ← List.drop_drop, hr3]
        have hrs : (⟨r.toArray⟩ : ByteArray).size = r.length := by show r.toArray.size = r.length; simp
        simp only [synVals, Bool.false_eq_true, if_false] at c1
        have g1 : i ≤ i + o := by omega
        have g2 : i + o + r.length ≤ s.size := by omega
        generalize (⟨r.toArray⟩ : ByteArray) = R at *
        generalize r.length = m at *
        generalize i + o = O at *
        have k0 : ((k : Int) == 0) = false := by simp; omega
        have k8 : ((k : Int) == 8) = false := by simp; omega
        have k7 : (k : Int) ≤ 7 := by omega
        have z1 : (i : Int) ≤ (O : Int) := by omega
        have z2 : (0 : Int) < (m : Int) := by omega
        have z3 : (O : Int) ≤ (s.size : Int) - (m : Int) := by omega
        have z4 : (O : Int) + (m : Int) ≤ (s.size : Int) := by omega
        clear h1' h2' h3' hr3 hk hk7 hr2
        go_enter Tryf.func5, Tryf.ntmps5
        go_wp2_with fail
        refine cB.mono ?_
        rintro en w1 ⟨⟨c, rfl⟩, rfl⟩
        clear cB
        cases c with
        | false =>
          go_wp2
          go_ret
          exact ⟨rfl, Below.refl _ _⟩
        | true =>
          go_wp2_with fail
          refine c1.mono ?_
          rintro en w2 ⟨rfl, hb1⟩
          go_wp2
          go_ret
          exact ⟨rfl, hb1⟩
  · go_enter Tryf.func5, Tryf.ntmps5
    go_wp2_with fail
    refine cB.mono ?_
    rintro en w1 ⟨⟨c, rfl⟩, rfl⟩
    clear cB
    cases c with
    | false =>
      go_wp2
      go_ret
      exact ⟨rfl, Below.refl _ _⟩
    | true =>
      by_cases h2 : (65536 : Int) < (s.size : Int)
      · go_wp2
        go_ret
        exact ⟨rfl, Below.refl _ _⟩
      · have d2 : decide ((65536 : Int) < (s.size : Int)) = false := by simp; omega
        by_cases h3 : p < 0
        · go_wp2
          go_ret
          exact ⟨rfl, Below.refl _ _⟩
        · have d3 : decide (p < 0) = false := by simp; omega
          have h4 : (s.size : Int) < p := by omega
          go_wp2
          go_ret
          exact ⟨rfl, Below.refl _ _⟩
end Go.Proofs.Qxb6608672aFmt
