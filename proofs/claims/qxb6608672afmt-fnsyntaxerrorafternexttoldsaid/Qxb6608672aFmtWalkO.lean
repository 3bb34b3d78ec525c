/-
  Seat b6608672aF (tabulon). WALKS: (*parser).peek, (*parser).syntaxError, ZZsyntaxErrorAfterNext, FnSyntaxErrorAfterNext.
-/
import Derived.Test.Qxb6608672aFmtWalkM
namespace Go.Proofs.Qxb6608672aFmt
open Go.RowKit Go.Extern.Stop Go.Stop Go.Extern Go.Lib

/-- A parser's next token and its lexer's error, in memory. -/
structure ParsAt (w : World) (P : Nat) (k : Int) (t r : ByteArray) (o : Nat) (err : Value) : Prop where
  lt : P < w.heap.size
  c2 : w.cell? ⟨P, 2, none⟩ = some (.int .u8 k)
  c3 : w.cell? ⟨P, 3, none⟩ = some (.string t)
  c4 : w.cell? ⟨P, 4, none⟩ = some (.string r)
  c5 : w.cell? ⟨P, 5, none⟩ = some (.int .i64 (o : Int))
  c6 : w.cell? ⟨P, 6, none⟩ = some err

set_option maxHeartbeats 1000000 in
theorem peek_any (P : Nat) (k : Int) (t r : ByteArray) (o : Nat) (err : Value) (w : World) (h : ParsAt w P k t r o err) :
    Calls Tryf.prog 16 #[.pointer (some ⟨P, 0, none⟩)] w fun e w' => e = .returned (.agg #[.int .u8 k, .string t, .string r, .int .i64 (o : Int)]) ∧ w' = w.alloc (.cells #[.int .u8 k, .string t, .string r, .int .i64 (o : Int)] 34) := by
  have hlt := h.lt
  have c2 := h.c2
  have c3 := h.c3
  have c4 := h.c4
  have c5 := h.c5
  clear h
  go_enter Tryf.func16, Tryf.ntmps16
  go_wp2
  exact bodyPost_ret (v := .agg #[.int .u8 k, .string t, .string r, .int .i64 (o : Int)]) (by simp [results, Tryf.results16, go_sem]) rfl ⟨rfl, rfl⟩

theorem fmtEnd : FmtStop.printed? ⟨#[115, 121, 110, 116, 97, 120, 32, 101, 114, 114, 111, 114, 32, 97, 116, 32, 101, 110, 100, 32, 111, 102, 32, 105, 110, 112, 117, 116]⟩ 0 = some [] := by kernel_rfl

set_option maxHeartbeats 1000000 in
theorem synErr_err (P : Nat) (t r : ByteArray) (o a : Nat) (w : World) (h : ParsAt w P 8 t r o (.iface 39 (.pointer (some ⟨a, 0, none⟩)))) :
    Calls Tryf.prog 13 #[.pointer (some ⟨P, 0, none⟩)] w fun e w' => e = .returned (.iface 39 (.pointer (some ⟨a, 0, none⟩))) ∧ Below w.heap.size w w' := by
  have cP := peek_any P 8 t r o _ w h
  have hlt := h.lt
  have c6 := h.c6
  clear h
  go_enter Tryf.func13, Tryf.ntmps13
  go_wp2_with fail
  refine cP.mono ?_
  rintro e w1 ⟨rfl, rfl⟩
  go_wp2
  go_ret
  exact ⟨rfl, ((Below.refl _ _).alloc (Nat.le_refl _) _).alloc (by simp) _⟩

set_option maxHeartbeats 1000000 in
theorem synErr_eof (F : Interp) (P : Nat) (t r : ByteArray) (o : Nat) (err : Value) (w : World) (hF : F.answers w.tape) (ho : o ≤ 1000000000) (h : ParsAt w P 0 t r o err) :
    Calls Tryf.prog 13 #[.pointer (some ⟨P, 0, none⟩)] w fun e w' => ∃ a, e = .returned (.iface 39 (.pointer (some ⟨a, 0, none⟩))) ∧ ErrAt w.heap.size w' a (o + 1) ∧ Below w.heap.size w w' := by
  have cP := peek_any P 0 t r o _ w h
  have hlt := h.lt
  have cA := at_none F o _ ((w.alloc (.cells #[.int .u8 0, .string t, .string r, .int .i64 (o : Int)] 34)).alloc (.cells #[.int .u8 0, .string t, .string r, .int .i64 (o : Int)] 34)) hF (by omega) fmtEnd
  clear h
  go_enter Tryf.func13, Tryf.ntmps13
  go_wp2_with fail
  refine cP.mono ?_
  rintro e w1 ⟨rfl, rfl⟩
  go_wp2_with fail
  refine cA.mono ?_
  rintro e w2 ⟨tx, rfl, rfl⟩
  go_wp2
  go_ret
  exact ⟨_, rfl, errAt_new (World.alloc _ _) _ tx o (by omega) (by simp), ((((Below.refl _ _).alloc (Nat.le_refl _) _).alloc (by simp) _).alloc (by simp; omega) _).drew⟩

set_option maxHeartbeats 1000000 in
theorem synErr_tok (F : Interp) (P : Nat) (k : Int) (t r : ByteArray) (o : Nat) (err : Value) (w : World) (hF : F.answers w.tape) (ho : o ≤ 1000000000) (hk1 : 1 ≤ k) (hk7 : k ≤ 7) (h : ParsAt w P k t r o err) :
    Calls Tryf.prog 13 #[.pointer (some ⟨P, 0, none⟩)] w fun e w' => ∃ a, e = .returned (.iface 39 (.pointer (some ⟨a, 0, none⟩))) ∧ ErrAt w.heap.size w' a (o + 1) ∧ Below w.heap.size w w' := by
  have cP := peek_any P k t r o _ w h
  have hlt := h.lt
  have hk8 : (k == 8) = false := by simp; omega
  have hk0 : (k == 0) = false := by simp; omega
  have cN := nearAt F o r ((w.alloc (.cells #[.int .u8 k, .string t, .string r, .int .i64 (o : Int)] 34)).alloc (.cells #[.int .u8 k, .string t, .string r, .int .i64 (o : Int)] 34)) hF ho
  clear h
  go_enter Tryf.func13, Tryf.ntmps13
  go_wp2_with fail
  refine cP.mono ?_
  rintro e w1 ⟨rfl, rfl⟩
  go_wp2_with fail
  refine cN.mono ?_
  rintro e w2 ⟨tx, rfl, rfl⟩
  go_wp2
  go_ret
  exact ⟨_, rfl, errAt_new (World.alloc _ _) _ tx o (by omega) (by simp), (((((Below.refl _ _).alloc (Nat.le_refl _) _).alloc (by simp) _).alloc (by simp; omega) _).alloc (by simp; omega) _).drew⟩
end Go.Proofs.Qxb6608672aFmt
