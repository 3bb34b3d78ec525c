/-
  Seat b6608704aF (sluice). WALKS: the shim: ZZnewReader, ZZnameBefore, ZZreaderAt; the bound on the lengths.
-/
import Derived.Test.Qxb6608704aFmtWalkF
namespace Go.Proofs.Qxb6608704aFmt
open Go.RowKit Go.Lib Go.Shelf

set_option maxHeartbeats 400000 in
theorem bytes5 (a b : ByteArray) (x y c : Int) (w : World) (ha : a.size ≤ maxLen) (hb : b.size ≤ maxLen) : Calls Tryf.prog 5 #[.string a, .string b, .int .i64 x, .int .i64 y, .int .u8 c] w fun en w' => (∃ r, en = .returned (.bool r)) ∧ w' = w := by
  unfold maxLen at ha hb
  go_enter Tryf.func5, Tryf.ntmps5
  go_wp2
  all_goals
    go_ret
    exact ⟨⟨_, rfl⟩, rfl⟩

set_option maxHeartbeats 400000 in
theorem newReader_any (path T : ByteArray) (i l : Int) (w : World) : Calls Tryf.prog 6 #[.string path, .string T, .int .i64 i, .int .i64 l] w fun e w' => e = .returned (.pointer (some ⟨w.heap.size, 0, none⟩)) ∧ To w w.heap.size path T i l w' := by
  go_enter Tryf.func6, Tryf.ntmps6
  go_wp2
  go_ret
  refine ⟨rfl, ⟨?_, ?_, ?_, ?_, ?_, ?_⟩, (Below.refl _ _).alloc (Nat.le_refl _) _⟩ <;> simp [go_sem]

set_option maxHeartbeats 400000 in
theorem readerAt_any (w0 : World) (b : Nat) (path T : ByteArray) (i l : Int) (w : World) (h : To w0 b path T i l w) :
    Calls Tryf.prog 8 #[.pointer (some ⟨b, 0, none⟩)] w fun e w' => e = .returned (.tuple #[.int .i64 i, .int .i64 l]) ∧ To w0 b path T i l w' := by
  have HT : Hid (To w0 b path T i l w) := h
  obtain ⟨⟨h0, h1, h2, h3, f2, f3⟩, hB⟩ := h
  clear hB h0 h1 f2 f3
  go_enter Tryf.func8, Tryf.ntmps8
  go_wp2
  go_quiet (fail)
  go_wp2
  go_ret2
  exact ⟨rfl, HT.out.1, below_drewN HT.out.2 _⟩

theorem assert39 (v : Value) (W : World) : (Instr.typeAssert (.iface 39 v) 36 39 true).run Tryf.prog W = .ok (.tuple #[v, .bool true]) W := by kernel_rfl
attribute [local go_sem] assert39

/-- What ZZnameBefore answers with: the name, whether it failed; the reader's new place. -/
def ZZ (w0 : World) (b : Nat) (path T nm0 : ByteArray) (failed : Bool) (i l : Int) (e : Ending) (w' : World) : Prop :=
  (∃ x y z, e = .returned (.tuple #[.string nm0, .bool failed, x, y, z])) ∧ To w0 b path T i l w'

set_option maxRecDepth 100000 in
set_option maxHeartbeats 1000000 in
theorem zz_fail (w0 : World) (b : Nat) (path T X : ByteArray) (i l c : Int) (w : World) (cN : Calls Tryf.prog 13 #[.pointer (some ⟨b, 0, none⟩), .int .u8 c] w fun e w' => Err2 w0 b path T X i l e w') :
    Calls Tryf.prog 7 #[.pointer (some ⟨b, 0, none⟩), .int .u8 c] w fun e w' => ZZ w0 b path T X true i l e w' := by
  go_enter Tryf.func7, Tryf.ntmps7
  go_wp2_with fail
  refine cN.mono ?_
  rintro e w1 ⟨⟨a, rfl, k0, k1⟩, hTo, _⟩
  clear cN
  have HT : Hid (To w0 b path T i l w1) := hTo
  clear hTo
  go_wp2
  go_quiet (fail)
  go_wp2
  refine bodyPost_ret (v := .tuple #[.string X, .bool true, .string path, .int .i64 l, .bool true]) (by simp [results, Tryf.results7, go_sem]) rfl ⟨⟨_, _, _, rfl⟩, HT.out.1, below_drewN HT.out.2 _⟩

set_option maxRecDepth 100000 in
set_option maxHeartbeats 1000000 in
theorem zz_ok (w0 : World) (b : Nat) (path T X : ByteArray) (i' l' c : Int) (w : World) (cN : Calls Tryf.prog 13 #[.pointer (some ⟨b, 0, none⟩), .int .u8 c] w fun e w' => e = .returned (.tuple #[.string X, .nilIface]) ∧ To w0 b path T i' l' w') :
    Calls Tryf.prog 7 #[.pointer (some ⟨b, 0, none⟩), .int .u8 c] w fun e w' => ZZ w0 b path T X false i' l' e w' := by
  go_enter Tryf.func7, Tryf.ntmps7
  go_wp2_with fail
  refine cN.mono ?_
  rintro e w1 ⟨rfl, hTo⟩
  clear cN
  have HT : Hid (To w0 b path T i' l' w1) := hTo
  clear hTo
  go_wp2
  refine bodyPost_ret (v := .tuple #[.string X, .bool false, .string ⟨#[]⟩, .int .i64 0, .bool false]) (by simp [results, Tryf.results7, go_sem]) rfl ⟨⟨_, _, _, rfl⟩, HT.out⟩
end Go.Proofs.Qxb6608704aFmt
