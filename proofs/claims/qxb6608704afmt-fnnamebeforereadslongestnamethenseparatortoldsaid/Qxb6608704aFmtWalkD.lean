/-
  Seat b6608704aF (sluice). WALKS: the reader's errors.
-/
import Derived.Test.Qxb6608704aFmtWalkB
import Derived.Test.Qxb6608704aFmtStopF
import Derived.Test.Qxb6608704aFmtShelf
import Derived.WalkMore
import Derived.WalkLawsBesides
namespace Go.Proofs.Qxb6608704aFmt
open Go.RowKit Go.Lib Go.Shelf

/-- All old cells, all old marks read as before. -/
theorem bcell {W w1 : World} (hb : Below W.heap.size W w1) : (∀ b o, b < W.heap.size → w1.cell? ⟨b, o, none⟩ = W.cell? ⟨b, o, none⟩) ∧ (∀ b o, b < W.heap.size → w1.frozen? ⟨b, o, none⟩ = W.frozen? ⟨b, o, none⟩) :=
  ⟨fun b o h => hb.cell (p := ⟨b, o, none⟩) h, fun b o h => hb.frozen (p := ⟨b, o, none⟩) h⟩

/-- An *Error at (path, l) is returned; whatever lay, lies. -/
def ErrAt (path : ByteArray) (l : Int) (w : World) (e : Ending) (w' : World) : Prop :=
  ∃ a, e = .returned (.iface 39 (.pointer (some ⟨a, 0, none⟩))) ∧ w'.cell? ⟨a, 0, none⟩ = some (.string path) ∧ w'.cell? ⟨a, 1, none⟩ = some (.int .i64 l) ∧ Below w.heap.size w w'

set_option maxRecDepth 100000 in
set_option maxHeartbeats 1000000 in
theorem Errorf_gen (path fm : ByteArray) (l : Int) (a0 : Addr) (n m : Nat) (w : World) (c : ∀ o k, Calls Tryf.prog 30 #[.string fm, .slice (some a0) n m] ((w.alloc o).drewN k) fun e w' => Fails (w.alloc o) e w') :
    Calls Tryf.prog 27 #[.agg #[.string path, .int .i64 l], .string fm, .slice (some a0) n m] w fun e w' => ErrAt path l w e w' := by
  go_enter Tryf.func27, Tryf.ntmps27
  go_wp2
  go_region_with (go_at_call 30; refine (c _ _).mono ?_; rintro e w1 ⟨⟨v, rfl⟩, hb⟩; obtain ⟨hc, hf⟩ := bcell hb; have hz : w.heap.size < w1.heap.size := (by have := hb.size; simp at this; omega))
  all_goals
    go_wp2
    have hB : Below w.heap.size w w1 := ((Below.refl w.heap.size w).alloc (Nat.le_refl _) _).trans (hb.mono (by simp))
    refine bodyPost_ret (v := .iface 39 (.pointer (some ⟨w1.heap.size, 0, none⟩))) (by simp [results, Tryf.results27, go_sem]) (by simp [go_sem]) ⟨w1.heap.size, rfl, ?_, ?_, ?_⟩
    · simp
    · simp
    · first | exact (hB.alloc hB.size _).drew | exact (hB.alloc hB.size _).drew.drew | exact hB.alloc hB.size _
set_option maxRecDepth 100000 in
set_option maxHeartbeats 1000000 in
theorem pos_any (b : Nat) (path T : ByteArray) (i l : Int) (w : World) (h : Rd b path T i l w) (hb : b < w.heap.size) :
    Calls Tryf.prog 17 #[.pointer (some ⟨b, 0, none⟩)] w fun e w' => e = .returned (.agg #[.string path, .int .i64 l]) ∧ Below w.heap.size w w' := by
  obtain ⟨h0, h1, h2, h3, f2, f3⟩ := h
  clear h1 h2 f2 f3
  go_enter Tryf.func17, Tryf.ntmps17
  go_wp2
  go_region
  all_goals
    go_wp2
    refine bodyPost_ret (v := .agg #[.string path, .int .i64 l]) (by simp [results, Tryf.results17, go_sem]) rfl ⟨rfl, ?_⟩
    first | exact ((Below.refl _ _).alloc (Nat.le_refl _) _).drew | exact (Below.refl _ _).alloc (Nat.le_refl _) _
end Go.Proofs.Qxb6608704aFmt
