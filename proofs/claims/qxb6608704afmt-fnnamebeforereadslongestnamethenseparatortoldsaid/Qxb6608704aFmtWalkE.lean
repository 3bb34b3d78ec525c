/-
  Seat b6608704aF (sluice). WALKS: errorf, unexpected.
-/
import Derived.Test.Qxb6608704aFmtWalkD
namespace Go.Proofs.Qxb6608704aFmt
open Go.RowKit Go.Lib Go.Shelf

set_option maxRecDepth 100000 in
set_option maxHeartbeats 1000000 in
theorem rErrorf (b : Nat) (path T fm : ByteArray) (i l : Int) (a0 : Addr) (n m : Nat) (w : World) (h : Rd b path T i l w) (hb : b < w.heap.size) (c : ∀ w2, Below w.heap.size w w2 → Calls Tryf.prog 30 #[.string fm, .slice (some a0) n m] w2 fun e w' => Fails w2 e w') :
    Calls Tryf.prog 22 #[.pointer (some ⟨b, 0, none⟩), .string fm, .slice (some a0) n m] w fun e w' => ErrAt path l w e w' := by
  have cP := pos_any b path T i l w h hb
  clear h
  go_enter Tryf.func22, Tryf.ntmps22
  go_wp2_with fail
  refine cP.mono ?_
  rintro e w1 ⟨rfl, hb1⟩
  have cE := Errorf_gen path fm l a0 n m w1 (fun o k => (c _ (below_drewN (hb1.alloc hb1.size o) k)).mono fun e w' h => ⟨h.1, (below_drewN (Below.refl _ _) k).trans h.2⟩)
  go_wp2_with fail
  refine cE.mono ?_
  rintro e w2 ⟨a, rfl, k0, k1, hb2⟩
  go_wp2_with fail
  go_ret
  exact ⟨a, rfl, k0, k1, hb1.trans (hb2.mono hb1.size)⟩

set_option maxRecDepth 100000 in
set_option maxHeartbeats 2000000 in
theorem unexpected_any (F : Go.Stop.Interp) (b : Nat) (path T : ByteArray) (i : Nat) (l : Int) (w : World) (hF : F.answers w.tape) (hU : Utf8Tabs 0 1 w) (h : Rd b path T i l w) (hb : b < w.heap.size) (hi : i ≤ T.size) :
    Calls Tryf.prog 19 #[.pointer (some ⟨b, 0, none⟩)] w fun e w' => ErrAt path l w e w' := by
  have HR : Hid (Rd b path T i l w) := h
  obtain ⟨h0, h1, h2, h3, f2, f3⟩ := h
  clear h0 h3 f2 f3
  have hi' : (i : Int) ≤ (T.size : Int) := by omega
  have HU : Hid (Utf8Tabs 0 1 w) := hU
  clear hU
  go_enter Tryf.func19, Tryf.ntmps19
  go_wp2
  go_region_with (go_at_call 25; refine (Tryf.utf8_DecodeRuneInString (T.extract i T.size) _ ?_).mono ?_; exact HU.out; rintro e w1 ⟨rfl, hb1⟩)
  all_goals
    have hB1 : Below w.heap.size w w1 := (Below.refl w.heap.size w).drew.trans hb1
    generalize decodeGo (T.extract i T.size) = D
    obtain ⟨d1, d2⟩ := D
    have hB2 : Below w.heap.size w (w1.alloc (.cells #[.iface 21 (.int .i32 (d1 : Int))] 20)) := hB1.alloc hB1.size _
    have hF2 : F.answers (w1.alloc (.cells #[.iface 21 (.int .i32 (d1 : Int))] 20)).tape := by rw [hB2.tape]; exact hF
    have cE := rErrorf b path T ⟨#[115, 121, 110, 116, 97, 120, 32, 101, 114, 114, 111, 114, 58, 32, 117, 110, 101, 120, 112, 101, 99, 116, 101, 100, 32, 37, 113]⟩ i l ⟨w1.heap.size, 0, none⟩ 1 1 (w1.alloc (.cells #[.iface 21 (.int .i32 (d1 : Int))] 20)) (HR.out.below hB2 hb) (Nat.lt_of_lt_of_le hb hB2.size) (fun w2 h2 => errorf_one F (d1 : Int) w1.heap.size w2 (by rw [h2.tape]; exact hF2) (by rw [h2.cell (p := ⟨w1.heap.size, 0, none⟩) (by simp)]; simp))
    go_wp2_with fail
    refine cE.mono ?_
    rintro e w3 ⟨a, rfl, k0, k1, hb3⟩
    clear cE
    go_wp2_with fail
    go_ret
    exact ⟨a, rfl, k0, k1, hB2.trans (hb3.mono hB2.size)⟩
end Go.Proofs.Qxb6608704aFmt
