/-
  Seat b6608704aF (sluice). WALKS: take, word.
-/
import Derived.Test.Qxb6608704aFmtWalkA
namespace Go.Proofs.Qxb6608704aFmt
open Go.RowKit

theorem atEnd_true (b : Nat) (T : ByteArray) (i : Int) (w : World) (hi : (T.size : Int) ≤ i) (h1 : w.cell? ⟨b, 1, none⟩ = some (.string T)) (h2 : w.cell? ⟨b, 2, none⟩ = some (.int .i64 i)) :
    Calls Tryf.prog 23 #[.pointer (some ⟨b, 0, none⟩)] w fun e w' => e = .returned (.bool true) ∧ ∃ m, w' = w.drewN m := by
  have h := atEnd_any b T i w h1 h2
  rw [decide_eq_true hi] at h
  exact h
theorem atEnd_false (b : Nat) (T : ByteArray) (i : Int) (w : World) (hi : ¬ (T.size : Int) ≤ i) (h1 : w.cell? ⟨b, 1, none⟩ = some (.string T)) (h2 : w.cell? ⟨b, 2, none⟩ = some (.int .i64 i)) :
    Calls Tryf.prog 23 #[.pointer (some ⟨b, 0, none⟩)] w fun e w' => e = .returned (.bool false) ∧ ∃ m, w' = w.drewN m := by
  have h := atEnd_any b T i w h1 h2
  rw [decide_eq_false hi] at h
  exact h

set_option maxHeartbeats 1000000 in
theorem take_end (w0 : World) (b : Nat) (path T : ByteArray) (i l c : Int) (w : World) (h : To w0 b path T i l w) (hi : (T.size : Int) ≤ i) :
    Calls Tryf.prog 21 #[.pointer (some ⟨b, 0, none⟩), .int .u8 c] w fun e w' => e = .returned (.bool false) ∧ To w0 b path T i l w' := by
  have HT : Hid (To w0 b path T i l w) := h
  obtain ⟨⟨h0, h1, h2, h3, f2, f3⟩, hB⟩ := h
  clear hB h0 h3 f2 f3
  go_enter Tryf.func21, Tryf.ntmps21
  go_wp2
  go_quiet (first | (go_at_call 23; refine Calls.quiet_of (atEnd_true b T i _ hi ?_ ?_) <;> simp [h1, h2]))
  go_wp2
  go_ret
  exact ⟨rfl, HT.out.1, below_drewN HT.out.2 _⟩

set_option maxHeartbeats 1000000 in
theorem take_not (w0 : World) (b : Nat) (path T : ByteArray) (i : Nat) (l c : Int) (w : World) (h : To w0 b path T i l w) (hi : i < T.size) (hc : ((T[i]).toNat : Int) ≠ c) :
    Calls Tryf.prog 21 #[.pointer (some ⟨b, 0, none⟩), .int .u8 c] w fun e w' => e = .returned (.bool false) ∧ To w0 b path T i l w' := by
  have hd : decide ((T.size : Int) ≤ (i : Int)) = false := by simp; omega
  have hd' : decide (T.size ≤ i) = false := by simp; omega
  have hi' : (i : Int) < (T.size : Int) := by omega
  have hq : (((T[i]).toNat : Int) != c) = true := by simp; exact hc
  have hq' : (((T[i]).toNat : Int) == c) = false := by simp; exact hc
  have HT : Hid (To w0 b path T i l w) := h
  obtain ⟨⟨h0, h1, h2, h3, f2, f3⟩, hB⟩ := h
  clear hB h0 h3 f2 f3
  go_enter Tryf.func21, Tryf.ntmps21
  go_wp2
  go_quiet (first | (go_at_call 23; refine Calls.quiet_of (atEnd_false b T i _ (by omega) ?_ ?_) <;> simp [h1, h2]))
  go_wp2
  go_ret
  exact ⟨rfl, HT.out.1, below_drewN HT.out.2 _⟩

set_option maxHeartbeats 1000000 in
theorem take_yes (w0 : World) (b : Nat) (path T : ByteArray) (i : Nat) (l c : Int) (w : World) (hb0 : w0.heap.size ≤ b) (h : To w0 b path T i l w) (hT : T.size ≤ maxLen) (hi : i < T.size) (hl : 0 ≤ l) (hl' : l ≤ 4294967296) (hc : ((T[i]).toNat : Int) = c) :
    Calls Tryf.prog 21 #[.pointer (some ⟨b, 0, none⟩), .int .u8 c] w fun e w' => e = .returned (.bool true) ∧ To w0 b path T ((i + 1 : Nat) : Int) (lineAt T[i] l) w' := by
  have hd : decide ((T.size : Int) ≤ (i : Int)) = false := by simp; omega
  have hd' : decide (T.size ≤ i) = false := by simp; omega
  have hi' : (i : Int) < (T.size : Int) := by omega
  have hq : (((T[i]).toNat : Int) != c) = false := by simp; exact hc
  have hq' : (((T[i]).toNat : Int) == c) = true := by simp; exact hc
  have cN := fun n => next_any w0 b path T i l (w.drewN n) hb0 hT hi hl hl' ⟨h.1, below_drewN h.2 n⟩
  obtain ⟨⟨h0, h1, h2, h3, f2, f3⟩, hB⟩ := h
  clear hc hB h0 h3 f2 f3
  generalize lineAt T[i] l = L at *
  go_enter Tryf.func21, Tryf.ntmps21
  go_wp2
  go_quiet (first | (go_at_call 23; refine Calls.quiet_of (atEnd_false b T i _ (by omega) ?_ ?_) <;> simp [h1, h2]))
  go_wp2_with fail
  refine (cN _).mono ?_
  rintro e w1 ⟨rfl, hTo⟩
  go_wp2_with fail
  go_ret
  exact ⟨rfl, hTo⟩

/-- How many bytes of l open it that p takes. -/
def run (p : UInt8 → Bool) (l : List UInt8) : Nat := (l.takeWhile p).length
theorem drop_at (s : ByteArray) (k : Nat) (h : k < s.size) : s.data.toList.drop k = s[k] :: s.data.toList.drop (k + 1) := by
  rw [List.drop_eq_getElem_cons (by simpa using h)]; rfl
theorem run_at (p : UInt8 → Bool) (s : ByteArray) (k : Nat) (h : k < s.size) : run p (s.data.toList.drop k) = if p s[k] then run p (s.data.toList.drop (k + 1)) + 1 else 0 := by
  rw [drop_at s k h]
  unfold run
  rw [List.takeWhile_cons]
  split <;> rfl
theorem run_end (p : UInt8 → Bool) (s : ByteArray) (k : Nat) (h : s.size ≤ k) : run p (s.data.toList.drop k) = 0 := by
  rw [List.drop_eq_nil_of_le (by simpa using h)]; rfl
/-- The reader's place, out of memory. -/
def offOf (b : Nat) (w : World) : Nat := (intOf ((w.cell? ⟨b, 2, none⟩).getD .nilIface)).toNat
theorem offOf_eq {w0 : World} {b : Nat} {path T : ByteArray} {i : Nat} {l : Int} {w : World} (h : To w0 b path T i l w) : offOf b w = i := by
  unfold offOf
  rw [h.1.2.2.1]
  simp [intOf]

set_option maxRecDepth 100000 in
set_option maxHeartbeats 1000000 in
theorem word_any (w0 : World) (b : Nat) (path T : ByteArray) (i : Nat) (l : Int) (w : World) (hb0 : w0.heap.size ≤ b) (h : To w0 b path T i l w) (hT : T.size ≤ maxLen) (hi : i ≤ T.size) :
    Calls Tryf.prog 18 #[.pointer (some ⟨b, 0, none⟩)] w fun e w' => e = .returned (.string (T.extract i (i + run nm (T.data.toList.drop i)))) ∧ To w0 b path T ((i + run nm (T.data.toList.drop i) : Nat) : Int) l w' := by
  have hz := hT
  unfold maxLen at hT
  have HT : Hid (To w0 b path T i l w) := h
  obtain ⟨⟨h0, h1, h2, h3, f2, f3⟩, hB⟩ := h
  clear hB h0 h1 h3 f2 f3
  generalize hN : i + run nm (T.data.toList.drop i) = N
  have HN : Hid (i + run nm (T.data.toList.drop i) = N) := hN
  clear hN
  go_enter Tryf.func18, Tryf.ntmps18
  go_wp2
  go_loopw [] (fun wr => ∃ k : Nat, i ≤ k ∧ k ≤ T.size ∧ Hid (To w0 b path T k l wr) ∧ Hid (k + run nm (T.data.toList.drop k) = N)) (fun wr => T.size - offOf b wr)
  case atStart => exact ⟨i, by omega, hi, HT.out, HN.out⟩
  case round =>
    obtain ⟨k, hik, hk, HTo, HR⟩ := hrel
    have hoff := offOf_eq HTo.out
    have hcs := HTo.out.1
    obtain ⟨c0, c1, c2, c3, f2, f3⟩ := hcs
    clear c0 c3 f3
    by_cases hlt : k < T.size
    · have hd : decide ((T.size : Int) ≤ (k : Int)) = false := by simp; omega
      have hd' : decide (T.size ≤ k) = false := by simp; omega
      have hk' : (k : Int) < (T.size : Int) := by omega
      have hra := run_at nm T k hlt
      cases hq : nm T[k] with
      | true =>
        rw [hq, if_pos rfl] at hra
        have H2 : Hid (k + 1 + run nm (T.data.toList.drop (k + 1)) = N) := by show _ = _; rw [← HR.out, hra]; omega
        clear hra
        have cW : ∀ w, Calls Tryf.prog 24 #[.int .u8 (T[k]).toNat] w fun e w' => e = .returned (.bool true) ∧ w' = w := fun w => by have := isWordByte_any T[k] w; rw [hq] at this; exact this
        go_wp2
        go_quiet (first | (go_at_call 23; refine Calls.quiet_of (atEnd_false b T k _ (by omega) ?_ ?_) <;> simp [c1, c2]) | (go_at_call 24; exact Calls.quiet_of_same (cW _)))
        go_wp2
        go_roundw
        case rel => exact ⟨k + 1, by omega, by omega, ⟨(Rd.drewN HTo.out.1 nq).set2 _, (below_drewN HTo.out.2 nq).setCell hb0 _⟩, H2.out⟩
        case measure =>
          have hm : offOf b ((wr.drewN nq).setCell ⟨b, 2, none⟩ (.int .i64 ((k : Int) + 1))) = k + 1 := offOf_eq (w0 := w0) (path := path) (T := T) (l := l) ⟨(Rd.drewN HTo.out.1 nq).set2 _, (below_drewN HTo.out.2 nq).setCell hb0 _⟩
          rw [hm, hoff]
          omega
      | false =>
        rw [hq] at hra
        have H2 : Hid (k = N) := by show _ = _; rw [← HR.out, hra]; simp
        clear hra
        have cW : ∀ w, Calls Tryf.prog 24 #[.int .u8 (T[k]).toNat] w fun e w' => e = .returned (.bool false) ∧ w' = w := fun w => by have := isWordByte_any T[k] w; rw [hq] at this; exact this
        go_wp2
        go_quiet (first | (go_at_call 23; refine Calls.quiet_of (atEnd_false b T k _ (by omega) ?_ ?_) <;> simp [c1, c2]) | (go_at_call 24; exact Calls.quiet_of_same (cW _)))
        go_wp2
        go_quiet (fail)
        go_wp2
        go_ret
        obtain rfl := H2.out
        exact ⟨rfl, HTo.out.1, below_drewN (below_drewN HTo.out.2 _) _⟩
    · have H2 : Hid (k = N) := by show _ = _; rw [← HR.out, run_end nm T k (by omega)]; simp
      go_wp2
      go_quiet (first | (go_at_call 23; refine Calls.quiet_of (atEnd_true b T k _ (by omega) ?_ ?_) <;> simp [c1, c2]))
      go_wp2
      go_quiet (fail)
      go_wp2
      go_ret
      obtain rfl := H2.out
      exact ⟨rfl, HTo.out.1, below_drewN (below_drewN HTo.out.2 _) _⟩
end Go.Proofs.Qxb6608704aFmt
