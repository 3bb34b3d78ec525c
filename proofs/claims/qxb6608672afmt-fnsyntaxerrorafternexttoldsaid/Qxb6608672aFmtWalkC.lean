/-
  Seat b6608672aF (tabulon). WALK: quoted.
-/
import Derived.Test.Qxb6608672aFmtWalkB
namespace Go.Proofs.Qxb6608672aFmt
open Go.RowKit

theorem writeByte (B b : Nat) (l : List UInt8) (c : UInt8) (w : World) (h : Lib.IsBuilder 71 5 B b (Lib.byteCells l) w) (hlen : l.length ≤ 1000000000) (hBw : B ≤ w.heap.size) :
    Calls Tryf.prog 35 #[.pointer (some ⟨b, 0, none⟩), .int .u8 c.toNat] w fun e w' => e = .returned .nilIface ∧ Lib.IsBuilder 71 5 B b (Lib.byteCells (l ++ [c])) w' ∧ Below B w w' := by
  refine (Any.Builder_WriteByte (P := Tryf.prog) (ρ := Tryf.lays159_ren) { Tryf.lays159 with } Tryf.Builder_Extra_159 B b (Lib.byteCells l) c.toNat w h (by rw [Lib.byteCells_length]; omega) hBw).mono ?_
  rintro e w' ⟨rfl, h1, h2⟩
  refine ⟨rfl, Or.inr ?_, h2⟩
  have e1 : Lib.byteCells (l ++ [c]) = Lib.byteCells l ++ [.int .u8 c.toNat] := by simp [Lib.byteCells]
  rw [e1]
  exact h1

theorem wrap_in (n : Int) (h0 : -9223372036854775808 ≤ n) (h1 : n ≤ 9223372036854775807) : IntKind.i64.wrap n = n := by rw [IntKind.wrap_i64]; omega

theorem quo_at (q : UInt8) (s : ByteArray) (k : Nat) (h : k < s.size) : Lx.quo q (s.data.toList.drop k) =
    if s[k] == q then (if hk : k + 1 < s.size then (if s[k + 1] == q then (Lx.quo q (s.data.toList.drop (k + 2))).map fun x => (q :: x.1, x.2 + 2) else some ([], 1)) else some ([], 1))
    else (Lx.quo q (s.data.toList.drop (k + 1))).map fun x => (s[k] :: x.1, x.2 + 1) := by
  rw [drop_at s k h]
  by_cases hk : k + 1 < s.size
  · rw [drop_at s (k + 1) hk, Lx.quo, dif_pos hk]
  · rw [List.drop_eq_nil_of_le (by simp; omega), dif_neg hk]
    split
    · rename_i hq; simp [Lx.quo, hq]
    · rename_i hq; simp [Lx.quo, hq]

/-- What quoted answers, in the walk's words. -/
def QAns (q : UInt8) (s : ByteArray) (e : Ending) : Prop :=
  match Lx.quo q (s.data.toList.drop 1) with
  | none => e = .returned (.tuple #[.string ⟨#[]⟩, .string ⟨#[]⟩, .bool false])
  | some x => e = .returned (.tuple #[.string ⟨x.1.toArray⟩, .string (s.extract 0 (x.2 + 1)), .bool true])
def QRel (q : UInt8) (s : ByteArray) (k : Nat) (acc : List UInt8) : Prop :=
  Lx.quo q (s.data.toList.drop 1) = (Lx.quo q (s.data.toList.drop k)).map fun x => (acc ++ x.1, x.2 + (k - 1))

theorem qrel_more {q : UInt8} {s : ByteArray} {k : Nat} {acc : List UInt8} (hk1 : 1 ≤ k) (h : k < s.size) (H : QRel q s k acc) (hq : ¬ s[k] = q) : QRel q s (k + 1) (acc ++ [s[k]]) := by
  unfold QRel at *
  rw [H, quo_at q s k h, if_neg (by simpa using hq), Option.map_map]
  congr 1
  funext x
  simp
  omega
theorem qrel_two {q : UInt8} {s : ByteArray} {k : Nat} {acc : List UInt8} (hk1 : 1 ≤ k) (h : k < s.size) (h2 : k + 1 < s.size) (H : QRel q s k acc) (hq : s[k] = q) (hq2 : s[k + 1] = q) : QRel q s (k + 2) (acc ++ [q]) := by
  unfold QRel at *
  rw [H, quo_at q s k h, if_pos (by simpa using hq), dif_pos h2, if_pos (by simpa using hq2), Option.map_map]
  congr 1
  funext x
  simp
  omega
theorem qrel_end {q : UInt8} {s : ByteArray} {k : Nat} {acc : List UInt8} (hk1 : 1 ≤ k) (h : k < s.size) (H : QRel q s k acc) (hq : s[k] = q) (hq2 : ∀ h2 : k + 1 < s.size, ¬ s[k + 1] = q) : Lx.quo q (s.data.toList.drop 1) = some (acc, k) := by
  unfold QRel at *
  rw [H, quo_at q s k h, if_pos (by simpa using hq)]
  have : (if hk : k + 1 < s.size then (if s[k + 1] == q then (Lx.quo q (s.data.toList.drop (k + 2))).map fun x => (q :: x.1, x.2 + 2) else some ([], 1)) else some ([], 1)) = some ([], 1) := by
    by_cases h2 : k + 1 < s.size
    · rw [dif_pos h2, if_neg (by simpa using hq2 h2)]
    · rw [dif_neg h2]
  rw [this]
  simp
  omega

theorem qans_none {q : UInt8} {s : ByteArray} (h : Lx.quo q (s.data.toList.drop 1) = none) : QAns q s (.returned (.tuple #[.string ⟨#[]⟩, .string ⟨#[]⟩, .bool false])) := by
  unfold QAns; rw [h]
theorem qans_some {q : UInt8} {s : ByteArray} {acc : List UInt8} {k : Nat} (h : Lx.quo q (s.data.toList.drop 1) = some (acc, k)) : QAns q s (.returned (.tuple #[.string ⟨acc.toArray⟩, .string (s.extract 0 (k + 1)), .bool true])) := by
  unfold QAns; rw [h]

set_option maxHeartbeats 1000000 in
theorem quoted_any (q : UInt8) (s : ByteArray) (w : World) (hs : s.size ≤ 1000000000) (h1 : 1 ≤ s.size) :
    Calls Tryf.prog 27 #[.string s, .int .u8 q.toNat] w fun e w' => QAns q s e ∧ Below w.heap.size w w' := by
  go_enter Tryf.func27, Tryf.ntmps27
  go_wp2
  go_loopw [8] (fun j wr => ∃ (k : Nat) (acc : List UInt8), 1 ≤ k ∧ k ≤ s.size ∧ j = .int .i64 k ∧ acc.length ≤ k ∧ Hid (QRel q s k acc) ∧ Hid (Lib.IsBuilder 71 5 w.heap.size w.heap.size (Lib.byteCells acc) wr) ∧ Below w.heap.size w wr) (fun j _ => s.size - (intOf j).toNat)
  case atStart => exact ⟨1, [], Nat.le_refl _, h1, rfl, by simp, by unfold QRel; simp [Hid], Lib.fresh_isBuilder 71 5 w, (Below.refl _ _).alloc (Nat.le_refl _) _⟩
  case round =>
    obtain ⟨k, acc, hk1, hk, rfl, hacc, HQ, HB, hbel⟩ := hrel
    have hBw := hbel.size
    by_cases hlt : k < s.size
    · have hlz : (k : Int) < (s.size : Int) := by omega
      have hlz1 : (k : Int) + 1 ≤ (s.size : Int) := by omega
      have hlz0 : 0 ≤ (k : Int) + 1 := by omega
      by_cases hq : s[k] = q
      · have hne : ((s[k].toNat : Int) != (q.toNat : Int)) = false := by rw [hq]; simp
        by_cases h2 : k + 1 < s.size
        · have h2z : (k : Int) + 1 < (s.size : Int) := by omega
          by_cases hq2 : s[k + 1] = q
          · have he2 : ((s[k + 1].toNat : Int) == (q.toNat : Int)) = true := by rw [hq2]; simp
            have HQ2 : Hid (QRel q s (k + 2) (acc ++ [q])) := qrel_two hk1 hlt h2 HQ.out hq hq2
            have cW := writeByte w.heap.size w.heap.size acc q wr HB.out (by omega) hBw
            clear hq hq2 HQ HB
            go_wp2_with fail
            refine cW.mono ?_
            rintro e w1 ⟨rfl, hb1, hb2⟩
            go_wp2
            exact ⟨⟨k + 2, acc ++ [q], by omega, by omega, by go_num, by simp; omega, HQ2, hb1, hbel.trans hb2⟩, by simp [intOf]; omega⟩
          · have he2 : ((s[k + 1].toNat : Int) == (q.toNat : Int)) = false := by
              simp only [beq_eq_false_iff_ne, ne_eq, Int.natCast_inj, UInt8.toNat_inj]; exact hq2
            have HE : Hid (Lx.quo q (s.data.toList.drop 1) = some (acc, k)) := qrel_end hk1 hlt HQ.out hq fun _ => hq2
            clear hq hq2 HQ
            go_wp2
            have hwr := wrap_in ((k : Int) + 1) (by omega) (by omega)
            go_region_with (go_at_call 36; refine (Tryf.Builder_String_any w.heap.size w.heap.size acc _ ?_ ?_).mono ?_; exact HB.out; exact hBw; rintro e w1 ⟨rfl, hb2⟩)
            all_goals
              go_wp2
              go_ret3
              refine ⟨qans_some HE.out, ?_⟩
              exact hbel.drew.trans hb2
        · have h2z : decide ((k : Int) + 1 < (s.size : Int)) = false := by simp; omega
          have HE : Hid (Lx.quo q (s.data.toList.drop 1) = some (acc, k)) := qrel_end hk1 hlt HQ.out hq fun h => absurd h h2
          clear hq HQ
          go_wp2
          have hwr := wrap_in ((k : Int) + 1) (by omega) (by omega)
          go_region_with (go_at_call 36; refine (Tryf.Builder_String_any w.heap.size w.heap.size acc _ ?_ ?_).mono ?_; exact HB.out; exact hBw; rintro e w1 ⟨rfl, hb2⟩)
          all_goals
            go_wp2
            go_ret3
            refine ⟨qans_some HE.out, ?_⟩
            exact hbel.drew.trans hb2
      · have hne : ((s[k].toNat : Int) != (q.toNat : Int)) = true := by
          simp only [bne_iff_ne, ne_eq, Int.natCast_inj, UInt8.toNat_inj]; exact hq
        have HQ2 : Hid (QRel q s (k + 1) (acc ++ [s[k]])) := qrel_more hk1 hlt HQ.out hq
        have cW := writeByte w.heap.size w.heap.size acc s[k] wr HB.out (by omega) hBw
        clear hq HQ HB
        go_wp2_with fail
        refine cW.mono ?_
        rintro e w1 ⟨rfl, hb1, hb2⟩
        go_wp2
        exact ⟨⟨k + 1, acc ++ [s[k]], by omega, by omega, by go_num, by simp; omega, HQ2, hb1, hbel.trans hb2⟩, by simp [intOf]; omega⟩
    · have HE : Hid (Lx.quo q (s.data.toList.drop 1) = none) := by
        have := HQ.out
        unfold QRel at this
        rw [List.drop_eq_nil_of_le (i := k) (by simp; omega)] at this
        exact this
      go_wp2
      go_ret3
      exact ⟨qans_none HE.out, hbel⟩
end Go.Proofs.Qxb6608672aFmt
