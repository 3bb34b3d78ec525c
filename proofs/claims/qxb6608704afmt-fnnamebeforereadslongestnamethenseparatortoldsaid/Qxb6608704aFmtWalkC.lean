/-
  Seat b6608704aF (sluice). WALK: skipSpace.
-/
import Derived.Test.Qxb6608704aFmtWalkB
namespace Go.Proofs.Qxb6608704aFmt
open Go.RowKit

/-- How many bytes blanks and comments take; the flag: inside a comment. -/
def sk : Bool → List UInt8 → Nat
  | _, [] => 0
  | true, b :: t => if b = 10 then 1 + sk false t else 1 + sk true t
  | false, b :: t => if blk b then 1 + sk false t else if b = 35 then 1 + sk true t else 0
/-- Line ends. -/
def nl (l : List UInt8) : Nat := l.countP (· == 10)
theorem lineAt_eq (b : UInt8) (l : Int) : lineAt b l = l + (if b = 10 then 1 else 0) := by
  unfold lineAt
  have : b.toNat = 10 ↔ b = 10 := by rw [← UInt8.toNat_inj]; rfl
  simp only [this]
  split <;> omega
theorem nl_cons (b : UInt8) (t : List UInt8) : (nl (b :: t) : Int) = (if b = 10 then 1 else 0) + nl t := by
  unfold nl
  rw [List.countP_cons]
  by_cases h : b = 10
  · simp [h]; omega
  · simp [h]

/-- From place k on line lk the reader will stop at place N on line L. -/
def SR (fl : Bool) (T : ByteArray) (k : Nat) (lk : Int) (N : Nat) (L : Int) : Prop :=
  k + sk fl (T.data.toList.drop k) = N ∧ lk + nl ((T.data.toList.drop k).take (sk fl (T.data.toList.drop k))) = L

theorem sr_step {fl fl' : Bool} {T : ByteArray} {k : Nat} {lk : Int} {N : Nat} {L : Int} (hk : k < T.size) (h : SR fl T k lk N L) (hs : sk fl (T[k] :: T.data.toList.drop (k + 1)) = 1 + sk fl' (T.data.toList.drop (k + 1))) : SR fl' T (k + 1) (lineAt T[k] lk) N L := by
  obtain ⟨h1, h2⟩ := h
  rw [drop_at T k hk] at h1 h2
  rw [hs] at h1 h2
  refine ⟨by omega, ?_⟩
  rw [← h2, show 1 + sk fl' (T.data.toList.drop (k + 1)) = sk fl' (T.data.toList.drop (k + 1)) + 1 from by omega, List.take_succ_cons, nl_cons, lineAt_eq]
  omega
theorem sr_blank {T : ByteArray} {k : Nat} {lk : Int} {N : Nat} {L : Int} (hk : k < T.size) (hb : blk T[k] = true) (h : SR false T k lk N L) : SR false T (k + 1) (lineAt T[k] lk) N L :=
  sr_step hk h (by simp [sk, hb])
theorem not_blank_hash : blk 35 = false := by decide
theorem sr_hash {T : ByteArray} {k : Nat} {lk : Int} {N : Nat} {L : Int} (hk : k < T.size) (hb : T[k] = 35) (h : SR false T k lk N L) : SR true T k lk N L := by
  have e : sk true (T.data.toList.drop k) = sk false (T.data.toList.drop k) := by
    rw [drop_at T k hk, hb]
    simp [sk, not_blank_hash]
  unfold SR at h ⊢
  rw [e]
  exact h
theorem sr_in {T : ByteArray} {k : Nat} {lk : Int} {N : Nat} {L : Int} (hk : k < T.size) (hb : ¬ T[k] = 10) (h : SR true T k lk N L) : SR true T (k + 1) (lineAt T[k] lk) N L :=
  sr_step hk h (by simp [sk, hb])
theorem sr_out {T : ByteArray} {k : Nat} {lk : Int} {N : Nat} {L : Int} (hb : ∀ hk : k < T.size, T[k] = 10) (h : SR true T k lk N L) : SR false T k lk N L := by
  have e : sk false (T.data.toList.drop k) = sk true (T.data.toList.drop k) := by
    by_cases hk : k < T.size
    · rw [drop_at T k hk, hb hk]
      simp [sk, show blk 10 = true from by decide]
    · rw [List.drop_eq_nil_of_le (by simpa using hk)]
      simp [sk]
  unfold SR at h ⊢
  rw [e]
  exact h
theorem sr_stop {T : ByteArray} {k : Nat} {lk : Int} {N : Nat} {L : Int} (hk : k < T.size) (hb : blk T[k] = false) (hh : ¬ T[k] = 35) (h : SR false T k lk N L) : k = N ∧ lk = L := by
  obtain ⟨h1, h2⟩ := h
  rw [drop_at T k hk] at h1 h2
  simp [sk, hb, hh, nl] at h1 h2
  exact ⟨h1, h2⟩
theorem sr_end {T : ByteArray} {k : Nat} {lk : Int} {N : Nat} {L : Int} (hk : ¬ k < T.size) (h : SR false T k lk N L) : k = N ∧ lk = L := by
  obtain ⟨h1, h2⟩ := h
  rw [List.drop_eq_nil_of_le (by simpa using hk)] at h1 h2
  simp [sk, nl] at h1 h2
  exact ⟨h1, h2⟩
theorem line_range (b : UInt8) (l : Int) : l ≤ lineAt b l ∧ lineAt b l ≤ l + 1 := by
  unfold lineAt; split <;> omega
theorem byte_eq {c : UInt8} {n : Nat} (h : c.toNat = n) (hn : n < 256) : c = UInt8.ofNat n := by
  rw [← UInt8.toNat_inj, UInt8.toNat_ofNat', h]; omega

set_option maxRecDepth 100000 in
set_option maxHeartbeats 2000000 in
theorem skip_any (w0 : World) (b : Nat) (path T : ByteArray) (i : Nat) (l : Int) (N : Nat) (L : Int) (w : World) (hb0 : w0.heap.size ≤ b) (h : To w0 b path T i l w) (hT : T.size ≤ 1048576) (hi : i ≤ T.size) (hl : 0 ≤ l) (hl' : l ≤ 1073741824 + i) (hS : SR false T i l N L) :
    Calls Tryf.prog 20 #[.pointer (some ⟨b, 0, none⟩)] w fun e w' => e = .returned (.tuple #[]) ∧ To w0 b path T N L w' := by
  have HT : Hid (To w0 b path T i l w) := h
  have HS : Hid (SR false T i l N L) := hS
  have hz : T.size ≤ maxLen := by unfold maxLen; omega
  clear h hS
  go_enter Tryf.func20, Tryf.ntmps20
  go_wp2_with fail
  go_loopw [] (fun wr => ∃ (k : Nat) (lk : Int), k ≤ T.size ∧ 0 ≤ lk ∧ lk ≤ 1073741824 + k ∧ Hid (To w0 b path T k lk wr) ∧ Hid (SR false T k lk N L)) (fun wr => T.size - offOf b wr)
  case atStart => exact ⟨i, l, hi, hl, hl', HT.out, HS.out⟩
  case round =>
    obtain ⟨k, lk, hk, hlk, hlk', HTo, HR⟩ := hrel
    clear HT HS
    have hoff := offOf_eq HTo.out
    have hcs := HTo.out.1
    obtain ⟨c0, c1, c2, c3, f2, f3⟩ := hcs
    clear c0 c3 f2 f3
    by_cases hlt : k < T.size
    · have hk' : (k : Int) < (T.size : Int) := by omega
      have cE := atEnd_false b T k wr (by omega) c1 c2
      go_wp2_with fail
      refine cE.mono ?_
      rintro e w1 ⟨rfl, m, rfl⟩
      have HTo1 : Hid (∀ n, To w0 b path T k lk (wr.drewN n)) := fun n => ⟨HTo.out.1, below_drewN HTo.out.2 _⟩
      have hlr := line_range T[k] lk
      go_wp2_with fail
      go_quiet (fail)
      have hcase : (T[k]).toNat = 32 ∨ (T[k]).toNat = 9 ∨ (T[k]).toNat = 13 ∨ (T[k]).toNat = 10 ∨ (T[k]).toNat = 35 ∨ ((T[k]).toNat ≠ 32 ∧ (T[k]).toNat ≠ 9 ∧ (T[k]).toNat ≠ 13 ∧ (T[k]).toNat ≠ 10 ∧ (T[k]).toNat ≠ 35) := by omega
      rcases hcase with hv | hv | hv | hv | hv | hv
      · have hblk : blk T[k] = true := by rw [blk_iff]; omega
        have e32 : (((T[k]).toNat : Int) == 32) = true := by simp; omega
        have HS2 : Hid (SR false T (k + 1) (lineAt T[k] lk) N L) := sr_blank hlt hblk HR.out
        have cN := next_any w0 b path T k lk _ hb0 hz hlt hlk (by omega) (HTo1.out (m + nq))
        clear hv hblk
        go_wp2_with fail
        refine cN.mono ?_
        rintro e w2 ⟨rfl, hTo2⟩
        clear cN
        have hm := offOf_eq hTo2
        have HT2 : Hid _ := hTo2
        clear hTo2
        go_wp2_with fail
        go_roundw
        case rel => exact ⟨k + 1, lineAt T[k] lk, by omega, by omega, by omega, HT2.out, HS2.out⟩
        case measure => rw [hm, hoff]; omega
      · have hblk : blk T[k] = true := by rw [blk_iff]; omega
        have e32 : (((T[k]).toNat : Int) == 32) = false := by simp; omega
        have e9 : (((T[k]).toNat : Int) == 9) = true := by simp; omega
        have HS2 : Hid (SR false T (k + 1) (lineAt T[k] lk) N L) := sr_blank hlt hblk HR.out
        have cN := next_any w0 b path T k lk _ hb0 hz hlt hlk (by omega) (HTo1.out (m + nq))
        clear hv hblk
        go_wp2_with fail
        refine cN.mono ?_
        rintro e w2 ⟨rfl, hTo2⟩
        clear cN
        have hm := offOf_eq hTo2
        have HT2 : Hid _ := hTo2
        clear hTo2
        go_wp2_with fail
        go_roundw
        case rel => exact ⟨k + 1, lineAt T[k] lk, by omega, by omega, by omega, HT2.out, HS2.out⟩
        case measure => rw [hm, hoff]; omega
      · have hblk : blk T[k] = true := by rw [blk_iff]; omega
        have e32 : (((T[k]).toNat : Int) == 32) = false := by simp; omega
        have e9 : (((T[k]).toNat : Int) == 9) = false := by simp; omega
        have e13 : (((T[k]).toNat : Int) == 13) = true := by simp; omega
        have HS2 : Hid (SR false T (k + 1) (lineAt T[k] lk) N L) := sr_blank hlt hblk HR.out
        have cN := next_any w0 b path T k lk _ hb0 hz hlt hlk (by omega) (HTo1.out (m + nq))
        clear hv hblk
        go_wp2_with fail
        refine cN.mono ?_
        rintro e w2 ⟨rfl, hTo2⟩
        clear cN
        have hm := offOf_eq hTo2
        have HT2 : Hid _ := hTo2
        clear hTo2
        go_wp2_with fail
        go_roundw
        case rel => exact ⟨k + 1, lineAt T[k] lk, by omega, by omega, by omega, HT2.out, HS2.out⟩
        case measure => rw [hm, hoff]; omega
      · have hblk : blk T[k] = true := by rw [blk_iff]; omega
        have e32 : (((T[k]).toNat : Int) == 32) = false := by simp; omega
        have e9 : (((T[k]).toNat : Int) == 9) = false := by simp; omega
        have e13 : (((T[k]).toNat : Int) == 13) = false := by simp; omega
        have e10 : (((T[k]).toNat : Int) == 10) = true := by simp; omega
        have HS2 : Hid (SR false T (k + 1) (lineAt T[k] lk) N L) := sr_blank hlt hblk HR.out
        have cN := next_any w0 b path T k lk _ hb0 hz hlt hlk (by omega) (HTo1.out (m + nq))
        clear hv hblk
        go_wp2_with fail
        refine cN.mono ?_
        rintro e w2 ⟨rfl, hTo2⟩
        clear cN
        have hm := offOf_eq hTo2
        have HT2 : Hid _ := hTo2
        clear hTo2
        go_wp2_with fail
        go_roundw
        case rel => exact ⟨k + 1, lineAt T[k] lk, by omega, by omega, by omega, HT2.out, HS2.out⟩
        case measure => rw [hm, hoff]; omega
      · have H35 : Hid (T[k] = 35) := byte_eq hv (by decide)
        have e32 : (((T[k]).toNat : Int) == 32) = false := by simp; omega
        have e9 : (((T[k]).toNat : Int) == 9) = false := by simp; omega
        have e13 : (((T[k]).toNat : Int) == 13) = false := by simp; omega
        have e10 : (((T[k]).toNat : Int) == 10) = false := by simp; omega
        have e35 : (((T[k]).toNat : Int) == 35) = true := by simp; omega
        have HS2 : Hid (SR true T k lk N L) := sr_hash hlt H35.out HR.out
        clear hv
        go_wp2_with fail
        go_loopw [] (fun wr => ∃ (k2 : Nat) (l2 : Int), k ≤ k2 ∧ k2 ≤ T.size ∧ 0 ≤ l2 ∧ l2 ≤ 1073741824 + k2 ∧ Hid (To w0 b path T k2 l2 wr) ∧ Hid (SR true T k2 l2 N L)) (fun wr => T.size - offOf b wr)
        case atStart => exact ⟨k, lk, by omega, hk, hlk, hlk', HTo1.out _, HS2.out⟩
        case round =>
          obtain ⟨k2, l2, hkk, hk2, hl2, hl2', HTo2, HR2⟩ := hrel
          clear HS2 HTo1 HR
          have hoff2 := offOf_eq HTo2.out
          have hcs := HTo2.out.1
          obtain ⟨d0, d1, d2, d3, g2, g3⟩ := hcs
          clear d0 d3 g2 g3
          by_cases hlt2 : k2 < T.size
          · have hk2' : (k2 : Int) < (T.size : Int) := by omega
            by_cases hten : (T[k2]).toNat = 10
            · have hq : (((T[k2]).toNat : Int) != 10) = false := by simp; omega
              have hq' : (((T[k2]).toNat : Int) == 10) = true := by simp; omega
              have HS3 : Hid (SR false T k2 l2 N L) := sr_out (fun _ => byte_eq hten (by decide)) HR2.out
              have hne : k2 ≠ k := fun h => by subst h; rw [H35.out] at hten; exact absurd hten (by decide)
              clear hten
              go_wp2
              go_quiet (first | (go_at_call 23; refine Calls.quiet_of (atEnd_false b T k2 _ (by omega) ?_ ?_) <;> simp [d1, d2]))
              go_wp2
              go_roundw
              case rel => exact ⟨k2, l2, hk2, hl2, hl2', ⟨HTo2.out.1, below_drewN HTo2.out.2 _⟩, HS3.out⟩
              case measure => rw [show ∀ (v : World) (n : Nat), offOf b (v.drewN n) = offOf b v from fun _ _ => rfl, hoff2, hoff]; omega
            · have hq : (((T[k2]).toNat : Int) != 10) = true := by simp; omega
              have hq' : (((T[k2]).toNat : Int) == 10) = false := by simp; omega
              have HS3 : Hid (SR true T (k2 + 1) (lineAt T[k2] l2) N L) := sr_in hlt2 (fun h => hten (by rw [h]; rfl)) HR2.out
              have hlr2 := line_range T[k2] l2
              have cN := fun n => next_any w0 b path T k2 l2 (wr.drewN n) hb0 hz hlt2 hl2 (by omega) ⟨HTo2.out.1, below_drewN HTo2.out.2 _⟩
              clear hten
              go_wp2
              go_quiet (first | (go_at_call 23; refine Calls.quiet_of (atEnd_false b T k2 _ (by omega) ?_ ?_) <;> simp [d1, d2]))
              go_wp2_with fail
              refine (cN _).mono ?_
              rintro e w2 ⟨rfl, hTo3⟩
              clear cN
              have hm := offOf_eq hTo3
              have HT3 : Hid _ := hTo3
              clear hTo3
              go_wp2_with fail
              go_roundw
              case rel =>
                exact ⟨k2 + 1, lineAt T[k2] l2, by omega, by omega, by omega, by omega, HT3.out, HS3.out⟩
              case measure => rw [hm, hoff2]; omega
          · have HS3 : Hid (SR false T k2 l2 N L) := sr_out (fun h => absurd h hlt2) HR2.out
            have hne : k2 ≠ k := by omega
            go_wp2
            go_quiet (first | (go_at_call 23; refine Calls.quiet_of (atEnd_true b T k2 _ (by omega) ?_ ?_) <;> simp [d1, d2]))
            go_wp2
            go_roundw
            case rel => exact ⟨k2, l2, hk2, hl2, hl2', ⟨HTo2.out.1, below_drewN HTo2.out.2 _⟩, HS3.out⟩
            case measure => rw [show ∀ (v : World) (n : Nat), offOf b (v.drewN n) = offOf b v from fun _ _ => rfl, hoff2, hoff]; omega
      · have hblk : blk T[k] = false := by cases hbb : blk T[k] with | false => rfl | true => rw [blk_iff] at hbb; omega
        have h35 : ¬ T[k] = 35 := fun h => by rw [h] at hv; exact hv.2.2.2.2 rfl
        have e32 : (((T[k]).toNat : Int) == 32) = false := by simp; omega
        have e9 : (((T[k]).toNat : Int) == 9) = false := by simp; omega
        have e13 : (((T[k]).toNat : Int) == 13) = false := by simp; omega
        have e10 : (((T[k]).toNat : Int) == 10) = false := by simp; omega
        have e35 : (((T[k]).toNat : Int) == 35) = false := by simp; omega
        have he := sr_stop hlt hblk h35 HR.out
        obtain ⟨rfl, rfl⟩ := he
        clear hv
        go_wp2_with fail
        refine bodyPost_ret (v := .tuple #[]) (by simp [results, Tryf.results20, go_sem]) rfl ⟨rfl, HTo.out.1, below_drewN HTo.out.2 _⟩
    · have cE := atEnd_true b T k wr (by omega) c1 c2
      have he := sr_end hlt HR.out
      obtain ⟨rfl, rfl⟩ := he
      go_wp2_with fail
      refine cE.mono ?_
      rintro e w1 ⟨rfl, m, rfl⟩
      go_wp2_with fail
      refine bodyPost_end (v := .tuple #[]) (by simp [results, Tryf.results20, go_sem]) rfl ⟨rfl, HTo.out.1, below_drewN HTo.out.2 _⟩
end Go.Proofs.Qxb6608704aFmt
