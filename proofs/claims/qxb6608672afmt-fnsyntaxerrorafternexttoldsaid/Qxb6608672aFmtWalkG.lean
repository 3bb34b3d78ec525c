/-
  Seat b6608672aF (tabulon). WALK: lexToken at an identifier.
-/
import Derived.Test.Qxb6608672aFmtWalkE
namespace Go.Proofs.Qxb6608672aFmt
open Go.RowKit Go.Extern.Stop Go.Stop Go.Extern Go.Lib

/-- All old cells, all old marks read as before. -/
theorem bcell {W w1 : World} (hb : Below W.heap.size W w1) : (∀ b o, b < W.heap.size → w1.cell? ⟨b, o, none⟩ = W.cell? ⟨b, o, none⟩) ∧ (∀ b o, b < W.heap.size → w1.frozen? ⟨b, o, none⟩ = W.frozen? ⟨b, o, none⟩) :=
  ⟨fun b o h => hb.cell (p := ⟨b, o, none⟩) h, fun b o h => hb.frozen (p := ⟨b, o, none⟩) h⟩

def TAns (s : ByteArray) (i B : Nat) (e : Ending) (w' : World) : Prop :=
  match Lx.tok (s.data.toList.drop i) with
  | none => ∃ a, e = .returned (.tuple #[.agg #[.int .u8 0, .string ⟨#[]⟩, .string ⟨#[]⟩, .int .i64 0], .iface 39 (.pointer (some ⟨a, 0, none⟩))]) ∧ ErrAt B w' a (i + 1)
  | some x => e = .returned (.tuple #[.agg #[.int .u8 (x.1 : Int), .string ⟨x.2.1.toArray⟩, .string (s.extract i (i + x.2.2)), .int .i64 i], .nilIface])
theorem tans_ok {s : ByteArray} {i m B : Nat} {k : Nat} {t : List UInt8} {w' : World} (h : Lx.tok (s.data.toList.drop i) = some (k, t, m)) :
    TAns s i B (.returned (.tuple #[.agg #[.int .u8 (k : Int), .string ⟨t.toArray⟩, .string (s.extract i (i + m)), .int .i64 i], .nilIface])) w' := by
  unfold TAns; rw [h]
theorem tans_err {s : ByteArray} {i B a : Nat} {w' : World} (h : Lx.tok (s.data.toList.drop i) = none) (hE : ErrAt B w' a (i + 1)) :
    TAns s i B (.returned (.tuple #[.agg #[.int .u8 0, .string ⟨#[]⟩, .string ⟨#[]⟩, .int .i64 0], .iface 39 (.pointer (some ⟨a, 0, none⟩))])) w' := by
  unfold TAns; rw [h]; exact ⟨a, rfl, hE⟩

theorem tans_upto {s : ByteArray} {i k B : Nat} {kd : Nat} {t : List UInt8} {w' : World} (h : Lx.tok (s.data.toList.drop i) = some (kd, t, k - i)) (hik : i ≤ k) :
    TAns s i B (.returned (.tuple #[.agg #[.int .u8 (kd : Int), .string ⟨t.toArray⟩, .string (s.extract i k), .int .i64 i], .nilIface])) w' := by
  have := tans_ok (B := B) (w' := w') h
  rwa [show i + (k - i) = k from by omega] at this

theorem extract_mid (s : ByteArray) (i k : Nat) : (s.extract i k).data.toList = (s.data.toList.drop i).take (k - i) := by
  rw [Lib.extract_data]

theorem toLowerAt (s : ByteArray) (i k : Nat) (w : World) (hs : s.size ≤ 1000000000) (hV : CaseVar 3 caseA w) (hT : Utf8Tabs 0 1 w) :
    Calls Tryf.prog 24 #[.string (s.extract i k)] w fun e w' => e = .returned (.string ⟨(Lib.toLowerD ((s.data.toList.drop i).take (k - i))).toArray⟩) ∧ Below w.heap.size w w' := by
  rw [← extract_mid]
  exact Tryf.strings_ToLower_any _ _ (by simp; omega) hV hT

set_option maxRecDepth 100000 in
set_option maxHeartbeats 4000000 in
theorem lexToken_ident (s : ByteArray) (i : Nat) (w : World) (hV : CaseVar 3 caseA w) (hT : Utf8Tabs 0 1 w) (hs : s.size ≤ 1000000000) (hi : i < s.size) (hid : Lx.idS s[i] = true) :
    Calls Tryf.prog 15 #[.string s, .int .i64 i] w fun e w' => TAns s i w.heap.size e w' ∧ Below w.heap.size w w' := by
  have cI := isIdentStart_any s[i] (w.alloc (.cells #[.int .u8 0, .string ⟨#[]⟩, .string ⟨#[]⟩, .int .i64 0] 34))
  rw [hid] at cI
  have HTok : Hid (Lx.tok (s.data.toList.drop i) = some (1, Lib.toLowerD ((s.data.toList.drop i).take (Lx.run Lx.idC (s.data.toList.drop (i + 1)) + 1)), Lx.run Lx.idC (s.data.toList.drop (i + 1)) + 1)) := by
    show _ = _
    rw [drop_at s i hi, Lx.tok, if_pos hid]
  have hb : Below w.heap.size w (w.alloc (.cells #[.int .u8 0, .string ⟨#[]⟩, .string ⟨#[]⟩, .int .i64 0] 34)).drew := ((Below.refl _ _).alloc (Nat.le_refl _) _).drew
  have hV1 := CaseVar_below hV hb
  have hT1 := Utf8Tabs_below hT hb
  have HV1 : Hid _ := hV1
  have HT1 : Hid _ := hT1
  have hiz : (i : Int) < (s.size : Int) := by omega
  clear hV hT hV1 hT1 hb hid
  go_enter Tryf.func15, Tryf.ntmps15
  go_wp2_with fail
  refine cI.mono ?_
  rintro e w1 ⟨rfl, rfl⟩
  clear cI
  go_wp2
  go_loop [7] (fun t => ∃ k : Nat, i + 1 ≤ k ∧ k ≤ s.size ∧ t = .int .i64 k ∧ Hid (k + Lx.run Lx.idC (s.data.toList.drop k) = i + 1 + Lx.run Lx.idC (s.data.toList.drop (i + 1)))) (fun t => s.size - (intOf t).toNat)
  case atStart => exact ⟨i + 1, Nat.le_refl _, by omega, by go_num, rfl⟩
  case round =>
    obtain ⟨k, hik, hk, rfl, HR⟩ := hrel
    have hikz : (i : Int) ≤ (k : Int) := by omega
    have hkz : (k : Int) ≤ (s.size : Int) := by omega
    by_cases hlk : k < s.size
    · have hlz2 : (k : Int) < (s.size : Int) := by omega
      have cS := isIdentStart_any s[k] (w.alloc (.cells #[.int .u8 0, .string ⟨#[]⟩, .string ⟨#[]⟩, .int .i64 0] 34))
      have hra := run_at Lx.idC s k hlk
      cases hd : Lx.idS s[k] with
      | true =>
        rw [hd] at cS
        have H2 : Hid (k + 1 + Lx.run Lx.idC (s.data.toList.drop (k + 1)) = i + 1 + Lx.run Lx.idC (s.data.toList.drop (i + 1))) := by
          show _ = _
          rw [if_pos (by unfold Lx.idC; rw [hd]; rfl)] at hra
          rw [← HR.out, hra]; omega
        clear hd hra
        go_wp2_with fail
        refine cS.mono ?_
        rintro e w1 ⟨rfl, rfl⟩
        go_wp2
        exact ⟨⟨k + 1, by omega, by omega, by go_num, H2⟩, by simp [intOf]; omega⟩
      | false =>
        rw [hd] at cS
        have cG := isDigit_any s[k] (w.alloc (.cells #[.int .u8 0, .string ⟨#[]⟩, .string ⟨#[]⟩, .int .i64 0] 34))
        cases hd2 : Lx.dig s[k] with
        | true =>
          rw [hd2] at cG
          have H2 : Hid (k + 1 + Lx.run Lx.idC (s.data.toList.drop (k + 1)) = i + 1 + Lx.run Lx.idC (s.data.toList.drop (i + 1))) := by
            show _ = _
            rw [if_pos (by unfold Lx.idC; rw [hd, hd2]; rfl)] at hra
            rw [← HR.out, hra]; omega
          clear hd hd2 hra
          go_wp2_with fail
          refine cS.mono ?_
          rintro e w1 ⟨rfl, rfl⟩
          go_wp2_with fail
          refine cG.mono ?_
          rintro e w1 ⟨rfl, rfl⟩
          go_wp2
          exact ⟨⟨k + 1, by omega, by omega, by go_num, H2⟩, by simp [intOf]; omega⟩
        | false =>
          rw [hd2] at cG
          by_cases h36 : s[k] = 36
          · have h36z : ((s[k].toNat : Int) == 36) = true := byte_eq h36
            have H2 : Hid (k + 1 + Lx.run Lx.idC (s.data.toList.drop (k + 1)) = i + 1 + Lx.run Lx.idC (s.data.toList.drop (i + 1))) := by
              show _ = _
              rw [if_pos (by unfold Lx.idC; rw [h36]; rfl)] at hra
              rw [← HR.out, hra]; omega
            clear hd hd2 hra h36
            go_wp2_with fail
            refine cS.mono ?_
            rintro e w1 ⟨rfl, rfl⟩
            go_wp2_with fail
            refine cG.mono ?_
            rintro e w1 ⟨rfl, rfl⟩
            go_wp2
            exact ⟨⟨k + 1, by omega, by omega, by go_num, H2⟩, by simp [intOf]; omega⟩
          · have h36z : ((s[k].toNat : Int) == 36) = false := byte_ne h36
            have HE : Hid (Lx.tok (s.data.toList.drop i) = some (1, Lib.toLowerD ((s.data.toList.drop i).take (k - i)), k - i)) := by
              have h1 := HR.out
              have hn : ¬ (s[k] == 36) = true := by simpa using h36
              rw [if_neg (by unfold Lx.idC; rw [hd, hd2]; simpa using h36)] at hra
              rw [hra] at h1
              have h2 := HTok.out
              rw [show Lx.run Lx.idC (s.data.toList.drop (i + 1)) + 1 = k - i from by omega] at h2
              exact h2
            clear hd hd2 hra h36 HR HTok
            go_wp2_with fail
            refine cS.mono ?_
            rintro e w1 ⟨rfl, rfl⟩
            go_wp2_with fail
            refine cG.mono ?_
            rintro e w1 ⟨rfl, rfl⟩
            go_wp2
            go_region_with (go_at_call 24; refine (toLowerAt s i k _ hs ?_ ?_).mono ?_; exact HV1.out; exact HT1.out; rintro e w1 ⟨rfl, hb⟩; obtain ⟨hc, hf⟩ := bcell hb; have hz : w.heap.size < w1.heap.size := (by have := hb.size; simp at this; omega))
            all_goals
              go_wp2
              refine bodyPost_ret (v := .tuple #[.agg #[.int .u8 1, .string ⟨(Lib.toLowerD ((s.data.toList.drop i).take (k - i))).toArray⟩, .string (s.extract i k), .int .i64 i], .nilIface]) (by simp [results, Tryf.results15, go_sem, hc]) rfl ⟨tans_upto HE.out (by omega), ?_⟩
              exact ((((((Below.refl _ _).alloc (Nat.le_refl _) _).drew.trans (hb.mono (by simp))).setCell (Nat.le_refl _) _).setCell (Nat.le_refl _) _).setCell (Nat.le_refl _) _).setCell (Nat.le_refl _) _
    · have hlz2 : decide ((k : Int) < (s.size : Int)) = false := by simp; omega
      have HE : Hid (Lx.tok (s.data.toList.drop i) = some (1, Lib.toLowerD ((s.data.toList.drop i).take (k - i)), k - i)) := by
        have h1 := HR.out
        rw [run_end Lx.idC s k (by omega)] at h1
        have h2 := HTok.out
        rw [show Lx.run Lx.idC (s.data.toList.drop (i + 1)) + 1 = k - i from by omega] at h2
        exact h2
      clear HR HTok
      go_wp2
      go_region_with (go_at_call 24; refine (toLowerAt s i k _ hs ?_ ?_).mono ?_; exact HV1.out; exact HT1.out; rintro e w1 ⟨rfl, hb⟩; obtain ⟨hc, hf⟩ := bcell hb; have hz : w.heap.size < w1.heap.size := (by have := hb.size; simp at this; omega))
      all_goals
        go_wp2
        refine bodyPost_ret (v := .tuple #[.agg #[.int .u8 1, .string ⟨(Lib.toLowerD ((s.data.toList.drop i).take (k - i))).toArray⟩, .string (s.extract i k), .int .i64 i], .nilIface]) (by simp [results, Tryf.results15, go_sem, hc]) rfl ⟨tans_upto HE.out (by omega), ?_⟩
        exact ((((((Below.refl _ _).alloc (Nat.le_refl _) _).drew.trans (hb.mono (by simp))).setCell (Nat.le_refl _) _).setCell (Nat.le_refl _) _).setCell (Nat.le_refl _) _).setCell (Nat.le_refl _) _
end Go.Proofs.Qxb6608672aFmt
