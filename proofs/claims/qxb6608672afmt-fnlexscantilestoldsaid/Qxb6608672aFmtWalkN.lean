/-
  Seat b6608672aF (tabulon). WALK: FnLexScanTiles.
-/
import Derived.Test.Qxb6608672aFmtWalkM
namespace Go.Proofs.Qxb6608672aFmt
open Go.RowKit Go.Extern.Stop Go.Stop Go.Extern Go.Lib

/-- What one round of the law meets at 'q'. -/
theorem tile_facts (F : Interp) (s : ByteArray) (q : Nat) (w : World) (hF : F.answers w.tape) (hV : CaseVar 3 caseA w) (hT : Utf8Tabs 0 1 w) (hs : s.size ≤ 100000) (hq : q ≤ s.size) :
    ∃ (k : Int) (t r : ByteArray) (o n m gl : Nat) (e : Int) (f : Bool) (g : ByteArray), q ≤ o ∧ o ≤ s.size ∧ s.extract q o = g ∧ g.size = gl ∧ gl + q = o ∧ r.size = m ∧
      (Calls Tryf.prog 7 #[.string s, .int .i64 q] w fun en w' => en = .returned (.tuple #[.int .u8 k, .string t, .string r, .int .i64 o, .bool f, .int .i64 e, .int .i64 n]) ∧ Below w.heap.size w w') ∧
      (∀ w1, Calls Tryf.prog 8 #[.string s, .int .i64 q, .int .u8 k, .string t, .string r, .int .i64 o, .bool f, .int .i64 e, .int .i64 n] w1 fun en w' => en = .returned (.bool true) ∧ w' = w1) ∧
      (q < o → ∀ w1, Below w.heap.size w w1 → Calls Tryf.prog 7 #[.string g, .int .i64 0] w1 fun en w' => en = .returned (.tuple #[.int .u8 0, .string ⟨#[]⟩, .string ⟨#[]⟩, .int .i64 gl, .bool false, .int .i64 0, .int .i64 gl]) ∧ Below w1.heap.size w1 w') ∧
      (f = false → ¬ k = 0 → (q < n ∧ n ≤ s.size) ∧ ∀ w1, Below w.heap.size w w1 → Calls Tryf.prog 7 #[.string r, .int .i64 0] w1 fun en w' => en = .returned (.tuple #[.int .u8 k, .string t, .string r, .int .i64 0, .bool false, .int .i64 0, .int .i64 m]) ∧ Below w1.heap.size w1 w') := by
  have c1 := zzLexNext_any F s q w hF hV hT (by omega) hq
  have c3 := fun w1 => answerOK s q w1 (by omega) hq
  obtain ⟨h1, h2, h3⟩ := Lx.nxt_ok (s.data.toList.drop q)
  have hgap := Lx.nxt_gap (s.data.toList.drop q)
  have hal := Lx.nxt_alone (s.data.toList.drop q)
  have hl : (s.data.toList.drop q).length = s.size - q := by simp
  obtain ⟨A, hA⟩ : ∃ A, Lx.nxt (s.data.toList.drop q) = A := ⟨_, rfl⟩
  rw [hA] at c1 c3 h1 h2 h3 hgap hal
  rw [hl] at h1 h2 h3 hgap
  obtain ⟨k, t, r, o, f, e, n⟩ := A
  simp only at h1 h2 h3 hgap hal
  have ho : q + o ≤ s.size := by
    cases f with
    | true => obtain ⟨_, _, _, _, _, _⟩ := h1 rfl; omega
    | false =>
      by_cases hk : k = 0
      · obtain ⟨_, _, _, _⟩ := h2 rfl hk; omega
      · obtain ⟨_, _, _, _, _⟩ := h3 rfl hk; omega
  refine ⟨k, ⟨t.toArray⟩, ⟨r.toArray⟩, q + o, q + n, r.length, o, ((if f then q + e else 0 : Nat) : Int), f, s.extract q (q + o), by omega, ho, rfl, by simp; omega, by omega, by show r.toArray.size = r.length; simp, c1, c3, ?_, ?_⟩
  · intro hlt w1 hb1
    have hg := (hgap (by omega)).1
    have hF1 : F.answers w1.tape := by rw [hb1.tape]; exact hF
    have c := zzLexNext_any F (s.extract q (q + o)) 0 w1 hF1 (CaseVar_below hV hb1) (Utf8Tabs_below hT hb1) (by simp; omega) (Nat.zero_le _)
    have e1 : (s.extract q (q + o)).data.toList.drop 0 = (s.data.toList.drop q).take o := by rw [List.drop_zero, extract_mid]; congr 1; omega
    rw [e1, hg] at c
    have e2 : zzVals ⟨0, [], [], o, false, 0, o⟩ 0 = #[.int .u8 0, .string ⟨#[]⟩, .string ⟨#[]⟩, .int .i64 o, .bool false, .int .i64 0, .int .i64 o] := by simp [zzVals]
    rw [e2] at c
    exact c
  · intro hf hk
    have hk' : k ≠ 0 := fun h => hk (by rw [h]; rfl)
    obtain ⟨_, hr1, hr2, hn, _⟩ := h3 hf hk'
    refine ⟨⟨by omega, by omega⟩, fun w1 hb1 => ?_⟩
    have ha := hal hf hk'
    have hF1 : F.answers w1.tape := by rw [hb1.tape]; exact hF
    have c := zzLexNext_any F ⟨r.toArray⟩ 0 w1 hF1 (CaseVar_below hV hb1) (Utf8Tabs_below hT hb1) (by show r.toArray.size ≤ 1000000000; simp; omega) (Nat.zero_le _)
    have e1 : (⟨r.toArray⟩ : ByteArray).data.toList.drop 0 = r := by rw [List.drop_zero]
    rw [e1, ha] at c
    have e2 : zzVals ⟨k, t, r, 0, false, 0, r.length⟩ 0 = #[.int .u8 k, .string ⟨t.toArray⟩, .string ⟨r.toArray⟩, .int .i64 0, .bool false, .int .i64 0, .int .i64 r.length] := by simp [zzVals]
    rw [e2] at c
    exact c

set_option maxRecDepth 100000 in
set_option maxHeartbeats 4000000 in
theorem tiles_any (F : Interp) (s : ByteArray) (p : Int) (w : World) (hF : F.answers w.tape) (hV : CaseVar 3 caseA w) (hT : Utf8Tabs 0 1 w) (hs : s.size ≤ maxLen) :
    Calls Tryf.prog 4 #[.string s, .int .i64 p] w fun en w' => en = .returned (.bool true) ∧ Below w.heap.size w w' := by
  have cB := bytes2 s p w hs
  unfold maxLen at hs
  by_cases hok : s.size ≤ 65536 ∧ 0 ≤ p ∧ p ≤ (s.size : Int)
  · obtain ⟨h2, h3, h4⟩ := hok
    obtain ⟨i, rfl⟩ : ∃ i : Nat, p = i := ⟨p.toNat, by omega⟩
    have d2 : decide ((65536 : Int) < (s.size : Int)) = false := by simp; omega
    have d3 : decide ((s.size : Int) < (i : Int)) = false := by simp; omega
    have d0 : decide ((i : Int) < 0) = false := by simp
    have d3n : decide (s.size < i) = false := by simp; omega
    have HV : Hid (CaseVar 3 caseA w) := hV
    have HT : Hid (Utf8Tabs 0 1 w) := hT
    clear hV hT
    go_enter Tryf.func4, Tryf.ntmps4
    go_wp2_with fail
    refine cB.mono ?_
    rintro en w1 ⟨⟨c, rfl⟩, rfl⟩
    clear cB
    cases c with
    | false =>
      go_wp2
      go_ret
      exact ⟨rfl, Below.refl _ _⟩
    | true =>
      go_wp2
      go_loopw [5, 6] (fun pv st wr => ∃ (q : Nat) (c : Int), q ≤ s.size ∧ pv = .int .i64 q ∧ st = .int .i64 c ∧ (s.size : Int) + 1 ≤ c + q ∧ c ≤ 100000 ∧ Below w1.heap.size w1 wr) (fun pv _ _ => s.size - (intOf pv).toNat)
      case atStart => exact ⟨i, _, by omega, rfl, rfl, by omega, by omega, Below.refl _ _⟩
      case round =>
        obtain ⟨q, c, hq, rfl, rfl, hc1, hc2, hbel⟩ := hrel
        obtain ⟨k, t, r, o, n, m, gl, e, f, g, ho1, ho2, hx, hgs, hgo, hr, c1, c2, c3, c4⟩ := tile_facts F s q wr (by rw [hbel.tape]; exact hF) (CaseVar_below HV.out hbel) (Utf8Tabs_below HT.out hbel) (by omega) hq
        have HC2 : Hid _ := c2
        have HC3 : Hid _ := c3
        have HC4 : Hid _ := c4
        clear c2 c3 c4
        have hcz : 0 ≤ c := by omega
        go_wp2_with fail
        refine c1.mono ?_
        rintro en w2 ⟨rfl, hb2⟩
        have hbel2 := hbel.trans (hb2.mono hbel.size)
        have c2' := HC2.out w2
        clear c1
        go_wp2_with fail
        refine c2'.mono ?_
        rintro en w3 ⟨rfl, rfl⟩
        clear c2'
        by_cases hlt : q < o
        · have hltz : (q : Int) < (o : Int) := by omega
          cases f with
          | true =>
            have c3' := HC3.out hlt w3 hb2
            go_wp2_with fail
            refine c3'.mono ?_
            rintro en w4 ⟨rfl, hb4⟩
            have hbel4 := hbel2.trans (hb4.mono hbel2.size)
            clear c3'
            go_wp2
            go_ret
            exact ⟨rfl, hbel4⟩
          | false =>
            by_cases hk : k = 0
            · subst hk
              have c3' := HC3.out hlt w3 hb2
              go_wp2_with fail
              refine c3'.mono ?_
              rintro en w4 ⟨rfl, hb4⟩
              have hbel4 := hbel2.trans (hb4.mono hbel2.size)
              clear c3'
              go_wp2
              go_ret
              exact ⟨rfl, hbel4⟩
            · have hkz : (k == 0) = false := by simpa using hk
              have c3' := HC3.out hlt w3 hb2
              go_wp2_with fail
              refine c3'.mono ?_
              rintro en w4 ⟨rfl, hb4⟩
              have hbel4 := hbel2.trans (hb4.mono hbel2.size)
              clear c3'
              have c4' := (HC4.out (by trivial) hk).2 w4 (hb2.trans (hb4.mono hb2.size))
              obtain ⟨hn1, hn2⟩ := (HC4.out (by trivial) hk).1
              go_wp2_with fail
              refine c4'.mono ?_
              rintro en w5 ⟨rfl, hb5⟩
              have hbel5 := hbel4.trans (hb5.mono hbel4.size)
              clear c4'
              go_wp2
              go_roundw
              case rel => exact ⟨n, c - 1, hn2, rfl, rfl, by omega, by omega, hbel5⟩
              case measure => simp [intOf]; omega
        · have hltz : decide ((q : Int) < (o : Int)) = false := by simp; omega
          cases f with
          | true =>
            go_wp2
            go_ret
            exact ⟨rfl, hbel2⟩
          | false =>
            by_cases hk : k = 0
            · subst hk
              go_wp2
              go_ret
              exact ⟨rfl, hbel2⟩
            · have hkz : (k == 0) = false := by simpa using hk
              have c4' := (HC4.out (by trivial) hk).2 w3 hb2
              obtain ⟨hn1, hn2⟩ := (HC4.out (by trivial) hk).1
              go_wp2_with fail
              refine c4'.mono ?_
              rintro en w5 ⟨rfl, hb5⟩
              have hbel5 := hbel2.trans (hb5.mono hbel2.size)
              clear c4'
              go_wp2
              go_roundw
              case rel => exact ⟨n, c - 1, hn2, rfl, rfl, by omega, by omega, hbel5⟩
              case measure => simp [intOf]; omega
  · go_enter Tryf.func4, Tryf.ntmps4
    go_wp2_with fail
    refine cB.mono ?_
    rintro en w1 ⟨⟨c, rfl⟩, rfl⟩
    clear cB
    cases c with
    | false =>
      go_wp2
      go_ret
      exact ⟨rfl, Below.refl _ _⟩
    | true =>
      by_cases h2 : (65536 : Int) < (s.size : Int)
      · go_wp2
        go_ret
        exact ⟨rfl, Below.refl _ _⟩
      · have d2 : decide ((65536 : Int) < (s.size : Int)) = false := by simp; omega
        by_cases h3 : p < 0
        · go_wp2
          go_ret
          exact ⟨rfl, Below.refl _ _⟩
        · have d3 : decide (p < 0) = false := by simp; omega
          have h4 : (s.size : Int) < p := by omega
          go_wp2
          go_ret
          exact ⟨rfl, Below.refl _ _⟩
end Go.Proofs.Qxb6608672aFmt
