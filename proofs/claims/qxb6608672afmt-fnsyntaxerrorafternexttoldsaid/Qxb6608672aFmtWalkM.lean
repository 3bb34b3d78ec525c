/-
  Seat b6608672aF (tabulon). WALKS: zzLexAnswerOK, the bounds on lengths, FnLexNextShift.
-/
import Derived.Test.Qxb6608672aFmtWalkL
namespace Go.Proofs.Qxb6608672aFmt
open Go.RowKit Go.Extern.Stop Go.Stop Go.Extern Go.Lib

set_option maxRecDepth 100000 in
set_option maxHeartbeats 1000000 in
theorem aok_err (s : ByteArray) (p o e : Int) (w : World) (h1 : p ≤ o) (h2 : o < e) (h3 : e ≤ s.size) :
    Calls Tryf.prog 8 #[.string s, .int .i64 p, .int .u8 8, .string ⟨#[]⟩, .string ⟨#[]⟩, .int .i64 o, .bool true, .int .i64 e, .int .i64 p] w fun en w' => en = .returned (.bool true) ∧ w' = w := by
  have hd1 : decide (p ≤ o) = true := by simpa using h1
  have hd2 : decide (o < e) = true := by simpa using h2
  have hd3 : decide (e ≤ (s.size : Int)) = true := by simpa using h3
  go_enter Tryf.func8, Tryf.ntmps8
  go_wp2
  go_ret
  exact ⟨rfl, rfl⟩

set_option maxRecDepth 100000 in
set_option maxHeartbeats 1000000 in
theorem aok_eof (s : ByteArray) (p e : Int) (w : World) :
    Calls Tryf.prog 8 #[.string s, .int .i64 p, .int .u8 0, .string ⟨#[]⟩, .string ⟨#[]⟩, .int .i64 s.size, .bool false, .int .i64 e, .int .i64 s.size] w fun en w' => en = .returned (.bool true) ∧ w' = w := by
  go_enter Tryf.func8, Tryf.ntmps8
  go_wp2
  go_ret
  exact ⟨rfl, rfl⟩

set_option maxRecDepth 100000 in
set_option maxHeartbeats 1000000 in
theorem aok_tok (s t r : ByteArray) (k p e : Int) (o m : Nat) (w : World) (hs : s.size ≤ 1000000000) (hk1 : 1 ≤ k) (hk7 : k ≤ 7) (h1 : p ≤ o) (h2 : 1 ≤ m) (h3 : o + m ≤ s.size) (hr : r.size = m) (hx : s.extract o (o + m) = r) :
    Calls Tryf.prog 8 #[.string s, .int .i64 p, .int .u8 k, .string t, .string r, .int .i64 o, .bool false, .int .i64 e, .int .i64 ((o : Int) + (m : Int))] w fun en w' => en = .returned (.bool true) ∧ w' = w := by
  have hk0 : (k == 0) = false := by simp; omega
  have hk7' : decide (7 < k) = false := by simp; omega
  have hop : decide ((o : Int) < p) = false := by simp; omega
  have hm0 : ((m : Int) == 0) = false := by simp; omega
  have hle : decide ((s.size : Int) - (m : Int) < (o : Int)) = false := by simp; omega
  have hlz : (o : Int) + (m : Int) ≤ (s.size : Int) := by omega
  go_enter Tryf.func8, Tryf.ntmps8
  go_wp2
  go_ret
  exact ⟨rfl, rfl⟩

/-- zzLexAnswerOK says yes to every answer of next. -/
theorem answerOK (s : ByteArray) (i : Nat) (w : World) (hs : s.size ≤ 1000000000) (hi : i ≤ s.size) :
    Calls Tryf.prog 8 (#[.string s, .int .i64 (i : Int)] ++ zzVals (Lx.nxt (s.data.toList.drop i)) i) w fun en w' => en = .returned (.bool true) ∧ w' = w := by
  obtain ⟨h1, h2, h3⟩ := Lx.nxt_ok (s.data.toList.drop i)
  have hl : (s.data.toList.drop i).length = s.size - i := by simp
  obtain ⟨A, hA⟩ : ∃ A, Lx.nxt (s.data.toList.drop i) = A := ⟨_, rfl⟩
  rw [hA, hl] at h1 h2 h3
  rw [hA]
  obtain ⟨k, t, r, o, f, e, n⟩ := A
  simp only at h1 h2 h3
  cases f with
  | true =>
    obtain ⟨rfl, rfl, rfl, rfl, ho, he⟩ := h1 rfl
    exact aok_err s i ((i + o : Nat) : Int) ((i + e : Nat) : Int) w (by omega) (by omega) (by omega)
  | false =>
    by_cases hk : k = 0
    · obtain ⟨rfl, rfl, rfl, rfl⟩ := h2 rfl hk
      subst hk
      have := aok_eof s i ((0 : Nat) : Int) w
      rw [show s.size = i + (s.size - i) from by omega] at this
      exact this
    · obtain ⟨hk7, hr1, hr2, rfl, hr3⟩ := h3 rfl hk
      have hx : s.extract (i + o) (i + o + r.length) = ⟨r.toArray⟩ := by
        rw [← text_eq, ← List.drop_drop, hr3]
      have := aok_tok s ⟨t.toArray⟩ ⟨r.toArray⟩ k i ((0 : Nat) : Int) (i + o) r.length w hs (by omega) (by omega) (by omega) hr1 (by omega) (by show r.toArray.size = r.length; simp) hx
      rw [show ((i + o : Nat) : Int) + (r.length : Int) = ((i + (o + r.length) : Nat) : Int) from by omega] at this
      exact this

set_option maxHeartbeats 400000 in
theorem bytes3 (a b : ByteArray) (p : Int) (w : World) (ha : a.size ≤ maxLen) (hb : b.size ≤ maxLen) : Calls Tryf.prog 6 #[.string a, .string b, .int .i64 p] w fun en w' => (∃ c, en = .returned (.bool c)) ∧ w' = w := by
  unfold maxLen at ha hb
  go_enter Tryf.func6, Tryf.ntmps6
  go_wp2
  all_goals
    go_ret
    exact ⟨⟨_, rfl⟩, rfl⟩
set_option maxHeartbeats 400000 in
theorem bytes2 (b : ByteArray) (p : Int) (w : World) (hb : b.size ≤ maxLen) : Calls Tryf.prog 9 #[.string b, .int .i64 p] w fun en w' => (∃ c, en = .returned (.bool c)) ∧ w' = w := by
  unfold maxLen at hb
  go_enter Tryf.func9, Tryf.ntmps9
  go_wp2
  all_goals
    go_ret
    exact ⟨⟨_, rfl⟩, rfl⟩
set_option maxHeartbeats 400000 in
theorem bytesS (b : ByteArray) (p : Int) (w : World) (hb : b.size ≤ maxLen) : Calls Tryf.prog 10 #[.string b, .int .i64 p] w fun en w' => (∃ c, en = .returned (.bool c)) ∧ w' = w := by
  unfold maxLen at hb
  go_enter Tryf.func10, Tryf.ntmps10
  go_wp2
  all_goals
    go_ret
    exact ⟨⟨_, rfl⟩, rfl⟩

theorem concat_drop (a b : ByteArray) (i : Nat) : (a ++ b).data.toList.drop (a.size + i) = b.data.toList.drop i := by
  have h : (a ++ b).data.toList = a.data.toList ++ b.data.toList := by simp
  rw [h, List.drop_append]
  simp

/-- The two answers beside each other: the same, but for the shift. -/
theorem shift_two (F : Interp) (a b : ByteArray) (i : Nat) (w : World) (hF : F.answers w.tape) (hV : CaseVar 3 caseA w) (hT : Utf8Tabs 0 1 w) (ha : a.size ≤ 100000) (hb : b.size ≤ 100000) (hi : i ≤ b.size) :
    ∃ (k : Int) (t r : ByteArray) (o e e2 n : Int) (f : Bool), 0 ≤ o ∧ o ≤ 1000000 ∧ 0 ≤ n ∧ n ≤ 1000000 ∧ 0 ≤ e ∧ e ≤ 1000000 ∧ (f = true → e2 = e + (a.size : Int)) ∧
      (Calls Tryf.prog 7 #[.string b, .int .i64 i] w fun en w' => en = .returned (.tuple #[.int .u8 k, .string t, .string r, .int .i64 o, .bool f, .int .i64 e, .int .i64 n]) ∧ Below w.heap.size w w') ∧
      (∀ w1, Below w.heap.size w w1 → Calls Tryf.prog 7 #[.string (a ++ b), .int .i64 ((a.size : Int) + (i : Int))] w1 fun en w' => en = .returned (.tuple #[.int .u8 k, .string t, .string r, .int .i64 (o + (a.size : Int)), .bool f, .int .i64 e2, .int .i64 (n + (a.size : Int))]) ∧ Below w1.heap.size w1 w') ∧
      (∀ w1, Calls Tryf.prog 8 #[.string b, .int .i64 i, .int .u8 k, .string t, .string r, .int .i64 o, .bool f, .int .i64 e, .int .i64 n] w1 fun en w' => en = .returned (.bool true) ∧ w' = w1) := by
  have c1 := zzLexNext_any F b i w hF hV hT (by omega) hi
  have c2 : ∀ w1, Below w.heap.size w w1 → _ := fun w1 hb1 => zzLexNext_any F (a ++ b) (a.size + i) w1 (by rw [hb1.tape]; exact hF) (CaseVar_below hV hb1) (Utf8Tabs_below hT hb1) (by simp; omega) (by simp; omega)
  have c3 := fun w1 => answerOK b i w1 (by omega) hi
  rw [concat_drop] at c2
  obtain ⟨h1, h2, h3⟩ := Lx.nxt_ok (b.data.toList.drop i)
  have hl : (b.data.toList.drop i).length = b.size - i := by simp
  obtain ⟨A, hA⟩ : ∃ A, Lx.nxt (b.data.toList.drop i) = A := ⟨_, rfl⟩
  rw [hA] at c1 c2 c3 h1 h2 h3
  rw [hl] at h1 h2 h3
  obtain ⟨k, t, r, o, f, e, n⟩ := A
  simp only at h1 h2 h3
  have hbd : i + o ≤ 1000000 ∧ i + n ≤ 1000000 ∧ (f = true → i + e ≤ 1000000) := by
    cases f with
    | true => obtain ⟨_, _, _, _, _, _⟩ := h1 rfl; exact ⟨by omega, by omega, fun _ => by omega⟩
    | false =>
      by_cases hk : k = 0
      · obtain ⟨_, _, _, _⟩ := h2 rfl hk; exact ⟨by omega, by omega, fun h => by cases h⟩
      · obtain ⟨_, _, _, _, _⟩ := h3 rfl hk; exact ⟨by omega, by omega, fun h => by cases h⟩
  refine ⟨k, ⟨t.toArray⟩, ⟨r.toArray⟩, ((i + o : Nat) : Int), ((if f then i + e else 0 : Nat) : Int), ((if f then a.size + i + e else 0 : Nat) : Int), ((i + n : Nat) : Int), f, by omega, by omega, by omega, by omega, by omega, ?_, ?_, c1, ?_, c3⟩
  · cases f with
    | true => have := hbd.2.2 rfl; simp only [if_true]; omega
    | false => simp
  · rintro rfl; simp only [if_true]; omega
  · intro w1 hb1
    have := c2 w1 hb1
    rw [show ((a.size : Int) + (i : Int)) = ((a.size + i : Nat) : Int) from by omega, show ((i + o : Nat) : Int) + (a.size : Int) = ((a.size + i + o : Nat) : Int) from by omega, show ((i + n : Nat) : Int) + (a.size : Int) = ((a.size + i + n : Nat) : Int) from by omega]
    exact this

set_option maxRecDepth 100000 in
set_option maxHeartbeats 2000000 in
theorem shift_any (F : Interp) (a b : ByteArray) (p : Int) (w : World) (hF : F.answers w.tape) (hV : CaseVar 3 caseA w) (hT : Utf8Tabs 0 1 w) (ha : a.size ≤ maxLen) (hb : b.size ≤ maxLen) :
    Calls Tryf.prog 3 #[.string a, .string b, .int .i64 p] w fun en w' => en = .returned (.bool true) ∧ Below w.heap.size w w' := by
  have cB := bytes3 a b p w ha hb
  unfold maxLen at ha hb
  by_cases hok : a.size ≤ 65536 ∧ b.size ≤ 65536 ∧ 0 ≤ p ∧ p ≤ (b.size : Int)
  · obtain ⟨h1, h2, h3, h4⟩ := hok
    obtain ⟨i, rfl⟩ : ∃ i : Nat, p = i := ⟨p.toNat, by omega⟩
    obtain ⟨k, t, r, o, e, e2, n, f, ho1, ho2, hn1, hn2, he1, he2, hfe, c1, c2, c3⟩ := shift_two F a b i w hF hV hT (by omega) (by omega) (by omega)
    have d1 : decide ((65536 : Int) < (a.size : Int)) = false := by simp; omega
    have d2 : decide ((65536 : Int) < (b.size : Int)) = false := by simp; omega
    have d3 : decide ((b.size : Int) < (i : Int)) = false := by simp; omega
    have HV : Hid (CaseVar 3 caseA w) := hV
    have HT : Hid (Utf8Tabs 0 1 w) := hT
    have HC2 : Hid _ := c2
    have HC3 : Hid _ := c3
    clear hV hT c2 c3
    go_enter Tryf.func3, Tryf.ntmps3
    go_wp2_with fail
    refine cB.mono ?_
    rintro en w1 ⟨⟨c, rfl⟩, rfl⟩
    clear cB
    cases c with
    | false =>
      go_wp2
      go_ret
      exact ⟨rfl, Below.refl _ _⟩
    | true =>
      go_wp2_with fail
      refine c1.mono ?_
      rintro en w2 ⟨rfl, hb1⟩
      have c2' := HC2.out w2 hb1
      clear c1
      go_wp2_with fail
      refine c2'.mono ?_
      rintro en w3 ⟨rfl, hb2⟩
      have c3' := HC3.out w3
      have hb3 := hb1.trans (hb2.mono hb1.size)
      clear c2'
      cases f with
      | true =>
        obtain rfl := hfe rfl
        go_wp2_with fail
        refine c3'.mono ?_
        rintro en w4 ⟨rfl, rfl⟩
        go_wp2
        go_ret
        exact ⟨rfl, hb3⟩
      | false =>
        clear hfe
        go_wp2_with fail
        refine c3'.mono ?_
        rintro en w4 ⟨rfl, rfl⟩
        go_wp2
        go_ret
        exact ⟨rfl, hb3⟩
  · go_enter Tryf.func3, Tryf.ntmps3
    go_wp2_with fail
    refine cB.mono ?_
    rintro en w1 ⟨⟨c, rfl⟩, rfl⟩
    clear cB
    cases c with
    | false =>
      go_wp2
      go_ret
      exact ⟨rfl, Below.refl _ _⟩
    | true =>
      by_cases h1 : (65536 : Int) < (a.size : Int)
      · go_wp2
        go_ret
        exact ⟨rfl, Below.refl _ _⟩
      · by_cases h2 : (65536 : Int) < (b.size : Int)
        · go_wp2
          go_ret
          exact ⟨rfl, Below.refl _ _⟩
        · have d1 : decide ((65536 : Int) < (a.size : Int)) = false := by simp; omega
          have d2 : decide ((65536 : Int) < (b.size : Int)) = false := by simp; omega
          by_cases h3 : p < 0
          · go_wp2
            go_ret
            exact ⟨rfl, Below.refl _ _⟩
          · have d3 : decide (p < 0) = false := by simp; omega
            have h4 : (b.size : Int) < p := by omega
            go_wp2
            go_ret
            exact ⟨rfl, Below.refl _ _⟩
end Go.Proofs.Qxb6608672aFmt
