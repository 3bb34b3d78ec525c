/-
  Seat b6608680aF (chigu). WALKS: doesNotPrint, unicode.IsSpace as predicates; CheckWord; zzWordOrEmpty.
-/
import Derived.Test.Qxb6608680aFmtShelf
import Derived.Test.Qxb6608680aFmtWalkA
import Derived.Test.Qxb6608680aFmtStopF
import Derived.Shelf.Unicode.PredsPay
import Derived.Deep.QuietTactic
import Derived.BigQuiet
import Derived.Deep.RegionWith
namespace Go.Proofs.Qxb6608680aFmt
open Go.RowKit Go.Lib Go.Shelf

theorem ccT_ok : RTabOk ccT := by
  unfold RTabOk RgOk
  refine ⟨?_, ?_, by decide, by decide, by decide, by decide⟩
  · have : ∀ i : Fin 2, ((ccT.r16.getD i.val (0, 0, 0)).1 < 65536 ∧ (ccT.r16.getD i.val (0, 0, 0)).2.1 < 65536 ∧ (ccT.r16.getD i.val (0, 0, 0)).2.2 < 65536 ∧ 1 ≤ (ccT.r16.getD i.val (0, 0, 0)).2.2) := by decide
    exact fun i hi => this ⟨i, hi⟩
  · intro i hi; exact absurd hi (Nat.not_lt_zero i)
theorem cfT_ok : RTabOk cfT := by
  unfold RTabOk RgOk
  refine ⟨?_, ?_, by decide, by decide, by decide, by decide⟩
  · have : ∀ i : Fin 12, ((cfT.r16.getD i.val (0, 0, 0)).1 < 65536 ∧ (cfT.r16.getD i.val (0, 0, 0)).2.1 < 65536 ∧ (cfT.r16.getD i.val (0, 0, 0)).2.2 < 65536 ∧ 1 ≤ (cfT.r16.getD i.val (0, 0, 0)).2.2) := by decide
    exact fun i hi => this ⟨i, hi⟩
  · have : ∀ i : Fin 6, ((cfT.r32.getD i.val (0, 0, 0)).1 < 4294967296 ∧ (cfT.r32.getD i.val (0, 0, 0)).2.1 < 4294967296 ∧ (cfT.r32.getD i.val (0, 0, 0)).2.2 < 4294967296 ∧ 1 ≤ (cfT.r32.getD i.val (0, 0, 0)).2.2) := by decide
    exact fun i hi => this ⟨i, hi⟩

/-- The listed tables lie as the program's text lays them. -/
def Tabs (w : World) : Prop := RVar 0 ccT w ∧ RVar 1 cfT w ∧ WhiteTab 2 w ∧ Utf8Tabs 3 4 w
theorem Tabs.below {w w' : World} (h : Tabs w) (hb : Below w.heap.size w w') : Tabs w' := by
  obtain ⟨h0, h1, h2, h3⟩ := h
  exact ⟨RVar_below h0 hb, RVar_below h1 hb, WhiteTab_below h2 hb, Utf8Tabs_below h3 hb⟩

set_option maxHeartbeats 400000 in
theorem hidden_any (r : Int) (w : World) (hlo : -2147483648 ≤ r) (hhi : r ≤ 2147483647) (h0 : RVar 0 ccT w) (h1 : RVar 1 cfT w) :
    Calls Tryf.prog 12 #[.int .i32 r] w fun e w' => e = .returned (.bool ([ccT, cfT].any (isGo · r))) ∧ Below w.heap.size w w' := by
  obtain ⟨T0, o0, k0, a0⟩ := h0
  obtain ⟨T1, o1, k1, a1⟩ := h1
  go_enter Tryf.func12, Tryf.ntmps12
  have hb1 : ∀ o : Obj, Below w.heap.size w (w.alloc o) := fun o => (Below.refl _ _).alloc (Nat.le_refl _) o
  go_wp2_with fail
  refine (Tryf.unicode_In_any [ccT, cfT] w.heap.size 0 2 r _ hlo hhi ?_ ?_ (by decide)).mono ?_
  · intro i T hT
    match i, hT with
    | 0, hT => obtain rfl := Option.some.inj hT; exact ⟨T0, o0, by simp, RTabAt_below a0 (hb1 _)⟩
    | 1, hT => obtain rfl := Option.some.inj hT; exact ⟨T1, o1, by simp, RTabAt_below a1 (hb1 _)⟩
    | i + 2, hT => simp at hT
  · intro T hT
    simp at hT
    rcases hT with rfl | rfl
    · exact ccT_ok
    · exact cfT_ok
  · rintro e w1 ⟨rfl, hb⟩
    go_wp2
    go_ret
    exact ⟨ret_bool (by simp), (hb1 _).trans (hb.mono (by simp))⟩

theorem hidden_pays (w : World) (h : Tabs w) : PredGrows Tryf.prog 12 #[] hid w :=
  fun W x hx hb => hidden_any (x : Int) W (by omega) (by omega) (RVar_below h.1 hb) (RVar_below h.2.1 hb)
theorem space_pays (w : World) (h : Tabs w) : PredGrows Tryf.prog 15 #[] spc w :=
  fun W x hx hb => Tryf.unicode_IsSpace_any (x : Int) W (by omega) (by omega) (WhiteTab_below h.2.2.1 hb)

/-- nil is returned just where p stands, else an error; whatever lay, lies. -/
def Verdict (p : Prop) (w : World) (e : Ending) (w' : World) : Prop := ((p ∧ e = .returned .nilIface) ∨ (¬ p ∧ ∃ a, e = .returned (.iface 38 (.pointer (some a))))) ∧ Below w.heap.size w w'

theorem ge_neg {q : Nat → Bool} {s : ByteArray} (h : Clean q s 0) : decide (0 ≤ idxFunc q true s) = false := by
  have : idxFunc q true s = -1 := h
  rw [this]; decide
theorem ge_pos {q : Nat → Bool} {s : ByteArray} (h : ¬ Clean q s 0) : 0 ≤ idxFunc q true s ∧ idxFunc q true s < s.size := by
  rcases idxFunc_range q true s with h' | h'
  · exact absurd h' h
  · exact h'

set_option maxRecDepth 100000 in
set_option maxHeartbeats 2000000 in
theorem check_any (F : Go.Stop.Interp) (s : ByteArray) (w : World) (hs : s.size ≤ maxLen) (hF : F.answers w.tape) (hT : Tabs w) :
    Calls Tryf.prog 7 #[.string s] w fun e w' => Verdict (Word s) w e w' := by
  have cP := printable_any s w hs
  have cI : Calls Tryf.prog 11 #[.string s, .func (.func 12) #[] #[]] w _ := Tryf.strings_IndexFunc_grows 12 #[] (enters_of Tryf.func12 (by kernel_rfl) rfl) hid s w (hidden_pays w hT)
  unfold maxLen at hs
  generalize hI : idxFunc hid true s = I at cI
  have HI : Hid (idxFunc hid true s = I) := hI
  clear hI
  go_enter Tryf.func7, Tryf.ntmps7
  go_wp2_with fail
  refine cP.mono ?_
  rintro e w0 ⟨⟨r, rfl, hr⟩, hw0⟩
  rw [hw0]
  clear hw0 w0
  cases r with
  | true =>
    have h := hr rfl
    have hW : Word s := ⟨h.1, print_fine s h.2⟩
    go_wp2_with fail
    go_ret
    exact ⟨.inl ⟨hW, rfl⟩, Below.refl _ _⟩
  | false =>
    clear hr
    go_wp2_with fail
    refine cI.mono ?_
    rintro e w2 ⟨rfl, hb2⟩
    have hT2 := hT.below hb2
    by_cases he : s = ⟨#[]⟩
    · subst he
      go_wp2_with fail
      refine (new_any _ _).mono ?_
      rintro e w3 ⟨⟨v, rfl⟩, hb3⟩
      go_wp2_with fail
      go_ret
      exact ⟨.inr ⟨fun h => h.1 rfl, v, rfl⟩, hb2.trans (hb3.mono hb2.size)⟩
    · have hf := full_of he
      have cS : Calls Tryf.prog 14 #[.string s, .func (.func 15) #[] #[]] w2 _ := Tryf.strings_ContainsFunc_grows 15 #[] (enters_of Tryf.func15 (by kernel_rfl) rfl) spc s w2 (space_pays w2 hT2)
      go_wp2_with fail
      refine cS.mono ?_
      rintro e w3 ⟨rfl, hb3⟩
      have hT3 := hT2.below hb3
      have hb03 : Below w.heap.size w w3 := hb2.trans (hb3.mono hb2.size)
      have hF3 : F.answers w3.tape := by rw [hb03.tape]; exact hF
      have hA3 : ∀ o, Below w.heap.size w (w3.alloc o) := fun o => hb03.alloc hb03.size o
      by_cases hsp : Clean spc s 0
      · have hsp' := ge_neg hsp
        by_cases hhd : Clean hid s 0
        · have hhd' : I = -1 := by rw [← HI.out]; exact hhd
          subst hhd'
          go_wp2_with fail
          go_ret
          exact ⟨.inl ⟨⟨he, hsp, hhd⟩, rfl⟩, hb03⟩
        · have hhd' := ge_pos hhd
          rw [HI.out] at hhd'
          obtain ⟨hk0, hk1⟩ := hhd'
          obtain ⟨k, rfl⟩ := Int.eq_ofNat_of_zero_le hk0
          have hk2 : k ≤ s.size := by omega
          have cD := Tryf.utf8_DecodeRuneInString (s.extract k s.size) w3 hT3.2.2.2
          go_wp2_with fail
          refine cD.mono ?_
          rintro e w4 ⟨rfl, hb4⟩
          generalize decodeGo (s.extract k s.size) = D
          obtain ⟨d1, d2⟩ := D
          have hb04 : Below w.heap.size w w4 := hb03.trans (hb4.mono hb03.size)
          have hF4 : F.answers w4.tape := by rw [hb04.tape]; exact hF
          go_wp2_with fail
          refine (errorf_two F s (d1 : Int) w4.heap.size (w4.alloc (.cells #[.iface 9 (.string s), .iface 21 (.int .i32 (d1 : Int))] 20)) hF4 ?_ ?_).mono ?_
          · simp
          · simp
          rintro e w5 ⟨⟨v, rfl⟩, hb5⟩
          go_wp2_with fail
          go_ret
          exact ⟨.inr ⟨fun h => hhd h.2.2, v, rfl⟩, (hb04.alloc hb04.size _).trans (hb5.mono (hb04.alloc hb04.size _).size)⟩
      · have hsp' := (ge_pos hsp).1
        go_wp2_with fail
        refine (errorf_one F s w3.heap.size (w3.alloc (.cells #[.iface 9 (.string s)] 20)) hF3 ?_).mono ?_
        · simp
        rintro e w4 ⟨⟨v, rfl⟩, hb4⟩
        go_wp2_with fail
        go_ret
        exact ⟨.inr ⟨fun h => hsp h.2.1, v, rfl⟩, (hA3 _).trans (hb4.mono (hA3 _).size)⟩

set_option maxHeartbeats 400000 in
theorem orEmpty_any (F : Go.Stop.Interp) (s : ByteArray) (w : World) (hs : s.size ≤ maxLen) (hF : F.answers w.tape) (hT : Tabs w) :
    Calls Tryf.prog 8 #[.string s] w fun e w' => (∃ r, e = .returned (.bool r) ∧ (r = true ↔ Fine s)) ∧ Below w.heap.size w w' := by
  have c := check_any F s w hs hF hT
  unfold maxLen at hs
  by_cases he : s = ⟨#[]⟩
  · subst he
    clear c
    go_enter Tryf.func8, Tryf.ntmps8
    go_wp2
    go_ret
    exact ⟨⟨true, rfl, by simp [fine_nil]⟩, Below.refl _ _⟩
  · have hf := full_of he
    go_enter Tryf.func8, Tryf.ntmps8
    go_wp2_with (go_at_call 7; refine c.mono ?_; rintro e w1 ⟨⟨hW, rfl⟩ | ⟨hW, v, rfl⟩, hb⟩)
    · go_wp2
      go_ret
      exact ⟨⟨true, rfl, by simp [show Fine s from hW.2]⟩, hb⟩
    · go_wp2
      go_ret
      exact ⟨⟨false, rfl, by simp; exact fun h => hW ⟨he, h⟩⟩, hb⟩
end Go.Proofs.Qxb6608680aFmt
