/-
  Seat b6608672aF (tabulon). WALK: skipSpace.
-/
import Derived.Test.Qxb6608672aFmtWalkC
import Derived.Test.Qxb6608672aFmtStopF
namespace Go.Proofs.Qxb6608672aFmt
open Go.RowKit Go.Extern.Stop Go.Stop Go.Extern

theorem extract_end (s : ByteArray) (k : Nat) : (s.extract k s.size).data.toList = s.data.toList.drop k := Lib.extract_to_end s k

theorem hasPrefix_at (s : ByteArray) (k : Nat) (p : ByteArray) (b : Bool) (w : World) (h : Lib.hasPrefix (s.data.toList.drop k) p.data.toList = b) :
    Calls Tryf.prog 20 #[.string (s.extract k s.size), .string p] w fun e w' => e = .returned (.bool b) ∧ w' = w := by
  refine (Tryf.strings_HasPrefix _ _ _).mono ?_
  rintro e w' ⟨rfl, rfl⟩
  exact ⟨ret_bool (by rw [extract_end, h]), rfl⟩
theorem indexNl_at (s : ByteArray) (k : Nat) (z : Int) (w : World) (h : Lib.indexByte (s.data.toList.drop k) 10 = z) :
    Calls Tryf.prog 21 #[.string (s.extract k s.size), .int .u8 10] w fun e w' => e = .returned (.int .i64 z) ∧ w' = w := by
  refine (Tryf.strings_IndexByte _ _ _).mono ?_
  rintro e w' ⟨rfl, rfl⟩
  exact ⟨ret_int (by rw [extract_end]; exact h), rfl⟩

theorem containsSpaceW (c : UInt8) (w : World) :
    Calls Tryf.prog 19 #[.string ⟨#[32, 9, 10, 13, 12, 11]⟩, .int .i32 (wrap32 c.toNat)] w fun e w' => e = .returned (.bool (Lx.spc c)) ∧ Below w.heap.size w w' := by
  have h := c.toNat_lt
  have e : wrap32 (c.toNat : Int) = c.toNat := by unfold wrap32; omega
  rw [e]
  exact containsSpace c w

/-- A new *sqlerr.Error lies at block 'a', from 'B' on: its code is 42601, its place 'p'. -/
def ErrAt (B : Nat) (w : World) (a p : Nat) : Prop := B ≤ a ∧ w.cell? ⟨a, 0, none⟩ = some (.string ⟨#[52, 50, 54, 48, 49]⟩) ∧ w.cell? ⟨a, 5, none⟩ = some (.int .i64 (p : Int))

theorem errAt_new {B : Nat} (W : World) (n : Nat) (t : ByteArray) (p : Nat) (hB : B ≤ n) (hn : W.heap.size = n) :
    ErrAt B (W.alloc (.cells #[.string ⟨#[52, 50, 54, 48, 49]⟩, .string t, .string ⟨#[]⟩, .string ⟨#[]⟩, .string ⟨#[]⟩, .int .i64 ((p : Int) + 1)] 43)).drew n (p + 1) := by
  subst hn
  exact ⟨hB, by simp, by simp⟩

/-- skipSpace's answer from 'k' on, counted from the query's beginning. -/
def skA (s : ByteArray) (k : Nat) : Bool × Nat := Lx.add k (Lx.skip (s.data.toList.drop k))
/-- Inside a block comment that began at 'st': 'd' are open at 'k'. -/
def BRel (s : ByteArray) (st k d : Nat) : Prop := Lx.blk (s.data.toList.drop (st + 2)) 1 = (Lx.blk (s.data.toList.drop k) d).map (· + (k - (st + 2)))

def SAns (s : ByteArray) (i : Nat) (B : Nat) (e : Ending) (w' : World) : Prop :=
  ((skA s i).1 = true ∧ e = .returned (.tuple #[.int .i64 ((skA s i).2 : Int), .nilIface])) ∨
  ((skA s i).1 = false ∧ ∃ a, e = .returned (.tuple #[.int .i64 0, .iface 39 (.pointer (some ⟨a, 0, none⟩))]) ∧ ErrAt B w' a ((skA s i).2 + 1))

theorem skA_end {s : ByteArray} {k : Nat} (h : s.size ≤ k) : skA s k = (true, k) := by
  unfold skA
  rw [List.drop_eq_nil_of_le (by simpa using h)]
  rfl
theorem add_add (a b : Nat) (x : Bool × Nat) : Lx.add a (Lx.add b x) = Lx.add (a + b) x := by simp [Lx.add, Nat.add_assoc]
theorem skA_spc {s : ByteArray} {k : Nat} (h : k < s.size) (hs : Lx.spc s[k] = true) : skA s k = skA s (k + 1) := by
  unfold skA
  rw [drop_at s k h, Lx.skip_spc _ _ hs, add_add]
theorem skA_line {s : ByteArray} {k : Nat} (h : k < s.size) (hs : Lx.spc s[k] = false) (hp : Lib.hasPrefix (s.data.toList.drop k) [45, 45] = true) (hn : Lib.indexByte (s.data.toList.drop k) 10 < 0) : skA s k = (true, s.size) := by
  unfold skA
  rw [drop_at s k h] at hp hn ⊢
  rw [Lx.skip_line _ _ hs hp hn, ← drop_at s k h]
  simp [Lx.add]; omega
theorem skA_line_end {s : ByteArray} {k : Nat} (h : k < s.size) (hs : Lx.spc s[k] = false) (hp : Lib.hasPrefix (s.data.toList.drop k) [45, 45] = true) (z : Nat) (hn : Lib.indexByte (s.data.toList.drop k) 10 = z) : skA s k = skA s (k + (z + 1)) := by
  unfold skA
  have e := drop_at s k h
  rw [e] at hp hn
  rw [e, Lx.skip_line_end _ _ hs hp z hn, ← e, List.drop_drop, add_add]
theorem skA_open {s : ByteArray} {k : Nat} (h : k < s.size) (hs : Lx.spc s[k] = false) (hq : Lib.hasPrefix (s.data.toList.drop k) [45, 45] = false) (hp : Lib.hasPrefix (s.data.toList.drop k) [47, 42] = true) (hb : Lx.blk (s.data.toList.drop (k + 2)) 1 = none) : skA s k = (false, k) := by
  unfold skA
  have e := drop_at s k h
  have e2 : (s.data.toList.drop k).drop 2 = s.data.toList.drop (k + 2) := List.drop_drop ..
  rw [← e2] at hb
  rw [e] at hp hq hb
  rw [e, Lx.skip_open _ _ hs hq hp hb]
  rfl
theorem skA_blk {s : ByteArray} {k : Nat} (h : k < s.size) (hs : Lx.spc s[k] = false) (hq : Lib.hasPrefix (s.data.toList.drop k) [45, 45] = false) (hp : Lib.hasPrefix (s.data.toList.drop k) [47, 42] = true) (n : Nat) (hb : Lx.blk (s.data.toList.drop (k + 2)) 1 = some n) : skA s k = skA s (k + (n + 2)) := by
  unfold skA
  have e := drop_at s k h
  have e2 : (s.data.toList.drop k).drop 2 = s.data.toList.drop (k + 2) := List.drop_drop ..
  rw [← e2] at hb
  rw [e] at hp hq hb
  rw [e, Lx.skip_blk _ _ hs hq hp n hb, ← e, List.drop_drop, add_add]
theorem skA_stop {s : ByteArray} {k : Nat} (h : k < s.size) (hs : Lx.spc s[k] = false) (hq : Lib.hasPrefix (s.data.toList.drop k) [45, 45] = false) (hp : Lib.hasPrefix (s.data.toList.drop k) [47, 42] = false) : skA s k = (true, k) := by
  unfold skA
  have e := drop_at s k h
  rw [e] at hp hq
  rw [e, Lx.skip_stop _ _ hs hq hp]
  rfl

theorem blk_two {l : List UInt8} {x y : UInt8} (h : Lib.hasPrefix l [x, y] = true) : ∃ r, l = x :: y :: r := Lx.hasPrefix_two h
theorem brel_start (s : ByteArray) (st : Nat) : BRel s st (st + 2) 1 := by
  unfold BRel; simp
theorem pre_len {s : ByteArray} {k : Nat} {x y : UInt8} (hp : Lib.hasPrefix (s.data.toList.drop k) [x, y] = true) : k + 2 ≤ s.size := by
  obtain ⟨r, e⟩ := Lx.hasPrefix_two hp
  have := congrArg List.length e
  simp at this
  omega
theorem brel_open {s : ByteArray} {st k d : Nat} (hk : st + 2 ≤ k) (H : BRel s st k (d + 1)) (hp : Lib.hasPrefix (s.data.toList.drop k) [47, 42] = true) : BRel s st (k + 2) (d + 2) := by
  unfold BRel at *
  obtain ⟨r, e⟩ := Lx.hasPrefix_two hp
  have e2 : s.data.toList.drop (k + 2) = r := by rw [← List.drop_drop, e]; rfl
  rw [H, e, e2, Lx.blk, if_pos (by decide), Option.map_map]
  congr 1
  funext x
  simp; omega
theorem brel_close {s : ByteArray} {st k d : Nat} (hk : st + 2 ≤ k) (H : BRel s st k (d + 1)) (hp : Lib.hasPrefix (s.data.toList.drop k) [42, 47] = true) : BRel s st (k + 2) d := by
  unfold BRel at *
  obtain ⟨r, e⟩ := Lx.hasPrefix_two hp
  have e2 : s.data.toList.drop (k + 2) = r := by rw [← List.drop_drop, e]; rfl
  rw [H, e, e2, Lx.blk, if_neg (by decide), if_pos (by decide), Option.map_map]
  congr 1
  funext x
  simp; omega
theorem brel_step {s : ByteArray} {st k d : Nat} (hk : st + 2 ≤ k) (h : k < s.size) (H : BRel s st k (d + 1)) (ho : Lib.hasPrefix (s.data.toList.drop k) [47, 42] = false) (hc : Lib.hasPrefix (s.data.toList.drop k) [42, 47] = false) : BRel s st (k + 1) (d + 1) := by
  unfold BRel at *
  rw [H]
  rw [drop_at s k h] at ho hc ⊢
  cases e : s.data.toList.drop (k + 1) with
  | nil => simp [Lx.blk]
  | cons b r =>
    rw [e] at ho hc
    have h1 : ¬ (s[k] == 47 && b == 42) = true := fun hx => by
      simp only [Bool.and_eq_true, beq_iff_eq] at hx
      rw [hx.1, hx.2] at ho; cases ho
    have h2 : ¬ (s[k] == 42 && b == 47) = true := fun hx => by
      simp only [Bool.and_eq_true, beq_iff_eq] at hx
      rw [hx.1, hx.2] at hc; cases hc
    rw [Lx.blk, if_neg h1, if_neg h2, Option.map_map]
    congr 1
    funext x
    simp; omega
theorem brel_none {s : ByteArray} {st k d : Nat} (h : s.size ≤ k) (H : BRel s st k (d + 1)) : Lx.blk (s.data.toList.drop (st + 2)) 1 = none := by
  unfold BRel at H
  rw [H, List.drop_eq_nil_of_le (i := k) (by simpa using h)]
  rfl
theorem brel_some {s : ByteArray} {st k : Nat} (H : BRel s st k 0) : Lx.blk (s.data.toList.drop (st + 2)) 1 = some (k - (st + 2)) := by
  unfold BRel at H
  rw [H]
  cases s.data.toList.drop k with
  | nil => simp [Lx.blk]
  | cons a r => simp [Lx.blk]

theorem sans_ok {s : ByteArray} {i B n : Nat} {w' : World} (h : skA s i = (true, n)) : SAns s i B (.returned (.tuple #[.int .i64 (n : Int), .nilIface])) w' :=
  Or.inl ⟨by rw [h], by rw [h]⟩
theorem sans_err {s : ByteArray} {i B n : Nat} {w' : World} (h : skA s i = (false, n)) (a : Nat) (hE : ErrAt B w' a (n + 1)) : SAns s i B (.returned (.tuple #[.int .i64 0, .iface 39 (.pointer (some ⟨a, 0, none⟩))])) w' :=
  Or.inr ⟨by rw [h], a, rfl, by rw [h]; exact hE⟩

theorem fmtOpen : FmtStop.printed? ⟨#[117, 110, 116, 101, 114, 109, 105, 110, 97, 116, 101, 100, 32, 47, 42, 32, 99, 111, 109, 109, 101, 110, 116, 32, 97, 116, 32, 111, 114, 32, 110, 101, 97, 114, 32, 34, 37, 115, 34]⟩ 1 = some [(0, 115, false)] := by kernel_rfl

set_option maxRecDepth 100000 in
set_option maxHeartbeats 2000000 in
theorem skipSpace_any (F : Interp) (s : ByteArray) (i : Nat) (w : World) (hF : F.answers w.tape) (hs : s.size ≤ 1000000000) (hi : i ≤ s.size) :
    Calls Tryf.prog 14 #[.string s, .int .i64 i] w fun e w' => SAns s i w.heap.size e w' ∧ Below w.heap.size w w' := by
  go_enter Tryf.func14, Tryf.ntmps14
  go_wp2
  go_loopw [1] (fun j wr => ∃ k : Nat, k ≤ s.size ∧ j = .int .i64 k ∧ Hid (skA s i = skA s k) ∧ Below w.heap.size w wr) (fun j _ => s.size - (intOf j).toNat)
  case atStart => exact ⟨i, hi, rfl, rfl, Below.refl _ _⟩
  case round =>
    obtain ⟨k, hk, rfl, HR, hbel⟩ := hrel
    by_cases hlt : k < s.size
    · have hlz : (k : Int) < (s.size : Int) := by omega
      have cS := containsSpaceW s[k] wr
      cases hsp : Lx.spc s[k] with
      | true =>
        rw [hsp] at cS
        have HR2 : Hid (skA s i = skA s (k + 1)) := HR.out.trans (skA_spc hlt hsp)
        clear hsp HR
        go_wp2_with fail
        refine cS.mono ?_
        rintro e w1 ⟨rfl, hb1⟩
        go_wp2
        exact ⟨⟨k + 1, by omega, by go_num, HR2, hbel.trans (hb1.mono hbel.size)⟩, by simp [intOf]; omega⟩
      | false =>
        rw [hsp] at cS
        have HS : Hid (Lx.spc s[k] = false) := hsp
        clear hsp
        go_wp2_with fail
        refine cS.mono ?_
        rintro e w1 ⟨rfl, hb1⟩
        have hbel1 := hbel.trans (hb1.mono hbel.size)
        clear cS hb1 hbel
        cases hp : Lib.hasPrefix (s.data.toList.drop k) [45, 45] with
        | true =>
          have cP := hasPrefix_at s k ⟨#[45, 45]⟩ true w1 hp
          have HP : Hid (Lib.hasPrefix (s.data.toList.drop k) [45, 45] = true) := hp
          clear hp
          go_wp2_with fail
          refine cP.mono ?_
          rintro e w2 ⟨rfl, rfl⟩
          have hlt2 := Lx.indexByte_lt (s.data.toList.drop k) 10
          have hge2 := Lib.indexByte_ge (s.data.toList.drop k) 10
          obtain ⟨z, hz⟩ : ∃ z, Lib.indexByte (s.data.toList.drop k) 10 = z := ⟨_, rfl⟩
          have cN := indexNl_at s k z w2 hz
          rw [hz] at hlt2 hge2
          simp only [List.length_drop, Array.length_toList, ByteArray.size_data] at hlt2
          have hlt3 : z < (s.size : Int) - k := by omega
          have HZ : Hid (Lib.indexByte (s.data.toList.drop k) 10 = z) := hz
          clear hz hlt2 cP
          go_wp2_with fail
          refine cN.mono ?_
          rintro e w3 ⟨rfl, rfl⟩
          by_cases hz0 : z < 0
          · have HE : Hid (skA s i = (true, s.size)) := HR.out.trans (skA_line hlt HS.out HP.out (by rw [HZ.out]; exact hz0))
            go_wp2
            go_ret2
            exact ⟨sans_ok HE.out, hbel1⟩
          · obtain ⟨y, rfl⟩ : ∃ y : Nat, z = y := ⟨z.toNat, by omega⟩
            have HR2 : Hid (skA s i = skA s (k + (y + 1))) := HR.out.trans (skA_line_end hlt HS.out HP.out y HZ.out)
            go_wp2
            exact ⟨⟨k + (y + 1), by omega, by go_num, HR2, hbel1⟩, by simp [intOf]; omega⟩
        | false =>
          have cP := hasPrefix_at s k ⟨#[45, 45]⟩ false w1 hp
          have HP : Hid (Lib.hasPrefix (s.data.toList.drop k) [45, 45] = false) := hp
          clear hp
          go_wp2_with fail
          refine cP.mono ?_
          rintro e w2 ⟨rfl, rfl⟩
          clear cP
          cases hq : Lib.hasPrefix (s.data.toList.drop k) [47, 42] with
          | false =>
            have cQ := hasPrefix_at s k ⟨#[47, 42]⟩ false w2 hq
            have HE : Hid (skA s i = (true, k)) := HR.out.trans (skA_stop hlt HS.out HP.out hq)
            clear hq
            go_wp2_with fail
            refine cQ.mono ?_
            rintro e w3 ⟨rfl, rfl⟩
            go_wp2
            go_ret2
            exact ⟨sans_ok HE.out, hbel1⟩
          | true =>
            have cQ := hasPrefix_at s k ⟨#[47, 42]⟩ true w2 hq
            have HQ : Hid (Lib.hasPrefix (s.data.toList.drop k) [47, 42] = true) := hq
            have hk2 := pre_len hq
            clear hq
            go_wp2_with fail
            refine cQ.mono ?_
            rintro e w3 ⟨rfl, rfl⟩
            clear cQ
            go_wp2
            obtain ⟨wo, rfl⟩ : ∃ wo : World, wo = w3 := ⟨_, rfl⟩
            go_loopw [1, 8] (fun j dd wr => ∃ k2 d : Nat, k ≤ k2 ∧ k2 ≤ s.size ∧ j = .int .i64 k2 ∧ dd = .int .i64 d ∧ d ≤ k2 ∧ wr = wo ∧ Hid ((k2 = k ∧ d = 0) ∨ (k + 2 ≤ k2 ∧ BRel s k k2 d))) (fun j _ _ => s.size + 1 - (intOf j).toNat)
            case atStart => exact ⟨k, 0, Nat.le_refl _, hk, rfl, rfl, Nat.zero_le _, rfl, Or.inl ⟨rfl, rfl⟩⟩
            case round =>
              obtain ⟨k2, d, hkk, hk2s, rfl, rfl, hdk, rfl, HD⟩ := hrel
              rcases HD.out with ⟨e1, e2⟩ | ⟨h2, hB⟩
              · subst e1 e2
                have cO := hasPrefix_at s k2 ⟨#[47, 42]⟩ true wr HQ.out
                have HB : Hid ((k2 + 2 = k2 ∧ 1 = 0) ∨ (k2 + 2 ≤ k2 + 2 ∧ BRel s k2 (k2 + 2) 1)) := Or.inr ⟨Nat.le_refl _, brel_start s k2⟩
                clear HD
                go_wp2_with fail
                refine cO.mono ?_
                rintro e w4 ⟨rfl, rfl⟩
                go_wp2
                exact ⟨⟨k2 + 2, 1, by omega, by omega, by go_num, by go_num, by omega, by trivial, HB⟩, by simp [intOf]; omega⟩
              · have hne : ((k2 : Int) == (k : Int)) = false := by simp; omega
                cases d with
                | zero =>
                  have hb0 := brel_some hB
                  have HR2 : Hid (skA s i = skA s k2) := by
                    have h3 := skA_blk hlt HS.out HP.out HQ.out _ hb0
                    rw [show k + (k2 - (k + 2) + 2) = k2 from by omega] at h3
                    exact HR.out.trans h3
                  clear hB HD hb0
                  go_wp2
                  exact ⟨⟨k2, by omega, rfl, HR2, hbel1⟩, by simp [intOf]; omega⟩
                | succ d =>
                  have HB : Hid (BRel s k k2 (d + 1)) := hB
                  clear hB HD
                  have hdz : (0 : Int) < ((d + 1 : Nat) : Int) := by omega
                  by_cases hge : k2 < s.size
                  · have hgz : (k2 : Int) < (s.size : Int) := by omega
                    cases ho : Lib.hasPrefix (s.data.toList.drop k2) [47, 42] with
                    | true =>
                      have cO := hasPrefix_at s k2 ⟨#[47, 42]⟩ true wr ho
                      have hk3 := pre_len ho
                      have HB2 : Hid ((k2 + 2 = k ∧ d + 2 = 0) ∨ (k + 2 ≤ k2 + 2 ∧ BRel s k (k2 + 2) (d + 2))) := Or.inr ⟨by omega, brel_open h2 HB.out ho⟩
                      clear ho HB
                      go_wp2_with fail
                      refine cO.mono ?_
                      rintro e w4 ⟨rfl, rfl⟩
                      go_wp2
                      exact ⟨⟨k2 + 2, d + 2, by omega, by omega, by go_num, by go_num, by omega, by trivial, HB2⟩, by simp [intOf]; omega⟩
                    | false =>
                      have cO := hasPrefix_at s k2 ⟨#[47, 42]⟩ false wr ho
                      cases hc : Lib.hasPrefix (s.data.toList.drop k2) [42, 47] with
                      | true =>
                        have cC := hasPrefix_at s k2 ⟨#[42, 47]⟩ true wr hc
                        have hk3 := pre_len hc
                        have HB2 : Hid ((k2 + 2 = k ∧ d = 0) ∨ (k + 2 ≤ k2 + 2 ∧ BRel s k (k2 + 2) d)) := Or.inr ⟨by omega, brel_close h2 HB.out hc⟩
                        clear ho hc HB
                        go_wp2_with fail
                        refine cO.mono ?_
                        rintro e w4 ⟨rfl, rfl⟩
                        go_wp2_with fail
                        refine cC.mono ?_
                        rintro e w5 ⟨rfl, rfl⟩
                        go_wp2
                        exact ⟨⟨k2 + 2, d, by omega, by omega, by go_num, by go_num, by omega, by trivial, HB2⟩, by simp [intOf]; omega⟩
                      | false =>
                        have cC := hasPrefix_at s k2 ⟨#[42, 47]⟩ false wr hc
                        have HB2 : Hid ((k2 + 1 = k ∧ d + 1 = 0) ∨ (k + 2 ≤ k2 + 1 ∧ BRel s k (k2 + 1) (d + 1))) := Or.inr ⟨by omega, brel_step h2 hge HB.out ho hc⟩
                        clear ho hc HB
                        go_wp2_with fail
                        refine cO.mono ?_
                        rintro e w4 ⟨rfl, rfl⟩
                        go_wp2_with fail
                        refine cC.mono ?_
                        rintro e w5 ⟨rfl, rfl⟩
                        go_wp2
                        exact ⟨⟨k2 + 1, d + 1, by omega, by omega, by go_num, by go_num, by omega, by trivial, HB2⟩, by simp [intOf]; omega⟩
                  · have hgz : (s.size : Int) ≤ (k2 : Int) := by omega
                    have HE : Hid (skA s i = (false, k)) := HR.out.trans (skA_open hlt HS.out HP.out HQ.out (brel_none (by omega) HB.out))
                    have hFr : F.answers wr.tape := by rw [hbel1.tape]; exact hF
                    have cA := at_one F k _ (s.extract k s.size) wr.heap.size (wr.alloc (.cells #[.iface 9 (.string (s.extract k s.size))] 20)) hFr (by omega) fmtOpen (by simp)
                    clear hFr
                    clear HB
                    go_wp2_with fail
                    refine cA.mono ?_
                    rintro e w4 ⟨t, rfl, rfl⟩
                    go_wp2
                    go_ret2
                    refine ⟨sans_err HE.out _ (errAt_new (wr.alloc _) _ t k (Nat.le_succ_of_le hbel1.size) (by simp)), ?_⟩
                    exact ((hbel1.alloc hbel1.size _).alloc (by simp; exact Nat.le_succ_of_le hbel1.size) _).drew
    · have HE : Hid (skA s i = (true, k)) := HR.out.trans (skA_end (by omega))
      go_wp2
      go_ret2
      exact ⟨sans_ok HE.out, hbel⟩
end Go.Proofs.Qxb6608672aFmt
