/-
  Seat b6608680aF (chigu). THE PLAIN LAYER: a text is clean of a kind of rune; cleanness splits behind whole runes. No Go in sight.
-/
import Derived.Shelf.GgClosure.StringsIndexFunc
import Derived.Shelf.Unicode.IsSpaceAny
import Derived.Lib.IsU
namespace Go.Proofs.Qxb6608680aFmt
open Go.Lib

/-- The bytes from place i on, k further (0 behind the end). -/
theorem get_eq (s : ByteArray) (i : Nat) : s.get! i = s.data.toList.getD i 0 := by
  unfold ByteArray.get!
  simp [Array.getElem!_eq_getD, Array.getD, List.getD, Array.getElem?_toList]
  split <;> simp_all <;> rfl

theorem decode_width (s : ByteArray) (i : Nat) : 1 ≤ (Utf8.decode s i).2 := by
  unfold Utf8.decode
  dsimp only
  repeat' split
  all_goals simp

/-- No rune of s from place i on is of the kind q. -/
def Clean (q : Nat → Bool) (s : ByteArray) (i : Nat) : Prop := idxFuncFrom q true s s.size i = -1

theorem from_fuel (q : Nat → Bool) (s : ByteArray) : ∀ (f g i : Nat), s.size ≤ i + f → s.size ≤ i + g → idxFuncFrom q true s f i = idxFuncFrom q true s g i
  | 0, g, i, hf, hg => by rw [idxFuncFrom_end q true s 0 i (by omega), idxFuncFrom_end q true s g i (by omega)]
  | f + 1, 0, i, hf, hg => by rw [idxFuncFrom_end q true s _ i (by omega), idxFuncFrom_end q true s 0 i (by omega)]
  | f + 1, g + 1, i, hf, hg => by
    have hw := decode_width s i
    unfold idxFuncFrom
    rw [from_fuel q s f g (i + (Utf8.decode s i).2) (by omega) (by omega)]

theorem clean_step (q : Nat → Bool) (s : ByteArray) (i r n : Nat) (h : i < s.size) (hd : Utf8.decode s i = (r, n)) (_hn : 1 ≤ n) : Clean q s i ↔ q r = false ∧ Clean q s (i + n) := by
  unfold Clean
  rw [from_fuel q s s.size (s.size + 1) i (by omega) (by omega)]
  have e : idxFuncFrom q true s (s.size + 1) i = if i < s.size then (if q (Utf8.decode s i).1 = true then (i : Int) else idxFuncFrom q true s s.size (i + (Utf8.decode s i).2)) else -1 := rfl
  rw [e, if_pos h, hd]
  cases hq : q r with
  | true => simp
  | false => simp

theorem clean_end (q : Nat → Bool) (s : ByteArray) (i : Nat) (h : s.size ≤ i) : Clean q s i := idxFuncFrom_end q true s _ i (by omega)

theorem decode_congr (s t : ByteArray) (i j : Nat) (hs : ∀ k, s.get! (i + k) = t.get! (j + k)) (hz : ∀ k, i + k < s.size ↔ j + k < t.size) : Utf8.decode s i = Utf8.decode t j := by
  unfold Utf8.decode
  dsimp only
  simp only [hs, hz]

theorem get_app (a b : ByteArray) (i : Nat) : (a ++ b).get! i = if i < a.size then a.get! i else b.get! (i - a.size) := by
  rw [get_eq, get_eq, get_eq]
  rw [ByteArray.data_append]
  simp only [Array.toList_append, List.getD]
  have : a.size = a.data.toList.length := rfl
  split
  · rw [List.getElem?_append_left (by omega)]
  · rw [List.getElem?_append_right (by omega), this]

theorem decode_app (a b : ByteArray) (i : Nat) : Utf8.decode (a ++ b) (a.size + i) = Utf8.decode b i := by
  refine decode_congr _ _ _ _ (fun k => ?_) (fun k => ?_)
  · rw [get_app, if_neg (by omega)]
    congr 1; omega
  · rw [ByteArray.size_append]; omega

theorem clean_app (q : Nat → Bool) (a b : ByteArray) (i : Nat) : Clean q (a ++ b) (a.size + i) ↔ Clean q b i := by
  have key : ∀ f i, b.size ≤ i + f → (Clean q (a ++ b) (a.size + i) ↔ Clean q b i) := by
    intro f
    induction f with
    | zero =>
      intro i h
      exact ⟨fun _ => clean_end q b i (by omega), fun _ => clean_end q (a ++ b) _ (by rw [ByteArray.size_append]; omega)⟩
    | succ f ih =>
      intro i h
      by_cases hi : i < b.size
      · have hw := decode_width b i
        obtain ⟨r, n, hd⟩ : ∃ r n, Utf8.decode b i = (r, n) := ⟨_, _, rfl⟩
        have hd' := decode_app a b i
        rw [hd] at hd' hw
        rw [clean_step q (a ++ b) (a.size + i) r n (by rw [ByteArray.size_append]; omega) hd' hw, clean_step q b i r n hi hd hw, Nat.add_assoc, ih (i + n) (by simp at hw; omega)]
      · exact ⟨fun _ => clean_end q b i (by omega), fun _ => clean_end q (a ++ b) _ (by rw [ByteArray.size_append]; omega)⟩
  exact key b.size i (by omega)

/-- At place i of s there lies a whole rune of n bytes, whatever follows s. -/
def Wid (s : ByteArray) (i n : Nat) : Prop := 1 ≤ n ∧ i + n ≤ s.size ∧ ∃ r, ∀ b, Utf8.decode (s ++ b) i = (r, n)

/-- s is whole runes up to place i. -/
def Runs (s : ByteArray) (i : Nat) : Prop := ∀ p : Nat → Prop, p 0 → (∀ i n, p i → Wid s i n → p (i + n)) → p i
theorem Runs.start {s : ByteArray} : Runs s 0 := fun _ h _ => h
theorem Runs.more {s : ByteArray} {i n : Nat} (h : Runs s i) (hw : Wid s i n) : Runs s (i + n) := fun p h0 hs => hs i n (h p h0 hs) hw

theorem runs_split (q : Nat → Bool) (s : ByteArray) {i : Nat} (h : Runs s i) : ∃ U : Prop, ∀ b, Clean q (s ++ b) 0 ↔ U ∧ Clean q (s ++ b) i := by
  refine h (fun i => ∃ U : Prop, ∀ b, Clean q (s ++ b) 0 ↔ U ∧ Clean q (s ++ b) i) ⟨True, fun b => by simp⟩ ?_
  rintro i n ⟨U, hU⟩ ⟨h1, h2, r, hr⟩
  refine ⟨U ∧ q r = false, fun b => ?_⟩
  rw [hU b, clean_step q (s ++ b) i r n (by rw [ByteArray.size_append]; omega) (hr b) h1, and_assoc]

theorem app_nil (s : ByteArray) : s ++ (⟨#[]⟩ : ByteArray) = s := by
  apply ByteArray.ext
  rw [ByteArray.data_append]
  simp

theorem clean_split (q : Nat → Bool) (a b : ByteArray) (h : Runs a a.size) : Clean q (a ++ b) 0 ↔ Clean q a 0 ∧ Clean q b 0 := by
  obtain ⟨U, hU⟩ := runs_split q a h
  have h1 := hU b
  have h2 := hU ⟨#[]⟩
  rw [app_nil] at h2
  have h3 := clean_app q a b 0
  rw [Nat.add_zero] at h3
  have h4 := clean_end q a a.size (Nat.le_refl _)
  rw [h1, h2, h3]
  simp [h4]

/-! ### whole runes -/
theorem wid_of (s : ByteArray) (i n : Nat) (h1 : 1 ≤ n) (h2 : i + n ≤ s.size) (r : Nat) (h : ∀ t : ByteArray, s.size ≤ t.size → (∀ k, k < n → t.get! (i + k) = s.get! (i + k)) → Utf8.decode t i = (r, n)) : Wid s i n :=
  ⟨h1, h2, r, fun b => h (s ++ b) (by rw [ByteArray.size_append]; omega) (fun k hk => by rw [get_app, if_pos (by omega)])⟩

theorem wid_one (s : ByteArray) (i : Nat) (h : i < s.size) (hc : (s.get! i).toNat < 128) : Wid s i 1 := by
  refine wid_of s i 1 (by omega) (by omega) (s.get! i).toNat fun t ht hk => ?_
  have h0 := hk 0 (by omega)
  unfold Utf8.decode
  dsimp only
  rw [Nat.add_zero] at h0
  simp only [Nat.add_zero, h0]
  rw [if_pos (by omega)]

theorem wid_two (s : ByteArray) (i : Nat) (h : i + 1 < s.size) (hc : 194 ≤ (s.get! i).toNat) (hc' : (s.get! i).toNat ≤ 223) (h1 : 128 ≤ (s.get! (i + 1)).toNat) (h1' : (s.get! (i + 1)).toNat ≤ 191) : Wid s i 2 := by
  refine wid_of s i 2 (by omega) (by omega) ((s.get! i).toNat % 32 * 64 + (s.get! (i + 1)).toNat % 64) fun t ht hk => ?_
  have k0 := hk 0 (by omega)
  have k1 := hk 1 (by omega)
  rw [Nat.add_zero] at k0
  unfold Utf8.decode
  dsimp only
  simp only [Nat.add_zero, k0, k1]
  have e1 : (s.get! i).toNat / 32 = 6 := by omega
  have e2 : (s.get! (i + 1)).toNat / 64 = 2 := by omega
  have e3 : i + 1 < t.size := by omega
  rw [if_neg (by omega)]
  simp only [e1, e2, e3, decide_true, Bool.and_self, beq_self_eq_true, if_true]
  rw [if_pos (by omega)]

theorem wid_three (s : ByteArray) (i : Nat) (h : i + 2 < s.size) (hc : 224 ≤ (s.get! i).toNat) (hc' : (s.get! i).toNat ≤ 239)
    (h1 : 128 ≤ (s.get! (i + 1)).toNat) (h1' : (s.get! (i + 1)).toNat ≤ 191) (h2 : 128 ≤ (s.get! (i + 2)).toNat) (h2' : (s.get! (i + 2)).toNat ≤ 191)
    (lo : (s.get! i).toNat = 224 → 160 ≤ (s.get! (i + 1)).toNat) (hi : (s.get! i).toNat = 237 → (s.get! (i + 1)).toNat ≤ 159) : Wid s i 3 := by
  refine wid_of s i 3 (by omega) (by omega) ((s.get! i).toNat % 16 * 4096 + (s.get! (i + 1)).toNat % 64 * 64 + (s.get! (i + 2)).toNat % 64) fun t ht hk => ?_
  have k0 := hk 0 (by omega)
  have k1 := hk 1 (by omega)
  have k2 := hk 2 (by omega)
  rw [Nat.add_zero] at k0
  unfold Utf8.decode
  dsimp only
  simp only [Nat.add_zero, k0, k1, k2]
  have e1 : (s.get! i).toNat / 16 = 14 := by omega
  have e1' : (s.get! i).toNat / 32 = 7 := by omega
  have e2 : (s.get! (i + 1)).toNat / 64 = 2 := by omega
  have e4 : (s.get! (i + 2)).toNat / 64 = 2 := by omega
  have e3 : i + 1 < t.size := by omega
  have e5 : i + 2 < t.size := by omega
  rw [if_neg (by omega)]
  simp only [e1, e1', e2, e3, e4, e5, decide_true, Bool.and_self, beq_self_eq_true, if_true]
  rw [if_neg (by decide), if_pos]
  unfold Utf8.valid
  simp
  omega

theorem wid_four (s : ByteArray) (i : Nat) (h : i + 3 < s.size) (hc : 240 ≤ (s.get! i).toNat) (hc' : (s.get! i).toNat ≤ 244)
    (h1 : 128 ≤ (s.get! (i + 1)).toNat) (h1' : (s.get! (i + 1)).toNat ≤ 191) (h2 : 128 ≤ (s.get! (i + 2)).toNat) (h2' : (s.get! (i + 2)).toNat ≤ 191)
    (h3 : 128 ≤ (s.get! (i + 3)).toNat) (h3' : (s.get! (i + 3)).toNat ≤ 191)
    (lo : (s.get! i).toNat = 240 → 144 ≤ (s.get! (i + 1)).toNat) (hi : (s.get! i).toNat = 244 → (s.get! (i + 1)).toNat ≤ 143) : Wid s i 4 := by
  refine wid_of s i 4 (by omega) (by omega) ((s.get! i).toNat % 8 * 262144 + (s.get! (i + 1)).toNat % 64 * 4096 + (s.get! (i + 2)).toNat % 64 * 64 + (s.get! (i + 3)).toNat % 64) fun t ht hk => ?_
  have k0 := hk 0 (by omega)
  have k1 := hk 1 (by omega)
  have k2 := hk 2 (by omega)
  have k3 := hk 3 (by omega)
  rw [Nat.add_zero] at k0
  unfold Utf8.decode
  dsimp only
  simp only [Nat.add_zero, k0, k1, k2, k3]
  have e1 : (s.get! i).toNat / 8 = 30 := by omega
  have e1' : (s.get! i).toNat / 16 = 15 := by omega
  have e1'' : (s.get! i).toNat / 32 = 7 := by omega
  have e2 : (s.get! (i + 1)).toNat / 64 = 2 := by omega
  have e4 : (s.get! (i + 2)).toNat / 64 = 2 := by omega
  have e6 : (s.get! (i + 3)).toNat / 64 = 2 := by omega
  have e3 : i + 1 < t.size := by omega
  have e5 : i + 2 < t.size := by omega
  have e7 : i + 3 < t.size := by omega
  rw [if_neg (by omega)]
  simp only [e1, e1', e1'', e2, e3, e4, e5, e6, e7, decide_true, Bool.and_self, beq_self_eq_true, if_true]
  rw [if_neg (by decide), if_neg (by decide), if_pos]
  unfold Utf8.valid
  simp
  omega

/-- One byte that opens no longer rune stands for itself or for U+FFFD. -/
def loneRune (c : UInt8) : Nat := if c.toNat < 128 then c.toNat else 65533
theorem lone_decode (c : UInt8) (b : ByteArray) (h : ¬ (194 ≤ c.toNat ∧ c.toNat ≤ 244)) : Utf8.decode ((⟨#[c]⟩ : ByteArray) ++ b) 0 = (loneRune c, 1) := by
  have hc : ((⟨#[c]⟩ : ByteArray) ++ b).get! 0 = c := by rw [get_app, if_pos (show 0 < (⟨#[c]⟩ : ByteArray).size from Nat.zero_lt_one)]; rfl
  have hlt := c.toNat_lt
  unfold Utf8.decode loneRune
  dsimp only
  simp only [Nat.add_zero, hc]
  split
  · rfl
  · split
    · rename_i h1 h2
      simp at h2
      rw [if_neg (by omega)]
      rfl
    · split
      · rename_i h1 h2 h3
        simp at h3
        omega
      · split
        · rename_i h1 h2 h3 h4
          simp at h4
          rw [if_neg]
          · rfl
          unfold Utf8.valid
          simp
          omega
        · rfl
theorem lone_runs (c : UInt8) (h : ¬ (194 ≤ c.toNat ∧ c.toNat ≤ 244)) : Runs ⟨#[c]⟩ (⟨#[c]⟩ : ByteArray).size :=
  Runs.more (i := 0) (n := 1) Runs.start ⟨by omega, Nat.le_refl _, loneRune c, fun b => lone_decode c b h⟩
theorem lone_clean (q : Nat → Bool) (c : UInt8) (h : ¬ (194 ≤ c.toNat ∧ c.toNat ≤ 244)) : Clean q ⟨#[c]⟩ 0 ↔ q (loneRune c) = false := by
  have hd := lone_decode c ⟨#[]⟩ h
  rw [app_nil] at hd
  rw [clean_step q ⟨#[c]⟩ 0 _ _ (Nat.zero_lt_one : 0 < 1) hd (by omega)]
  have := clean_end q ⟨#[c]⟩ 1 (Nat.le_refl 1)
  simp [this]

/-! ### words -/
def ccT : RTab := ⟨#[(0, 31, 1), (127, 159, 1)], #[], 2⟩
def cfT : RTab := ⟨#[(173, 1536, 1363), (1537, 1541, 1), (1564, 1757, 193), (1807, 2192, 385), (2193, 2274, 81), (6158, 8203, 2045), (8204, 8207, 1), (8234, 8238, 1), (8288, 8292, 1), (8294, 8303, 1), (65279, 65529, 250), (65530, 65531, 1)],
  #[(69821, 69837, 16), (78896, 78911, 1), (113824, 113827, 1), (119155, 119162, 1), (917505, 917536, 31), (917537, 917631, 1)], 0⟩
def hid (r : Nat) : Bool := [ccT, cfT].any (isGo · (r : Int))
def spc (r : Nat) : Bool := isSpaceZ (r : Int)
/-- What CheckWord takes. -/
def Word (s : ByteArray) : Prop := s ≠ ⟨#[]⟩ ∧ Clean spc s 0 ∧ Clean hid s 0
def Fine (s : ByteArray) : Prop := Clean spc s 0 ∧ Clean hid s 0

theorem fine_nil : Fine ⟨#[]⟩ := ⟨clean_end _ _ _ (by decide), clean_end _ _ _ (by decide)⟩
theorem fine_split (a b : ByteArray) (h : Runs a a.size) : Fine (a ++ b) ↔ Fine a ∧ Fine b := by
  unfold Fine
  rw [clean_split spc a b h, clean_split hid a b h]
  constructor
  · rintro ⟨⟨h1, h2⟩, h3, h4⟩; exact ⟨⟨h1, h3⟩, h2, h4⟩
  · rintro ⟨⟨h1, h3⟩, h2, h4⟩; exact ⟨⟨h1, h2⟩, h3, h4⟩

theorem lone_table : ∀ c : Fin 256, ((spc (loneRune (UInt8.ofNat c.val)) = false ∧ hid (loneRune (UInt8.ofNat c.val)) = false) ↔ (32 < c.val ∧ c.val ≠ 127)) := by decide +kernel
theorem lone_fine (c : UInt8) (h : ¬ (194 ≤ c.toNat ∧ c.toNat ≤ 244)) : Fine ⟨#[c]⟩ ↔ (32 < c.toNat ∧ c.toNat ≠ 127) := by
  unfold Fine
  rw [lone_clean spc c h, lone_clean hid c h]
  have := lone_table ⟨c.toNat, c.toNat_lt⟩
  simpa using this

theorem print_table : ∀ c : Fin 127, 32 < c.val → spc c.val = false ∧ hid c.val = false := by decide +kernel
theorem print_clean (q : Nat → Bool) (s : ByteArray) (hq : ∀ c, 32 < c → c ≤ 126 → q c = false) (h : ∀ i, i < s.size → 32 < (s.get! i).toNat ∧ (s.get! i).toNat ≤ 126) : ∀ f i, idxFuncFrom q true s f i = -1
  | 0, _ => rfl
  | f + 1, i => by
    unfold idxFuncFrom
    split
    · rename_i hi
      have hb := h i hi
      have hd : Utf8.decode s i = ((s.get! i).toNat, 1) := by
        unfold Utf8.decode
        dsimp only
        simp only [Nat.add_zero]
        rw [if_pos (by omega)]
      rw [hd, hq _ hb.1 hb.2]
      simp only [Bool.false_eq_true, if_false]
      exact print_clean q s hq h f (i + 1)
    · rfl
theorem print_fine (s : ByteArray) (h : ∀ i, i < s.size → 32 < (s.get! i).toNat ∧ (s.get! i).toNat ≤ 126) : Fine s :=
  ⟨print_clean spc s (fun c h1 h2 => (print_table ⟨c, by omega⟩ h1).1) h _ _, print_clean hid s (fun c h1 h2 => (print_table ⟨c, by omega⟩ h1).2) h _ _⟩
end Go.Proofs.Qxb6608680aFmt
