/-
  Seat b6608672aF (tabulon). WALK: lexToken at an operator, or where no token stands.
-/
import Derived.Test.Qxb6608672aFmtWalkI
import Derived.Shelf.Unicode.DecodeLastEight
namespace Go.Proofs.Qxb6608672aFmt
open Go.RowKit Go.Extern.Stop Go.Stop Go.Extern Go.Lib

theorem tok_ops {s : ByteArray} {i : Nat} (hi : i < s.size) (hid : Lx.idS s[i] = false) (hn : (Lx.dig s[i] || (s[i] == 46 && Lx.isAt Lx.dig s.data.toList (i + 1))) = false)
    (hp : (s[i] == 36 && Lx.isAt Lx.dig s.data.toList (i + 1)) = false) (h39 : ¬ s[i] = 39) (h34 : ¬ s[i] = 34) :
    Lx.tok (s.data.toList.drop i) = (Lx.ops.find? fun op => Lib.hasPrefix (s.data.toList.drop i) op).map fun op => (7, op, op.length) := by
  rw [drop_at s i hi, Lx.tok, if_neg (by simp [hid]), if_neg, if_neg, if_neg (by simpa using h39), if_neg (by simpa using h34)]
  · rw [isAt_drop, hp]; simp
  · rw [isAt_drop, hn]; simp

/-- The k-th operator, as the program holds it. -/
def opB (k : Nat) : ByteArray := ⟨(Lx.ops.getD k []).toArray⟩
theorem find_at : ∀ (l : List (List UInt8)) (p : List UInt8 → Bool) (k : Nat) (hk : k < l.length), (∀ j (hj : j < l.length), j < k → p l[j] = false) → p l[k] = true → l.find? p = some l[k]
  | [], _, k, hk, _, _ => absurd hk (by simp)
  | a :: l, p, 0, hk, _, h => by simp only [List.getElem_cons_zero] at h ⊢; rw [List.find?_cons, h]
  | a :: l, p, k + 1, hk, hall, h => by
    have h0 := hall 0 (by simp) (by omega)
    simp only [List.getElem_cons_zero] at h0
    rw [List.find?_cons, h0]
    simp only [List.getElem_cons_succ] at h ⊢
    exact find_at l p k (by simpa using hk) (fun j hj hjk => by have := hall (j + 1) (by simpa using hj) (by omega); simpa using this) h
theorem ops_find {l : List UInt8} {k : Nat} (hk : k < 18) (hall : ∀ j, j < k → Lib.hasPrefix l (Lx.ops.getD j []) = false) (h : Lib.hasPrefix l (Lx.ops.getD k []) = true) :
    (Lx.ops.find? fun op => Lib.hasPrefix l op) = some (Lx.ops.getD k []) := by
  have hlen : Lx.ops.length = 18 := rfl
  have e : ∀ j (hj : j < Lx.ops.length), Lx.ops[j] = Lx.ops.getD j [] := fun j hj => by simp [List.getD, List.getElem?_eq_getElem hj]
  rw [← e k (by omega)]
  exact find_at _ _ k (by omega) (fun j hj hjk => by rw [e j hj]; exact hall j hjk) (by rw [e k (by omega)]; exact h)
theorem ops_none {l : List UInt8} (hall : ∀ j, j < 18 → Lib.hasPrefix l (Lx.ops.getD j []) = false) : (Lx.ops.find? fun op => Lib.hasPrefix l op) = none := by
  rw [List.find?_eq_none]
  intro op hop
  obtain ⟨j, hj, rfl⟩ := List.getElem_of_mem hop
  have := hall j hj
  simp only [List.getD, List.getElem?_eq_getElem hj, Option.getD_some] at this
  rw [this]; simp
theorem op_raw {s : ByteArray} {i : Nat} {op : List UInt8} (h : Lib.hasPrefix (s.data.toList.drop i) op = true) : (⟨op.toArray⟩ : ByteArray) = s.extract i (i + op.length) := by
  rw [← text_eq]
  unfold Lib.hasPrefix at h
  rw [List.isPrefixOf_iff_prefix] at h
  rw [← List.prefix_iff_eq_take.1 h]

theorem opsCells (k : Nat) (hk : k < 18) : (#[.string ⟨#[58, 58]⟩, .string ⟨#[60, 62]⟩, .string ⟨#[33, 61]⟩, .string ⟨#[60, 61]⟩, .string ⟨#[62, 61]⟩, .string ⟨#[61]⟩, .string ⟨#[60]⟩, .string ⟨#[62]⟩, .string ⟨#[43]⟩, .string ⟨#[45]⟩, .string ⟨#[42]⟩, .string ⟨#[47]⟩, .string ⟨#[37]⟩, .string ⟨#[40]⟩, .string ⟨#[41]⟩, .string ⟨#[44]⟩, .string ⟨#[59]⟩, .string ⟨#[46]⟩] : Array Value)[k]? = some (.string (opB k)) := by
  obtain rfl | rfl | rfl | rfl | rfl | rfl | rfl | rfl | rfl | rfl | rfl | rfl | rfl | rfl | rfl | rfl | rfl | rfl : k = 0 ∨ k = 1 ∨ k = 2 ∨ k = 3 ∨ k = 4 ∨ k = 5 ∨ k = 6 ∨ k = 7 ∨ k = 8 ∨ k = 9 ∨ k = 10 ∨ k = 11 ∨ k = 12 ∨ k = 13 ∨ k = 14 ∨ k = 15 ∨ k = 16 ∨ k = 17 := by omega
  all_goals rfl
theorem ops_world (w : World) : Below w.heap.size w ((w.alloc (.cells #[.int .u8 0, .string ⟨#[]⟩, .string ⟨#[]⟩, .int .i64 0] 34)).alloc (.cells #[.string ⟨#[58, 58]⟩, .string ⟨#[60, 62]⟩, .string ⟨#[33, 61]⟩, .string ⟨#[60, 61]⟩, .string ⟨#[62, 61]⟩, .string ⟨#[61]⟩, .string ⟨#[60]⟩, .string ⟨#[62]⟩, .string ⟨#[43]⟩, .string ⟨#[45]⟩, .string ⟨#[42]⟩, .string ⟨#[47]⟩, .string ⟨#[37]⟩, .string ⟨#[40]⟩, .string ⟨#[41]⟩, .string ⟨#[44]⟩, .string ⟨#[59]⟩, .string ⟨#[46]⟩] 9)) ∧
    ((w.alloc (.cells #[.int .u8 0, .string ⟨#[]⟩, .string ⟨#[]⟩, .int .i64 0] 34)).alloc (.cells #[.string ⟨#[58, 58]⟩, .string ⟨#[60, 62]⟩, .string ⟨#[33, 61]⟩, .string ⟨#[60, 61]⟩, .string ⟨#[62, 61]⟩, .string ⟨#[61]⟩, .string ⟨#[60]⟩, .string ⟨#[62]⟩, .string ⟨#[43]⟩, .string ⟨#[45]⟩, .string ⟨#[42]⟩, .string ⟨#[47]⟩, .string ⟨#[37]⟩, .string ⟨#[40]⟩, .string ⟨#[41]⟩, .string ⟨#[44]⟩, .string ⟨#[59]⟩, .string ⟨#[46]⟩] 9)).heap.size = w.heap.size + 2 ∧
    (∀ o, o < 4 → ((w.alloc (.cells #[.int .u8 0, .string ⟨#[]⟩, .string ⟨#[]⟩, .int .i64 0] 34)).alloc (.cells #[.string ⟨#[58, 58]⟩, .string ⟨#[60, 62]⟩, .string ⟨#[33, 61]⟩, .string ⟨#[60, 61]⟩, .string ⟨#[62, 61]⟩, .string ⟨#[61]⟩, .string ⟨#[60]⟩, .string ⟨#[62]⟩, .string ⟨#[43]⟩, .string ⟨#[45]⟩, .string ⟨#[42]⟩, .string ⟨#[47]⟩, .string ⟨#[37]⟩, .string ⟨#[40]⟩, .string ⟨#[41]⟩, .string ⟨#[44]⟩, .string ⟨#[59]⟩, .string ⟨#[46]⟩] 9)).frozen? ⟨w.heap.size, o, none⟩ = false) ∧
    ((w.alloc (.cells #[.int .u8 0, .string ⟨#[]⟩, .string ⟨#[]⟩, .int .i64 0] 34)).alloc (.cells #[.string ⟨#[58, 58]⟩, .string ⟨#[60, 62]⟩, .string ⟨#[33, 61]⟩, .string ⟨#[60, 61]⟩, .string ⟨#[62, 61]⟩, .string ⟨#[61]⟩, .string ⟨#[60]⟩, .string ⟨#[62]⟩, .string ⟨#[43]⟩, .string ⟨#[45]⟩, .string ⟨#[42]⟩, .string ⟨#[47]⟩, .string ⟨#[37]⟩, .string ⟨#[40]⟩, .string ⟨#[41]⟩, .string ⟨#[44]⟩, .string ⟨#[59]⟩, .string ⟨#[46]⟩] 9)).cell? ⟨w.heap.size, 0, none⟩ = some (.int .u8 0) ∧
    ((w.alloc (.cells #[.int .u8 0, .string ⟨#[]⟩, .string ⟨#[]⟩, .int .i64 0] 34)).alloc (.cells #[.string ⟨#[58, 58]⟩, .string ⟨#[60, 62]⟩, .string ⟨#[33, 61]⟩, .string ⟨#[60, 61]⟩, .string ⟨#[62, 61]⟩, .string ⟨#[61]⟩, .string ⟨#[60]⟩, .string ⟨#[62]⟩, .string ⟨#[43]⟩, .string ⟨#[45]⟩, .string ⟨#[42]⟩, .string ⟨#[47]⟩, .string ⟨#[37]⟩, .string ⟨#[40]⟩, .string ⟨#[41]⟩, .string ⟨#[44]⟩, .string ⟨#[59]⟩, .string ⟨#[46]⟩] 9)).cell? ⟨w.heap.size, 1, none⟩ = some (.string ⟨#[]⟩) ∧
    ((w.alloc (.cells #[.int .u8 0, .string ⟨#[]⟩, .string ⟨#[]⟩, .int .i64 0] 34)).alloc (.cells #[.string ⟨#[58, 58]⟩, .string ⟨#[60, 62]⟩, .string ⟨#[33, 61]⟩, .string ⟨#[60, 61]⟩, .string ⟨#[62, 61]⟩, .string ⟨#[61]⟩, .string ⟨#[60]⟩, .string ⟨#[62]⟩, .string ⟨#[43]⟩, .string ⟨#[45]⟩, .string ⟨#[42]⟩, .string ⟨#[47]⟩, .string ⟨#[37]⟩, .string ⟨#[40]⟩, .string ⟨#[41]⟩, .string ⟨#[44]⟩, .string ⟨#[59]⟩, .string ⟨#[46]⟩] 9)).cell? ⟨w.heap.size, 2, none⟩ = some (.string ⟨#[]⟩) ∧
    ((w.alloc (.cells #[.int .u8 0, .string ⟨#[]⟩, .string ⟨#[]⟩, .int .i64 0] 34)).alloc (.cells #[.string ⟨#[58, 58]⟩, .string ⟨#[60, 62]⟩, .string ⟨#[33, 61]⟩, .string ⟨#[60, 61]⟩, .string ⟨#[62, 61]⟩, .string ⟨#[61]⟩, .string ⟨#[60]⟩, .string ⟨#[62]⟩, .string ⟨#[43]⟩, .string ⟨#[45]⟩, .string ⟨#[42]⟩, .string ⟨#[47]⟩, .string ⟨#[37]⟩, .string ⟨#[40]⟩, .string ⟨#[41]⟩, .string ⟨#[44]⟩, .string ⟨#[59]⟩, .string ⟨#[46]⟩] 9)).cell? ⟨w.heap.size, 3, none⟩ = some (.int .i64 0) ∧
    Hid (∀ k, k < 18 → ((w.alloc (.cells #[.int .u8 0, .string ⟨#[]⟩, .string ⟨#[]⟩, .int .i64 0] 34)).alloc (.cells #[.string ⟨#[58, 58]⟩, .string ⟨#[60, 62]⟩, .string ⟨#[33, 61]⟩, .string ⟨#[60, 61]⟩, .string ⟨#[62, 61]⟩, .string ⟨#[61]⟩, .string ⟨#[60]⟩, .string ⟨#[62]⟩, .string ⟨#[43]⟩, .string ⟨#[45]⟩, .string ⟨#[42]⟩, .string ⟨#[47]⟩, .string ⟨#[37]⟩, .string ⟨#[40]⟩, .string ⟨#[41]⟩, .string ⟨#[44]⟩, .string ⟨#[59]⟩, .string ⟨#[46]⟩] 9)).cell? ⟨w.heap.size + 1, k, none⟩ = some (.string (opB k))) := by
  have hb0 : ((w.alloc (.cells #[.int .u8 0, .string ⟨#[]⟩, .string ⟨#[]⟩, .int .i64 0] 34)).alloc (.cells #[.string ⟨#[58, 58]⟩, .string ⟨#[60, 62]⟩, .string ⟨#[33, 61]⟩, .string ⟨#[60, 61]⟩, .string ⟨#[62, 61]⟩, .string ⟨#[61]⟩, .string ⟨#[60]⟩, .string ⟨#[62]⟩, .string ⟨#[43]⟩, .string ⟨#[45]⟩, .string ⟨#[42]⟩, .string ⟨#[47]⟩, .string ⟨#[37]⟩, .string ⟨#[40]⟩, .string ⟨#[41]⟩, .string ⟨#[44]⟩, .string ⟨#[59]⟩, .string ⟨#[46]⟩] 9)).heap[w.heap.size]? = some (.cells #[.int .u8 0, .string ⟨#[]⟩, .string ⟨#[]⟩, .int .i64 0] 34) := by
    rw [Below.heap_alloc _ _ _ (by simp)]
    exact heap_alloc_new w _
  have hb1 : ((w.alloc (.cells #[.int .u8 0, .string ⟨#[]⟩, .string ⟨#[]⟩, .int .i64 0] 34)).alloc (.cells #[.string ⟨#[58, 58]⟩, .string ⟨#[60, 62]⟩, .string ⟨#[33, 61]⟩, .string ⟨#[60, 61]⟩, .string ⟨#[62, 61]⟩, .string ⟨#[61]⟩, .string ⟨#[60]⟩, .string ⟨#[62]⟩, .string ⟨#[43]⟩, .string ⟨#[45]⟩, .string ⟨#[42]⟩, .string ⟨#[47]⟩, .string ⟨#[37]⟩, .string ⟨#[40]⟩, .string ⟨#[41]⟩, .string ⟨#[44]⟩, .string ⟨#[59]⟩, .string ⟨#[46]⟩] 9)).heap[w.heap.size + 1]? = some (.cells #[.string ⟨#[58, 58]⟩, .string ⟨#[60, 62]⟩, .string ⟨#[33, 61]⟩, .string ⟨#[60, 61]⟩, .string ⟨#[62, 61]⟩, .string ⟨#[61]⟩, .string ⟨#[60]⟩, .string ⟨#[62]⟩, .string ⟨#[43]⟩, .string ⟨#[45]⟩, .string ⟨#[42]⟩, .string ⟨#[47]⟩, .string ⟨#[37]⟩, .string ⟨#[40]⟩, .string ⟨#[41]⟩, .string ⟨#[44]⟩, .string ⟨#[59]⟩, .string ⟨#[46]⟩] 9) := by
    have := heap_alloc_new (w.alloc (.cells #[.int .u8 0, .string ⟨#[]⟩, .string ⟨#[]⟩, .int .i64 0] 34)) (.cells #[.string ⟨#[58, 58]⟩, .string ⟨#[60, 62]⟩, .string ⟨#[33, 61]⟩, .string ⟨#[60, 61]⟩, .string ⟨#[62, 61]⟩, .string ⟨#[61]⟩, .string ⟨#[60]⟩, .string ⟨#[62]⟩, .string ⟨#[43]⟩, .string ⟨#[45]⟩, .string ⟨#[42]⟩, .string ⟨#[47]⟩, .string ⟨#[37]⟩, .string ⟨#[40]⟩, .string ⟨#[41]⟩, .string ⟨#[44]⟩, .string ⟨#[59]⟩, .string ⟨#[46]⟩] 9)
    simpa using this
  refine ⟨((Below.refl _ _).alloc (Nat.le_refl _) _).alloc (by simp) _, by simp, fun o _ => Lib.frozen_of_heap hb0 o, Lib.cell_of_heap hb0 0, Lib.cell_of_heap hb0 1, Lib.cell_of_heap hb0 2, Lib.cell_of_heap hb0 3, fun k hk => ?_⟩
  rw [Lib.cell_of_heap hb1 k]
  exact opsCells k hk

theorem hasOp (s : ByteArray) (i k : Nat) (b : Bool) (w : World) (h : Lib.hasPrefix (s.data.toList.drop i) (Lx.ops.getD k []) = b) :
    Calls Tryf.prog 20 #[.string (s.extract i s.size), .string (opB k)] w fun e w' => e = .returned (.bool b) ∧ w' = w := hasPrefix_at s i (opB k) b w (by unfold opB; simpa using h)

theorem nearAt (F : Interp) (off : Nat) (x : ByteArray) (w : World) (hF : F.answers w.tape) (hoff : off ≤ 1000000000) :
    Calls Tryf.prog 18 #[.int .i64 off, .string x] w fun e w' => ∃ t, e = .returned (.iface 39 (.pointer (some ⟨w.heap.size + 1, 0, none⟩))) ∧ w' = ((w.alloc (.cells #[.iface 9 (.string x)] 20)).alloc (.cells #[.string ⟨#[52, 50, 54, 48, 49]⟩, .string t, .string ⟨#[]⟩, .string ⟨#[]⟩, .string ⟨#[]⟩, .int .i64 ((off : Int) + 1)] 43)).drew :=
  near_any F off x w hF (by omega)

set_option maxRecDepth 100000 in
set_option maxHeartbeats 4000000 in
theorem lexToken_ops (F : Interp) (s : ByteArray) (i : Nat) (w : World) (hF : F.answers w.tape) (hT : Utf8Tabs 0 1 w) (hs : s.size ≤ 1000000000) (hi : i < s.size)
    (hid : Lx.idS s[i] = false) (hn : (Lx.dig s[i] || (s[i] == 46 && Lx.isAt Lx.dig s.data.toList (i + 1))) = false)
    (hp : (s[i] == 36 && Lx.isAt Lx.dig s.data.toList (i + 1)) = false) (h39 : ¬ s[i] = 39) (h34 : ¬ s[i] = 34) :
    Calls Tryf.prog 15 #[.string s, .int .i64 i] w fun e w' => TAns s i w.heap.size e w' ∧ Below w.heap.size w w' := by
  have ht := tok_ops hi hid hn hp h39 h34
  have cI := isIdentStart_any s[i] (w.alloc (.cells #[.int .u8 0, .string ⟨#[]⟩, .string ⟨#[]⟩, .int .i64 0] 34))
  rw [hid] at cI
  have cD := isDigit_any s[i] (w.alloc (.cells #[.int .u8 0, .string ⟨#[]⟩, .string ⟨#[]⟩, .int .i64 0] 34))
  have hdf : Lx.dig s[i] = false := by cases h : Lx.dig s[i] with | false => rfl | true => rw [h] at hn; cases hn
  rw [hdf] at cD hn
  have h39z : ((s[i].toNat : Int) == 39) = false := byte_ne (c := s[i]) (d := 39) h39
  have h34z : ((s[i].toNat : Int) == 34) = false := byte_ne (c := s[i]) (d := 34) h34
  have hiz : (i : Int) < (s.size : Int) := by omega
  have HTok : Hid _ := ht
  clear h39 h34 ht hid hdf
  go_enter Tryf.func15, Tryf.ntmps15
  go_wp2_with fail
  refine cI.mono ?_
  rintro e w1 ⟨rfl, rfl⟩
  clear cI
  go_upto_region 7 with fail
  go_cut [62] (fun s62 wx => s62 = .bool false ∧ wx = w.alloc (.cells #[.int .u8 0, .string ⟨#[]⟩, .string ⟨#[]⟩, .int .i64 0] 34))
  case first =>
    by_cases h46 : s[i] = 46
    · have h46z : ((s[i].toNat : Int) == 46) = true := byte_eq h46
      rw [h46] at hn
      have hx : Lx.isAt Lx.dig s.data.toList (i + 1) = false := by simpa using hn
      by_cases hlt : i + 1 < s.size
      · have hltz : (i : Int) + 1 < (s.size : Int) := by omega
        have cD2 := isDigit_any s[i + 1] (w.alloc (.cells #[.int .u8 0, .string ⟨#[]⟩, .string ⟨#[]⟩, .int .i64 0] 34))
        rw [show Lx.dig s[i + 1] = false from by rw [← isAt_in Lx.dig s (i + 1) hlt]; exact hx] at cD2
        clear h46 hn hx hp
        go_wp2_with fail
        refine cD.mono ?_
        rintro e w1 ⟨rfl, rfl⟩
        go_wp2_with fail
        refine cD2.mono ?_
        rintro e w1 ⟨rfl, rfl⟩
        go_wp2_with fail
        go_meet
        exact ⟨rfl, rfl⟩
      · have hltz : decide ((i : Int) + 1 < (s.size : Int)) = false := by simp; omega
        clear h46 hn hx hp
        go_wp2_with fail
        refine cD.mono ?_
        rintro e w1 ⟨rfl, rfl⟩
        go_wp2_with fail
        go_meet
        exact ⟨rfl, rfl⟩
    · have h46z : ((s[i].toNat : Int) == 46) = false := byte_ne h46
      clear h46 hn hp
      go_wp2_with fail
      refine cD.mono ?_
      rintro e w1 ⟨rfl, rfl⟩
      go_wp2_with fail
      go_meet
      exact ⟨rfl, rfl⟩
  case rest =>
  obtain ⟨rfl, rfl⟩ := hcut
  clear cD hn
  go_upto_region 9 with fail
  go_cut [88] (fun s88 wx => s88 = .bool false ∧ wx = w.alloc (.cells #[.int .u8 0, .string ⟨#[]⟩, .string ⟨#[]⟩, .int .i64 0] 34))
  case first =>
    by_cases h36 : s[i] = 36
    · have h36z : ((s[i].toNat : Int) == 36) = true := byte_eq h36
      rw [h36] at hp
      have hx : Lx.isAt Lx.dig s.data.toList (i + 1) = false := by simpa using hp
      by_cases hlt : i + 1 < s.size
      · have hltz : (i : Int) + 1 < (s.size : Int) := by omega
        have cD2 := isDigit_any s[i + 1] (w.alloc (.cells #[.int .u8 0, .string ⟨#[]⟩, .string ⟨#[]⟩, .int .i64 0] 34))
        rw [show Lx.dig s[i + 1] = false from by rw [← isAt_in Lx.dig s (i + 1) hlt]; exact hx] at cD2
        clear h36 hx hp
        go_wp2_with fail
        refine cD2.mono ?_
        rintro e w1 ⟨rfl, rfl⟩
        go_wp2_with fail
        go_meet
        exact ⟨rfl, rfl⟩
      · have hltz : decide ((i : Int) + 1 < (s.size : Int)) = false := by simp; omega
        clear h36 hx hp
        go_wp2_with fail
        go_meet
        exact ⟨rfl, rfl⟩
    · have h36z : ((s[i].toNat : Int) == 36) = false := byte_ne h36
      clear h36 hp
      go_wp2_with fail
      go_meet
      exact ⟨rfl, rfl⟩
  case rest =>
  obtain ⟨rfl, rfl⟩ := hcut
  clear hp
  go_upto_region 24 with fail
  go_cut [181, 182, 183] (fun s181 s182 s183 wx => s181 = .slice (some ⟨w.heap.size + 1, 0, none⟩) 18 18 ∧ s182 = .int .i64 18 ∧ s183 = .int .i64 0 ∧ Below w.heap.size w wx ∧ wx.heap.size = w.heap.size + 2 ∧
    (∀ o, o < 4 → wx.frozen? ⟨w.heap.size, o, none⟩ = false) ∧ wx.cell? ⟨w.heap.size, 0, none⟩ = some (.int .u8 0) ∧ wx.cell? ⟨w.heap.size, 1, none⟩ = some (.string ⟨#[]⟩) ∧ wx.cell? ⟨w.heap.size, 2, none⟩ = some (.string ⟨#[]⟩) ∧ wx.cell? ⟨w.heap.size, 3, none⟩ = some (.int .i64 0) ∧
    Hid (∀ k, k < 18 → wx.cell? ⟨w.heap.size + 1, k, none⟩ = some (.string (opB k))))
  case first =>
    go_wp2_with fail
    go_meet
    exact ⟨rfl, rfl, rfl, ops_world w⟩
  case rest =>
  obtain ⟨rfl, rfl, rfl, hbel, hsz, hfr, hc0, hc1, hc2, hc3, HC⟩ := hcut
  have hF1 : F.answers wc.tape := by rw [hbel.tape]; exact hF
  have hT1 : Utf8Tabs 0 1 wc := Utf8Tabs_below hT hbel
  have HF1 : Hid (F.answers wc.tape) := hF1
  have HT1 : Hid (Utf8Tabs 0 1 wc) := hT1
  clear hF hT hF1 hT1
  have hz : w.heap.size < wc.heap.size := by omega
  have hf0 := hfr 0 (by omega)
  have hf1 := hfr 1 (by omega)
  have hf2 := hfr 2 (by omega)
  have hf3 := hfr 3 (by omega)
  clear hfr
  go_wp2
  go_loop [183] (fun t => ∃ k : Nat, k ≤ 18 ∧ t = .int .i64 k ∧ Hid (∀ j, j < k → Lib.hasPrefix (s.data.toList.drop i) (Lx.ops.getD j []) = false)) (fun t => 18 - (intOf t).toNat)
  case atStart => exact ⟨0, by omega, rfl, fun j hj => by omega⟩
  case round =>
    obtain ⟨k, hk, rfl, HR⟩ := hrel
    by_cases hk18 : k < 18
    · have hkz : (k : Int) < 18 := by omega
      have hck := HC.out k hk18
      cases hop : Lib.hasPrefix (s.data.toList.drop i) (Lx.ops.getD k []) with
      | true =>
        have cO := hasOp s i k true wc hop
        have hfd := ops_find hk18 HR.out hop
        have HT : Hid (Lx.tok (s.data.toList.drop i) = some (7, Lx.ops.getD k [], (Lx.ops.getD k []).length)) := by show _ = _; rw [HTok.out, hfd]; rfl
        have HW : Hid (opB k = s.extract i (i + (Lx.ops.getD k []).length)) := op_raw hop
        clear hop hfd HTok HR
        go_wp2_with fail
        refine cO.mono ?_
        rintro e w1 ⟨rfl, rfl⟩
        go_wp2
        refine bodyPost_ret (v := .tuple #[.agg #[.int .u8 7, .string (opB k), .string (opB k), .int .i64 i], .nilIface]) (by simp [results, Tryf.results15, go_sem, hc0, hc1, hc2, hc3]) rfl ⟨?_, ?_⟩
        · have h1 := tans_ok (B := w.heap.size) (w' := w) HT.out
          rw [← HW.out] at h1
          unfold TAns at h1 ⊢
          rw [HT.out] at h1 ⊢
          exact h1
        · exact (((hbel.setCell (Nat.le_refl _) _).setCell (Nat.le_refl _) _).setCell (Nat.le_refl _) _).setCell (Nat.le_refl _) _
      | false =>
        have cO := hasOp s i k false wc hop
        have HR2 : Hid (∀ j, j < k + 1 → Lib.hasPrefix (s.data.toList.drop i) (Lx.ops.getD j []) = false) := fun j hj => by
          by_cases e : j = k
          · rw [e]; exact hop
          · exact HR.out j (by omega)
        clear hop HR
        go_wp2_with fail
        refine cO.mono ?_
        rintro e w1 ⟨rfl, rfl⟩
        go_wp2
        exact ⟨⟨k + 1, by omega, by go_num, HR2⟩, by simp [intOf]; omega⟩
    · obtain rfl : k = 18 := by omega
      have HT : Hid (Lx.tok (s.data.toList.drop i) = none) := by show _ = _; rw [HTok.out, ops_none HR.out]; rfl
      have cR := Tryf.utf8_DecodeRuneInString (s.extract i s.size) wc HT1.out
      have hle := decodeGo_le_size (s.extract i s.size)
      obtain ⟨dd, hdd⟩ : ∃ dd, decodeGo (s.extract i s.size) = dd := ⟨_, rfl⟩
      rw [hdd] at cR hle
      clear hdd
      obtain ⟨r, n⟩ := dd
      simp only [ByteArray.size_extract, Nat.min_self] at hle
      have hnz : (i : Int) + (n : Int) ≤ (s.size : Int) := by omega
      clear HR HTok HT1
      go_wp2_with fail
      refine cR.mono ?_
      rintro e w2 ⟨rfl, hb2⟩
      have hF2 : F.answers w2.tape := by rw [hb2.tape]; exact HF1.out
      have cN := fun x => nearAt F i x w2 hF2 (by omega)
      obtain ⟨hc, hf⟩ := bcell hb2
      have hz2 : w.heap.size < w2.heap.size := by have := hb2.size; omega
      have hbel2 : Below w.heap.size w w2 := hbel.trans (hb2.mono (by omega))
      clear cR hF2
      go_wp2_with fail
      refine (cN _).mono ?_
      rintro e w3 ⟨t, rfl, rfl⟩
      go_wp2
      refine bodyPost_ret (v := .tuple #[.agg #[.int .u8 0, .string ⟨#[]⟩, .string ⟨#[]⟩, .int .i64 0], .iface 39 (.pointer (some ⟨w2.heap.size + 1, 0, none⟩))]) (by simp [results, Tryf.results15, go_sem, hc, hz, hz2, hc0, hc1, hc2, hc3]) rfl ⟨tans_err HT.out (errAt_new (World.alloc _ _) _ t i (by omega) (by simp)), ?_⟩
      exact (((((((hbel2.setCell (Nat.le_refl _) _).setCell (Nat.le_refl _) _).setCell (Nat.le_refl _) _).setCell (Nat.le_refl _) _).alloc (by simp; omega) _).alloc (by simp; omega) _)).drew
end Go.Proofs.Qxb6608672aFmt
