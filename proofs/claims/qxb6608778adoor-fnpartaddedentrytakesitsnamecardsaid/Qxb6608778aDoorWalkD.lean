/-
  Seat b6608778aD (dasho). WALK: ZZnewWorkbook of nil; part.
-/
import Derived.Test.Qxb6608778aDoorWalkC
namespace Go.Proofs.Qxb6608778aDoor
open Go.RowKit Go.Lib Go.Shelf Go.WideMaps Go.Maps
attribute [local go_sem] makes30

set_option maxRecDepth 100000 in
set_option maxHeartbeats 2000000 in
theorem book_nil (ss : List ByteArray) (w : World) :
    Calls Tryd.prog 6 #[.slice none 0 0] w fun e w' => e = .returned (.pointer (some ⟨w.heap.size + 1, 0, none⟩)) ∧ Below w.heap.size w w' ∧ w'.cell? ⟨w.heap.size + 1, 0, none⟩ = some (.map (some w.heap.size)) ∧ ∃ D, Book w.heap.size ss 0 D w' := by
  go_enter Tryd.func6, Tryd.ntmps6
  go_wp2
  refine wp_loop_rounds 1 ?_
  rw [rounds_succ]
  go_wp2
  go_ret
  have hm : ∀ o, Below (w.alloc (.map #[] 0)).heap.size (w.alloc (.map #[] 0)) ((w.alloc (.map #[] 0)).alloc o) := fun o => (Below.refl _ _).alloc (Nat.le_refl _) o
  exact ⟨rfl, ((Below.refl w.heap.size w).alloc (Nat.le_refl _) _).alloc (by simp) _, by simp [go_sem], _, (Book.made ss w).below (hm _)⟩

theorem ptrR_int {v : Value} {a : Nat} {ps : List MemPlace} (h : ptrR v = some (.lit (.int .i64 a), ps)) : v = .pointer (some ⟨a, 0, none⟩) := by
  unfold ptrR at h
  split at h
  · next x =>
    simp only [Option.some.injEq, Prod.mk.injEq, DataW.lit.injEq, Lit.int.injEq, true_and] at h
    have : x = a := by omega
    rw [this]
  · simp at h
  · cases h
theorem ptrR_nil {v : Value} {ps : List MemPlace} (h : ptrR v = some (.nil, ps)) : v = .pointer none := by
  unfold ptrR at h
  split at h
  · simp at h
  · rfl
  · cases h

/-- A look-up in the book. -/
theorem Book.look {mb k : Nat} {ss : List ByteArray} {D : DataW Unit} {w : World} {s : ByteArray} (h : Book mb ss k D w) (hs : s.size ≤ 1048576) :
    (lastN ss k (pk s) = none ∧ ∃ v, (Instr.lookup 30 (.map (some mb)) (.string (pk s)) true).run Tryd.prog w = .ok (.tuple #[v, .bool false]) w) ∨
    (∃ nm a, lastN ss k (pk s) = some nm ∧ w.cell? ⟨a, 0, none⟩ = some (.string nm) ∧ (Instr.lookup 30 (.map (some mb)) (.string (pk s)) true).run Tryd.prog w = .ok (.tuple #[.pointer (some ⟨a, 0, none⟩), .bool true]) w) := by
  obtain ⟨v, ps, hrun, hv⟩ := h.1.look_ok (t := 30) (e := 46) (zd := .nil) (zp := []) law Tryd.underlying30 (zero46 w) rfl (keyOf_string_mk Tryd.underlying9 (pk_size s hs))
  cases hl : lastN ss k (pk s) with
  | none =>
    rw [(h.2.2 (pk s)).1 hl] at hrun
    exact Or.inl ⟨rfl, v, hrun⟩
  | some nm =>
    obtain ⟨g1, a, g2, _, g4⟩ := (h.2.2 (pk s)).2 nm hl
    rw [g1] at hrun
    rw [g2] at hv
    obtain rfl := ptrR_int hv
    exact Or.inr ⟨nm, a, rfl, g4, hrun⟩

set_option maxRecDepth 100000 in
set_option maxHeartbeats 2000000 in
theorem part_none (p mb k : Nat) (ss : List ByteArray) (D : DataW Unit) (nm : ByteArray) (w : World) (hT : Tabs w) (hp : w.cell? ⟨p, 0, none⟩ = some (.map (some mb))) (hB : Book mb ss k D w) (hs : nm.size ≤ 1048576) (hl : lastN ss k (pk nm) = none) :
    Calls Tryd.prog 12 #[.pointer (some ⟨p, 0, none⟩), .string nm] w fun e w' => (∃ a, e = .returned (.tuple #[.pointer none, .iface 63 (.pointer (some ⟨a, 0, none⟩))]) ∧ w'.cell? ⟨a, 0, none⟩ = some (.string nm)) ∧ Below w.heap.size w w' := by
  have HT : Hid (Tabs w) := hT
  have HS : Hid (nm.size ≤ 1048576) := hs
  have HB : Hid (Book mb ss k D w) := hB
  have hplt : p < w.heap.size := World.block_lt_of_cell? w _ hp
  have HL : Hid (lastN ss k (pk nm) = none) := hl
  have HU : Hid (∀ w1, Below w.heap.size w w1 → w1.cell? ⟨p, 0, none⟩ = some (.map (some mb)) ∧ ∃ v, (Instr.lookup 30 (.map (some mb)) (.string (pk nm)) true).run Tryd.prog w1 = .ok (.tuple #[v, .bool false]) w1) := fun w1 h1 => by
    refine ⟨(h1.cell (p := ⟨p, 0, none⟩) hplt).trans hp, ?_⟩
    rcases (hB.below h1).look hs with ⟨_, v, h⟩ | ⟨_, _, h, _⟩
    · exact ⟨v, h⟩
    · rw [hl] at h; cases h
  clear hT hs hB hl
  go_enter Tryd.func12, Tryd.ntmps12
  go_wp2_with fail
  go_region_with (go_at_call 11
                  refine (partKey_any nm w.drew HS.out (by exact HT.out)).mono ?_
                  rintro e w1 ⟨rfl, hb1⟩
                  have HB1 : Hid (Below w.heap.size w w1) := below_drew hb1
                  clear hb1
                  obtain ⟨hx1, v, hrun⟩ := HU.out w1 HB1.out)
  all_goals clear HU
  all_goals
    go_wp2
    go_ret2
    refine ⟨⟨_, rfl, by simp [go_sem]⟩, (HB1.out.alloc HB1.out.size _).alloc (by have := HB1.out.size; simp; omega) _⟩

set_option maxRecDepth 100000 in
set_option maxHeartbeats 2000000 in
theorem part_some (p mb k : Nat) (ss : List ByteArray) (D : DataW Unit) (nm x : ByteArray) (w : World) (hT : Tabs w) (hp : w.cell? ⟨p, 0, none⟩ = some (.map (some mb))) (hB : Book mb ss k D w) (hs : nm.size ≤ 1048576) (hl : lastN ss k (pk nm) = some x) :
    Calls Tryd.prog 12 #[.pointer (some ⟨p, 0, none⟩), .string nm] w fun e w' => (∃ a, e = .returned (.tuple #[.pointer (some ⟨a, 0, none⟩), .nilIface]) ∧ w'.cell? ⟨a, 0, none⟩ = some (.string x)) ∧ Below w.heap.size w w' := by
  have HT : Hid (Tabs w) := hT
  have HS : Hid (nm.size ≤ 1048576) := hs
  have hplt : p < w.heap.size := World.block_lt_of_cell? w _ hp
  have HU : Hid (∀ w1, Below w.heap.size w w1 → w1.cell? ⟨p, 0, none⟩ = some (.map (some mb)) ∧ ∃ a, w1.cell? ⟨a, 0, none⟩ = some (.string x) ∧ (Instr.lookup 30 (.map (some mb)) (.string (pk nm)) true).run Tryd.prog w1 = .ok (.tuple #[.pointer (some ⟨a, 0, none⟩), .bool true]) w1) := fun w1 h1 => by
    refine ⟨(h1.cell (p := ⟨p, 0, none⟩) hplt).trans hp, ?_⟩
    rcases (hB.below h1).look hs with ⟨h, _⟩ | ⟨x', a, h, h', h''⟩
    · rw [hl] at h; cases h
    · rw [hl] at h
      cases h
      exact ⟨a, h', h''⟩
  clear hT hs hB hl
  go_enter Tryd.func12, Tryd.ntmps12
  go_wp2_with fail
  go_region_with (go_at_call 11
                  refine (partKey_any nm w.drew HS.out (by exact HT.out)).mono ?_
                  rintro e w1 ⟨rfl, hb1⟩
                  have HB1 : Hid (Below w.heap.size w w1) := below_drew hb1
                  clear hb1
                  obtain ⟨hx1, a, hx2, hrun⟩ := HU.out w1 HB1.out
                  have HX : Hid (w1.cell? ⟨a, 0, none⟩ = some (.string x)) := hx2
                  clear hx2)
  all_goals clear HU
  all_goals
    go_wp2
    go_ret2
    exact ⟨⟨_, rfl, HX.out⟩, HB1.out⟩

theorem assert_fmt (a : Nat) (w : World) : (Instr.typeAssert (.iface 63 (.pointer (some ⟨a, 0, none⟩))) 60 63 true).run Tryd.prog w = .ok (.tuple #[.pointer (some ⟨a, 0, none⟩), .bool true]) w := by kernel_rfl
theorem assert_nil (w : World) : (Instr.typeAssert .nilIface 60 63 true).run Tryd.prog w = .ok (.tuple #[.pointer none, .bool false]) w := by kernel_rfl
attribute [local go_sem] assert_fmt assert_nil

/-- What ZZpart hands out. -/
def ans (nm : ByteArray) : Option ByteArray → Value
  | none => .tuple #[.string ⟨#[]⟩, .bool false, .bool true, .string nm, .bool true]
  | some x => .tuple #[.string x, .bool true, .bool false, .string ⟨#[]⟩, .bool false]

set_option maxRecDepth 100000 in
set_option maxHeartbeats 2000000 in
theorem zzpart_any (p mb k : Nat) (ss : List ByteArray) (D : DataW Unit) (nm : ByteArray) (w : World) (hT : Tabs w) (hp : w.cell? ⟨p, 0, none⟩ = some (.map (some mb))) (hB : Book mb ss k D w) (hs : nm.size ≤ 1048576) :
    Calls Tryd.prog 9 #[.pointer (some ⟨p, 0, none⟩), .string nm] w fun e w' => e = .returned (ans nm (lastN ss k (pk nm))) ∧ Below w.heap.size w w' := by
  cases hl : lastN ss k (pk nm) with
  | none =>
    have c := part_none p mb k ss D nm w hT hp hB hs hl
    clear hT hp hB hs hl
    go_enter Tryd.func9, Tryd.ntmps9
    go_wp2_with fail
    refine c.mono ?_
    clear c
    rintro e w1 ⟨⟨a, rfl, hc⟩, hb1⟩
    have HB1 : Hid _ := hb1
    clear hb1
    go_wp2_with fail
    exact bodyPost_ret (v := ans nm none) (by simp [results, Tryd.results9, go_sem, ans]) rfl ⟨rfl, HB1.out⟩
  | some x =>
    have c := part_some p mb k ss D nm x w hT hp hB hs hl
    clear hT hp hB hs hl
    go_enter Tryd.func9, Tryd.ntmps9
    go_wp2_with fail
    refine c.mono ?_
    clear c
    rintro e w1 ⟨⟨a, rfl, hc⟩, hb1⟩
    have HB1 : Hid _ := hb1
    clear hb1
    go_wp2_with fail
    exact bodyPost_ret (v := ans nm (some x)) (by simp [results, Tryd.results9, go_sem, ans]) rfl ⟨rfl, HB1.out⟩

set_option maxHeartbeats 400000 in
theorem zzkey_any (s : ByteArray) (w : World) (hs : s.size ≤ 1048576) (hT : Tabs w) :
    Calls Tryd.prog 8 #[.string s] w fun e w' => e = .returned (.string (pk s)) ∧ Below w.heap.size w w' := by
  have c := partKey_any s w hs hT
  clear hs hT
  go_enter Tryd.func8, Tryd.ntmps8
  go_wp2_with fail
  refine c.mono ?_
  clear c
  rintro e w1 ⟨rfl, hb1⟩
  go_wp2_with fail
  go_ret
  exact ⟨rfl, hb1⟩
end Go.Proofs.Qxb6608778aDoor
