/-
  Seat b6608778aD (dasho). Facts for the law's walk: make, copy, what the two books say.
-/
import Derived.Test.Qxb6608778aDoorWalkD
import Derived.Test.Qxb6608778aDoorWalkZ
import Derived.Laws.CopyOwn
import Derived.Laws.MakeOwn
import Derived.OwnWalk
namespace Go.Proofs.Qxb6608778aDoor
open Go.RowKit Go.Lib Go.Shelf Go.WideMaps Go.Maps

theorem info9 : (Tryd.prog.info? 9).map (fun i => (i.zero, i.size, i.bytes)) = some (some (.string ⟨#[]⟩), 1, 16) := by kernel_rfl
theorem size9 : (Tryd.prog.info? 9).map (·.size) = some 1 := by kernel_rfl

theorem neq_some (a : Addr) (len cap : Nat) (w : World) : (binOp .neq 22 (.slice (some a) len cap) (.slice none 0 0)).run Tryd.prog w = .ok (.bool true) w := by kernel_rfl
theorem neq_none (w : World) : (binOp .neq 22 (.slice none 0 0) (.slice none 0 0)).run Tryd.prog w = .ok (.bool false) w := by kernel_rfl

/-- 'make([]string, n)'. -/
theorem made (n : Nat) (hn : n ≤ 65537) : ∃ Z : List Value, Z.length = n ∧ ∀ w : World, (Instr.makeSlice 22 (.int .i64 (n : Int)) (.int .i64 (n : Int))).run Tryd.prog w = .ok (.slice (some ⟨w.heap.size, 0, none⟩) n n) (w.alloc (.cells Z.toArray 9)) := by
  obtain ⟨i, hi, hz0, hz1, hz2⟩ := info_parts info9
  refine ⟨(madeCells (Value.string ⟨#[]⟩).cells (n * 1)).toList, by rw [Array.length_toList, size_madeCells]; omega, fun w => ?_⟩
  have := run_make (P := Tryd.prog) w 22 9 i _ Tryd.underlying22 hi hz0 .i64 .i64 n n (by omega) (Int.le_refl _) (by rw [hz2]; omega) (by omega)
  rw [hz1] at this
  simpa using this

/-- The names as cells. -/
def strs (ss : List ByteArray) : List Value := ss.map Value.string
theorem strs_length (ss : List ByteArray) : (strs ss).length = ss.length := by simp [strs]
theorem strs_one (ss : List ByteArray) : ∀ v ∈ strs ss, v.oneCell' = true := by
  intro v hv
  simp only [strs, List.mem_map] at hv
  obtain ⟨s, _, rfl⟩ := hv
  rfl
theorem strs_get {ss : List ByteArray} {j : Nat} (h : j < ss.length) : (strs ss)[j]? = some (.string (ss.getD j ByteArray.empty)) := by
  simp [strs, List.getD, List.getElem?_eq_getElem h]
theorem strs_src {w : World} {a : Addr} {len : Nat} {ss : List ByteArray} (hl : ss.length = len) (hc : ∀ j, j < len → w.cell? (a.add j) = some (.string (ss.getD j ByteArray.empty))) :
    ∀ j v, (strs ss)[j]? = some v → w.cell? (a.add j) = some v := by
  intro j v hv
  have hj : j < ss.length := by
    rcases Nat.lt_or_ge j ss.length with h | h
    · exact h
    · rw [List.getElem?_eq_none (by rw [strs_length]; exact h)] at hv; cases hv
  rw [strs_get hj] at hv
  obtain rfl := Option.some.inj hv
  exact hc j (by omega)

theorem kept {w w' : World} {a : Addr} {v : Value} (h : w.cell? a = some v) (hb : Below w.heap.size w w') : w'.cell? a = some v := (hb.cell (World.block_lt_of_cell? w a h)).trans h

/-- A row of the call's own whose head is the names. -/
theorem row_cells {w : World} {g : Nat} {Z : List Value} {ss : List ByteArray} (hg : w.heap[g]? = some (.cells (splice Z 0 (strs ss)).toArray 9 (0, 0))) :
    ∀ j, j < ss.length → w.cell? ⟨g, 0 + j, none⟩ = some (.string (ss.getD j ByteArray.empty)) := by
  intro j hj
  have e : (splice Z 0 (strs ss))[j]? = some (.string (ss.getD j ByteArray.empty)) := by
    unfold splice
    rw [List.take_zero, List.nil_append, List.getElem?_append_left (by rw [strs_length]; exact hj)]
    exact strs_get hj
  rw [Nat.zero_add]
  simp [World.cell?, hg, e]
theorem row_last {w : World} {g len : Nat} {Z : List Value} {ss : List ByteArray} (hl : ss.length = len) (hZ : Z.length = len + 1) (hg : w.heap[g]? = some (.cells (splice Z 0 (strs ss)).toArray 9 (0, 0))) :
    (∃ v, w.cell? ⟨g, len, none⟩ = some v) ∧ w.frozen? ⟨g, len, none⟩ = false := by
  have e : len < (splice Z 0 (strs ss)).length := by
    unfold splice
    simp [strs_length, hl, hZ]
  constructor
  · refine ⟨(splice Z 0 (strs ss))[len], ?_⟩
    simp [World.cell?, hg, e]
  · simp [World.frozen?, hg]

/-- Two texts that differ, as the walk asks it. -/
theorem ne_beq {p q : ByteArray} (h : ¬ p = q) : (p.toList == q.toList) = false := by
  rw [ByteArray.toList_eq, ByteArray.toList_eq]
  refine beq_false_of_ne (fun e => h (ByteArray.ext (Array.toList_inj.1 e)))

theorem lastN_more (ss : List ByteArray) (x q : ByteArray) (len : Nat) (hl : ss.length = len) : lastN (ss ++ [x]) (len + 1) q = if pk x = q then some x else lastN ss len q := by
  subst hl
  have e : (ss ++ [x]).getD ss.length ByteArray.empty = x := by simp [List.getD]
  show (if pk ((ss ++ [x]).getD ss.length ByteArray.empty) = q then _ else _) = _
  rw [e, lastN_app ss [x] q ss.length (Nat.le_refl _)]

/-- The longer row: the names, then the one more. -/
theorem more_cells {w : World} {g len : Nat} {Z : List Value} {ss : List ByteArray} {x : ByteArray} (hl : ss.length = len) (hZ : Z.length = len + 1) (hg : w.heap[g]? = some (.cells (splice Z 0 (strs ss)).toArray 9 (0, 0))) :
    ∀ j, j < len + 1 → (w.setCell ⟨g, len, none⟩ (.string x)).cell? ⟨g, 0 + j, none⟩ = some (.string ((ss ++ [x]).getD j ByteArray.empty)) := by
  intro j hj
  rcases Nat.lt_or_ge j len with h | h
  · rw [World.cell?_setCell_other _ _ _ _ (fun e => by injection e; omega), row_cells hg j (by omega)]
    simp only [List.getD]
    rw [List.getElem?_append_left (by omega)]
  · obtain rfl : j = len := by omega
    obtain ⟨⟨v, hv⟩, _⟩ := row_last hl hZ hg
    rw [Nat.zero_add, World.cell?_setCell_same _ _ _ hv]
    subst hl
    simp [List.getD]
theorem more_size {ss : List ByteArray} {x : ByteArray} (h : ∀ s ∈ ss, s.size ≤ 1048576) (hx : x.size ≤ 262144) : ∀ s ∈ ss ++ [x], s.size ≤ 1048576 := by
  intro s hs
  rcases List.mem_append.1 hs with h' | h'
  · exact h s h'
  · obtain rfl : s = x := by simpa using h'
    omega
theorem all_size {ss : List ByteArray} {len : Nat} (hl : ss.length = len) (h : ∀ j, j < len → (ss.getD j ByteArray.empty).size ≤ 1048576) : ∀ s ∈ ss, s.size ≤ 1048576 := by
  intro s hs
  obtain ⟨j, hj, rfl⟩ := List.getElem_of_mem hs
  have := h j (by omega)
  simpa [List.getD, List.getElem?_eq_getElem hj] using this

/-- What the calls behind the two books answer. -/
theorem tail_facts {w6 : World} {p1 b1 p2 b2 len : Nat} {ss : List ByteArray} {x n : ByteArray} {D1 D2 : DataW Unit} (hT : Tabs w6) (hl : ss.length = len) (hx : x.size ≤ 262144) (hn : n.size ≤ 262144)
    (h1 : w6.cell? ⟨p1, 0, none⟩ = some (.map (some b1))) (B1 : Book b1 ss len D1 w6) (h2 : w6.cell? ⟨p2, 0, none⟩ = some (.map (some b2))) (B2 : Book b2 (ss ++ [x]) (len + 1) D2 w6) :
    ∃ A1 A2 : Option ByteArray, (pk n = pk x → A2 = some x) ∧ (¬ pk n = pk x → A2 = A1) ∧ ∀ v, Below w6.heap.size w6 v →
      (Calls Tryd.prog 9 #[.pointer (some ⟨p1, 0, none⟩), .string n] v fun e w' => e = .returned (ans n A1) ∧ Below v.heap.size v w') ∧
      (Calls Tryd.prog 9 #[.pointer (some ⟨p2, 0, none⟩), .string n] v fun e w' => e = .returned (ans n A2) ∧ Below v.heap.size v w') ∧
      (Calls Tryd.prog 9 #[.pointer (some ⟨p2, 0, none⟩), .string x] v fun e w' => e = .returned (ans x (some x)) ∧ Below v.heap.size v w') ∧
      (Calls Tryd.prog 8 #[.string n] v fun e w' => e = .returned (.string (pk n)) ∧ Below v.heap.size v w') ∧
      (Calls Tryd.prog 8 #[.string x] v fun e w' => e = .returned (.string (pk x)) ∧ Below v.heap.size v w') := by
  refine ⟨lastN ss len (pk n), lastN (ss ++ [x]) (len + 1) (pk n), fun h => ?_, fun h => ?_, fun v hv => ?_⟩
  · rw [lastN_more ss x _ len hl, if_pos h.symm]
  · rw [lastN_more ss x _ len hl, if_neg (fun e => h e.symm)]
  · have hTv := hT.below hv
    have h1v := (hv.cell (p := ⟨p1, 0, none⟩) (World.block_lt_of_cell? w6 _ h1)).trans h1
    have h2v := (hv.cell (p := ⟨p2, 0, none⟩) (World.block_lt_of_cell? w6 _ h2)).trans h2
    refine ⟨zzpart_any p1 b1 len ss D1 n v hTv h1v (B1.below hv) (by omega), zzpart_any p2 b2 (len + 1) (ss ++ [x]) D2 n v hTv h2v (B2.below hv) (by omega), ?_, zzkey_any n v (by omega) hTv, zzkey_any x v (by omega) hTv⟩
    have := zzpart_any p2 b2 (len + 1) (ss ++ [x]) D2 x v hTv h2v (B2.below hv) (by omega)
    rw [lastN_more ss x _ len hl, if_pos rfl] at this
    exact this
end Go.Proofs.Qxb6608778aDoor
