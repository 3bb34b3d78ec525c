/-
  Seat b6608778aD (dasho). WALK: ZZnewWorkbook.
-/
import Derived.Test.Qxb6608778aDoorPlain
import Derived.Maps.Own
import Derived.Maps.OwnSet
import Derived.Deep.RegionWith
import Derived.Deep.DeepCutAuto
namespace Go.Proofs.Qxb6608778aDoor
open Go.RowKit Go.Lib Go.Shelf Go.WideMaps Go.Maps

/-- How a pointer to a block's head reads here: as the block's number. -/
def ptrR (v : Value) : Option (DataW Unit × List MemPlace) :=
  match v with
  | .pointer (some ⟨a, 0, none⟩) => some (.lit (.int .i64 a), [])
  | .pointer none => some (.nil, [])
  | _ => none
theorem law : Keyed Tryd.prog 9 := string_keyed Tryd.underlying9
theorem zero46 (w : World) : (zeroValue 46).run Tryd.prog w = .ok (.pointer none) w := by kernel_rfl

theorem makes30 (n : Int) (w : World) : (Instr.makeMap 30 (some (.int .i64 n))).run Tryd.prog w = .ok (.map (some w.heap.size)) (w.alloc (.map #[] 0)) := by kernel_rfl
attribute [local go_sem] makes30

/-- The map at block mb files the first k names: each key leads to a file that bears the last name of that key. -/
def Book (mb : Nat) (ss : List ByteArray) (k : Nat) (D : DataW Unit) (w : World) : Prop :=
  w.ownsMap Tryd.prog 9 ptrR mb k D ∧ IsMap D ∧ ∀ q : ByteArray,
    (lastN ss k q = none → Maps.has D (.string q.data.toList) = false) ∧
    (∀ nm, lastN ss k q = some nm → Maps.has D (.string q.data.toList) = true ∧ ∃ a : Nat, D.atKey (.string q.data.toList) .nil = .lit (.int .i64 a) ∧ a ≠ mb ∧ w.cell? ⟨a, 0, none⟩ = some (.string nm))

theorem Book.made (ss : List ByteArray) (w : World) : Book w.heap.size ss 0 (.map []) (w.alloc (.map #[] 0)) :=
  ⟨World.ownsMap_made _ _ _ _, ⟨_, rfl⟩, fun q => ⟨fun _ => rfl, fun nm h => by cases h⟩⟩
theorem Book.below {mb : Nat} {ss : List ByteArray} {k : Nat} {D : DataW Unit} {w w' : World} (h : Book mb ss k D w) (hb : Below w.heap.size w w') : Book mb ss k D w' := by
  obtain ⟨h1, h2, h3⟩ := h
  refine ⟨?_, h2, fun q => ⟨(h3 q).1, fun nm hn => ?_⟩⟩
  · obtain ⟨es, cl, e1, e2, e3, e4⟩ := h1
    have hlt : mb < w.heap.size := by
      rcases Nat.lt_or_ge mb w.heap.size with h' | h'
      · exact h'
      · rw [Array.getElem?_eq_none h'] at e1; cases e1
    exact ⟨es, cl, (hb.block mb hlt).trans e1, e2, e3, e4⟩
  · obtain ⟨g1, a, g2, g3, g4⟩ := (h3 q).2 nm hn
    exact ⟨g1, a, g2, g3, (hb.cell (p := ⟨a, 0, none⟩) (World.block_lt_of_cell? w _ g4)).trans g4⟩
theorem key_str (l : List UInt8) : WideAt.IsKeyLit (.string l) := by unfold WideAt.IsKeyLit; trivial
theorem str_inj {p q : ByteArray} (h : (Lit.string p.data.toList) = .string q.data.toList) : p = q := by
  injection h with h
  exact ByteArray.ext (Array.toList_inj.1 h)
theorem Book.step {mb : Nat} {ss : List ByteArray} {k a : Nat} {D : DataW Unit} {w w' : World} (h : Book mb ss k D w) (ho : w'.ownsMap Tryd.prog 9 ptrR mb (k + 1) (D.put (.string (pk (ss.getD k ByteArray.empty)).data.toList) (.lit (.int .i64 a)))) (hg : w.grownBy w' (some mb)) (ha : a ≠ mb) (hc : w.cell? ⟨a, 0, none⟩ = some (.string (ss.getD k ByteArray.empty))) :
    Book mb ss (k + 1) (D.put (.string (pk (ss.getD k ByteArray.empty)).data.toList) (.lit (.int .i64 a))) w' := by
  obtain ⟨h1, h2, h3⟩ := h
  have hcell : ∀ x v, x ≠ mb → w.cell? ⟨x, 0, none⟩ = some v → w'.cell? ⟨x, 0, none⟩ = some v := fun x v hx hv =>
    (World.cell?_of_block (w := w) (hg.block x (World.block_lt_of_cell? w ⟨x, 0, none⟩ hv) (by simpa using hx))).trans hv
  refine ⟨ho, ?_, fun q => ?_⟩
  · obtain ⟨es, rfl⟩ := h2
    exact ⟨_, rfl⟩
  · by_cases hq : pk (ss.getD k ByteArray.empty) = q
    · subst hq
      refine ⟨fun hn => ?_, fun nm hn => ?_⟩
      · unfold lastN at hn
        rw [if_pos rfl] at hn
        cases hn
      · unfold lastN at hn
        rw [if_pos rfl] at hn
        obtain rfl := Option.some.inj hn
        exact ⟨has_put_same h2 (key_str _) _, a, atKey_put_same h2 (key_str _) _ _, ha, hcell a _ ha hc⟩
    · have hne : (Lit.string q.data.toList) ≠ .string (pk (ss.getD k ByteArray.empty)).data.toList := fun h => hq (str_inj h).symm
      have e : lastN ss (k + 1) q = lastN ss k q := by
        show (if _ then _ else _) = _
        rw [if_neg hq]
      rw [e]
      refine ⟨fun hn => ?_, fun nm hn => ?_⟩
      · rw [has_put_other hne]
        exact (h3 q).1 hn
      · obtain ⟨g1, x, g2, g3, g4⟩ := (h3 q).2 nm hn
        exact ⟨by rw [has_put_other hne]; exact g1, x, by rw [atKey_put_other hne]; exact g2, g3, hcell x _ g3 g4⟩
end Go.Proofs.Qxb6608778aDoor
