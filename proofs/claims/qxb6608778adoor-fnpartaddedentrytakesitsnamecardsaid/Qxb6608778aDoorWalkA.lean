/-
  Seat b6608778aD (dasho). WALK: partKey.
-/
import Derived.Test.Qxb6608778aDoorShelf
import Derived.WalkKit
import Derived.WalkSpells
namespace Go.Proofs.Qxb6608778aDoor
open Go.RowKit Go.Lib Go.Shelf

/-- partKey, by bytes. -/
def pk (s : ByteArray) : ByteArray := ⟨(Lib.toLowerD (Lib.replaceAll s.data.toList [92] [47])).toArray⟩

/-- A replacement by bytes of the old one's length grows no text by more than that length a turn. -/
theorem replaceK_le (old new : List UInt8) (h : new.length ≤ old.length) : ∀ (k : Nat) (s : List UInt8), (Lib.replaceK old new k s).length ≤ s.length + k * old.length
  | 0, s => by simp [Lib.replaceK]
  | k + 1, s => by
    unfold Lib.replaceK
    split
    · have : 0 ≤ (k + 1) * old.length := Nat.zero_le _
      omega
    · have ih := replaceK_le old new h k (s.drop ((Lib.index s old).toNat + old.length))
      simp only [List.length_append, List.length_take, List.length_drop] at ih ⊢
      rw [Nat.add_mul, Nat.one_mul]
      omega

theorem slashed_lt (s : ByteArray) (hs : s.size ≤ 1048576) : (⟨(Lib.replaceAll s.data.toList [92] [47]).toArray⟩ : ByteArray).size < 35184372088832 := by
  show (Lib.replaceAll s.data.toList [92] [47]).toArray.size < _
  rw [List.size_toArray]
  unfold Lib.replaceAll Lib.replace
  rw [if_neg (by decide)]
  have h1 := replaceK_le [92] [47] (by decide) (replaceNum s.data.toList [92] (-1)) s.data.toList
  have h2 : replaceNum s.data.toList [92] (-1) = countB s ⟨#[92]⟩ := by
    unfold replaceNum
    exact if_pos (.inl (by decide))
  have h3 := countB_le ⟨#[92]⟩ (by decide) s.size s (Nat.le_refl _)
  have h4 : s.data.toList.length = s.size := rfl
  have h5 : [(92 : UInt8)].length = 1 := rfl
  rw [h4, h5] at h1
  rw [h2] at h1 ⊢
  omega

/-- What partKey reads: MaxLen, the case table, the tables of utf8. -/
def Tabs (w : World) : Prop := (∃ m, w.cell? ⟨1, 0, none⟩ = some (.int .i64 m)) ∧ CaseVar 0 caseA w ∧ Utf8Tabs 2 3 w

theorem Tabs.below {w w' : World} (h : Tabs w) (hb : Below w.heap.size w w') : Tabs w' := by
  obtain ⟨⟨m, hm⟩, hV, hU⟩ := h
  exact ⟨⟨m, (hb.cell (p := ⟨1, 0, none⟩) (World.block_lt_of_cell? w _ hm)).trans hm⟩, CaseVar_below hV hb, Utf8Tabs_below hU hb⟩
theorem Tabs.lt {w : World} (h : Tabs w) : 1 < w.heap.size := World.block_lt_of_cell? w _ h.1.choose_spec

set_option maxHeartbeats 400000 in
theorem partKey_any (s : ByteArray) (w : World) (hs : s.size ≤ 1048576) (hT : Tabs w) :
    Calls Tryd.prog 11 #[.string s] w fun e w' => e = .returned (.string (pk s)) ∧ Below w.heap.size w w' := by
  obtain ⟨⟨m, hm⟩, hV, hU⟩ := hT
  have cR := Tryd.strings_ReplaceAll s ⟨#[92]⟩ ⟨#[47]⟩ m w (by omega) hm (by decide) (by have := countB_le ⟨#[92]⟩ (by decide) s.size s (Nat.le_refl _); show s.size + countB s ⟨#[92]⟩ * 1 ≤ _; omega)
  go_enter Tryd.func11, Tryd.ntmps11
  go_wp2_with fail
  refine cR.mono ?_
  clear cR
  rintro e w1 ⟨rfl, hb1⟩
  have cL := Tryd.strings_ToLower_any ⟨(Lib.replaceAll s.data.toList [92] [47]).toArray⟩ w1 (slashed_lt s hs) (CaseVar_below hV hb1) (Utf8Tabs_below hU hb1)
  go_wp2_with fail
  refine cL.mono ?_
  rintro e w2 ⟨rfl, hb2⟩
  go_wp2_with fail
  go_ret
  exact ⟨rfl, hb1.trans (hb2.mono hb1.size)⟩
end Go.Proofs.Qxb6608778aDoor
