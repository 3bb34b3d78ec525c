/-
  Seat b6608704aF (sluice). WHAT ZZnameBefore ANSWERS, by the bytes behind the place; nameBeforeAnswer says yes to it.
-/
import Derived.Test.Qxb6608704aFmtWalkG
import Derived.Test.Qxb6608704aFmtWalkJ
import Derived.Test.Qxb6608704aFmtWalkK
namespace Go.Proofs.Qxb6608704aFmt
open Go.RowKit Go.Lib Go.Shelf

def oN (D : List UInt8) : Nat := run nm D
def oM (D : List UInt8) : Nat := oN D + sk false (D.drop (oN D))
def oOk (D : List UInt8) (c : UInt8) : Bool := oN D != 0 && D[oM D]? == some c
def oK (D : List UInt8) (c : UInt8) : Nat := if oN D = 0 then 0 else if oOk D c then oM D + 1 else oM D
def oL (D : List UInt8) (c : UInt8) (l : Int) : Int := l + (nl (D.take (oK D c)) : Nat)
def oX (D : List UInt8) : ByteArray := ⟨(D.take (oN D)).toArray⟩

theorem run_le (p : UInt8 → Bool) : ∀ l : List UInt8, run p l ≤ l.length
  | [] => Nat.le_refl _
  | b :: t => by
    have ih := run_le p t
    unfold run at ih ⊢
    rw [List.takeWhile_cons]
    split <;> simp <;> omega
theorem run_all (p : UInt8 → Bool) : ∀ (l : List UInt8), ∀ x ∈ l.take (run p l), p x = true
  | [] => by simp
  | b :: t => by
    have ih := run_all p t
    unfold run at ih ⊢
    rw [List.takeWhile_cons]
    split
    · rename_i h
      simp only [List.length_cons, List.take_succ_cons, List.mem_cons, forall_eq_or_imp]
      exact ⟨h, ih⟩
    · simp
theorem run_next (p : UInt8 → Bool) : ∀ (l : List UInt8) (h : run p l < l.length), p l[run p l] = false
  | [], h => by simp at h
  | b :: t, h => by
    have ih := run_next p t
    have e : run p (b :: t) = if p b then run p t + 1 else 0 := by
      unfold run
      rw [List.takeWhile_cons]
      split <;> rfl
    cases hb : p b with
    | true =>
      rw [hb] at e
      simp only [if_true] at e
      simp only [e, List.getElem_cons_succ]
      rw [e] at h
      exact ih (by simpa using h)
    | false =>
      rw [hb] at e
      simp only [Bool.false_eq_true, if_false] at e
      simp only [e, List.getElem_cons_zero]
      exact hb
theorem sk_le : ∀ (l : List UInt8) (fl : Bool), sk fl l ≤ l.length
  | [], fl => by cases fl <;> simp [sk]
  | b :: t, true => by
    have h1 := sk_le t false
    have h2 := sk_le t true
    unfold sk
    split <;> simp <;> omega
  | b :: t, false => by
    have h1 := sk_le t false
    have h2 := sk_le t true
    unfold sk
    split
    · simp; omega
    · split <;> simp; omega
theorem nl_app (a b : List UInt8) : nl (a ++ b) = nl a + nl b := List.countP_append
theorem nl_name (D : List UInt8) : nl (D.take (run nm D)) = 0 := by
  unfold nl
  rw [List.countP_eq_zero]
  intro x hx h
  have := run_all nm D x hx
  simp at h
  subst h
  exact absurd this (by decide)
theorem nl_to (D : List UInt8) : nl (D.take (oM D)) = nl ((D.drop (oN D)).take (sk false (D.drop (oN D)))) := by
  unfold oM
  rw [List.take_add, nl_app]
  unfold oN
  rw [nl_name, Nat.zero_add]
theorem list_extract (T : ByteArray) (i k : Nat) : (T.extract i (i + k)).data.toList = (T.data.toList.drop i).take k := by
  rw [ByteArray.data_extract, Array.toList_extract]
  rw [List.extract_eq_take_drop]
  congr 1
  omega
theorem ext_eq (T : ByteArray) (i k : Nat) : T.extract i (i + k) = ⟨((T.data.toList.drop i).take k).toArray⟩ := by
  apply ByteArray.ext
  apply Array.toList_inj.1
  rw [list_extract]
theorem drop_len (T : ByteArray) (i : Nat) : (T.data.toList.drop i).length = T.size - i := by
  rw [List.length_drop]; rfl
theorem drop_get (T : ByteArray) (i k : Nat) (h : i + k < T.size) (h' : k < (T.data.toList.drop i).length) : (T.data.toList.drop i)[k] = T[i + k] := by
  rw [List.getElem_drop]
  rfl
theorem oM_le (D : List UInt8) : oM D ≤ D.length := by
  have h1 := run_le nm D
  have h2 := sk_le (D.drop (oN D)) false
  rw [List.length_drop] at h2
  unfold oM
  unfold oN at h2 ⊢
  omega
/-- Where the skipping stops: the end, or a byte that is no blank and no '#'. -/
theorem stop_at (D : List UInt8) : (bc false ((D.drop (oN D)).take (sk false (D.drop (oN D))))).1 = true ∧ ∀ h : oM D < D.length, (bc false ((D.drop (oN D)).take (sk false (D.drop (oN D))))).2 = false ∧ blk D[oM D] = false ∧ D[oM D] ≠ 35 := by
  have hb := bc_sk (D.drop (oN D)) false
  refine ⟨hb.1, fun h => ?_⟩
  have h2 : sk false (D.drop (oN D)) < (D.drop (oN D)).length := by
    rw [List.length_drop]
    unfold oM at h
    omega
  obtain ⟨a1, a2, a3⟩ := hb.2 h2
  have e : (D.drop (oN D))[sk false (D.drop (oN D))] = D[oM D] := by rw [List.getElem_drop]; rfl
  rw [e] at a2 a3
  exact ⟨a1, a2, a3⟩
end Go.Proofs.Qxb6608704aFmt
