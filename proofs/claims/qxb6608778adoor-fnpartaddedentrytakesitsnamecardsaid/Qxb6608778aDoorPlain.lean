/-
  Seat b6608778aD (dasho). THE PLAIN LAYER: how long a key is; the last name of a key.
-/
import Derived.Test.Qxb6608778aDoorWalkA
namespace Go.Proofs.Qxb6608778aDoor
open Go.Lib

theorem encode_le (r : Int) : (encodeRune r).length ≤ 4 := by
  unfold encodeRune
  rw [List.length_map]
  unfold encodeRuneZ
  repeat' split
  all_goals simp
theorem mapGo_le (f : Int → Int) : ∀ (n : Nat) (l : List UInt8), (mapGoD f n l).length ≤ 4 * n
  | 0, l => by simp [mapGoD]
  | n + 1, l => by
    have ih := mapGo_le f n (l.drop (decodeL l).2)
    unfold mapGoD
    split
    · simp
    · rw [List.length_append]
      have h4 : (if 0 ≤ f (decodeL l).1 then encodeRune (f (decodeL l).1) else []).length ≤ 4 := by
        split
        · exact encode_le _
        · simp
      omega
theorem pk_size (s : ByteArray) (hs : s.size ≤ 1048576) : (pk s).size ≤ maxLen := by
  have h1 : (pk s).size = (toLowerD (replaceAll s.data.toList [92] [47])).length := by
    show (toLowerD (replaceAll s.data.toList [92] [47])).toArray.size = _
    rw [List.size_toArray]
  have h2 := mapGo_le toLowerU (replaceAll s.data.toList [92] [47]).length (replaceAll s.data.toList [92] [47])
  have h3 : (replaceAll s.data.toList [92] [47]).length < 35184372088832 := by
    have := slashed_lt s hs
    have e : (⟨(replaceAll s.data.toList [92] [47]).toArray⟩ : ByteArray).size = (replaceAll s.data.toList [92] [47]).length := by
      show (replaceAll s.data.toList [92] [47]).toArray.size = _
      rw [List.size_toArray]
    omega
  rw [h1]
  unfold toLowerD mapD maxLen
  omega

/-- The last of the first k names whose key is q. -/
def lastN (ss : List ByteArray) : Nat → ByteArray → Option ByteArray
  | 0, _ => none
  | k + 1, q => if pk (ss.getD k ByteArray.empty) = q then some (ss.getD k ByteArray.empty) else lastN ss k q
theorem lastN_app (ss ts : List ByteArray) (q : ByteArray) : ∀ k, k ≤ ss.length → lastN (ss ++ ts) k q = lastN ss k q
  | 0, _ => rfl
  | k + 1, h => by
    have e : (ss ++ ts).getD k ByteArray.empty = ss.getD k ByteArray.empty := by
      simp only [List.getD]
      rw [List.getElem?_append_left (by omega)]
    unfold lastN
    rw [e, lastN_app ss ts q k (by omega)]
end Go.Proofs.Qxb6608778aDoor
