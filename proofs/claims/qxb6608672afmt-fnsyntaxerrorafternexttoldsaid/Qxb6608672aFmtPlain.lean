/-
  Seat b6608672aF (tabulon). THE PLAIN MATHEMATICS: what the lexer's functions compute, as plain functions on the bytes that are left of the query, and the laws on them. Nothing of the loaded program stands here.
-/
import Derived.Lib.MapU
import Derived.Lib.Bytealg
import Derived.Lib.IndexLaws
namespace Go.Proofs.Qxb6608672aFmt.Lx
open Go

/-- The six bytes that count as white space. -/
def spaces : List UInt8 := [32, 9, 10, 13, 12, 11]
def spc (c : UInt8) : Bool := spaces.contains c
def idS (c : UInt8) : Bool := (97 ≤ c && c ≤ 122) || (65 ≤ c && c ≤ 90) || c == 95 || 128 ≤ c
def dig (c : UInt8) : Bool := 48 ≤ c && c ≤ 57
def idC (c : UInt8) : Bool := idS c || dig c || c == 36

/-- Behind an opened block comment, 'd' of them open: how many bytes until all are closed. -/
def blk : List UInt8 → Nat → Option Nat
  | _, 0 => some 0
  | [], _ + 1 => none
  | [_], _ + 1 => none
  | a :: b :: r, d + 1 =>
    if a == 47 && b == 42 then (blk r (d + 2)).map (· + 2)
    else if a == 42 && b == 47 then (blk r d).map (· + 2)
    else (blk (b :: r) (d + 1)).map (· + 1)

def add (k : Nat) (x : Bool × Nat) : Bool × Nat := (x.1, k + x.2)

/-- skipSpace, with fuel: whether it comes through; the bytes skipped, or where the comment that is never closed begins. -/
def skipF : Nat → List UInt8 → Bool × Nat
  | 0, _ => (true, 0)
  | _ + 1, [] => (true, 0)
  | f + 1, a :: r =>
    if spc a then add 1 (skipF f r)
    else if Lib.hasPrefix (a :: r) [45, 45] then
      (if Lib.indexByte (a :: r) 10 < 0 then (true, (a :: r).length)
       else add ((Lib.indexByte (a :: r) 10).toNat + 1) (skipF f ((a :: r).drop ((Lib.indexByte (a :: r) 10).toNat + 1))))
    else if Lib.hasPrefix (a :: r) [47, 42] then
      (match blk ((a :: r).drop 2) 1 with
       | none => (false, 0)
       | some n => add (n + 2) (skipF f ((a :: r).drop (n + 2))))
    else (true, 0)
def skip (l : List UInt8) : Bool × Nat := skipF l.length l

theorem indexByte_lt : ∀ (l : List UInt8) (c : UInt8), Lib.indexByte l c < l.length
  | [], _ => by simp [Lib.indexByte]
  | b :: l, c => by
    have := indexByte_lt l c
    unfold Lib.indexByte
    split
    · simp
    · split
      · simp; omega
      · simp; omega

theorem blk_le : ∀ (l : List UInt8) (d n : Nat), blk l d = some n → n ≤ l.length
  | _, 0, n, h => by simp [blk] at h; omega
  | [], _ + 1, n, h => by simp [blk] at h
  | [_], _ + 1, n, h => by simp [blk] at h
  | a :: b :: r, d + 1, n, h => by
    unfold blk at h
    split at h
    · cases e : blk r (d + 2) with
      | none => rw [e] at h; cases h
      | some m => rw [e] at h; cases h; have := blk_le r (d + 2) m e; simp; omega
    · split at h
      · cases e : blk r d with
        | none => rw [e] at h; cases h
        | some m => rw [e] at h; cases h; have := blk_le r d m e; simp; omega
      · cases e : blk (b :: r) (d + 1) with
        | none => rw [e] at h; cases h
        | some m => rw [e] at h; cases h; have := blk_le (b :: r) (d + 1) m e; simp at this ⊢; omega

theorem skipF_fuel : ∀ (f g : Nat) (l : List UInt8), l.length ≤ f → l.length ≤ g → skipF f l = skipF g l
  | 0, 0, _, _, _ => rfl
  | 0, g + 1, l, h, _ => by obtain rfl : l = [] := List.length_eq_zero_iff.1 (by omega); rfl
  | f + 1, 0, l, _, h => by obtain rfl : l = [] := List.length_eq_zero_iff.1 (by omega); rfl
  | f + 1, g + 1, [], _, _ => rfl
  | f + 1, g + 1, a :: r, hf, hg => by
    simp only [List.length_cons] at hf hg
    unfold skipF
    split
    · rw [skipF_fuel f g r (by omega) (by omega)]
    · split
      · split
        · rfl
        · rw [skipF_fuel f g _ (by simp; omega) (by simp; omega)]
      · split
        · cases blk ((a :: r).drop 2) 1 with
          | none => rfl
          | some n => simp only; rw [skipF_fuel f g _ (by simp; omega) (by simp; omega)]
        · rfl

theorem skip_nil : skip [] = (true, 0) := rfl
theorem skip_spc (a : UInt8) (r : List UInt8) (h : spc a = true) : skip (a :: r) = add 1 (skip r) := by
  unfold skip
  rw [List.length_cons, skipF, if_pos h]
theorem skip_line (a : UInt8) (r : List UInt8) (h : spc a = false) (hp : Lib.hasPrefix (a :: r) [45, 45] = true) (hn : Lib.indexByte (a :: r) 10 < 0) : skip (a :: r) = (true, (a :: r).length) := by
  unfold skip
  rw [List.length_cons, skipF, if_neg (by simp [h]), if_pos hp, if_pos hn]; rfl
theorem skip_line_end (a : UInt8) (r : List UInt8) (h : spc a = false) (hp : Lib.hasPrefix (a :: r) [45, 45] = true) (k : Nat) (hn : Lib.indexByte (a :: r) 10 = k) :
    skip (a :: r) = add (k + 1) (skip ((a :: r).drop (k + 1))) := by
  have hk := indexByte_lt (a :: r) 10
  rw [hn] at hk
  unfold skip
  rw [List.length_cons, skipF, if_neg (by simp [h]), if_pos hp, hn, if_neg (by omega)]
  simp only [Int.toNat_natCast]
  rw [skipF_fuel r.length ((a :: r).drop (k + 1)).length _ (by simp) (by simp)]
theorem skip_open (a : UInt8) (r : List UInt8) (h : spc a = false) (hq : Lib.hasPrefix (a :: r) [45, 45] = false) (hp : Lib.hasPrefix (a :: r) [47, 42] = true) (hb : blk ((a :: r).drop 2) 1 = none) : skip (a :: r) = (false, 0) := by
  unfold skip
  rw [List.length_cons, skipF, if_neg (by simp [h]), if_neg (by simp [hq]), if_pos hp, hb]
theorem skip_blk (a : UInt8) (r : List UInt8) (h : spc a = false) (hq : Lib.hasPrefix (a :: r) [45, 45] = false) (hp : Lib.hasPrefix (a :: r) [47, 42] = true) (n : Nat) (hb : blk ((a :: r).drop 2) 1 = some n) :
    skip (a :: r) = add (n + 2) (skip ((a :: r).drop (n + 2))) := by
  unfold skip
  rw [List.length_cons, skipF, if_neg (by simp [h]), if_neg (by simp [hq]), if_pos hp, hb]
  simp only
  rw [skipF_fuel r.length ((a :: r).drop (n + 2)).length _ (by simp) (by simp)]
theorem skip_stop (a : UInt8) (r : List UInt8) (h : spc a = false) (hq : Lib.hasPrefix (a :: r) [45, 45] = false) (hp : Lib.hasPrefix (a :: r) [47, 42] = false) : skip (a :: r) = (true, 0) := by
  unfold skip
  rw [List.length_cons, skipF, if_neg (by simp [h]), if_neg (by simp [hq]), if_neg (by simp [hp])]

/-- The bytes that an identifier holds behind its first. -/
def run (p : UInt8 → Bool) (l : List UInt8) : Nat := (l.takeWhile p).length
def isAt (p : UInt8 → Bool) (l : List UInt8) (i : Nat) : Bool := match l[i]? with | some c => p c | none => false

/-- lexNumber's two steps: where the literal ends so far, whether it is numeric. -/
def num1 (l : List UInt8) : Nat × Bool :=
  if isAt (· == 46) l (run dig l) then (run dig l + 1 + run dig (l.drop (run dig l + 1)), true) else (run dig l, false)
def signed (l : List UInt8) (k : Nat) : Nat := if isAt (fun c => c == 43 || c == 45) l k then k + 1 else k
def num2 (l : List UInt8) (j : Nat) (k : Bool) : Nat × Bool :=
  if isAt (fun c => c == 101 || c == 69) l j && isAt dig l (signed l (j + 1)) then (signed l (j + 1) + run dig (l.drop (signed l (j + 1))), true) else (j, k)
def num (l : List UInt8) : Option (Nat × Bool) :=
  if isAt idS l (num2 l (num1 l).1 (num1 l).2).1 then none else some (num2 l (num1 l).1 (num1 l).2)

/-- Behind the opening mark: the value, and how many bytes to the closing mark, that mark counted. -/
def quo (q : UInt8) : List UInt8 → Option (List UInt8 × Nat)
  | [] => none
  | [a] => if a == q then some ([], 1) else none
  | a :: b :: r =>
    if a == q then (if b == q then (quo q r).map fun x => (q :: x.1, x.2 + 2) else some ([], 1))
    else (quo q (b :: r)).map fun x => (a :: x.1, x.2 + 1)

def ops : List (List UInt8) := [[58, 58], [60, 62], [33, 61], [60, 61], [62, 61], [61], [60], [62], [43], [45], [42], [47], [37], [40], [41], [44], [59], [46]]

/-- lexToken: the kind, the value, the length as written. -/
def tok : List UInt8 → Option (Nat × List UInt8 × Nat)
  | [] => none
  | c :: r =>
    if idS c then some (1, Lib.toLowerD ((c :: r).take (run idC r + 1)), run idC r + 1)
    else if dig c || (c == 46 && isAt dig r 0) then
      (num (c :: r)).map fun x => (if x.2 then 4 else 3, (c :: r).take x.1, x.1)
    else if c == 36 && isAt dig r 0 then some (6, r.take (run dig r), run dig r + 1)
    else if c == 39 then (quo 39 r).map fun x => (5, x.1, x.2 + 1)
    else if c == 34 then (match quo 34 r with
      | none => none
      | some x => if x.1.isEmpty then none else some (2, x.1, x.2 + 1))
    else (ops.find? fun op => Lib.hasPrefix (c :: r) op).map fun op => (7, op, op.length)

/-- What 'next' answers, its offsets counted from where it began. -/
structure Ans where
  k : Nat
  t : List UInt8
  r : List UInt8
  o : Nat
  f : Bool
  e : Nat
  n : Nat
def nxt (l : List UInt8) : Ans :=
  if (skip l).1 then
    (if (skip l).2 = l.length then ⟨0, [], [], l.length, false, 0, l.length⟩
     else match tok (l.drop (skip l).2) with
       | none => ⟨8, [], [], (skip l).2, true, (skip l).2 + 1, 0⟩
       | some x => ⟨x.1, x.2.1, (l.drop (skip l).2).take x.2.2, (skip l).2, false, 0, (skip l).2 + x.2.2⟩)
  else ⟨8, [], [], 0, true, (skip l).2 + 1, 0⟩

end Go.Proofs.Qxb6608672aFmt.Lx
