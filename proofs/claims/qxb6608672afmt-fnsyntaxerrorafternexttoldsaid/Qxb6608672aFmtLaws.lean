/-
  Seat b6608672aF (tabulon). THE PLAIN LAWS: an answer is well shaped; a gap lexes alone to the end; a token's text, lexed alone, gives the same token.
-/
import Derived.Test.Qxb6608672aFmtPlain
namespace Go.Proofs.Qxb6608672aFmt.Lx
open Go

theorem hasPrefix_app {l p t : List UInt8} (h : Lib.hasPrefix l p = true) : Lib.hasPrefix (l ++ t) p = true := by
  unfold Lib.hasPrefix at *
  rw [List.isPrefixOf_iff_prefix] at *
  exact h.trans (List.prefix_append _ _)
theorem hasPrefix_take {l p : List UInt8} {m : Nat} (h : Lib.hasPrefix (l.take m) p = true) : Lib.hasPrefix l p = true := by
  have := hasPrefix_app (t := l.drop m) h
  rwa [List.take_append_drop] at this
theorem hasPrefix_two {l : List UInt8} {x y : UInt8} (h : Lib.hasPrefix l [x, y] = true) : ∃ r, l = x :: y :: r := by
  unfold Lib.hasPrefix at h
  rw [List.isPrefixOf_iff_prefix] at h
  obtain ⟨r, rfl⟩ := h
  exact ⟨r, rfl⟩

theorem blk_pos : ∀ (l : List UInt8) (d n : Nat), blk l (d + 1) = some n → 2 ≤ n
  | [], _, n, h => by simp [blk] at h
  | [_], _, n, h => by simp [blk] at h
  | a :: b :: r, d, n, h => by
    unfold blk at h
    split at h
    · cases e : blk r (d + 2) with
      | none => rw [e] at h; cases h
      | some m => rw [e] at h; simp at h; omega
    · split at h
      · cases e : blk r d with
        | none => rw [e] at h; cases h
        | some m => rw [e] at h; simp at h; omega
      · cases e : blk (b :: r) (d + 1) with
        | none => rw [e] at h; cases h
        | some m => rw [e] at h; simp at h; have := blk_pos (b :: r) d m e; omega

theorem blk_take : ∀ (l : List UInt8) (d n : Nat) (t : List UInt8), blk l d = some n → blk (l.take n ++ t) d = some n
  | l, 0, n, t, h => by simp [blk] at h; subst h; simp [blk]
  | [], _ + 1, n, t, h => by simp [blk] at h
  | [_], _ + 1, n, t, h => by simp [blk] at h
  | a :: b :: r, d + 1, n, t, h => by
    unfold blk at h
    split at h
    · rename_i hc
      cases e : blk r (d + 2) with
      | none => rw [e] at h; cases h
      | some m =>
        rw [e] at h; cases h
        have ih := blk_take r (d + 2) m t e
        simp only [List.take_succ_cons, List.cons_append]
        rw [blk, if_pos hc, ih]; rfl
    · rename_i hc
      split at h
      · rename_i hd
        cases e : blk r d with
        | none => rw [e] at h; cases h
        | some m =>
          rw [e] at h; cases h
          have ih := blk_take r d m t e
          simp only [List.take_succ_cons, List.cons_append]
          rw [blk, if_neg hc, if_pos hd, ih]; rfl
      · rename_i hd
        cases e : blk (b :: r) (d + 1) with
        | none => rw [e] at h; cases h
        | some m =>
          rw [e] at h; cases h
          have ih := blk_take (b :: r) (d + 1) m t e
          have hp := blk_pos (b :: r) d m e
          obtain ⟨k, rfl⟩ : ∃ k, m = k + 1 := ⟨m - 1, by omega⟩
          simp only [List.take_succ_cons, List.cons_append] at ih ⊢
          rw [blk, if_neg hc, if_neg hd, ih]; rfl

theorem indexByte_take : ∀ (l : List UInt8) (c : UInt8) (k : Nat) (t : List UInt8), Lib.indexByte l c = k → Lib.indexByte (l.take (k + 1) ++ t) c = k
  | [], c, k, t, h => by simp [Lib.indexByte] at h
  | b :: l, c, k, t, h => by
    unfold Lib.indexByte at h
    split at h
    · rename_i hb
      obtain rfl : k = 0 := by omega
      simp [Lib.indexByte, hb]
    · rename_i hb
      split at h
      · omega
      · rename_i hn
        obtain ⟨j, rfl⟩ : ∃ j, k = j + 1 := ⟨k - 1, by have := Lib.indexByte_ge l c; simp at hn; omega⟩
        have ih := indexByte_take l c j t (by omega)
        simp only [List.take_succ_cons, List.cons_append]
        rw [Lib.indexByte, if_neg hb, ih, if_neg (by simp)]
        simp

/-- WHAT ONE STEP OF skipSpace DOES. -/
theorem skip_step (l : List UInt8) :
    (skip l = (true, 0)) ∨ (skip l = (true, l.length)) ∨ (skip l = (false, 0) ∧ l ≠ []) ∨
    (∃ k, 0 < k ∧ k ≤ l.length ∧ (skip l = add k (skip (l.drop k))) ∧ ∀ t, skip (l.take k ++ t) = add k (skip t)) := by
  cases l with
  | nil => exact Or.inl rfl
  | cons a r =>
    cases hs : spc a with
    | true => exact Or.inr (Or.inr (Or.inr ⟨1, by omega, by simp, by rw [skip_spc a r hs]; rfl, fun t => by simp [skip_spc a t hs]⟩))
    | false =>
      cases hp : Lib.hasPrefix (a :: r) [45, 45] with
      | true =>
        by_cases hn : Lib.indexByte (a :: r) 10 < 0
        · exact Or.inr (Or.inl (skip_line a r hs hp hn))
        · obtain ⟨k, hk⟩ : ∃ k : Nat, Lib.indexByte (a :: r) 10 = k := ⟨(Lib.indexByte (a :: r) 10).toNat, by omega⟩
          have hlt := indexByte_lt (a :: r) 10
          have hr := skip_line_end a r hs hp k hk
          have hpos : 2 ≤ k + 1 := by
            obtain ⟨r', e⟩ := hasPrefix_two hp
            rw [e] at hk
            have h0 : (45 : UInt8) ≠ 10 := by decide
            have := Lib.indexByte_ge r' 10
            cases k with
            | zero => have h1 := (Lib.indexByte_some (o := 0) hk).1; simp [h0] at h1
            | succ k => omega
          refine Or.inr (Or.inr (Or.inr ⟨k + 1, by omega, by omega, hr, fun t => ?_⟩))
          obtain ⟨r', e⟩ := hasPrefix_two hp
          obtain ⟨j, rfl⟩ : ∃ j, k = j + 1 := ⟨k - 1, by omega⟩
          obtain ⟨rfl, rfl⟩ : a = 45 ∧ r = 45 :: r' := by simpa using e
          have hx := indexByte_take _ 10 (j + 1) t hk
          have e1 : (45 :: 45 :: r').take (j + 1 + 1) ++ t = (45 : UInt8) :: (45 :: (r'.take j ++ t)) := rfl
          rw [e1] at hx ⊢
          rw [skip_line_end 45 _ hs rfl (j + 1) hx]
          have e2 : ((45 : UInt8) :: (45 :: (r'.take j ++ t))).drop (j + 1 + 1) = t := by
            simp only [List.drop_succ_cons]
            have : (r'.take j).length = j := by simp at hlt ⊢; omega
            rw [List.drop_append_of_le_length (by omega), List.drop_eq_nil_of_le (by omega)]
            rfl
          rw [e2]
      | false =>
        cases hq : Lib.hasPrefix (a :: r) [47, 42] with
        | false => exact Or.inl (skip_stop a r hs hp hq)
        | true =>
          cases hb : blk ((a :: r).drop 2) 1 with
          | none => exact Or.inr (Or.inr (Or.inl ⟨skip_open a r hs hp hq hb, by simp⟩))
          | some n =>
            have hr := skip_blk a r hs hp hq n hb
            have hle := blk_le _ _ _ hb
            refine Or.inr (Or.inr (Or.inr ⟨n + 2, by omega, ?_, hr, fun t => ?_⟩))
            · obtain ⟨r', e⟩ := hasPrefix_two hq
              rw [e] at hle ⊢
              simpa using hle
            · obtain ⟨r', e⟩ := hasPrefix_two hq
              obtain ⟨rfl, rfl⟩ : a = 47 ∧ r = 42 :: r' := by simpa using e
              have hb' : blk r' 1 = some n := hb
              have hle' : n ≤ r'.length := hle
              have e1 : (47 :: 42 :: r').take (n + 2) ++ t = (47 : UInt8) :: (42 :: (r'.take n ++ t)) := rfl
              rw [e1, skip_blk 47 (42 :: (r'.take n ++ t)) hs rfl rfl n (blk_take r' 1 n t hb')]
              have e2 : ((47 : UInt8) :: (42 :: (r'.take n ++ t))).drop (n + 2) = t := by
                simp only [List.drop_succ_cons]
                have : (r'.take n).length = n := by simp; omega
                rw [List.drop_append_of_le_length (by omega), List.drop_eq_nil_of_le (by omega)]
                rfl
              rw [e2]

theorem skip_bound : ∀ (m : Nat) (l : List UInt8), l.length ≤ m → (skip l).2 ≤ l.length ∧ ((skip l).1 = false → (skip l).2 < l.length)
  | m, l, hm => by
    rcases skip_step l with h | h | ⟨h, hl⟩ | ⟨k, hk, hkl, h, _⟩
    · rw [h]; exact ⟨Nat.zero_le _, fun e => by cases e⟩
    · rw [h]; exact ⟨Nat.le_refl _, fun e => by cases e⟩
    · rw [h]; exact ⟨Nat.zero_le _, fun _ => List.length_pos_iff.2 hl⟩
    · cases m with
      | zero => omega
      | succ m =>
        have ih := skip_bound m (l.drop k) (by simp; omega)
        rw [h]
        simp only [add, List.length_drop] at ih ⊢
        exact ⟨by omega, fun e => by have := ih.2 e; omega⟩

theorem skip_gap : ∀ (m : Nat) (l : List UInt8) (n : Nat), l.length ≤ m → skip l = (true, n) → skip (l.take n) = (true, n)
  | m, l, n, hm, hn => by
    rcases skip_step l with h | h | ⟨h, _⟩ | ⟨k, hk, hkl, h, hp⟩
    · rw [h] at hn; cases hn; rfl
    · rw [h] at hn; cases hn; rw [List.take_length]; exact h
    · rw [h] at hn; cases hn
    · cases m with
      | zero => omega
      | succ m =>
        obtain ⟨n', hn'⟩ : ∃ n', skip (l.drop k) = (true, n') := by
          rw [h] at hn
          simp only [add, Prod.mk.injEq] at hn
          exact ⟨(skip (l.drop k)).2, by rw [← hn.1]⟩
        have ih := skip_gap m (l.drop k) n' (by simp; omega) hn'
        rw [h, hn'] at hn
        simp only [add, Prod.mk.injEq, true_and] at hn
        subst hn
        rw [List.take_add, hp, ih]
        rfl

theorem skip_again : ∀ (m : Nat) (l : List UInt8) (n : Nat), l.length ≤ m → skip l = (true, n) → skip (l.drop n) = (true, 0)
  | m, l, n, hm, hn => by
    rcases skip_step l with h | h | ⟨h, _⟩ | ⟨k, hk, hkl, h, hp⟩
    · rw [h] at hn; cases hn; exact h
    · rw [h] at hn; cases hn; rw [List.drop_length]; rfl
    · rw [h] at hn; cases hn
    · cases m with
      | zero => omega
      | succ m =>
        obtain ⟨n', hn'⟩ : ∃ n', skip (l.drop k) = (true, n') := by
          rw [h] at hn
          simp only [add, Prod.mk.injEq] at hn
          exact ⟨(skip (l.drop k)).2, by rw [← hn.1]⟩
        have ih := skip_again m (l.drop k) n' (by simp; omega) hn'
        rw [h, hn'] at hn
        simp only [add, Prod.mk.injEq, true_and] at hn
        subst hn
        rwa [List.drop_drop] at ih

/-- Where skipSpace stops at once, it stops at once on every beginning of the text that is not empty. -/
theorem skip_take (l : List UInt8) (m : Nat) (h : skip l = (true, 0)) : skip (l.take m) = (true, 0) := by
  cases l with
  | nil => simpa using h
  | cons a r =>
    cases m with
    | zero => rfl
    | succ m =>
      have hs : spc a = false := by
        cases hs : spc a with
        | false => rfl
        | true => rw [skip_spc a r hs] at h; simp [add] at h
      have hp : Lib.hasPrefix (a :: r) [45, 45] = false := by
        cases hp : Lib.hasPrefix (a :: r) [45, 45] with
        | false => rfl
        | true =>
          by_cases hn : Lib.indexByte (a :: r) 10 < 0
          · rw [skip_line a r hs hp hn] at h; simp at h
          · obtain ⟨k, hk⟩ : ∃ k : Nat, Lib.indexByte (a :: r) 10 = k := ⟨(Lib.indexByte (a :: r) 10).toNat, by omega⟩
            rw [skip_line_end a r hs hp k hk] at h; simp [add] at h
      have hq : Lib.hasPrefix (a :: r) [47, 42] = false := by
        cases hq : Lib.hasPrefix (a :: r) [47, 42] with
        | false => rfl
        | true =>
          cases hb : blk ((a :: r).drop 2) 1 with
          | none => rw [skip_open a r hs hp hq hb] at h; cases h
          | some n => rw [skip_blk a r hs hp hq n hb] at h; simp [add] at h
      rw [List.take_succ_cons]
      refine skip_stop a _ hs ?_ ?_
      · cases e : Lib.hasPrefix (a :: r.take m) [45, 45] with
        | false => rfl
        | true => have := hasPrefix_take (l := a :: r) (m := m + 1) e; rw [hp] at this; cases this
      · cases e : Lib.hasPrefix (a :: r.take m) [47, 42] with
        | false => rfl
        | true => have := hasPrefix_take (l := a :: r) (m := m + 1) e; rw [hq] at this; cases this

theorem run_le (p : UInt8 → Bool) (l : List UInt8) : run p l ≤ l.length := (List.takeWhile_prefix p).length_le
theorem run_take (p : UInt8 → Bool) : ∀ (l : List UInt8) (m : Nat), run p l ≤ m → run p (l.take m) = run p l
  | [], m, _ => by simp
  | a :: l, m, h => by
    unfold run at *
    cases m with
    | zero =>
      rw [List.takeWhile_cons] at h
      cases ha : p a with
      | true => rw [ha] at h; simp at h
      | false => simp [ha]
    | succ m =>
      rw [List.take_succ_cons, List.takeWhile_cons, List.takeWhile_cons]
      cases ha : p a with
      | true =>
        rw [List.takeWhile_cons, ha] at h
        simp only [if_true, List.length_cons] at h ⊢
        have := run_take p l m (by unfold run; omega)
        unfold run at this
        rw [this]
      | false => rfl
theorem isAt_take (p : UInt8 → Bool) (l : List UInt8) (m i : Nat) (h : i < m) : isAt p (l.take m) i = isAt p l i := by
  unfold isAt; rw [List.getElem?_take, if_pos h]
theorem isAt_end (p : UInt8 → Bool) (l : List UInt8) (m i : Nat) (h : m ≤ i) : isAt p (l.take m) i = false := by
  unfold isAt; rw [List.getElem?_take, if_neg (by omega)]
theorem isAt_of_take {p : UInt8 → Bool} {l : List UInt8} {m i : Nat} (h : isAt p (l.take m) i = true) : isAt p l i = true := by
  by_cases e : i < m
  · rwa [isAt_take p l m i e] at h
  · rw [isAt_end p l m i (by omega)] at h; cases h
theorem isAt_lt {p : UInt8 → Bool} {l : List UInt8} {i : Nat} (h : isAt p l i = true) : i < l.length := by
  unfold isAt at h
  split at h
  · rename_i e; exact (List.getElem?_eq_some_iff.1 e).1
  · cases h
theorem isAt_run {p : UInt8 → Bool} {l : List UInt8} {i : Nat} (h : isAt p l i = true) : 1 ≤ run p (l.drop i) := by
  have hi := isAt_lt h
  unfold isAt at h
  rw [List.getElem?_eq_getElem hi] at h
  simp only at h
  rw [List.drop_eq_getElem_cons hi]
  unfold run
  rw [List.takeWhile_cons, h]
  simp

theorem num1_le (l : List UInt8) : run dig l ≤ (num1 l).1 ∧ (num1 l).1 ≤ l.length := by
  unfold num1
  split
  · rename_i h
    have := isAt_lt h
    have h2 := run_le dig (l.drop (run dig l + 1))
    simp at h2
    exact ⟨by simp only; omega, by simp only; omega⟩
  · exact ⟨Nat.le_refl _, run_le _ _⟩
theorem signed_le (l : List UInt8) (k : Nat) : k ≤ signed l k ∧ signed l k ≤ k + 1 := by
  unfold signed; split <;> omega
theorem num2_le (l : List UInt8) (j : Nat) (k : Bool) (h : j ≤ l.length) : j ≤ (num2 l j k).1 ∧ (num2 l j k).1 ≤ l.length := by
  unfold num2
  split
  · rename_i h
    simp only [Bool.and_eq_true] at h
    have h1 := isAt_lt h.2
    have h2 := run_le dig (l.drop (signed l (j + 1)))
    have h3 := signed_le l (j + 1)
    simp only [List.length_drop] at h2
    simp only
    omega
  · simp only; omega
theorem num1_take (l : List UInt8) (m : Nat) (h : (num1 l).1 ≤ m) : num1 (l.take m) = num1 l := by
  have hr := (num1_le l).1
  have e := run_take dig l m (by omega)
  unfold num1
  rw [e]
  cases hd : isAt (· == 46) l (run dig l) with
  | true =>
    have h' := h
    unfold num1 at h'
    rw [if_pos hd] at h'
    simp only at h'
    rw [isAt_take _ l m _ (by omega), hd, if_pos rfl, if_pos rfl, List.drop_take, run_take dig _ _ (by omega)]
  | false =>
    have : isAt (· == 46) (l.take m) (run dig l) = false := by
      cases hx : isAt (· == 46) (l.take m) (run dig l) with
      | false => rfl
      | true => have := isAt_of_take hx; rw [hd] at this; cases this
    rw [this]; simp
theorem num2_take (l : List UInt8) (j : Nat) (k : Bool) : num2 (l.take (num2 l j k).1) j k = num2 l j k := by
  cases hc : (isAt (fun c => c == 101 || c == 69) l j && isAt dig l (signed l (j + 1))) with
  | true =>
    have hm : num2 l j k = (signed l (j + 1) + run dig (l.drop (signed l (j + 1))), true) := by unfold num2; rw [if_pos hc]
    rw [hm]
    simp only
    simp only [Bool.and_eq_true] at hc
    have h1 := isAt_run hc.2
    have h3 := signed_le l (j + 1)
    generalize hM : signed l (j + 1) + run dig (l.drop (signed l (j + 1))) = M at *
    have e1 : signed (l.take M) (j + 1) = signed l (j + 1) := by
      unfold signed
      cases hs : isAt (fun c => c == 43 || c == 45) l (j + 1) with
      | true =>
        have : signed l (j + 1) = j + 2 := by unfold signed; rw [if_pos hs]
        rw [isAt_take _ l M _ (by omega), hs]
      | false =>
        have : isAt (fun c => c == 43 || c == 45) (l.take M) (j + 1) = false := by
          cases hx : isAt (fun c => c == 43 || c == 45) (l.take M) (j + 1) with
          | false => rfl
          | true => have := isAt_of_take hx; rw [hs] at this; cases this
        rw [this]
    unfold num2
    rw [e1, isAt_take _ l M j (by omega), isAt_take _ l M _ (by omega), hc.1, hc.2, List.drop_take, run_take dig _ _ (by omega), hM]
    rfl
  | false =>
    have hm : num2 l j k = (j, k) := by unfold num2; rw [hc]; rfl
    rw [hm]
    simp only
    unfold num2
    rw [isAt_end _ l j j (Nat.le_refl _)]
    rfl
theorem num_take (l : List UInt8) (x : Nat × Bool) (h : num l = some x) : num (l.take x.1) = some x ∧ x.1 ≤ l.length ∧ (num1 l).1 ≤ x.1 := by
  unfold num at h
  split at h
  · cases h
  · rename_i hj
    cases h
    have h1 := num1_le l
    have h2 := num2_le l (num1 l).1 (num1 l).2 h1.2
    refine ⟨?_, h2.2, h2.1⟩
    unfold num
    rw [num1_take l _ h2.1, num2_take, isAt_end _ l _ _ (Nat.le_refl _)]
    rfl

theorem quo_le (q : UInt8) : ∀ (l : List UInt8) (x : List UInt8 × Nat), quo q l = some x → 1 ≤ x.2 ∧ x.2 ≤ l.length
  | [], x, h => by simp [quo] at h
  | [a], x, h => by
    unfold quo at h
    split at h
    · cases h; simp
    · cases h
  | a :: b :: r, x, h => by
    unfold quo at h
    split at h
    · split at h
      · cases e : quo q r with
        | none => rw [e] at h; cases h
        | some y => rw [e] at h; cases h; have := quo_le q r y e; simp; omega
      · cases h; simp
    · cases e : quo q (b :: r) with
      | none => rw [e] at h; cases h
      | some y => rw [e] at h; cases h; have := quo_le q (b :: r) y e; simp at this ⊢; omega
theorem quo_take (q : UInt8) : ∀ (l : List UInt8) (x : List UInt8 × Nat), quo q l = some x → quo q (l.take x.2) = some x
  | [], x, h => by simp [quo] at h
  | [a], x, h => by
    have := (quo_le q [a] x h).1
    rw [List.take_of_length_le (by simp; omega)]; exact h
  | a :: b :: r, x, h => by
    unfold quo at h
    split at h
    · rename_i ha
      split at h
      · rename_i hb
        cases e : quo q r with
        | none => rw [e] at h; cases h
        | some y =>
          rw [e] at h; cases h
          have ih := quo_take q r y e
          simp only [List.take_succ_cons]
          rw [quo, if_pos ha, if_pos hb, ih]; rfl
      · cases h
        simp only [List.take_succ_cons, List.take_zero]
        rw [quo, if_pos ha]
    · rename_i ha
      cases e : quo q (b :: r) with
      | none => rw [e] at h; cases h
      | some y =>
        rw [e] at h; cases h
        have ih := quo_take q (b :: r) y e
        have hp := quo_le q (b :: r) y e
        obtain ⟨k, hk⟩ : ∃ k, y.2 = k + 1 := ⟨y.2 - 1, by omega⟩
        simp only [List.take_succ_cons]
        rw [hk, List.take_succ_cons] at ih ⊢
        rw [quo, if_neg ha, ih]
        simp [hk]

theorem ops_alone : ∀ op ∈ ops, (ops.find? fun o => Lib.hasPrefix op o) = some op := by decide
theorem ops_pos : ∀ op ∈ ops, 1 ≤ op.length := by decide

/-- A TOKEN: its kind is 1 to 7, it has at least one byte, it stands in the text, and its text alone gives it again. -/
theorem tok_alone (l : List UInt8) (x : Nat × List UInt8 × Nat) (h : tok l = some x) : 1 ≤ x.1 ∧ x.1 ≤ 7 ∧ 1 ≤ x.2.2 ∧ x.2.2 ≤ l.length ∧ tok (l.take x.2.2) = some x := by
  cases l with
  | nil => cases h
  | cons c r =>
    rw [tok] at h
    split at h
    · rename_i hi
      cases h
      have hr := run_le idC r
      refine ⟨(by simp), (by simp), by simp, by simp; exact hr, ?_⟩
      simp only [List.take_succ_cons]
      rw [tok]
      rw [if_pos hi, run_take idC r _ (Nat.le_refl _)]
      simp only [List.take_succ_cons, List.take_take, Nat.min_self]
    · rename_i hi
      split at h
      · rename_i hd
        cases e : num (c :: r) with
        | none => rw [e] at h; cases h
        | some y =>
          rw [e] at h
          cases h
          obtain ⟨ha, hb, hc⟩ := num_take _ y e
          have hn := num1_le (c :: r)
          have hpos : 1 ≤ y.1 ∧ ((dig c || (c == 46 && isAt dig (r.take (y.1 - 1)) 0)) = true) := by
            cases hdc : dig c with
            | true =>
              have : 1 ≤ run dig (c :: r) := by unfold run; rw [List.takeWhile_cons, hdc]; simp
              exact ⟨by omega, rfl⟩
            | false =>
              rw [hdc] at hd
              simp only [Bool.false_or, Bool.and_eq_true] at hd ⊢
              have h0 : run dig (c :: r) = 0 := by unfold run; rw [List.takeWhile_cons, hdc]; rfl
              have h1 : isAt (· == 46) (c :: r) 0 = true := hd.1
              have h2 := isAt_run hd.2
              have h3 : (num1 (c :: r)).1 = 1 + run dig r := by
                unfold num1
                rw [h0, if_pos h1]
                simp
              rw [List.drop_zero] at h2
              exact ⟨by omega, hd.1, by rw [isAt_take _ _ _ _ (by omega)]; exact hd.2⟩
          refine ⟨?_, ?_, hpos.1, hb, ?_⟩
          · simp only; split <;> decide
          · simp only; split <;> decide
          · simp only
            obtain ⟨k, hk⟩ : ∃ k, y.1 = k + 1 := ⟨y.1 - 1, by omega⟩
            have h2 := hpos.2
            rw [hk] at ha h2 ⊢
            simp only [List.take_succ_cons, Nat.add_sub_cancel] at ha h2 ⊢
            rw [tok]
            rw [if_neg hi, if_pos h2, ha]
            simp [hk, List.take_take]
      · rename_i hd
        have hdt : ∀ m, ¬ (dig c || (c == 46 && isAt dig (r.take m) 0)) = true := fun m hx => hd (by
          simp only [Bool.or_eq_true, Bool.and_eq_true] at hx ⊢
          exact hx.imp id fun y => ⟨y.1, isAt_of_take y.2⟩)
        split at h
        · rename_i hp
          cases h
          simp only [Bool.and_eq_true] at hp
          have hr := run_le dig r
          have h1 := isAt_run hp.2
          rw [List.drop_zero] at h1
          refine ⟨(by simp), (by simp), by simp, by simp; exact hr, ?_⟩
          simp only [List.take_succ_cons]
          rw [tok]
          rw [if_neg hi, if_neg (hdt _), if_pos (by simp only [Bool.and_eq_true]; exact ⟨hp.1, by rw [isAt_take _ _ _ _ (by omega)]; exact hp.2⟩), run_take dig r _ (Nat.le_refl _), List.take_take, Nat.min_self]
        · rename_i hp
          have hpt : ∀ m, ¬ (c == 36 && isAt dig (r.take m) 0) = true := fun m hx => hp (by
            simp only [Bool.and_eq_true] at hx ⊢
            exact ⟨hx.1, isAt_of_take hx.2⟩)
          split at h
          · rename_i h39
            cases e : quo 39 r with
            | none => rw [e] at h; cases h
            | some y =>
              rw [e] at h; cases h
              have hl := quo_le 39 r y e
              refine ⟨(by simp), (by simp), by simp, by simp; omega, ?_⟩
              simp only [List.take_succ_cons]
              rw [tok]
              rw [if_neg hi, if_neg (hdt _), if_neg (hpt _), if_pos h39, quo_take 39 r y e]
              rfl
          · rename_i h39
            split at h
            · rename_i h34
              cases e : quo 34 r with
              | none => rw [e] at h; cases h
              | some y =>
                rw [e] at h
                simp only at h
                split at h
                · cases h
                · rename_i he
                  cases h
                  have hl := quo_le 34 r y e
                  refine ⟨(by simp), (by simp), by simp, by simp; omega, ?_⟩
                  simp only [List.take_succ_cons]
                  rw [tok]
                  rw [if_neg hi, if_neg (hdt _), if_neg (hpt _), if_neg h39, if_pos h34, quo_take 34 r y e]
                  simp only
                  rw [if_neg he]
            · rename_i h34
              cases e : ops.find? fun op => Lib.hasPrefix (c :: r) op with
              | none => rw [e] at h; cases h
              | some op =>
                rw [e] at h; cases h
                have hm : op ∈ ops := List.mem_of_find?_eq_some e
                have hpre : Lib.hasPrefix (c :: r) op = true := by simpa using List.find?_some e
                unfold Lib.hasPrefix at hpre
                rw [List.isPrefixOf_iff_prefix] at hpre
                have hlen := hpre.length_le
                have htake : (c :: r).take op.length = op := (List.prefix_iff_eq_take.1 hpre).symm
                have h1 := ops_pos op hm
                refine ⟨(by simp), (by simp), h1, hlen, ?_⟩
                obtain ⟨k, hk⟩ : ∃ k, op.length = k + 1 := ⟨op.length - 1, by omega⟩
                simp only at htake ⊢
                rw [hk, List.take_succ_cons] at htake ⊢
                have ho := ops_alone op hm
                rw [← htake] at ho
                rw [tok]
                rw [if_neg hi, if_neg (hdt _), if_neg (hpt _), if_neg h39, if_neg h34, ho, htake]
                simp [hk]

/-- AN ANSWER IS WELL SHAPED. -/
theorem nxt_ok (l : List UInt8) : ((nxt l).f = true → (nxt l).k = 8 ∧ (nxt l).t = [] ∧ (nxt l).r = [] ∧ (nxt l).n = 0 ∧ (nxt l).o < (nxt l).e ∧ (nxt l).e ≤ l.length) ∧
    ((nxt l).f = false → (nxt l).k = 0 → (nxt l).t = [] ∧ (nxt l).r = [] ∧ (nxt l).o = l.length ∧ (nxt l).n = l.length) ∧
    ((nxt l).f = false → (nxt l).k ≠ 0 → (nxt l).k ≤ 7 ∧ 1 ≤ (nxt l).r.length ∧ (nxt l).o + (nxt l).r.length ≤ l.length ∧ (nxt l).n = (nxt l).o + (nxt l).r.length ∧ (l.drop (nxt l).o).take (nxt l).r.length = (nxt l).r) := by
  have hb := skip_bound l.length l (Nat.le_refl _)
  unfold nxt
  split
  · split
    · exact ⟨(fun h => by cases h), fun _ _ => ⟨rfl, rfl, rfl, rfl⟩, fun _ h => absurd rfl h⟩
    · rename_i hne
      cases e : tok (l.drop (skip l).2) with
      | none => exact ⟨fun _ => ⟨rfl, rfl, rfl, rfl, by simp, by simp; omega⟩, (fun h => by cases h), (fun h => by cases h)⟩
      | some x =>
        obtain ⟨h1, h2, h3, h4, _⟩ := tok_alone _ x e
        have hlen : ((l.drop (skip l).2).take x.2.2).length = x.2.2 := by rw [List.length_take]; omega
        simp only [List.length_drop] at h4
        refine ⟨(fun h => by cases h), (fun _ hk => by simp only at hk; omega), fun _ _ => ?_⟩
        simp only [hlen]
        exact ⟨h2, h3, by omega, trivial, trivial⟩
  · rename_i hf
    have := hb.2 (by simpa using hf)
    exact ⟨fun _ => ⟨rfl, rfl, rfl, rfl, by simp, by simp; omega⟩, (fun h => by cases h), (fun h => by cases h)⟩

/-- A GAP LEXES ALONE TO THE END. -/
theorem nxt_gap (l : List UInt8) (h : 0 < (nxt l).o) : nxt (l.take (nxt l).o) = ⟨0, [], [], (nxt l).o, false, 0, (nxt l).o⟩ ∧ (nxt l).o ≤ l.length := by
  have hb := skip_bound l.length l (Nat.le_refl _)
  have hs : (skip l).1 = true := by
    cases e : (skip l).1 with
    | true => rfl
    | false => unfold nxt at h; rw [e] at h; simp at h
  have ho : (nxt l).o = (skip l).2 := by
    unfold nxt
    rw [if_pos hs]
    split
    · rename_i e; exact e.symm
    · split <;> rfl
  rw [ho]
  have hg := skip_gap l.length l (skip l).2 (Nat.le_refl _) (by rw [← hs])
  have hlen : (l.take (skip l).2).length = (skip l).2 := by rw [List.length_take]; omega
  refine ⟨?_, hb.1⟩
  unfold nxt
  rw [hg, hlen]
  simp

/-- A TOKEN's TEXT, LEXED ALONE, GIVES THE SAME TOKEN. -/
theorem nxt_alone (l : List UInt8) (hf : (nxt l).f = false) (hk : (nxt l).k ≠ 0) : nxt (nxt l).r = ⟨(nxt l).k, (nxt l).t, (nxt l).r, 0, false, 0, (nxt l).r.length⟩ := by
  have hb := skip_bound l.length l (Nat.le_refl _)
  have hs : (skip l).1 = true := by
    cases e : (skip l).1 with
    | true => rfl
    | false => unfold nxt at hf; rw [e] at hf; simp at hf
  have hne : (skip l).2 ≠ l.length := fun e => by unfold nxt at hk; rw [if_pos hs, if_pos e] at hk; exact hk rfl
  cases e : tok (l.drop (skip l).2) with
  | none => unfold nxt at hf; rw [if_pos hs, if_neg hne, e] at hf; cases hf
  | some x =>
    have hx : nxt l = ⟨x.1, x.2.1, (l.drop (skip l).2).take x.2.2, (skip l).2, false, 0, (skip l).2 + x.2.2⟩ := by unfold nxt; rw [if_pos hs, if_neg hne, e]
    rw [hx]
    simp only
    obtain ⟨h1, h2, h3, h4, h5⟩ := tok_alone _ x e
    have hag := skip_take _ x.2.2 (skip_again l.length l (skip l).2 (Nat.le_refl _) (by rw [← hs]))
    have hlen : ((l.drop (skip l).2).take x.2.2).length = x.2.2 := by rw [List.length_take]; omega
    unfold nxt
    rw [hag, hlen]
    simp only [if_true, List.drop_zero]
    rw [if_neg (by omega), h5]
    simp only
    rw [List.take_of_length_le (by omega), Nat.zero_add]

end Go.Proofs.Qxb6608672aFmt.Lx
