/-
  Seat b6608704aF (sluice). ZZnameBefore and nameBeforeAnswer, in one form each.
-/
import Derived.Test.Qxb6608704aFmtWalkL
namespace Go.Proofs.Qxb6608704aFmt
open Go.RowKit Go.Lib Go.Shelf

theorem oX_eq (T : ByteArray) (i : Nat) : T.extract i (i + run nm (T.data.toList.drop i)) = oX (T.data.toList.drop i) := ext_eq T i _
theorem sr_all (T : ByteArray) (i : Nat) (l : Int) : SR false T (i + run nm (T.data.toList.drop i)) l (i + oM (T.data.toList.drop i)) (l + (nl ((T.data.toList.drop i).take (oM (T.data.toList.drop i))) : Nat)) := by
  unfold SR
  rw [nl_to]
  rw [show T.data.toList.drop (i + run nm (T.data.toList.drop i)) = (T.data.toList.drop i).drop (oN (T.data.toList.drop i)) from by rw [List.drop_drop]; rfl]
  exact ⟨by unfold oM oN; omega, rfl⟩
theorem line_more (D : List UInt8) (k : Nat) (h : k < D.length) (l : Int) : lineAt D[k] (l + (nl (D.take k) : Nat)) = l + (nl (D.take (k + 1)) : Nat) := by
  rw [lineAt_eq, List.take_add_one, List.getElem?_eq_getElem h]
  show _ = l + ((nl (D.take k ++ [D[k]]) : Nat) : Int)
  rw [nl_snoc]
  split <;> simp <;> omega

theorem zz_all (F : Go.Stop.Interp) (w0 : World) (b : Nat) (path T : ByteArray) (i : Nat) (l : Int) (c : UInt8) (w : World) (hb0 : w0.heap.size ≤ b) (h : To w0 b path T i l w) (hT : T.size ≤ 1048576) (hi : i ≤ T.size) (hl : 0 ≤ l) (hl' : l ≤ 1073741824) (hF : F.answers w0.tape) (hU : Utf8Tabs 0 1 w0) :
    Calls Tryf.prog 7 #[.pointer (some ⟨b, 0, none⟩), .int .u8 c.toNat] w fun e w' => ZZ w0 b path T (oX (T.data.toList.drop i)) (!oOk (T.data.toList.drop i) c) ((i + oK (T.data.toList.drop i) c : Nat) : Int) (oL (T.data.toList.drop i) c l) e w' := by
  have hx := oX_eq T i
  have hs := sr_all T i l
  have hM := oM_le (T.data.toList.drop i)
  have hr := run_le nm (T.data.toList.drop i)
  have hD := drop_len T i
  by_cases h0 : run nm (T.data.toList.drop i) = 0
  · have e1 : oK (T.data.toList.drop i) c = 0 := if_pos h0
    have e2 : oOk (T.data.toList.drop i) c = false := by unfold oOk oN; rw [h0]; rfl
    have e3 : oL (T.data.toList.drop i) c l = l := by unfold oL; rw [e1]; simp [nl]
    have e4 : oX (T.data.toList.drop i) = ⟨#[]⟩ := by rw [← hx, h0]; exact bytes_nil (by rw [extract_size _ _ _ (by omega)]; omega)
    rw [e1, e2, e3, e4]
    exact zz_fail w0 b path T ⟨#[]⟩ i l c.toNat w (nb_none F w0 b path T i l c.toNat w hb0 h (by unfold maxLen; omega) hi hF hU h0)
  · have hnl := nl_le ((T.data.toList.drop i).take (oM (T.data.toList.drop i)))
    rw [List.length_take] at hnl
    cases hok : oOk (T.data.toList.drop i) c with
    | true =>
      have e1 : oK (T.data.toList.drop i) c = oM (T.data.toList.drop i) + 1 := by unfold oK; rw [if_neg (show ¬ oN (T.data.toList.drop i) = 0 from h0), if_pos hok]
      have hq : (T.data.toList.drop i)[oM (T.data.toList.drop i)]? = some c := by
        unfold oOk at hok
        simp only [Bool.and_eq_true, beq_iff_eq] at hok
        exact hok.2
      obtain ⟨hlt, hv⟩ := List.getElem?_eq_some_iff.1 hq
      have hN : i + oM (T.data.toList.drop i) < T.size := by omega
      have hTv : T[i + oM (T.data.toList.drop i)] = c := by rw [← drop_get T i _ hN hlt]; exact hv
      have e3 : oL (T.data.toList.drop i) c l = lineAt T[i + oM (T.data.toList.drop i)] (l + (nl ((T.data.toList.drop i).take (oM (T.data.toList.drop i))) : Nat)) := by
        unfold oL
        rw [e1, ← line_more _ _ hlt, ← drop_get T i _ hN hlt]
      rw [e1, e3, ← hx]
      exact zz_ok w0 b path T _ _ _ c.toNat w (nb_yes w0 b path T i l c.toNat _ _ w hb0 h hT (by omega) hl hl' h0 hs (by omega) (by omega) hN (by rw [hTv]))
    | false =>
      have e1 : oK (T.data.toList.drop i) c = oM (T.data.toList.drop i) := by unfold oK; rw [if_neg (show ¬ oN (T.data.toList.drop i) = 0 from h0), if_neg (by rw [hok]; decide)]
      have e3 : oL (T.data.toList.drop i) c l = l + (nl ((T.data.toList.drop i).take (oM (T.data.toList.drop i))) : Nat) := by unfold oL; rw [e1]
      rw [e1, e3, ← hx]
      refine zz_fail w0 b path T _ _ _ c.toNat w (nb_no F w0 b path T i l c.toNat _ _ w hb0 h hT (by omega) hl hl' hF h0 hs (fun hN hv => ?_))
      have hlt : oM (T.data.toList.drop i) < (T.data.toList.drop i).length := by omega
      have hq : (T.data.toList.drop i)[oM (T.data.toList.drop i)]? = some c := by
        rw [List.getElem?_eq_getElem hlt, drop_get T i _ hN hlt]
        congr 1
        rw [← UInt8.toNat_inj]
        omega
      have : oOk (T.data.toList.drop i) c = true := by
        unfold oOk
        rw [hq]
        have : (oN (T.data.toList.drop i) != 0) = true := by simpa [oN] using h0
        simp [this]
      rw [this] at hok
      cases hok

theorem ans_all (T : ByteArray) (i : Nat) (l : Int) (c : UInt8) (w : World) (hT : T.size ≤ 1048576) (hi : i ≤ T.size) (hl : 0 ≤ l) (hl' : l ≤ 1073741824) :
    Calls Tryf.prog 9 #[.string T, .int .i64 i, .int .i64 l, .int .u8 c.toNat, .string (oX (T.data.toList.drop i)), .bool (!oOk (T.data.toList.drop i) c), .int .i64 ((i + oK (T.data.toList.drop i) c : Nat) : Int), .int .i64 (oL (T.data.toList.drop i) c l)] w fun e w' => e = .returned (.bool true) ∧ w' = w := by
  have hx := oX_eq T i
  have hM := oM_le (T.data.toList.drop i)
  have hr := run_le nm (T.data.toList.drop i)
  have hD := drop_len T i
  have hrn := run_next nm (T.data.toList.drop i)
  have hra := run_all nm (T.data.toList.drop i)
  obtain ⟨hb1, hb2⟩ := stop_at (T.data.toList.drop i)
  by_cases h0 : run nm (T.data.toList.drop i) = 0
  · have e1 : oK (T.data.toList.drop i) c = 0 := if_pos h0
    have e2 : oOk (T.data.toList.drop i) c = false := by unfold oOk oN; rw [h0]; rfl
    have e3 : oL (T.data.toList.drop i) c l = l := by unfold oL; rw [e1]; simp [nl]
    have e4 : oX (T.data.toList.drop i) = ⟨#[]⟩ := by rw [← hx, h0]; exact bytes_nil (by rw [extract_size _ _ _ (by omega)]; omega)
    rw [e1, e2, e3, e4]
    refine ans_none T i l c.toNat w hT hi hl hl' (fun h => ?_)
    have hlt : run nm (T.data.toList.drop i) < (T.data.toList.drop i).length := by omega
    have := hrn hlt
    simp only [h0] at this
    rw [drop_get T i 0 h (by omega)] at this
    exact this
  · have hXs : (oX (T.data.toList.drop i)).size = run nm (T.data.toList.drop i) := by rw [← hx, extract_size _ _ _ (by omega)]; omega
    have hall : ∀ j (h : j < (oX (T.data.toList.drop i)).size), nm (oX (T.data.toList.drop i))[j] = true := by
      intro j h
      have : (oX (T.data.toList.drop i))[j] = ((T.data.toList.drop i).take (oN (T.data.toList.drop i)))[j]'(by rw [List.length_take]; unfold oN; omega) := rfl
      rw [this]
      exact hra _ (List.getElem_mem _)
    have hq : ∀ h : i + (oX (T.data.toList.drop i)).size < T.size, nm T[i + (oX (T.data.toList.drop i)).size] = false := by
      rw [hXs]
      intro h
      have := hrn (by omega)
      rw [drop_get T i _ h (by omega)] at this
      exact this
    have hX : T.extract i (i + (oX (T.data.toList.drop i)).size) = oX (T.data.toList.drop i) := by rw [hXs]; exact hx
    have eY : (T.extract (i + (oX (T.data.toList.drop i)).size) (i + oM (T.data.toList.drop i))).data.toList = ((T.data.toList.drop i).drop (oN (T.data.toList.drop i))).take (sk false ((T.data.toList.drop i).drop (oN (T.data.toList.drop i)))) := by
      rw [hXs, List.drop_drop]
      rw [show i + oM (T.data.toList.drop i) = (i + run nm (T.data.toList.drop i)) + sk false ((T.data.toList.drop i).drop (oN (T.data.toList.drop i))) from by unfold oM oN; omega, list_extract, List.drop_drop]
      rfl
    have hin : i + (oX (T.data.toList.drop i)).size ≤ i + oM (T.data.toList.drop i) := by rw [hXs]; unfold oM oN; omega
    cases hok : oOk (T.data.toList.drop i) c with
    | true =>
      have e1 : oK (T.data.toList.drop i) c = oM (T.data.toList.drop i) + 1 := by unfold oK; rw [if_neg (show ¬ oN (T.data.toList.drop i) = 0 from h0), if_pos hok]
      have hqq : (T.data.toList.drop i)[oM (T.data.toList.drop i)]? = some c := by
        unfold oOk at hok
        simp only [Bool.and_eq_true, beq_iff_eq] at hok
        exact hok.2
      obtain ⟨hlt, hv⟩ := List.getElem?_eq_some_iff.1 hqq
      have hN : i + oM (T.data.toList.drop i) < T.size := by omega
      have hg := drop_get T i _ hN hlt
      obtain ⟨s1, s2, s3⟩ := hb2 hlt
      rw [e1]
      refine ans_yes T (oX (T.data.toList.drop i)) i (i + oM (T.data.toList.drop i)) l _ c.toNat w hT hin (by omega) (by omega) hl hl' hX hall hq ?_ (by rw [eY]; exact hb1) (fun _ => by rw [eY]; exact s1) hN ⟨?_, ?_, ?_⟩
      · unfold oL
        rw [e1, Nat.add_assoc, list_extract]
      · rw [← hg]; exact s2
      · rw [← hg]; exact fun h => s3 (by rw [← UInt8.toNat_inj, h]; rfl)
      · rw [← hg, hv]
    | false =>
      have e1 : oK (T.data.toList.drop i) c = oM (T.data.toList.drop i) := by unfold oK; rw [if_neg (show ¬ oN (T.data.toList.drop i) = 0 from h0), if_neg (by rw [hok]; decide)]
      rw [e1]
      refine ans_no T (oX (T.data.toList.drop i)) i (i + oM (T.data.toList.drop i)) l _ c.toNat w hT hin (by omega) (by omega) hl hl' hX hall hq ?_ (by rw [eY]; exact hb1) (fun h => by rw [eY]; exact (hb2 (by omega)).1) (fun hN => ?_)
      · unfold oL
        rw [e1, list_extract]
      · have hlt : oM (T.data.toList.drop i) < (T.data.toList.drop i).length := by omega
        have hg := drop_get T i _ hN hlt
        obtain ⟨s1, s2, s3⟩ := hb2 hlt
        refine ⟨by rw [← hg]; exact s2, by rw [← hg]; exact fun h => s3 (by rw [← UInt8.toNat_inj, h]; rfl), fun hv => ?_⟩
        have hqq : (T.data.toList.drop i)[oM (T.data.toList.drop i)]? = some c := by
          rw [List.getElem?_eq_getElem hlt, hg]
          congr 1
          rw [← UInt8.toNat_inj]
          omega
        have : oOk (T.data.toList.drop i) c = true := by
          unfold oOk
          rw [hqq]
          have : (oN (T.data.toList.drop i) != 0) = true := by simpa [oN] using h0
          simp [this]
        rw [this] at hok
        cases hok
end Go.Proofs.Qxb6608704aFmt
