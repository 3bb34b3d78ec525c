/-
  Seat b6608680aF (chigu). THE CARD OF FnCheckWordOneByteBetweenWords: fmt's text told, the listed tables tied to the program's text.
-/
import Derived.Test.Qxb6608680aFmtBase
import Derived.Test.Qxb6608680aFmtWalkE
namespace Go.Proofs.Qxb6608680aFmt
open Go.ChangeShapes Go.WideShapes Go.ChangeAt Go.RowKit Go.WideMaps Go.WideElems
open Go.ChangeMaps (open_string shut_string)
open Go.Extern.Stop Go.Stop Go.Extern

theorem byte_of {x : Int} (h : (Lit.int IntKind.u8 x).wf = true) : ∃ c : UInt8, x = (c.toNat : Int) := by
  have hx : 0 ≤ x ∧ x < 256 := by
    simp only [Lit.wf, Bool.and_eq_true, decide_eq_true_eq] at h
    have h1 : IntKind.u8.min = 0 := rfl
    have h2 : IntKind.u8.max = 255 := rfl
    omega
  refine ⟨UInt8.ofNat x.toNat, ?_⟩
  rw [UInt8.toNat_ofNat']
  omega

set_option maxRecDepth 100000 in
set_option maxHeartbeats 1600000 in
theorem between_lifted (os : Os) (started : os.Started) (H : Type) (enc : TypeId × Value → H) :
    ReturnsInTold none {} Tryf.checked os 4 .any Input.okWide ((OpenSpec.ofChange Rows.fnCheckWordOneByteBetweenWordsSpec).preRow enc Tryf.prog Tryf.f4 [] false laid3) (fun F => ((OpenSpec.ofChange Rows.fnCheckWordOneByteBetweenWordsSpec).at F).post enc Tryf.prog Tryf.f4 false true false false) (aloneAtReturn Tryf.prog) nothingAlways := by
  refine returnsInTold_of_row (C := Tryf.checked) (s := OpenSpec.ofChange Rows.fnCheckWordOneByteBetweenWordsSpec) (by kernel_rfl) own started (by kernel_rfl) Tryf.func4
    (witnessT (enc := enc) (C := Tryf.checked) (World.laidAll Tryf.prog os laid3) #[.string ⟨#[]⟩, .int .u8 0, .string ⟨#[]⟩] (World.laidAll_os _ _ _) (zip3 os _) (rest3 os _) (by kernel_rfl)
      (OpenSpec.preRow_of_B rfl 8 (by kernel_rfl) (by kernel_rfl) (met3 os _))) ?_
  intro F W base0 args ds gs before _ hF hval0 hW _ _ _ hL _
  have hval : ∀ (j : Nat) t v, Tryf.f4.params[j]? = some t → args[j]? = some v → Value.okWide Tryf.prog W .any base0 t v := hval0
  have hW' := hW
  obtain ⟨p, q, hA0, hV0, rfl, _, _⟩ := hW
  have hA : DataW.TrodAll enc Tryf.prog W 0 (fun _ => true) true Tryf.f4.params.toList args.toList ds p := hA0
  have hV : DataW.TrodVars enc Tryf.prog W (fun _ => true) [] gs q := hV0
  rw [Tryf.params4] at hA hval
  obtain ⟨v0, v1, v2, d0, d1, d2, p0, p1, p2, rfl, rfl, rfl, h0, h1, h2⟩ := trodAll_three hA
  obtain ⟨rfl, rfl⟩ := trodVars_none hV
  obtain ⟨a, rfl, rfl, rfl, ha⟩ := open_string Tryf.underlying9 (hval 0 9 v0 rfl rfl) h0
  obtain ⟨x, rfl, rfl, rfl, wx⟩ := open_int Tryf.underlying5 (hval 1 5 v1 rfl rfl) h1
  obtain ⟨b, rfl, rfl, rfl, hb⟩ := open_string Tryf.underlying9 (hval 2 9 v2 rfl rfl) h2
  clear hA0 hV0 hval0
  simp only [List.append_nil] at hW'
  have hT := tabs_of_laid hL
  obtain ⟨c, rfl⟩ := byte_of wx
  refine (between_any F.told a c b W ha hb hF hT).mono fun e W' ⟨he, hB⟩ => ?_
  subst he
  exact ⟨_, rfl, _, _, _, [], [], [], hW', trodAll_mk1 (shut_bool Tryf.underlying4 _), trodAll_mk3 (shut_string Tryf.underlying9 ha) (shut_int Tryf.underlying5 wx) (shut_string Tryf.underlying9 hb), rfl, hB.frame _, fun h => by cases h⟩

theorem between_card : Rows.FnCheckWordOneByteBetweenWordsToldSaid :=
  Claim7.holds_of_told_tied_any_at .later 4 Tryf.f4 _ [] [] _ _ _ _ _ (by kernel_rfl) rfl rfl rfl laidOut (by kernel_rfl) rfl ⟨rfl, rfl, rfl, rfl, rfl, rfl, rfl⟩ rfl rfl (by kernel_rfl) (by kernel_rfl) Tryf.func4 (by kernel_rfl)
    (of_decide_eq_true (by kernel_rfl)) (by unfold Func.isWrapper; first | (rw [if_pos (by decide +kernel)]; kernel_rfl) | (rw [if_neg (by decide +kernel)]; exact ⟨rfl, rfl⟩)) (by kernel_rfl) rfl stopKnobs.symm (by kernel_rfl)
    (by kernel_rfl) (by kernel_rfl) (by kernel_rfl) (by kernel_rfl) (by kernel_rfl) (by kernel_rfl) (by kernel_rfl) (by kernel_rfl) (by kernel_rfl) rfl (by kernel_rfl) rfl rfl
    rfl rfl
    rfl (by kernel_rfl) (by kernel_rfl) (by kernel_rfl) (by decide) (by kernel_rfl) fnCheckWordOneByteBetweenWords_row_tie
    (OpenClaim.moreEntering_of (by kernel_rfl) (by kernel_rfl) (by kernel_rfl) (by kernel_rfl) (by kernel_rfl) (by kernel_rfl) (by kernel_rfl) (by kernel_rfl) (by kernel_rfl) (by kernel_rfl))
    ⟨_, WideRow.started_initial, quiet _⟩
    (fun os started _ H enc _ => between_lifted os started H enc)
end Go.Proofs.Qxb6608680aFmt
