/-
  Seat b6608704aF (sluice). THE CARD OF FnNameBeforeReadsLongestNameThenSeparator: fmt's text told, the listed tables tied to the program's text.
-/
import Derived.Test.Qxb6608704aFmtBase
import Derived.Test.Qxb6608704aFmtWalkN
import Derived.Carry
namespace Go.Proofs.Qxb6608704aFmt
open Go.ChangeShapes Go.WideShapes Go.ChangeAt Go.RowKit Go.WideMaps Go.WideElems
open Go.ChangeMaps (open_string shut_string)
open Go.Extern.Stop Go.Stop Go.Extern

section
variable {H : Type} {enc : TypeId × Value → H} {P : Program} {w : World} {base : Nat} {spare : Nat → Bool} {held : Bool}
/-- Five parameters. -/
theorem trodAll_five {t0 t1 t2 t3 t4 : TypeId} {args : Array Value} {ds : List (DataW H)} {ps : List MemPlace} (h : DataW.TrodAll enc P w base spare held [t0, t1, t2, t3, t4] args.toList ds ps) :
    ∃ v0 v1 v2 v3 v4 d0 d1 d2 d3 d4 p0 p1 p2 p3 p4, args = #[v0, v1, v2, v3, v4] ∧ ds = [d0, d1, d2, d3, d4] ∧ ps = p0 ++ (p1 ++ (p2 ++ (p3 ++ p4))) ∧ DataW.Trod enc P w base spare held t0 v0 d0 p0 ∧ DataW.Trod enc P w base spare held t1 v1 d1 p1 ∧ DataW.Trod enc P w base spare held t2 v2 d2 p2 ∧ DataW.Trod enc P w base spare held t3 v3 d3 p3 ∧ DataW.Trod enc P w base spare held t4 v4 d4 p4 := by
  obtain ⟨v0, vs0, d0, ds0, p0, q0, hargs, rfl, rfl, h0, r0⟩ := trodAll_cons h
  obtain ⟨v1, vs1, d1, ds1, p1, q1, rfl, rfl, rfl, h1, r1⟩ := trodAll_cons r0
  obtain ⟨v2, vs2, d2, ds2, p2, q2, rfl, rfl, rfl, h2, r2⟩ := trodAll_cons r1
  obtain ⟨v3, vs3, d3, ds3, p3, q3, rfl, rfl, rfl, h3, r3⟩ := trodAll_cons r2
  obtain ⟨v4, vs4, d4, ds4, p4, q4, rfl, rfl, rfl, h4, r4⟩ := trodAll_cons r3
  obtain ⟨rfl, rfl, rfl⟩ := trodAll_nil r4
  exact ⟨v0, v1, v2, v3, v4, d0, d1, d2, d3, d4, p0, p1, p2, p3, p4, by cases args; simp_all, rfl, by simp, h0, h1, h2, h3, h4⟩
theorem trodAll_mk5 {t0 t1 t2 t3 t4 : TypeId} {v0 v1 v2 v3 v4 : Value} {d0 d1 d2 d3 d4 : DataW H} {p0 p1 p2 p3 p4 : List MemPlace} (h0 : DataW.Trod enc P w base spare held t0 v0 d0 p0) (h1 : DataW.Trod enc P w base spare held t1 v1 d1 p1)
    (h2 : DataW.Trod enc P w base spare held t2 v2 d2 p2) (h3 : DataW.Trod enc P w base spare held t3 v3 d3 p3) (h4 : DataW.Trod enc P w base spare held t4 v4 d4 p4) : DataW.TrodAll enc P w base spare held [t0, t1, t2, t3, t4] [v0, v1, v2, v3, v4] [d0, d1, d2, d3, d4] (p0 ++ (p1 ++ (p2 ++ (p3 ++ p4)))) := ⟨p0, p1 ++ (p2 ++ (p3 ++ p4)), h0, trodAll_mk4 h1 h2 h3 h4, rfl⟩
end

theorem byte_of {x : Int} (h : (Lit.int IntKind.u8 x).wf = true) : ∃ c : UInt8, x = (c.toNat : Int) := by
  have hx : 0 ≤ x ∧ x < 256 := by
    simp only [Lit.wf, Bool.and_eq_true, decide_eq_true_eq] at h
    have h1 : IntKind.u8.min = 0 := rfl
    have h2 : IntKind.u8.max = 255 := rfl
    omega
  refine ⟨UInt8.ofNat x.toNat, ?_⟩
  rw [UInt8.toNat_ofNat']
  omega

set_option maxRecDepth 100000 in
set_option maxHeartbeats 1600000 in
theorem nameBefore_lifted (os : Os) (started : os.Started) (H : Type) (enc : TypeId × Value → H) :
    ReturnsInTold none {} Tryf.checked os 3 .any Input.okWide ((OpenSpec.ofChange Rows.fnNameBeforeReadsLongestNameThenSeparatorSpec).preRow enc Tryf.prog Tryf.f3 [] false laid3) (fun F => ((OpenSpec.ofChange Rows.fnNameBeforeReadsLongestNameThenSeparatorSpec).at F).post enc Tryf.prog Tryf.f3 false true false false) (aloneAtReturn Tryf.prog) nothingAlways := by
  refine returnsInTold_of_row (C := Tryf.checked) (s := OpenSpec.ofChange Rows.fnNameBeforeReadsLongestNameThenSeparatorSpec) (by kernel_rfl) own started (by kernel_rfl) Tryf.func3
    (witnessT (enc := enc) (C := Tryf.checked) (World.laidAll Tryf.prog os laid3) #[.string ⟨#[]⟩, .string ⟨#[]⟩, .int .i64 0, .int .i64 0, .int .u8 0] (World.laidAll_os _ _ _) (zip3 os _) (rest3 os _) (by kernel_rfl)
      (OpenSpec.preRow_of_B rfl 8 (by kernel_rfl) (by kernel_rfl) (met3 os _))) ?_
  intro F W base0 args ds gs before _ hF hval0 hW _ _ _ hL _
  have hval : ∀ (j : Nat) t v, Tryf.f3.params[j]? = some t → args[j]? = some v → Value.okWide Tryf.prog W .any base0 t v := hval0
  have hW' := hW
  obtain ⟨p, q, hA0, hV0, rfl, _, _⟩ := hW
  have hA : DataW.TrodAll enc Tryf.prog W 0 (fun _ => true) true Tryf.f3.params.toList args.toList ds p := hA0
  have hV : DataW.TrodVars enc Tryf.prog W (fun _ => true) [] gs q := hV0
  rw [Tryf.params3] at hA hval
  obtain ⟨v0, v1, v2, v3, v4, d0, d1, d2, d3, d4, p0, p1, p2, p3, p4, rfl, rfl, rfl, h0, h1, h2, h3, h4⟩ := trodAll_five hA
  obtain ⟨rfl, rfl⟩ := trodVars_none hV
  obtain ⟨a, rfl, rfl, rfl, ha⟩ := open_string Tryf.underlying9 (hval 0 9 v0 rfl rfl) h0
  obtain ⟨b, rfl, rfl, rfl, hb⟩ := open_string Tryf.underlying9 (hval 1 9 v1 rfl rfl) h1
  obtain ⟨y, rfl, rfl, rfl, wy⟩ := open_int Tryf.underlying3 (hval 2 3 v2 rfl rfl) h2
  obtain ⟨z, rfl, rfl, rfl, wz⟩ := open_int Tryf.underlying3 (hval 3 3 v3 rfl rfl) h3
  obtain ⟨x, rfl, rfl, rfl, wx⟩ := open_int Tryf.underlying5 (hval 4 5 v4 rfl rfl) h4
  clear hA0 hV0 hval0
  simp only [List.append_nil] at hW'
  have hT := tabs_of_laid hL
  obtain ⟨c, rfl⟩ := byte_of wx
  refine (law_any F.told a b y z c W ha hb hF hT).mono fun e W' ⟨he, hB⟩ => ?_
  subst he
  exact ⟨_, rfl, _, _, _, [], [], [], hW', trodAll_mk1 (shut_bool Tryf.underlying4 _), trodAll_mk5 (shut_string Tryf.underlying9 ha) (shut_string Tryf.underlying9 hb) (shut_int Tryf.underlying3 wy) (shut_int Tryf.underlying3 wz) (shut_int Tryf.underlying5 wx), rfl, hB.frame _, fun h => by cases h⟩

theorem nameBefore_card : Rows.FnNameBeforeReadsLongestNameThenSeparatorToldSaid :=
  Claim7.holds_of_told_tied_any_at .later 3 Tryf.f3 _ _ [] _ _ _ _ _ (by kernel_rfl) rfl rfl rfl laidOut (by kernel_rfl) rfl ⟨rfl, rfl, rfl, rfl, rfl, rfl, rfl⟩ rfl rfl (by kernel_rfl) (by kernel_rfl) Tryf.func3 (by kernel_rfl)
    (of_decide_eq_true (by kernel_rfl)) (by unfold Func.isWrapper; first | (rw [if_pos (by decide +kernel)]; kernel_rfl) | (rw [if_neg (by decide +kernel)]; exact ⟨rfl, rfl⟩)) (by kernel_rfl) rfl stopKnobs.symm (by kernel_rfl)
    (by kernel_rfl) (by kernel_rfl) (by kernel_rfl) (by kernel_rfl) (by kernel_rfl) (by kernel_rfl) (by kernel_rfl) (by kernel_rfl) (by kernel_rfl) rfl (by kernel_rfl) rfl rfl
    rfl rfl
    rfl (by kernel_rfl) (by kernel_rfl) (by kernel_rfl) (by decide) (by kernel_rfl) fnNameBeforeReadsLongestNameThenSeparator_row_tie
    (OpenClaim.moreEntering_of (by kernel_rfl) (by kernel_rfl) (by kernel_rfl) (by kernel_rfl) (by kernel_rfl) (by kernel_rfl) (by kernel_rfl) (by kernel_rfl) (by kernel_rfl) (by kernel_rfl))
    ⟨_, WideRow.started_initial, quiet _⟩
    (fun os started _ H enc _ => nameBefore_lifted os started H enc)
end Go.Proofs.Qxb6608704aFmt
