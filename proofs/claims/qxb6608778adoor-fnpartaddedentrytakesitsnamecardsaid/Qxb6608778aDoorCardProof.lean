/-
  Seat b6608778aD (dasho). THE CARD OF FnPartAddedEntryTakesItsName: the listed tables tied to the program's text.
-/
import Derived.Test.Qxb6608778aDoorBase
namespace Go.Proofs.Qxb6608778aDoor
open Go.ChangeShapes Go.WideShapes Go.ChangeAt Go.RowKit Go.WideMaps Go.WideElems
open Go.ChangeMaps (open_string shut_string)

set_option maxRecDepth 100000 in
set_option maxHeartbeats 1600000 in
theorem contract4 {H : Type} {enc : TypeId × Value → H} (W : World) (base : Nat) (args : Array Value) (ds gs : List (DataW H)) (before : List MemPlace)
    (hval0 : ∀ (j : Nat) t v, Tryd.f4.params[j]? = some t → args[j]? = some v → Value.okWide Tryd.prog W .any base t v)
    (hW : DataW.Whole enc Tryd.prog Tryd.f4.params.toList Rows.fnPartAddedEntryTakesItsNameSpec.vars false W args.toList ds gs before) (hT : Tabs W) :
    Calls Tryd.prog 4 args W fun e W' => ∃ v, e = .returned v ∧ Rows.fnPartAddedEntryTakesItsNameSpec.post enc Tryd.prog Tryd.f4 false true false false W args v W' := by
  have hval : ∀ (j : Nat) t v, Tryd.f4.params[j]? = some t → args[j]? = some v → Value.okWide Tryd.prog W .any base t v := hval0
  have hW' := hW
  obtain ⟨p, q, hA0, hV0, rfl, _, _⟩ := hW
  have hA : DataW.TrodAll enc Tryd.prog W 0 (fun _ => true) true Tryd.f4.params.toList args.toList ds p := hA0
  have hV : DataW.TrodVars enc Tryd.prog W (fun _ => true) [] gs q := hV0
  rw [Tryd.params4] at hA hval
  obtain ⟨v0, v1, v2, d0, d1, d2, p0, p1, p2, rfl, rfl, rfl, h0, h1, h2⟩ := trodAll_three hA
  obtain ⟨rfl, rfl⟩ := trodVars_none hV
  obtain ⟨a0, len, cap, rfl⟩ := okWide_slice Tryd.underlying22 (hval 0 22 v0 rfl rfl)
  obtain ⟨x, rfl, rfl, rfl, hx⟩ := open_string Tryd.underlying9 (hval 1 9 v1 rfl rfl) h1
  obtain ⟨n, rfl, rfl, rfl, hn⟩ := open_string Tryd.underlying9 (hval 2 9 v2 rfl rfl) h2
  clear hA0 hV0 hval0
  have h0k := h0
  obtain ⟨fuel, hf⟩ := h0
  simp only [List.append_nil] at hW'
  have hlt : ∀ y ∈ p0, y.block < W.heap.size := fun y hy => by simpa using hW'.lt y hy
  have hargs : ∀ (W' : World), Below W.heap.size W W' → DataW.Trod enc Tryd.prog W' 0 (fun b => decide (b < W.heap.size)) true 22 (.slice a0 len cap) d0 p0 :=
    fun W' hb => Below.trod laidOut (by kernel_rfl) (of_decide_eq_true (by kernel_rfl)) h0k hb hlt
  have fin : ∀ e W', (e = Ending.returned (.bool true) ∧ Below W.heap.size W W') → ∃ v, e = Ending.returned v ∧ Rows.fnPartAddedEntryTakesItsNameSpec.post enc Tryd.prog Tryd.f4 false true false false W #[.slice a0 len cap, .string x, .string n] v W' := by
    rintro e W' ⟨rfl, hb⟩
    exact ⟨_, rfl, _, _, _, [], _, [], hW', trodAll_mk1 (shut_bool Tryd.underlying4 _), trodAll_mk3 (hargs _ hb) (shut_string Tryd.underlying9 hx) (shut_string Tryd.underlying9 hn), rfl, hb.frame _, fun h => by cases h⟩
  rcases open_strings Tryd.underlying22 Tryd.underlying9 cells9 hf with ⟨hcs, _⟩ | ⟨a, len', cap', ss, hcs, _, hl, hm, hz, _, hcell, hws⟩
  · simp [Value.cells] at hcs
    obtain ⟨rfl, rfl, rfl⟩ := hcs
    exact (law_nil x n W hT hx hn).mono fin
  · simp [Value.cells] at hcs
    obtain ⟨rfl, rfl, rfl⟩ := hcs
    simp only [if_true] at hz
    refine (law_any a len cap (ss.take len) x n W hT (by rw [List.length_take]; omega) (by omega) hx hn (fun j hj => ?_) (fun s hs => hws s (List.mem_of_mem_take hs))).mono fin
    rw [hcell j (by omega)]
    simp [List.getD, hj]

set_option maxRecDepth 100000 in
set_option maxHeartbeats 1600000 in
theorem lifted (os : Os) (started : os.Started) (H : Type) (enc : TypeId × Value → H) :
    ReturnsInHanded {} Tryd.checked os 4 .any (fun w args => (Rows.fnPartAddedEntryTakesItsNameSpec.pre enc Tryd.prog Tryd.f4 [] false w args ∧ laidMetH Tryd.prog laid3 w) ∧ sizedMet enc Tryd.prog Tryd.f4 (OpenSpec.ofChange Rows.fnPartAddedEntryTakesItsNameSpec) false w args)
      (Rows.fnPartAddedEntryTakesItsNameSpec.post enc Tryd.prog Tryd.f4 false true false false) := by
  refine returnsInHanded_of_calls (C := Tryd.checked) own started (by kernel_rfl)
    (ChangeSpec.witness_shaped (enc := enc) (C := Tryd.checked) (os := os) (X := fun w _ => laidMetH Tryd.prog laid3 w) false (World.laidAll Tryd.prog os laid3) #[.slice none 0 0, .string ⟨#[]⟩, .string ⟨#[]⟩] 8 (World.laidAll_os _ _ _)
      (World.shaped_of_ZipB (by kernel_rfl) (by kernel_rfl)) (by kernel_rfl) (by kernel_rfl) (by kernel_rfl) (met3 os _)) ?_
  intro w tape i _ hsh _ hok hpre _
  obtain ⟨_, _, _, fn', hfn', _, _, _, _, hval⟩ := hok
  obtain rfl : fn' = Tryd.f4 := Option.some.inj (hfn'.symm.trans Tryd.func4)
  obtain ⟨⟨⟨ds, gs, before, hw, _⟩, hL⟩, _⟩ := hpre
  have hW := DataW.Whole.of_heap (w' := w.forCall tape i) (by rfl) hw
  have hL' : laidMetH Tryd.prog laid3 (w.forCall tape i) := hL.of_heap (by rfl)
  refine (contract4 (w.forCall tape i) w.heap.size i.args ds gs before hval hW (tabs_of_laid hL' hsh)).mono fun e W' ⟨v, he, hp⟩ => ?_
  subst he
  exact ChangeSpec.post_blind hp

theorem row_holds : Rows.FnPartAddedEntryTakesItsNameSaid :=
  OpenClaim.holds_of_wide 4 Tryd.f4 rfl rfl rfl rfl rfl rfl rfl ⟨rfl, rfl, rfl, rfl, rfl⟩ rfl rfl rfl rfl rfl (by kernel_rfl) Tryd.func4 (by kernel_rfl)
    (of_decide_eq_true (by kernel_rfl)) (by unfold Func.isWrapper; first | (rw [if_pos (by decide +kernel)]; kernel_rfl) | (rw [if_neg (by decide +kernel)]; exact ⟨rfl, rfl⟩))
    (fun os started H enc _ => lifted os started H enc)

theorem added_card : Rows.FnPartAddedEntryTakesItsNameCardSaid :=
  Claim7.holds_tied_plain_at .later [] [.data, .pinned, .pinned] true (true, "eac41a8020347dcca39a660a30eba47e82ddbf6c8b2751b4531faa9b5edb8669") true row_holds (fun _ h => by cases h) (by kernel_rfl) (fun _ h => by cases h) fnPartAddedEntryTakesItsName_row_tie rfl ⟨rfl, rfl⟩ (by kernel_rfl) rfl
    (fun f fn hf hfn => by
      obtain rfl : f = 4 := Option.some.inj ((show Tryd.prog.funcNamed Rows.fnPartAddedEntryTakesItsNameRow.func = some 4 by kernel_rfl).symm.trans hf) |>.symm
      obtain rfl : fn = Tryd.f4 := (Option.some.inj (Tryd.func4.symm.trans hfn)).symm
      exact ⟨by kernel_rfl, fun j t ht => by
        rw [Tryd.params4] at ht
        have hm : t ∈ [22, 9, 9] := by simpa using Array.mem_of_getElem? ht
        have hall : ([22, 9, 9].all fun u => !Tryd.prog.wantsStandIn u) = true := by kernel_rfl
        exact (show Tryd.prog.wantsStandIn t = false by simpa using List.all_eq_true.1 hall t hm)⟩)
    (by kernel_rfl)
end Go.Proofs.Qxb6608778aDoor
