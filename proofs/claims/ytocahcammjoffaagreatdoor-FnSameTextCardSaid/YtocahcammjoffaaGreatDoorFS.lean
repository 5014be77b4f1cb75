/- Walks and lemmas for the laws of this seat. -/
import Derived.Test.YtocahcammjoffaaGreatDoorFrame
import Derived.Test.YtocahcammjoffaaGreatDoorM6
namespace Go.Proofs.YtocahcammjoffaaGreatDoor
open Go.ChangeShapes Go.WideShapes Go.ChangeMaps Go.ChangeAt Go.WideMaps Go.WideElems Go.RowKit
theorem stext_range {k : IntKind} {n : Int} (h : (Lit.int k n).wf = true) : k.min ≤ n ∧ n ≤ k.max := by simpa [Lit.wf] using h
set_option maxRecDepth 100000 in
theorem stext_lifted (os : Os) (started : os.Started) (H : Type) (enc : TypeId × Value → H) :
    ReturnsInHanded {} Tryz.checked os 18 .any (fun w args => (Rows.fnSameTextSpec.pre enc Tryz.prog Tryz.f18 [] false w args ∧ laidMetH Tryz.prog laid4 w) ∧ sizedMet enc Tryz.prog Tryz.f18 (OpenSpec.ofChange Rows.fnSameTextSpec) false w args)
      (Rows.fnSameTextSpec.post enc Tryz.prog Tryz.f18 false true false false) := by
  refine returnsInHanded_of_change_and (C := Tryz.checked) (X := fun w _ => laidMetH Tryz.prog laid4 w) (fun _ _ _ hh h => h.of_heap hh) pf_own started (by kernel_rfl) Tryz.func18
    (ChangeSpec.witness_shaped (enc := enc) (C := Tryz.checked) (os := os) (X := fun w _ => laidMetH Tryz.prog laid4 w) false (World.doorLaid Tryz.prog 400 os) #[.string .empty, .bool false] 8 rfl (World.shaped_of_RefB (by kernel_rfl) (by kernel_rfl)) (by kernel_rfl) (by kernel_rfl) (by kernel_rfl) (door_met os _)) ?_
  intro W base args ds gs before hval0 hW _ _ hL _
  have hval : ∀ (j : Nat) t v, Tryz.f18.params[j]? = some t → args[j]? = some v → Value.okWide Tryz.prog W .any base t v := hval0
  have hW' := hW
  obtain ⟨p, q, hA0, hV, rfl, hfz, hnd⟩ := hW
  have hA : DataW.TrodAll enc Tryz.prog W 0 (fun _ => true) true Tryz.f18.params.toList args.toList ds p := hA0
  rw [Tryz.params18] at hA hval
  obtain ⟨v0, v1, d0, d1, p0, p1, hargs, rfl, rfl, h0, h1⟩ := trodAll_two hA
  obtain rfl : args = #[v0, v1] := by cases args; simp_all
  obtain ⟨a0, rfl, rfl, rfl, w0⟩ := open_string Tryz.underlying9 (hval 0 9 v0 rfl rfl) h0
  obtain ⟨a1, rfl, rfl, rfl⟩ := open_bool Tryz.underlying4 (hval 1 4 v1 rfl rfl) h1
  obtain ⟨g0, g1, g2, g3, rfl⟩ := four_of hV
  clear hA0 hval0
  refine (sameText_walk a0 a1 W).mono fun e W' ⟨he, bel⟩ => ?_
  subst he
  refine ⟨_, rfl, law_post pf_laidOut hW' bel ?_ (vars_read _ rfl) rfl Tryz.underlying4 rfl⟩
  rw [Tryz.params18]
  intro t ht
  have hall : ([9, 4].all fun t => Tryz.prog.readableRec t && decide (t < Tryz.prog.types.size)) = true := by kernel_rfl
  have := List.all_eq_true.1 hall t ht
  simpa using this
set_option maxHeartbeats 4000000 in
theorem stext_facts : joinedFacts Tryz.prog 18 Tryz.f18 Rows.fnSameTextSpec Rows.fnSameTextRow = true := by
  unfold joinedFacts
  rw [pf_laidOut, pf_maps, pf_stops, pf_knobs, pf_keys, pf_heard, pf_enter, pf_lifts, pf_make]
  simp only [Bool.and_eq_true]
  repeat' apply And.intro
  all_goals first | exact True.intro | (as_aux_lemma => kernel_rfl)
theorem stext_named : Tryz.pinned.checked.prog.funcNamed Rows.fnSameTextRow.func = some 18 := by kernel_rfl
theorem stext_inst : Tryz.f18.isInstance Tryz.prog Rows.fnSameTextRow.origin Rows.fnSameTextRow.targs := of_decide_eq_true (by kernel_rfl)
theorem stext_wrap : Tryz.f18.isWrapper Tryz.prog Rows.fnSameTextRow.wrapper Rows.fnSameTextRow.mainSum := by unfold Func.isWrapper; first | (rw [if_pos (by decide +kernel)]; kernel_rfl) | (rw [if_neg (by decide +kernel)]; exact ⟨rfl, rfl⟩)
theorem stext_holds : Rows.FnSameTextSaid :=
  OpenClaim.holds_of_wide 18 Tryz.f18 rfl rfl rfl rfl rfl rfl rfl ⟨rfl, rfl, rfl, rfl, rfl⟩ rfl rfl rfl rfl rfl stext_named Tryz.func18 stext_facts
    stext_inst stext_wrap
    (fun os started H enc _ => stext_lifted os started H enc)

theorem stext_goes : false = Rows.fnSameTextRow.goesBy Tryz.prog := by kernel_rfl
theorem stext_wf : Rows.fnSameTextRow.wfByText (OpenSpec.ofChange Rows.fnSameTextSpec) = true := by kernel_rfl
theorem stext_card : Rows.FnSameTextCardSaid :=
  Claim7.holds_tied_plain_at .later [] [.data, .data, .data, .data] true (true, "6cef3cccf655c09a110e3a0d15352e237f641316496d9a41ec63f0b4932e7e90") true
    stext_holds (fun _ h => by cases h) stext_wf (fun _ h => by cases h) fnSameText_row_tie rfl ⟨rfl, rfl⟩ pf_main rfl
    (fun f fn hf hfn => by
      obtain rfl : f = 18 := Option.some.inj (stext_named.symm.trans hf) |>.symm
      obtain rfl : fn = Tryz.f18 := (Option.some.inj (Tryz.func18.symm.trans hfn)).symm
      exact ⟨pf_looks, fun j t ht => by
        rw [Tryz.params18] at ht
        have hm : t ∈ [9, 4] := by simpa using Array.mem_of_getElem? ht
        have hall : ([9, 4].all fun u => !Tryz.prog.wantsStandIn u) = true := by as_aux_lemma => kernel_rfl
        exact (show Tryz.prog.wantsStandIn t = false by simpa using List.all_eq_true.1 hall t hm)⟩)
    stext_goes
end Go.Proofs.YtocahcammjoffaaGreatDoor
