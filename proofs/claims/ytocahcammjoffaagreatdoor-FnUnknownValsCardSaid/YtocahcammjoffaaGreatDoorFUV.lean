/- The law FnUnknownVals holds for every input, as its tied card says; no condition of its own. -/
import Derived.Test.YtocahcammjoffaaGreatDoorFrame
import Derived.Test.YtocahcammjoffaaGreatDoorXU
namespace Go.Proofs.YtocahcammjoffaaGreatDoor
open Go.ChangeShapes Go.WideShapes Go.ChangeMaps Go.ChangeAt Go.WideMaps Go.WideElems Go.RowKit
theorem unkv_range {k : IntKind} {n : Int} (h : (Lit.int k n).wf = true) : k.min ≤ n ∧ n ≤ k.max := by simpa [Lit.wf] using h
set_option maxRecDepth 100000 in
theorem unkv_lifted (os : Os) (started : os.Started) (H : Type) (enc : TypeId × Value → H) :
    ReturnsInHanded {} Tryz.checked os 17 .any (fun w args => (Rows.fnUnknownValsSpec.pre enc Tryz.prog Tryz.f17 [] false w args ∧ laidMetH Tryz.prog laid4 w) ∧ sizedMet enc Tryz.prog Tryz.f17 (OpenSpec.ofChange Rows.fnUnknownValsSpec) false w args)
      (Rows.fnUnknownValsSpec.post enc Tryz.prog Tryz.f17 false true false false) := by
  refine returnsInHanded_of_change_and (C := Tryz.checked) (X := fun w _ => laidMetH Tryz.prog laid4 w) (fun _ _ _ hh h => h.of_heap hh) pf_own started (by kernel_rfl) Tryz.func17
    (ChangeSpec.witness_shaped (enc := enc) (C := Tryz.checked) (os := os) (X := fun w _ => laidMetH Tryz.prog laid4 w) false (World.doorLaid Tryz.prog 400 os) #[.int .u8 0] 8 rfl (World.shaped_of_RefB (by kernel_rfl) (by kernel_rfl)) (by kernel_rfl) (by kernel_rfl) (by kernel_rfl) (door_met os _)) ?_
  intro W base args ds gs before hval0 hW _ _ hL _
  have hval : ∀ (j : Nat) t v, Tryz.f17.params[j]? = some t → args[j]? = some v → Value.okWide Tryz.prog W .any base t v := hval0
  have hW' := hW
  obtain ⟨p, q, hA0, hV, rfl, hfz, hnd⟩ := hW
  have hA : DataW.TrodAll enc Tryz.prog W 0 (fun _ => true) true Tryz.f17.params.toList args.toList ds p := hA0
  rw [Tryz.params17] at hA hval
  obtain ⟨v0, d0, hargs, rfl, h0⟩ := trodAll_one hA
  obtain rfl : args = #[v0] := by cases args; simp_all
  obtain ⟨a0, rfl, rfl, rfl, w0⟩ := open_int Tryz.underlying5 (hval 0 5 v0 rfl rfl) h0
  have l0 : 0 ≤ a0 := ((unkv_range w0)).1
  have u0 : a0 ≤ 255 := ((unkv_range w0)).2
  obtain ⟨g0, g1, g2, g3, rfl⟩ := four_of hV
  clear hA0 hval0
  refine (unknownVals_walk a0 W l0 u0).mono fun e W' ⟨he, bel⟩ => ?_
  subst he
  refine ⟨_, rfl, law_post pf_laidOut hW' bel ?_ (vars_read _ rfl) rfl Tryz.underlying4 rfl⟩
  rw [Tryz.params17]
  intro t ht
  have hall : ([5].all fun t => Tryz.prog.readableRec t && decide (t < Tryz.prog.types.size)) = true := by kernel_rfl
  have := List.all_eq_true.1 hall t ht
  simpa using this
set_option maxHeartbeats 4000000 in
theorem unkv_facts : joinedFacts Tryz.prog 17 Tryz.f17 Rows.fnUnknownValsSpec Rows.fnUnknownValsRow = true := by
  unfold joinedFacts
  rw [pf_laidOut, pf_maps, pf_stops, pf_knobs, pf_keys, pf_heard, pf_enter, pf_lifts, pf_make]
  simp only [Bool.and_eq_true]
  repeat' apply And.intro
  all_goals first | exact True.intro | (as_aux_lemma => kernel_rfl)
theorem unkv_named : Tryz.pinned.checked.prog.funcNamed Rows.fnUnknownValsRow.func = some 17 := by kernel_rfl
theorem unkv_inst : Tryz.f17.isInstance Tryz.prog Rows.fnUnknownValsRow.origin Rows.fnUnknownValsRow.targs := of_decide_eq_true (by kernel_rfl)
theorem unkv_wrap : Tryz.f17.isWrapper Tryz.prog Rows.fnUnknownValsRow.wrapper Rows.fnUnknownValsRow.mainSum := by unfold Func.isWrapper; first | (rw [if_pos (by decide +kernel)]; kernel_rfl) | (rw [if_neg (by decide +kernel)]; exact ⟨rfl, rfl⟩)
theorem unkv_holds : Rows.FnUnknownValsSaid :=
  OpenClaim.holds_of_wide 17 Tryz.f17 rfl rfl rfl rfl rfl rfl rfl ⟨rfl, rfl, rfl, rfl, rfl⟩ rfl rfl rfl rfl rfl unkv_named Tryz.func17 unkv_facts
    unkv_inst unkv_wrap
    (fun os started H enc _ => unkv_lifted os started H enc)

theorem unkv_goes : false = Rows.fnUnknownValsRow.goesBy Tryz.prog := by kernel_rfl
theorem unkv_wf : Rows.fnUnknownValsRow.wfByText (OpenSpec.ofChange Rows.fnUnknownValsSpec) = true := by kernel_rfl
theorem unkv_card : Rows.FnUnknownValsCardSaid :=
  Claim7.holds_tied_plain_at .later [] [.data, .data, .data, .data] true (true, "6cef3cccf655c09a110e3a0d15352e237f641316496d9a41ec63f0b4932e7e90") true
    unkv_holds (fun _ h => by cases h) unkv_wf (fun _ h => by cases h) fnUnknownVals_row_tie rfl ⟨rfl, rfl⟩ pf_main rfl
    (fun f fn hf hfn => by
      obtain rfl : f = 17 := Option.some.inj (unkv_named.symm.trans hf) |>.symm
      obtain rfl : fn = Tryz.f17 := (Option.some.inj (Tryz.func17.symm.trans hfn)).symm
      exact ⟨pf_looks, fun j t ht => by
        rw [Tryz.params17] at ht
        have hm : t ∈ [5] := by simpa using Array.mem_of_getElem? ht
        have hall : ([5].all fun u => !Tryz.prog.wantsStandIn u) = true := by as_aux_lemma => kernel_rfl
        exact (show Tryz.prog.wantsStandIn t = false by simpa using List.all_eq_true.1 hall t hm)⟩)
    unkv_goes
end Go.Proofs.YtocahcammjoffaaGreatDoor
