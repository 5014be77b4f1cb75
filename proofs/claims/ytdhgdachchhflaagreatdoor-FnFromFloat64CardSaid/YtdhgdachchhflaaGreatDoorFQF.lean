/- FnFromFloat64: a float64 that is finite is told as exactly its number, others are told as unknown; for every pattern of bits, no condition but the laid variables of the seat. -/
import Derived.Test.YtdhgdachchhflaaGreatDoorFrame
import Derived.Test.YtdhgdachchhflaaGreatDoorQQ
namespace Go.Proofs.YtdhgdachchhflaaGreatDoor
open Go.ChangeShapes Go.WideShapes Go.ChangeMaps Go.ChangeAt Go.WideMaps Go.WideElems Go.RowKit
theorem ff64_range {k : IntKind} {n : Int} (h : (Lit.int k n).wf = true) : k.min ≤ n ∧ n ≤ k.max := by simpa [Lit.wf] using h
set_option maxRecDepth 100000 in
theorem ff64_lifted (os : Os) (started : os.Started) (H : Type) (enc : TypeId × Value → H) :
    ReturnsInHanded {} Tryz.checked os 3 .any (fun w args => (Rows.fnFromFloat64Spec.pre enc Tryz.prog Tryz.f3 [] false w args ∧ laidMetH Tryz.prog laid4 w) ∧ sizedMet enc Tryz.prog Tryz.f3 (OpenSpec.ofChange Rows.fnFromFloat64Spec) false w args)
      (Rows.fnFromFloat64Spec.post enc Tryz.prog Tryz.f3 false true false false) := by
  refine returnsInHanded_of_change_and (C := Tryz.checked) (X := fun w _ => laidMetH Tryz.prog laid4 w) (fun _ _ _ hh h => h.of_heap hh) pf_own started (by kernel_rfl) Tryz.func3
    (ChangeSpec.witness_shaped (enc := enc) (C := Tryz.checked) (os := os) (X := fun w _ => laidMetH Tryz.prog laid4 w) false (World.doorLaid Tryz.prog 400 os) #[.int .u64 0] 8 rfl (World.shaped_of_RefB (by kernel_rfl) (by kernel_rfl)) (by kernel_rfl) (by kernel_rfl) (by kernel_rfl) (door_met os _)) ?_
  intro W base args ds gs before hval0 hW _ _ hL _
  have hval : ∀ (j : Nat) t v, Tryz.f3.params[j]? = some t → args[j]? = some v → Value.okWide Tryz.prog W .any base t v := hval0
  have hW' := hW
  obtain ⟨p, q, hA0, hV, rfl, hfz, hnd⟩ := hW
  have hA : DataW.TrodAll enc Tryz.prog W 0 (fun _ => true) true Tryz.f3.params.toList args.toList ds p := hA0
  rw [Tryz.params3] at hA hval
  obtain ⟨v0, d0, hargs, rfl, h0⟩ := trodAll_one hA
  obtain rfl : args = #[v0] := by cases args; simp_all
  obtain ⟨a0, rfl, rfl, rfl, w0⟩ := open_int Tryz.underlying22 (hval 0 22 v0 rfl rfl) h0
  have l0 : 0 ≤ a0 := ((ff64_range w0)).1
  have u0 : a0 ≤ 18446744073709551615 := ((ff64_range w0)).2
  obtain ⟨g0, g1, g2, g3, rfl⟩ := four_of hV
  clear hA0 hval0
  refine (ff_walk a0 l0 u0 W).mono fun e W' ⟨he, bel⟩ => ?_
  subst he
  refine ⟨_, rfl, law_post pf_laidOut hW' bel ?_ (vars_read _ rfl) rfl Tryz.underlying4 rfl⟩
  rw [Tryz.params3]
  intro t ht
  have hall : ([22].all fun t => Tryz.prog.readableRec t && decide (t < Tryz.prog.types.size)) = true := by kernel_rfl
  have := List.all_eq_true.1 hall t ht
  simpa using this
set_option maxHeartbeats 4000000 in
theorem ff64_facts : joinedFacts Tryz.prog 3 Tryz.f3 Rows.fnFromFloat64Spec Rows.fnFromFloat64Row = true := by
  unfold joinedFacts
  rw [pf_laidOut, pf_maps, pf_stops, pf_knobs, pf_keys, pf_heard, pf_enter, pf_lifts, pf_make]
  simp only [Bool.and_eq_true]
  repeat' apply And.intro
  all_goals first | exact True.intro | (as_aux_lemma => kernel_rfl)
theorem ff64_named : Tryz.pinned.checked.prog.funcNamed Rows.fnFromFloat64Row.func = some 3 := by kernel_rfl
theorem ff64_inst : Tryz.f3.isInstance Tryz.prog Rows.fnFromFloat64Row.origin Rows.fnFromFloat64Row.targs := of_decide_eq_true (by kernel_rfl)
theorem ff64_wrap : Tryz.f3.isWrapper Tryz.prog Rows.fnFromFloat64Row.wrapper Rows.fnFromFloat64Row.mainSum := by unfold Func.isWrapper; first | (rw [if_pos (by decide +kernel)]; kernel_rfl) | (rw [if_neg (by decide +kernel)]; exact ⟨rfl, rfl⟩)
theorem ff64_holds : Rows.FnFromFloat64Said :=
  OpenClaim.holds_of_wide 3 Tryz.f3 rfl rfl rfl rfl rfl rfl rfl ⟨rfl, rfl, rfl, rfl, rfl⟩ rfl rfl rfl rfl rfl ff64_named Tryz.func3 ff64_facts
    ff64_inst ff64_wrap
    (fun os started H enc _ => ff64_lifted os started H enc)

theorem ff64_goes : false = Rows.fnFromFloat64Row.goesBy Tryz.prog := by kernel_rfl
theorem ff64_wf : Rows.fnFromFloat64Row.wfByText (OpenSpec.ofChange Rows.fnFromFloat64Spec) = true := by kernel_rfl
theorem ff64_card : Rows.FnFromFloat64CardSaid :=
  Claim7.holds_tied_plain_at .later [] [.data, .data, .data, .data] true (true, "870df038e8e1a2453081c00d4cebb2c871396ec9016f4b9fff2cae39ee1cd7ac") true
    ff64_holds (fun _ h => by cases h) ff64_wf (fun _ h => by cases h) fnFromFloat64_row_tie rfl ⟨rfl, rfl⟩ pf_main rfl
    (fun f fn hf hfn => by
      obtain rfl : f = 3 := Option.some.inj (ff64_named.symm.trans hf) |>.symm
      obtain rfl : fn = Tryz.f3 := (Option.some.inj (Tryz.func3.symm.trans hfn)).symm
      exact ⟨pf_looks, fun j t ht => by
        rw [Tryz.params3] at ht
        have hm : t ∈ [22] := by simpa using Array.mem_of_getElem? ht
        have hall : ([22].all fun u => !Tryz.prog.wantsStandIn u) = true := by as_aux_lemma => kernel_rfl
        exact (show Tryz.prog.wantsStandIn t = false by simpa using List.all_eq_true.1 hall t hm)⟩)
    ff64_goes
end Go.Proofs.YtdhgdachchhflaaGreatDoor
