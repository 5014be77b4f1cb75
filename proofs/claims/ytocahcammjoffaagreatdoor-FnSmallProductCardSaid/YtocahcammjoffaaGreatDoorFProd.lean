/- Walks and lemmas for the laws of this seat. -/
import Derived.Test.YtocahcammjoffaaGreatDoorFrame
import Derived.Test.YtocahcammjoffaaGreatDoorWP
namespace Go.Proofs.YtocahcammjoffaaGreatDoor
open Go.ChangeShapes Go.WideShapes Go.ChangeMaps Go.ChangeAt Go.WideMaps Go.WideElems Go.RowKit
theorem sprod_range {k : IntKind} {n : Int} (h : (Lit.int k n).wf = true) : k.min ≤ n ∧ n ≤ k.max := by simpa [Lit.wf] using h
set_option maxRecDepth 100000 in
theorem sprod_lifted (os : Os) (started : os.Started) (H : Type) (enc : TypeId × Value → H) :
    ReturnsInHanded {} Tryz.checked os 13 .any (fun w args => (Rows.fnSmallProductSpec.pre enc Tryz.prog Tryz.f13 [] false w args ∧ laidMetH Tryz.prog laid4 w) ∧ sizedMet enc Tryz.prog Tryz.f13 (OpenSpec.ofChange Rows.fnSmallProductSpec) false w args)
      (Rows.fnSmallProductSpec.post enc Tryz.prog Tryz.f13 false true false false) := by
  refine returnsInHanded_of_change_and (C := Tryz.checked) (X := fun w _ => laidMetH Tryz.prog laid4 w) (fun _ _ _ hh h => h.of_heap hh) pf_own started (by kernel_rfl) Tryz.func13
    (ChangeSpec.witness_shaped (enc := enc) (C := Tryz.checked) (os := os) (X := fun w _ => laidMetH Tryz.prog laid4 w) false (World.doorLaid Tryz.prog 400 os) #[.int .i64 0, .int .i64 0] 8 rfl (World.shaped_of_RefB (by kernel_rfl) (by kernel_rfl)) (by kernel_rfl) (by kernel_rfl) (by kernel_rfl) (door_met os _)) ?_
  intro W base args ds gs before hval0 hW _ _ hL _
  have hval : ∀ (j : Nat) t v, Tryz.f13.params[j]? = some t → args[j]? = some v → Value.okWide Tryz.prog W .any base t v := hval0
  have hW' := hW
  obtain ⟨p, q, hA0, hV, rfl, hfz, hnd⟩ := hW
  have hA : DataW.TrodAll enc Tryz.prog W 0 (fun _ => true) true Tryz.f13.params.toList args.toList ds p := hA0
  rw [Tryz.params13] at hA hval
  obtain ⟨v0, v1, d0, d1, p0, p1, hargs, rfl, rfl, h0, h1⟩ := trodAll_two hA
  obtain rfl : args = #[v0, v1] := by cases args; simp_all
  obtain ⟨a0, rfl, rfl, rfl, w0⟩ := open_int Tryz.underlying2 (hval 0 2 v0 rfl rfl) h0
  have l0 : -9223372036854775808 ≤ a0 := ((sprod_range w0)).1
  have u0 : a0 ≤ 9223372036854775807 := ((sprod_range w0)).2
  obtain ⟨a1, rfl, rfl, rfl, w1⟩ := open_int Tryz.underlying2 (hval 1 2 v1 rfl rfl) h1
  have l1 : -9223372036854775808 ≤ a1 := ((sprod_range w1)).1
  have u1 : a1 ≤ 9223372036854775807 := ((sprod_range w1)).2
  obtain ⟨g0, g1, g2, g3, rfl⟩ := four_of hV
  clear hA0 hval0
  refine (prod_walk a0 a1 l0 u0 l1 u1 W).mono fun e W' ⟨he, bel⟩ => ?_
  subst he
  refine ⟨_, rfl, law_post pf_laidOut hW' bel ?_ (vars_read _ rfl) rfl Tryz.underlying4 rfl⟩
  rw [Tryz.params13]
  intro t ht
  have hall : ([2, 2].all fun t => Tryz.prog.readableRec t && decide (t < Tryz.prog.types.size)) = true := by kernel_rfl
  have := List.all_eq_true.1 hall t ht
  simpa using this
set_option maxHeartbeats 4000000 in
theorem sprod_facts : joinedFacts Tryz.prog 13 Tryz.f13 Rows.fnSmallProductSpec Rows.fnSmallProductRow = true := by
  unfold joinedFacts
  rw [pf_laidOut, pf_maps, pf_stops, pf_knobs, pf_keys, pf_heard, pf_enter, pf_lifts, pf_make]
  simp only [Bool.and_eq_true]
  repeat' apply And.intro
  all_goals first | exact True.intro | (as_aux_lemma => kernel_rfl)
theorem sprod_named : Tryz.pinned.checked.prog.funcNamed Rows.fnSmallProductRow.func = some 13 := by kernel_rfl
theorem sprod_inst : Tryz.f13.isInstance Tryz.prog Rows.fnSmallProductRow.origin Rows.fnSmallProductRow.targs := of_decide_eq_true (by kernel_rfl)
theorem sprod_wrap : Tryz.f13.isWrapper Tryz.prog Rows.fnSmallProductRow.wrapper Rows.fnSmallProductRow.mainSum := by unfold Func.isWrapper; first | (rw [if_pos (by decide +kernel)]; kernel_rfl) | (rw [if_neg (by decide +kernel)]; exact ⟨rfl, rfl⟩)
theorem sprod_holds : Rows.FnSmallProductSaid :=
  OpenClaim.holds_of_wide 13 Tryz.f13 rfl rfl rfl rfl rfl rfl rfl ⟨rfl, rfl, rfl, rfl, rfl⟩ rfl rfl rfl rfl rfl sprod_named Tryz.func13 sprod_facts
    sprod_inst sprod_wrap
    (fun os started H enc _ => sprod_lifted os started H enc)

theorem sprod_goes : false = Rows.fnSmallProductRow.goesBy Tryz.prog := by kernel_rfl
theorem sprod_wf : Rows.fnSmallProductRow.wfByText (OpenSpec.ofChange Rows.fnSmallProductSpec) = true := by kernel_rfl
theorem sprod_card : Rows.FnSmallProductCardSaid :=
  Claim7.holds_tied_plain_at .later [] [.data, .data, .data, .data] true (true, "6cef3cccf655c09a110e3a0d15352e237f641316496d9a41ec63f0b4932e7e90") true
    sprod_holds (fun _ h => by cases h) sprod_wf (fun _ h => by cases h) fnSmallProduct_row_tie rfl ⟨rfl, rfl⟩ pf_main rfl
    (fun f fn hf hfn => by
      obtain rfl : f = 13 := Option.some.inj (sprod_named.symm.trans hf) |>.symm
      obtain rfl : fn = Tryz.f13 := (Option.some.inj (Tryz.func13.symm.trans hfn)).symm
      exact ⟨pf_looks, fun j t ht => by
        rw [Tryz.params13] at ht
        have hm : t ∈ [2, 2] := by simpa using Array.mem_of_getElem? ht
        have hall : ([2, 2].all fun u => !Tryz.prog.wantsStandIn u) = true := by as_aux_lemma => kernel_rfl
        exact (show Tryz.prog.wantsStandIn t = false by simpa using List.all_eq_true.1 hall t hm)⟩)
    sprod_goes
end Go.Proofs.YtocahcammjoffaaGreatDoor
