/- Walks and lemmas for the laws of this seat. -/
import Derived.Test.YtocahcammjoffaaGreatDoorFrame
import Derived.Test.YtocahcammjoffaaGreatDoorB4
namespace Go.Proofs.YtocahcammjoffaaGreatDoor
open Go.ChangeShapes Go.WideShapes Go.ChangeAt Go.WideMaps Go.WideElems Go.RowKit
theorem sbits_range {k : IntKind} {n : Int} (h : (Lit.int k n).wf = true) : k.min ≤ n ∧ n ≤ k.max := by simpa [Lit.wf] using h
set_option maxRecDepth 100000 in
theorem sbits_lifted (os : Os) (started : os.Started) (H : Type) (enc : TypeId × Value → H) :
    ReturnsInHanded {} Tryz.checked os 11 .any (fun w args => (Rows.fnSmallBitsSpec.pre enc Tryz.prog Tryz.f11 [] false w args ∧ laidMetH Tryz.prog laid4 w) ∧ sizedMet enc Tryz.prog Tryz.f11 (OpenSpec.ofChange Rows.fnSmallBitsSpec) false w args)
      (Rows.fnSmallBitsSpec.post enc Tryz.prog Tryz.f11 false true false false) := by
  refine returnsInHanded_of_change_and (C := Tryz.checked) (X := fun w _ => laidMetH Tryz.prog laid4 w) (fun _ _ _ hh h => h.of_heap hh) pf_own started (by kernel_rfl) Tryz.func11
    (ChangeSpec.witness_shaped (enc := enc) (C := Tryz.checked) (os := os) (X := fun w _ => laidMetH Tryz.prog laid4 w) false (World.doorLaid Tryz.prog 400 os) #[.int .u8 0, .int .i64 0, .int .i64 0] 8 rfl (World.shaped_of_RefB (by kernel_rfl) (by kernel_rfl)) (by kernel_rfl) (by kernel_rfl) (by kernel_rfl) (door_met os _)) ?_
  intro W base args ds gs before hval0 hW _ _ hL _
  have hval : ∀ (j : Nat) t v, Tryz.f11.params[j]? = some t → args[j]? = some v → Value.okWide Tryz.prog W .any base t v := hval0
  have hW' := hW
  obtain ⟨p, q, hA0, hV, rfl, hfz, hnd⟩ := hW
  have hA : DataW.TrodAll enc Tryz.prog W 0 (fun _ => true) true Tryz.f11.params.toList args.toList ds p := hA0
  rw [Tryz.params11] at hA hval
  obtain ⟨v0, v1, v2, d0, d1, d2, p0, p1, p2, hargs, rfl, rfl, h0, h1, h2⟩ := trodAll_three hA
  obtain rfl : args = #[v0, v1, v2] := by cases args; simp_all
  obtain ⟨a0, rfl, rfl, rfl, w0⟩ := open_int Tryz.underlying5 (hval 0 5 v0 rfl rfl) h0
  have l0 : 0 ≤ a0 := ((sbits_range w0)).1
  have u0 : a0 ≤ 255 := ((sbits_range w0)).2
  obtain ⟨a1, rfl, rfl, rfl, w1⟩ := open_int Tryz.underlying2 (hval 1 2 v1 rfl rfl) h1
  have l1 : -9223372036854775808 ≤ a1 := ((sbits_range w1)).1
  have u1 : a1 ≤ 9223372036854775807 := ((sbits_range w1)).2
  obtain ⟨a2, rfl, rfl, rfl, w2⟩ := open_int Tryz.underlying2 (hval 2 2 v2 rfl rfl) h2
  have l2 : -9223372036854775808 ≤ a2 := ((sbits_range w2)).1
  have u2 : a2 ≤ 9223372036854775807 := ((sbits_range w2)).2
  obtain ⟨g0, g1, g2, g3, rfl⟩ := four_of hV
  clear hA0 hval0
  refine (bits_walk a0 a1 a2 l0 u0 W).mono fun e W' ⟨he, bel⟩ => ?_
  subst he
  refine ⟨_, rfl, law_post pf_laidOut hW' bel ?_ (vars_read _ rfl) rfl Tryz.underlying4 rfl⟩
  rw [Tryz.params11]
  intro t ht
  have hall : ([5, 2, 2].all fun t => Tryz.prog.readableRec t && decide (t < Tryz.prog.types.size)) = true := by kernel_rfl
  have := List.all_eq_true.1 hall t ht
  simpa using this
set_option maxHeartbeats 4000000 in
theorem sbits_facts : joinedFacts Tryz.prog 11 Tryz.f11 Rows.fnSmallBitsSpec Rows.fnSmallBitsRow = true := by
  unfold joinedFacts
  rw [pf_laidOut, pf_maps, pf_stops, pf_knobs, pf_keys, pf_heard, pf_enter, pf_lifts, pf_make]
  simp only [Bool.and_eq_true]
  repeat' apply And.intro
  all_goals first | exact True.intro | (as_aux_lemma => kernel_rfl)
theorem sbits_named : Tryz.pinned.checked.prog.funcNamed Rows.fnSmallBitsRow.func = some 11 := by kernel_rfl
theorem sbits_inst : Tryz.f11.isInstance Tryz.prog Rows.fnSmallBitsRow.origin Rows.fnSmallBitsRow.targs := of_decide_eq_true (by kernel_rfl)
theorem sbits_wrap : Tryz.f11.isWrapper Tryz.prog Rows.fnSmallBitsRow.wrapper Rows.fnSmallBitsRow.mainSum := by unfold Func.isWrapper; first | (rw [if_pos (by decide +kernel)]; kernel_rfl) | (rw [if_neg (by decide +kernel)]; exact ⟨rfl, rfl⟩)
theorem sbits_holds : Rows.FnSmallBitsSaid :=
  OpenClaim.holds_of_wide 11 Tryz.f11 rfl rfl rfl rfl rfl rfl rfl ⟨rfl, rfl, rfl, rfl, rfl⟩ rfl rfl rfl rfl rfl sbits_named Tryz.func11 sbits_facts
    sbits_inst sbits_wrap
    (fun os started H enc _ => sbits_lifted os started H enc)

theorem sbits_goes : false = Rows.fnSmallBitsRow.goesBy Tryz.prog := by kernel_rfl
theorem sbits_wf : Rows.fnSmallBitsRow.wfByText (OpenSpec.ofChange Rows.fnSmallBitsSpec) = true := by kernel_rfl
theorem sbits_card : Rows.FnSmallBitsCardSaid :=
  Claim7.holds_tied_plain_at .later [] [.data, .data, .data, .data] true (true, "6cef3cccf655c09a110e3a0d15352e237f641316496d9a41ec63f0b4932e7e90") true
    sbits_holds (fun _ h => by cases h) sbits_wf (fun _ h => by cases h) fnSmallBits_row_tie rfl ⟨rfl, rfl⟩ pf_main rfl
    (fun f fn hf hfn => by
      obtain rfl : f = 11 := Option.some.inj (sbits_named.symm.trans hf) |>.symm
      obtain rfl : fn = Tryz.f11 := (Option.some.inj (Tryz.func11.symm.trans hfn)).symm
      exact ⟨pf_looks, fun j t ht => by
        rw [Tryz.params11] at ht
        have hm : t ∈ [5, 2, 2] := by simpa using Array.mem_of_getElem? ht
        have hall : ([5, 2, 2].all fun u => !Tryz.prog.wantsStandIn u) = true := by as_aux_lemma => kernel_rfl
        exact (show Tryz.prog.wantsStandIn t = false by simpa using List.all_eq_true.1 hall t hm)⟩)
    sbits_goes
end Go.Proofs.YtocahcammjoffaaGreatDoor
