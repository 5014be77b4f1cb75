/- The law FnBytesBack holds for every input, as its tied card says; no condition of its own. -/
import Derived.Test.YtocahcammjoffaaGreatDoorFrame
import Derived.Test.YtocahcammjoffaaGreatDoorLA
import Derived.Test.YtocahcammjoffaaGreatDoorYB
namespace Go.Proofs.YtocahcammjoffaaGreatDoor
open Go.ChangeShapes Go.WideShapes Go.ChangeMaps Go.ChangeAt Go.WideMaps Go.WideElems Go.RowKit
theorem bbk_range {k : IntKind} {n : Int} (h : (Lit.int k n).wf = true) : k.min ≤ n ∧ n ≤ k.max := by simpa [Lit.wf] using h
set_option maxRecDepth 100000 in
theorem bbk_lifted (os : Os) (started : os.Started) (H : Type) (enc : TypeId × Value → H) :
    ReturnsInHanded {} Tryz.checked os 8 .any (fun w args => (Rows.fnBytesBackSpec.pre enc Tryz.prog Tryz.f8 [] false w args ∧ laidMetH Tryz.prog laid4 w) ∧ sizedMet enc Tryz.prog Tryz.f8 (OpenSpec.ofChange Rows.fnBytesBackSpec) false w args)
      (Rows.fnBytesBackSpec.post enc Tryz.prog Tryz.f8 false true false false) := by
  refine returnsInHanded_of_change_and (C := Tryz.checked) (X := fun w _ => laidMetH Tryz.prog laid4 w) (fun _ _ _ hh h => h.of_heap hh) pf_own started (by kernel_rfl) Tryz.func8
    (ChangeSpec.witness_shaped (enc := enc) (C := Tryz.checked) (os := os) (X := fun w _ => laidMetH Tryz.prog laid4 w) false (World.doorLaid Tryz.prog 400 os) #[.agg #[.int .i64 0, .bool false, .string .empty, .bool false, .slice none 0 0, .slice none 0 0, .bool false, .slice none 0 0, .slice none 0 0]] 8 rfl (World.shaped_of_RefB (by kernel_rfl) (by kernel_rfl)) (by kernel_rfl) (by kernel_rfl) (by kernel_rfl) (door_met os _)) ?_
  intro W base args ds gs before hval0 hW _ _ hL _
  have hval : ∀ (j : Nat) t v, Tryz.f8.params[j]? = some t → args[j]? = some v → Value.okWide Tryz.prog W .any base t v := hval0
  have hW' := hW
  obtain ⟨p, q, hA0, hV, rfl, hfz, hnd⟩ := hW
  have hA : DataW.TrodAll enc Tryz.prog W 0 (fun _ => true) true Tryz.f8.params.toList args.toList ds p := hA0
  rw [Tryz.params8] at hA hval
  obtain ⟨v0, d0, hargs, rfl, h0⟩ := trodAll_one hA
  obtain rfl : args = #[v0] := by cases args; simp_all
  obtain ⟨k, t, st, n1, v1, v2, n2, v3, v4, w1, w2, w3, w4, rfl, h1, hw1, h2, hw2, h3, h4, _, _, _⟩ := open_value (hval 0 26 v0 rfl rfl) h0
  obtain ⟨a2, c2, rfl⟩ := h2.shape
  obtain ⟨a3, c3, rfl⟩ := h3.shape
  obtain ⟨a4, c4, rfl⟩ := h4.shape
  obtain ⟨g0, g1, g2, g3, rfl⟩ := four_of hV
  clear hA0 hval0
  refine (bytesBack_any k t n1 n2 st v1 a2 a3 a4 _ _ _ c2 c3 c4 w1 W h1 hw1).mono fun e W' ⟨he, bel⟩ => ?_
  subst he
  refine ⟨_, rfl, law_post pf_laidOut hW' bel ?_ (vars_read _ rfl) rfl Tryz.underlying4 rfl⟩
  rw [Tryz.params8]
  intro t ht
  have hall : ([26].all fun t => Tryz.prog.readableRec t && decide (t < Tryz.prog.types.size)) = true := by kernel_rfl
  have := List.all_eq_true.1 hall t ht
  simpa using this
set_option maxHeartbeats 4000000 in
theorem bbk_facts : joinedFacts Tryz.prog 8 Tryz.f8 Rows.fnBytesBackSpec Rows.fnBytesBackRow = true := by
  unfold joinedFacts
  rw [pf_laidOut, pf_maps, pf_stops, pf_knobs, pf_keys, pf_heard, pf_enter, pf_lifts, pf_make]
  simp only [Bool.and_eq_true]
  repeat' apply And.intro
  all_goals first | exact True.intro | (as_aux_lemma => kernel_rfl)
theorem bbk_named : Tryz.pinned.checked.prog.funcNamed Rows.fnBytesBackRow.func = some 8 := by kernel_rfl
theorem bbk_inst : Tryz.f8.isInstance Tryz.prog Rows.fnBytesBackRow.origin Rows.fnBytesBackRow.targs := of_decide_eq_true (by kernel_rfl)
theorem bbk_wrap : Tryz.f8.isWrapper Tryz.prog Rows.fnBytesBackRow.wrapper Rows.fnBytesBackRow.mainSum := by unfold Func.isWrapper; first | (rw [if_pos (by decide +kernel)]; kernel_rfl) | (rw [if_neg (by decide +kernel)]; exact ⟨rfl, rfl⟩)
theorem bbk_holds : Rows.FnBytesBackSaid :=
  OpenClaim.holds_of_wide 8 Tryz.f8 rfl rfl rfl rfl rfl rfl rfl ⟨rfl, rfl, rfl, rfl, rfl⟩ rfl rfl rfl rfl rfl bbk_named Tryz.func8 bbk_facts
    bbk_inst bbk_wrap
    (fun os started H enc _ => bbk_lifted os started H enc)

theorem bbk_goes : false = Rows.fnBytesBackRow.goesBy Tryz.prog := by kernel_rfl
theorem bbk_wf : Rows.fnBytesBackRow.wfByText (OpenSpec.ofChange Rows.fnBytesBackSpec) = true := by kernel_rfl
theorem bbk_card : Rows.FnBytesBackCardSaid :=
  Claim7.holds_tied_plain_at .later [] [.data, .data, .data, .data] true (true, "6cef3cccf655c09a110e3a0d15352e237f641316496d9a41ec63f0b4932e7e90") true
    bbk_holds (fun _ h => by cases h) bbk_wf (fun _ h => by cases h) fnBytesBack_row_tie rfl ⟨rfl, rfl⟩ pf_main rfl
    (fun f fn hf hfn => by
      obtain rfl : f = 8 := Option.some.inj (bbk_named.symm.trans hf) |>.symm
      obtain rfl : fn = Tryz.f8 := (Option.some.inj (Tryz.func8.symm.trans hfn)).symm
      exact ⟨pf_looks, fun j t ht => by
        rw [Tryz.params8] at ht
        have hm : t ∈ [26] := by simpa using Array.mem_of_getElem? ht
        have hall : ([26].all fun u => !Tryz.prog.wantsStandIn u) = true := by as_aux_lemma => kernel_rfl
        exact (show Tryz.prog.wantsStandIn t = false by simpa using List.all_eq_true.1 hall t hm)⟩)
    bbk_goes
end Go.Proofs.YtocahcammjoffaaGreatDoor
