/- FnFloat64Float: for every value, Float64Float of a fraction of at most seven words is the nearest float64 with the sign of the fraction, and tells whether it is exact; what is nearest to 0 and is not 0 is left out; conditions: those of the law alone (the lengths that it asks for), at the package variables as the program's text lays them. -/
import Derived.Test.YtgdgklhfakplhaaGreatDoorFrame
import Derived.MakeChecks
import Derived.FnData
import Derived.Test.YtgdgklhfakplhaaGreatDoorH48
namespace Go.Proofs.YtgdgklhfakplhaaGreatDoor
open Go.ChangeShapes Go.WideShapes Go.ChangeMaps Go.ChangeAt Go.WideMaps Go.WideElems Go.RowKit
set_option maxRecDepth 100000 in
/-- The listed variable: the length from which on division is recursive. -/
theorem thr_of_laid {W : World} (h : laidMetH Tryz.prog laid4 W) : W.cell? ⟨1, 0, none⟩ = some (.int .i64 40) := by
  rw [MakeChecks.laidMetH_plain _ _ _ (by kernel_rfl)] at h
  obtain ⟨ps, ⟨g, t, cs, fuel, p, q, hg, ht, hv, hd, _, _⟩, _, _⟩ := h
  obtain rfl := Option.some.inj ((show Tryz.prog.globalNamed "loop.example/pub-g03237/pub/bigall.divRecursiveThreshold" = some 1 by kernel_rfl).symm.trans hg)
  obtain rfl := Option.some.inj ((show (Tryz.prog.globals[1]?).map (·.type) = some 3 by kernel_rfl).symm.trans ht)
  obtain ⟨z, e1, e2, _⟩ := DataW.trod_int Tryz.underlying3 hd
  have e3 : (DataW.lit (.int .i64 40) : DataW Unit) = .lit (.int .i64 z) := (Prod.mk.inj e2).1
  have hz : z = 40 := by
    simp only [DataW.lit.injEq, Lit.int.injEq, true_and] at e3
    exact e3.symm
  rw [World.var?_cell hg hv 0, ← hz]
  have : cs.toList[0]? = some (.int .i64 z) := by rw [e1]; rfl
  simpa using this
set_option maxRecDepth 100000 in
theorem ffl_lifted (os : Os) (started : os.Started) (H : Type) (enc : TypeId × Value → H) :
    ReturnsInHanded {} Tryz.checked os 3 .any (fun w args => (Rows.fnFloat64FloatSpec.pre enc Tryz.prog Tryz.f3 [] false w args ∧ laidMetH Tryz.prog laid4 w) ∧ sizedMet enc Tryz.prog Tryz.f3 (OpenSpec.ofChange Rows.fnFloat64FloatSpec) false w args)
      (Rows.fnFloat64FloatSpec.post enc Tryz.prog Tryz.f3 false true false false) := by
  refine returnsInHanded_of_change_and (C := Tryz.checked) (X := fun w _ => laidMetH Tryz.prog laid4 w) (fun _ _ _ hh h => h.of_heap hh) pf_own started (by kernel_rfl) Tryz.func3
    (ChangeSpec.witness_shaped (enc := enc) (C := Tryz.checked) (os := os) (X := fun w _ => laidMetH Tryz.prog laid4 w) false (World.doorLaid Tryz.prog 400 os) #[.agg #[.int .i64 0, .bool false, .string .empty, .bool false, .slice none 0 0, .slice none 0 0, .bool false, .slice none 0 0, .slice none 0 0]] 8 rfl (World.shaped_of_RefB (by kernel_rfl) (by kernel_rfl)) (by kernel_rfl) (by kernel_rfl) (by kernel_rfl) (door_met os _)) ?_
  intro W base args ds gs before hval0 hW _ _ hL _
  have hval : ∀ (j : Nat) t v, Tryz.f3.params[j]? = some t → args[j]? = some v → Value.okWide Tryz.prog W .any base t v := hval0
  have hW' := hW
  obtain ⟨p, q, hA0, hV, rfl, hfz, hnd⟩ := hW
  have hA : DataW.TrodAll enc Tryz.prog W 0 (fun _ => true) true Tryz.f3.params.toList args.toList ds p := hA0
  rw [Tryz.params3] at hA hval
  obtain ⟨v0, d0, hargs, rfl, h0⟩ := trodAll_one hA
  obtain rfl : args = #[v0] := by cases args; simp_all
  obtain ⟨k, t, st, n1, v1, v2, n2, v3, v4, w1, w2, w3, w4, rfl, h1, hw1, h2, hw2, h3, h4, _, _, _⟩ := open_value (hval 0 26 v0 rfl rfl) h0
  obtain ⟨a3, c3, rfl⟩ := h3.shape
  obtain ⟨a4, c4, rfl⟩ := h4.shape
  obtain ⟨g0, g1, g2, g3, rfl⟩ := four_of hV
  clear hA0 hval0
  refine (ffl_any k t st n1 n2 v1 v2 w1 w2 a3 a4 _ _ c3 c4 W h1 h2 hw1 hw2 (thr_of_laid hL)).mono fun e W' ⟨he, bel⟩ => ?_
  subst he
  refine ⟨_, rfl, law_post pf_laidOut hW' bel ?_ (vars_read _ rfl) rfl Tryz.underlying4 rfl⟩
  rw [Tryz.params3]
  intro t ht
  have hall : ([26].all fun t => Tryz.prog.readableRec t && decide (t < Tryz.prog.types.size)) = true := by kernel_rfl
  have := List.all_eq_true.1 hall t ht
  simpa using this
set_option maxHeartbeats 4000000 in
theorem ffl_facts : joinedFacts Tryz.prog 3 Tryz.f3 Rows.fnFloat64FloatSpec Rows.fnFloat64FloatRow = true := by
  unfold joinedFacts
  rw [pf_laidOut, pf_maps, pf_stops, pf_knobs, pf_keys, pf_heard, pf_enter, pf_lifts, pf_make]
  simp only [Bool.and_eq_true]
  repeat' apply And.intro
  all_goals first | exact True.intro | (as_aux_lemma => kernel_rfl)
theorem ffl_named : Tryz.pinned.checked.prog.funcNamed Rows.fnFloat64FloatRow.func = some 3 := by kernel_rfl
theorem ffl_inst : Tryz.f3.isInstance Tryz.prog Rows.fnFloat64FloatRow.origin Rows.fnFloat64FloatRow.targs := of_decide_eq_true (by kernel_rfl)
theorem ffl_wrap : Tryz.f3.isWrapper Tryz.prog Rows.fnFloat64FloatRow.wrapper Rows.fnFloat64FloatRow.mainSum := by unfold Func.isWrapper; first | (rw [if_pos (by decide +kernel)]; kernel_rfl) | (rw [if_neg (by decide +kernel)]; exact ⟨rfl, rfl⟩)
theorem ffl_holds : Rows.FnFloat64FloatSaid :=
  OpenClaim.holds_of_wide 3 Tryz.f3 rfl rfl rfl rfl rfl rfl rfl ⟨rfl, rfl, rfl, rfl, rfl⟩ rfl rfl rfl rfl rfl ffl_named Tryz.func3 ffl_facts
    ffl_inst ffl_wrap
    (fun os started H enc _ => ffl_lifted os started H enc)

theorem ffl_goes : false = Rows.fnFloat64FloatRow.goesBy Tryz.prog := by kernel_rfl
theorem ffl_wf : Rows.fnFloat64FloatRow.wfByText (OpenSpec.ofChange Rows.fnFloat64FloatSpec) = true := by kernel_rfl
theorem ffl_card : Rows.FnFloat64FloatCardSaid :=
  Claim7.holds_tied_plain_at .later [] [.data, .data, .data, .data] true (true, "7ccb63aa0ca2724d7077a3b66de2a8b67c65cdc35f52de3e564caf80c5353ba7") true
    ffl_holds (fun _ h => by cases h) ffl_wf (fun _ h => by cases h) fnFloat64Float_row_tie rfl ⟨rfl, rfl⟩ pf_main rfl
    (fun f fn hf hfn => by
      obtain rfl : f = 3 := Option.some.inj (ffl_named.symm.trans hf) |>.symm
      obtain rfl : fn = Tryz.f3 := (Option.some.inj (Tryz.func3.symm.trans hfn)).symm
      exact ⟨pf_looks, fun j t ht => by
        rw [Tryz.params3] at ht
        have hm : t ∈ [26] := by simpa using Array.mem_of_getElem? ht
        have hall : ([26].all fun u => !Tryz.prog.wantsStandIn u) = true := by as_aux_lemma => kernel_rfl
        exact (show Tryz.prog.wantsStandIn t = false by simpa using List.all_eq_true.1 hall t hm)⟩)
    ffl_goes
end Go.Proofs.YtgdgklhfakplhaaGreatDoor
