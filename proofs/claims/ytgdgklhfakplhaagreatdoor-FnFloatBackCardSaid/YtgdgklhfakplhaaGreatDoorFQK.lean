/- Walks and lemmas for the laws of this seat. -/
import Derived.Test.YtgdgklhfakplhaaGreatDoorFrame
import Derived.MakeChecks
import Derived.FnData
import Derived.Test.YtgdgklhfakplhaaGreatDoorG47
namespace Go.Proofs.YtgdgklhfakplhaaGreatDoor
open Go.ChangeShapes Go.WideShapes Go.ChangeMaps Go.ChangeAt Go.WideMaps Go.WideElems Go.RowKit
set_option maxRecDepth 100000 in
/-- The listed variable: the length from which on division is recursive. -/
theorem thr_of_laid {W : World} (h : laidMetH Tryz.prog laid4 W) : W.cell? ⟨1, 0, none⟩ = some (.int .i64 40) := by
  rw [MakeChecks.laidMetH_plain _ _ _ (by kernel_rfl)] at h
  obtain ⟨ps, ⟨g, t, cs, fuel, p, q, hg, ht, hv, hd, _, _⟩, _, _⟩ := h
  obtain rfl := Option.some.inj ((show Tryz.prog.globalNamed "loop.example/pub-g03237/pub/bigall.divRecursiveThreshold" = some 1 by kernel_rfl).symm.trans hg)
  obtain rfl := Option.some.inj ((show (Tryz.prog.globals[1]?).map (·.type) = some 3 by kernel_rfl).symm.trans ht)
  obtain ⟨z, e1, e2, _⟩ := DataW.trod_int Tryz.underlying3 hd
  have e3 : (DataW.lit (.int .i64 40) : DataW Unit) = .lit (.int .i64 z) := (Prod.mk.inj e2).1
  have hz : z = 40 := by
    simp only [DataW.lit.injEq, Lit.int.injEq, true_and] at e3
    exact e3.symm
  rw [World.var?_cell hg hv 0, ← hz]
  have : cs.toList[0]? = some (.int .i64 z) := by rw [e1]; rfl
  simpa using this
theorem fbk_walk (a : Int) (l : 0 ≤ a) (u : a ≤ 18446744073709551615) (w : World) (hthr : w.cell? ⟨1, 0, none⟩ = some (.int .i64 40)) :
    Calls Tryz.prog 5 #[.int .u64 a] w fun e w' => e = .returned (.bool true) ∧ Below w.heap.size w w' := by
  obtain ⟨x, rfl⟩ := Int.eq_ofNat_of_zero_le l
  exact fback_walk x (by omega) w hthr
theorem fbk_range {k : IntKind} {n : Int} (h : (Lit.int k n).wf = true) : k.min ≤ n ∧ n ≤ k.max := by simpa [Lit.wf] using h
set_option maxRecDepth 100000 in
theorem fbk_lifted (os : Os) (started : os.Started) (H : Type) (enc : TypeId × Value → H) :
    ReturnsInHanded {} Tryz.checked os 5 .any (fun w args => (Rows.fnFloatBackSpec.pre enc Tryz.prog Tryz.f5 [] false w args ∧ laidMetH Tryz.prog laid4 w) ∧ sizedMet enc Tryz.prog Tryz.f5 (OpenSpec.ofChange Rows.fnFloatBackSpec) false w args)
      (Rows.fnFloatBackSpec.post enc Tryz.prog Tryz.f5 false true false false) := by
  refine returnsInHanded_of_change_and (C := Tryz.checked) (X := fun w _ => laidMetH Tryz.prog laid4 w) (fun _ _ _ hh h => h.of_heap hh) pf_own started (by kernel_rfl) Tryz.func5
    (ChangeSpec.witness_shaped (enc := enc) (C := Tryz.checked) (os := os) (X := fun w _ => laidMetH Tryz.prog laid4 w) false (World.doorLaid Tryz.prog 400 os) #[.int .u64 0] 8 rfl (World.shaped_of_RefB (by kernel_rfl) (by kernel_rfl)) (by kernel_rfl) (by kernel_rfl) (by kernel_rfl) (door_met os _)) ?_
  intro W base args ds gs before hval0 hW _ _ hL _
  have hval : ∀ (j : Nat) t v, Tryz.f5.params[j]? = some t → args[j]? = some v → Value.okWide Tryz.prog W .any base t v := hval0
  have hW' := hW
  obtain ⟨p, q, hA0, hV, rfl, hfz, hnd⟩ := hW
  have hA : DataW.TrodAll enc Tryz.prog W 0 (fun _ => true) true Tryz.f5.params.toList args.toList ds p := hA0
  rw [Tryz.params5] at hA hval
  obtain ⟨v0, d0, hargs, rfl, h0⟩ := trodAll_one hA
  obtain rfl : args = #[v0] := by cases args; simp_all
  obtain ⟨a0, rfl, rfl, rfl, w0⟩ := open_int Tryz.underlying34 (hval 0 34 v0 rfl rfl) h0
  have l0 : 0 ≤ a0 := ((fbk_range w0)).1
  have u0 : a0 ≤ 18446744073709551615 := ((fbk_range w0)).2
  obtain ⟨g0, g1, g2, g3, rfl⟩ := four_of hV
  clear hA0 hval0
  refine (fbk_walk a0 l0 u0 W (thr_of_laid hL)).mono fun e W' ⟨he, bel⟩ => ?_
  subst he
  refine ⟨_, rfl, law_post pf_laidOut hW' bel ?_ (vars_read _ rfl) rfl Tryz.underlying4 rfl⟩
  rw [Tryz.params5]
  intro t ht
  have hall : ([34].all fun t => Tryz.prog.readableRec t && decide (t < Tryz.prog.types.size)) = true := by kernel_rfl
  have := List.all_eq_true.1 hall t ht
  simpa using this
set_option maxHeartbeats 4000000 in
theorem fbk_facts : joinedFacts Tryz.prog 5 Tryz.f5 Rows.fnFloatBackSpec Rows.fnFloatBackRow = true := by
  unfold joinedFacts
  rw [pf_laidOut, pf_maps, pf_stops, pf_knobs, pf_keys, pf_heard, pf_enter, pf_lifts, pf_make]
  simp only [Bool.and_eq_true]
  repeat' apply And.intro
  all_goals first | exact True.intro | (as_aux_lemma => kernel_rfl)
theorem fbk_named : Tryz.pinned.checked.prog.funcNamed Rows.fnFloatBackRow.func = some 5 := by kernel_rfl
theorem fbk_inst : Tryz.f5.isInstance Tryz.prog Rows.fnFloatBackRow.origin Rows.fnFloatBackRow.targs := of_decide_eq_true (by kernel_rfl)
theorem fbk_wrap : Tryz.f5.isWrapper Tryz.prog Rows.fnFloatBackRow.wrapper Rows.fnFloatBackRow.mainSum := by unfold Func.isWrapper; first | (rw [if_pos (by decide +kernel)]; kernel_rfl) | (rw [if_neg (by decide +kernel)]; exact ⟨rfl, rfl⟩)
theorem fbk_holds : Rows.FnFloatBackSaid :=
  OpenClaim.holds_of_wide 5 Tryz.f5 rfl rfl rfl rfl rfl rfl rfl ⟨rfl, rfl, rfl, rfl, rfl⟩ rfl rfl rfl rfl rfl fbk_named Tryz.func5 fbk_facts
    fbk_inst fbk_wrap
    (fun os started H enc _ => fbk_lifted os started H enc)

theorem fbk_goes : false = Rows.fnFloatBackRow.goesBy Tryz.prog := by kernel_rfl
theorem fbk_wf : Rows.fnFloatBackRow.wfByText (OpenSpec.ofChange Rows.fnFloatBackSpec) = true := by kernel_rfl
theorem fbk_card : Rows.FnFloatBackCardSaid :=
  Claim7.holds_tied_plain_at .later [] [.data, .data, .data, .data] true (true, "7ccb63aa0ca2724d7077a3b66de2a8b67c65cdc35f52de3e564caf80c5353ba7") true
    fbk_holds (fun _ h => by cases h) fbk_wf (fun _ h => by cases h) fnFloatBack_row_tie rfl ⟨rfl, rfl⟩ pf_main rfl
    (fun f fn hf hfn => by
      obtain rfl : f = 5 := Option.some.inj (fbk_named.symm.trans hf) |>.symm
      obtain rfl : fn = Tryz.f5 := (Option.some.inj (Tryz.func5.symm.trans hfn)).symm
      exact ⟨pf_looks, fun j t ht => by
        rw [Tryz.params5] at ht
        have hm : t ∈ [34] := by simpa using Array.mem_of_getElem? ht
        have hall : ([34].all fun u => !Tryz.prog.wantsStandIn u) = true := by as_aux_lemma => kernel_rfl
        exact (show Tryz.prog.wantsStandIn t = false by simpa using List.all_eq_true.1 hall t hm)⟩)
    fbk_goes
end Go.Proofs.YtgdgklhfakplhaaGreatDoor
