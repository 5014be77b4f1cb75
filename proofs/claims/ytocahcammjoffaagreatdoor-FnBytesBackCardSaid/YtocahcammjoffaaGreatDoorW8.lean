/- The walk of FnTruth: and, or of two truths; no condition. -/
import Derived.Test.YtocahcammjoffaaGreatDoorBs
namespace Go.Proofs.YtocahcammjoffaaGreatDoor
open Go.RowKit
set_option maxRecDepth 100000
set_option maxHeartbeats 400000 in
theorem boolVal (b : Bool) (w : World) : Calls Tryz.prog 73 #[.iface 165 (.bool b)] w fun e w' => e = .returned (.bool b) ∧ w = w' := by
  have h1 := ta_165_165
  go_enter Tryz.func73, Tryz.ntmps73
  go_wp2
  go_ret
  exact ⟨rfl, rfl⟩
set_option maxHeartbeats 400000 in
theorem mkBool (b : Bool) (w : World) : Calls Tryz.prog 75 #[.bool b] w fun e w' => e = .returned (.iface 165 (.bool b)) ∧ w = w' := by
  go_enter Tryz.func75, Tryz.ntmps75
  go_wp2
  go_ret
  exact ⟨rfl, rfl⟩
set_option maxHeartbeats 400000 in
theorem ord_b (b : Bool) (w : World) : Calls Tryz.prog 204 #[.iface 165 (.bool b)] w fun e w' => e = .returned (.int .i64 1) ∧ w = w' := by
  have h1 := ta_165_165
  have h2 := ta_165_137
  have h3 := ta_165_180
  go_enter Tryz.func204, Tryz.ntmps204
  go_wp2
  go_ret
  exact ⟨rfl, rfl⟩
set_option maxHeartbeats 400000 in
theorem match_b (a b : Bool) (w : World) : Calls Tryz.prog 124 #[.iface 165 (.bool a), .iface 165 (.bool b)] w fun e w' => e = .returned (.tuple #[.iface 165 (.bool a), .iface 165 (.bool b)]) ∧ w = w' := by
  go_enter Tryz.func124, Tryz.ntmps124
  go_wp2_with (go_at_call 204; refine (ord_b _ _).mono ?_; rintro e w' ⟨rfl, rfl⟩)
  go_ret2
  exact ⟨rfl, rfl⟩
set_option maxHeartbeats 400000 in
theorem bin_lor (a b : Bool) (w : World) : Calls Tryz.prog 74 #[.iface 165 (.bool a), .int .i64 35, .iface 165 (.bool b)] w fun e w' => e = .returned (.iface 165 (.bool (a || b))) ∧ w = w' := by
  have h1 := ta_165_165
  have h2 := ta_165_137
  have h3 := ta1_165
  cases a <;> cases b
  all_goals
    go_enter Tryz.func74, Tryz.ntmps74
    go_wp2_with (go_at_call 124; refine (match_b _ _ _).mono ?_; rintro e w' ⟨rfl, rfl⟩)
    go_step3
    go_wp2_with (go_at_call 124; refine (match_b _ _ _).mono ?_; rintro e w' ⟨rfl, rfl⟩)
    rw [Exit.noGoto_ret]
    go_ret
    exact ⟨rfl, rfl⟩
set_option maxHeartbeats 400000 in
theorem bin_land (a b : Bool) (w : World) : Calls Tryz.prog 74 #[.iface 165 (.bool a), .int .i64 34, .iface 165 (.bool b)] w fun e w' => e = .returned (.iface 165 (.bool (a && b))) ∧ w = w' := by
  have h1 := ta_165_165
  have h2 := ta_165_137
  have h3 := ta1_165
  cases a <;> cases b
  all_goals
    go_enter Tryz.func74, Tryz.ntmps74
    go_wp2_with (go_at_call 124; refine (match_b _ _ _).mono ?_; rintro e w' ⟨rfl, rfl⟩)
    go_step3
    go_wp2_with (go_at_call 124; refine (match_b _ _ _).mono ?_; rintro e w' ⟨rfl, rfl⟩)
    rw [Exit.noGoto_ret]
    go_ret
    exact ⟨rfl, rfl⟩
set_option maxHeartbeats 400000 in
theorem operator_any (k : Nat) (t : Int) (h : (k, t) ∈ [(0, (12 : Int)), (1, 13), (2, 14), (3, 15), (4, 26), (5, 16), (6, 17), (7, 18), (8, 19), (9, 22), (10, 34), (11, 35)]) (w : World) :
    Calls Tryz.prog 72 #[.int .i64 k] w fun e w' => e = .returned (.tuple #[.int .i64 t, .bool true]) ∧ Below w.heap.size w w' := by
  simp only [List.mem_cons, Prod.mk.injEq, List.not_mem_nil, or_false] at h
  rcases h with ⟨rfl, rfl⟩ | ⟨rfl, rfl⟩ | ⟨rfl, rfl⟩ | ⟨rfl, rfl⟩ | ⟨rfl, rfl⟩ | ⟨rfl, rfl⟩ | ⟨rfl, rfl⟩ | ⟨rfl, rfl⟩ | ⟨rfl, rfl⟩ | ⟨rfl, rfl⟩ | ⟨rfl, rfl⟩ | ⟨rfl, rfl⟩
  all_goals
    go_enter Tryz.func72, Tryz.ntmps72
    go_wp2
    go_ret2
    refine ⟨rfl, ?_⟩
    go_grown
set_option maxHeartbeats 400000 in
theorem truthBinary_or (a b : Bool) (w : World) : Calls Tryz.prog 35 #[.int .i64 11, .bool a, .bool b] w fun e w' => e = .returned (.bool (a || b)) ∧ Below w.heap.size w w' := by
  go_enter Tryz.func35, Tryz.ntmps35
  go_wp2_with fail
  refine (operator_any 11 35 (by simp) _).mono ?_
  rintro e w1 ⟨rfl, hb1⟩
  go_wp2_with (first | (go_at_call 75; refine (mkBool _ _).mono ?_; rintro e w' ⟨rfl, rfl⟩) | (go_at_call 74; refine (bin_lor _ _ _).mono ?_; rintro e w' ⟨rfl, rfl⟩) | (go_at_call 73; refine (boolVal _ _).mono ?_; rintro e w' ⟨rfl, rfl⟩))
  go_ret
  exact ⟨rfl, hb1⟩
set_option maxHeartbeats 400000 in
theorem truthBinary_and (a b : Bool) (w : World) : Calls Tryz.prog 35 #[.int .i64 10, .bool a, .bool b] w fun e w' => e = .returned (.bool (a && b)) ∧ Below w.heap.size w w' := by
  go_enter Tryz.func35, Tryz.ntmps35
  go_wp2_with fail
  refine (operator_any 10 34 (by simp) _).mono ?_
  rintro e w1 ⟨rfl, hb1⟩
  go_wp2_with (first | (go_at_call 75; refine (mkBool _ _).mono ?_; rintro e w' ⟨rfl, rfl⟩) | (go_at_call 74; refine (bin_land _ _ _).mono ?_; rintro e w' ⟨rfl, rfl⟩) | (go_at_call 73; refine (boolVal _ _).mono ?_; rintro e w' ⟨rfl, rfl⟩))
  go_ret
  exact ⟨rfl, hb1⟩
set_option maxHeartbeats 400000 in
theorem truth_or (a b : Bool) (w : World) : Calls Tryz.prog 10 #[.bool true, .bool a, .bool b] w fun e w' => e = .returned (.bool true) ∧ Below w.heap.size w w' := by
  cases a <;> cases b
  all_goals
    go_enter Tryz.func10, Tryz.ntmps10
    go_wp2_with fail
    refine (truthBinary_or _ _ _).mono ?_
    rintro e w1 ⟨rfl, hb1⟩
    go_wp2_with fail
    go_ret
    exact ⟨rfl, hb1⟩
set_option maxHeartbeats 400000 in
theorem truth_and (a b : Bool) (w : World) : Calls Tryz.prog 10 #[.bool false, .bool a, .bool b] w fun e w' => e = .returned (.bool true) ∧ Below w.heap.size w w' := by
  cases a <;> cases b
  all_goals
    go_enter Tryz.func10, Tryz.ntmps10
    go_wp2_with fail
    refine (truthBinary_and _ _ _).mono ?_
    rintro e w1 ⟨rfl, hb1⟩
    go_wp2_with fail
    go_ret
    exact ⟨rfl, hb1⟩
theorem truth_walk (either a b : Bool) (w : World) : Calls Tryz.prog 10 #[.bool either, .bool a, .bool b] w fun e w' => e = .returned (.bool true) ∧ Below w.heap.size w w' := by
  cases either
  · exact truth_and a b w
  · exact truth_or a b w
end Go.Proofs.YtocahcammjoffaaGreatDoor
