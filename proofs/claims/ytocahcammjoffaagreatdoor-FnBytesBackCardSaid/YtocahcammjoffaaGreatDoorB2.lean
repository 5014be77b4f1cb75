/- Walks and lemmas for the laws of this seat. -/
import Derived.Test.YtocahcammjoffaaGreatDoorB1
namespace Go.Proofs.YtocahcammjoffaaGreatDoor
open Go.RowKit
set_option maxRecDepth 100000
set_option maxHeartbeats 400000 in
theorem bin_and (a b : Int) (w : World) : Calls Tryz.prog 74 #[.iface 119 (.int .i64 a), .int .i64 17, .iface 119 (.int .i64 b)] w fun e w' => e = .returned (.iface 119 (.int .i64 (bits .and .i64 a b))) ∧ w = w' := by
  have h1 := ta_119_119
  have h2 := ta_119_137
  have h3 := ta_119_165
  have h4 := ta1_119
  go_enter Tryz.func74, Tryz.ntmps74
  go_wp2_with (go_at_call 124; refine (match_i _ _ _).mono ?_; rintro e w' ⟨rfl, rfl⟩)
  go_step3
  go_wp2_with (go_at_call 124; refine (match_i _ _ _).mono ?_; rintro e w' ⟨rfl, rfl⟩)
  rw [Exit.noGoto_ret]
  go_ret
  exact ⟨rfl, rfl⟩
set_option maxHeartbeats 400000 in
theorem bin_or (a b : Int) (w : World) : Calls Tryz.prog 74 #[.iface 119 (.int .i64 a), .int .i64 18, .iface 119 (.int .i64 b)] w fun e w' => e = .returned (.iface 119 (.int .i64 (bits .or .i64 a b))) ∧ w = w' := by
  have h1 := ta_119_119
  have h2 := ta_119_137
  have h3 := ta_119_165
  have h4 := ta1_119
  go_enter Tryz.func74, Tryz.ntmps74
  go_wp2_with (go_at_call 124; refine (match_i _ _ _).mono ?_; rintro e w' ⟨rfl, rfl⟩)
  go_step3
  go_wp2_with (go_at_call 124; refine (match_i _ _ _).mono ?_; rintro e w' ⟨rfl, rfl⟩)
  rw [Exit.noGoto_ret]
  go_ret
  exact ⟨rfl, rfl⟩
set_option maxHeartbeats 400000 in
theorem bin_xor (a b : Int) (w : World) : Calls Tryz.prog 74 #[.iface 119 (.int .i64 a), .int .i64 19, .iface 119 (.int .i64 b)] w fun e w' => e = .returned (.iface 119 (.int .i64 (bits .xor .i64 a b))) ∧ w = w' := by
  have h1 := ta_119_119
  have h2 := ta_119_137
  have h3 := ta_119_165
  have h4 := ta1_119
  go_enter Tryz.func74, Tryz.ntmps74
  go_wp2_with (go_at_call 124; refine (match_i _ _ _).mono ?_; rintro e w' ⟨rfl, rfl⟩)
  go_step3
  go_wp2_with (go_at_call 124; refine (match_i _ _ _).mono ?_; rintro e w' ⟨rfl, rfl⟩)
  rw [Exit.noGoto_ret]
  go_ret
  exact ⟨rfl, rfl⟩
set_option maxHeartbeats 400000 in
theorem bin_andNot (a b : Int) (w : World) : Calls Tryz.prog 74 #[.iface 119 (.int .i64 a), .int .i64 22, .iface 119 (.int .i64 b)] w fun e w' => e = .returned (.iface 119 (.int .i64 (bits .andNot .i64 a b))) ∧ w = w' := by
  have h1 := ta_119_119
  have h2 := ta_119_137
  have h3 := ta_119_165
  have h4 := ta1_119
  go_enter Tryz.func74, Tryz.ntmps74
  go_wp2_with (go_at_call 124; refine (match_i _ _ _).mono ?_; rintro e w' ⟨rfl, rfl⟩)
  go_step3
  go_wp2_with (go_at_call 124; refine (match_i _ _ _).mono ?_; rintro e w' ⟨rfl, rfl⟩)
  rw [Exit.noGoto_ret]
  go_ret
  exact ⟨rfl, rfl⟩
set_option maxHeartbeats 400000 in
theorem bin_quo (a b : Int) (hb : b ≠ 0) (hlo : -9223372036854775808 ≤ a.tdiv b) (hhi : a.tdiv b ≤ 9223372036854775807) (w : World) : Calls Tryz.prog 74 #[.iface 119 (.int .i64 a), .int .i64 26, .iface 119 (.int .i64 b)] w fun e w' => e = .returned (.iface 119 (.int .i64 (a.tdiv b))) ∧ w = w' := by
  have h1 := ta_119_119
  have h2 := ta_119_137
  have h3 := ta_119_165
  have h4 := ta1_119
  go_enter Tryz.func74, Tryz.ntmps74
  go_wp2_with (go_at_call 124; refine (match_i _ _ _).mono ?_; rintro e w' ⟨rfl, rfl⟩)
  go_step3
  go_wp2_with (go_at_call 124; refine (match_i _ _ _).mono ?_; rintro e w' ⟨rfl, rfl⟩)
  rw [Exit.noGoto_ret]
  go_ret
  exact ⟨rfl, rfl⟩
set_option maxHeartbeats 400000 in
theorem bin_rem (a b : Int) (hb : b ≠ 0) (w : World) : Calls Tryz.prog 74 #[.iface 119 (.int .i64 a), .int .i64 16, .iface 119 (.int .i64 b)] w fun e w' => e = .returned (.iface 119 (.int .i64 (a.tmod b))) ∧ w = w' := by
  have h1 := ta_119_119
  have h2 := ta_119_137
  have h3 := ta_119_165
  have h4 := ta1_119
  go_enter Tryz.func74, Tryz.ntmps74
  go_wp2_with (go_at_call 124; refine (match_i _ _ _).mono ?_; rintro e w' ⟨rfl, rfl⟩)
  go_step3
  go_wp2_with (go_at_call 124; refine (match_i _ _ _).mono ?_; rintro e w' ⟨rfl, rfl⟩)
  rw [Exit.noGoto_ret]
  go_ret
  exact ⟨rfl, rfl⟩
end Go.Proofs.YtocahcammjoffaaGreatDoor
