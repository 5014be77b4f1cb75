/- Walks and lemmas for the laws of this seat. -/
import Derived.Test.YtocahcammjoffaaGreatDoorW8
namespace Go.Proofs.YtocahcammjoffaaGreatDoor
open Go.RowKit
set_option maxRecDepth 100000
set_option maxHeartbeats 400000 in
theorem mk64 (n : Int) (w : World) : Calls Tryz.prog 77 #[.int .i64 n] w fun e w' => e = .returned (.iface 119 (.int .i64 n)) ∧ w = w' := by
  go_enter Tryz.func77, Tryz.ntmps77
  go_wp2_with fail
  go_ret
  exact ⟨rfl, rfl⟩
set_option maxHeartbeats 400000 in
theorem int64Val_64 (n : Int) (w : World) : Calls Tryz.prog 76 #[.iface 119 (.int .i64 n)] w fun e w' => e = .returned (.tuple #[.int .i64 n, .bool true]) ∧ w = w' := by
  have h1 := ta_119_119
  go_enter Tryz.func76, Tryz.ntmps76
  go_wp2_with fail
  go_ret2
  exact ⟨rfl, rfl⟩
set_option maxHeartbeats 400000 in
theorem ord_i (n : Int) (w : World) : Calls Tryz.prog 204 #[.iface 119 (.int .i64 n)] w fun e w' => e = .returned (.int .i64 2) ∧ w = w' := by
  have h1 := ta_119_119
  have h2 := ta_119_137
  have h3 := ta_119_180
  have h4 := ta_119_165
  go_enter Tryz.func204, Tryz.ntmps204
  go_wp2_with fail
  go_ret
  exact ⟨rfl, rfl⟩
set_option maxHeartbeats 400000 in
theorem match_i (a b : Int) (w : World) : Calls Tryz.prog 124 #[.iface 119 (.int .i64 a), .iface 119 (.int .i64 b)] w fun e w' => e = .returned (.tuple #[.iface 119 (.int .i64 a), .iface 119 (.int .i64 b)]) ∧ w = w' := by
  go_enter Tryz.func124, Tryz.ntmps124
  go_wp2_with (go_at_call 204; refine (ord_i _ _).mono ?_; rintro e w' ⟨rfl, rfl⟩)
  go_ret2
  exact ⟨rfl, rfl⟩
end Go.Proofs.YtocahcammjoffaaGreatDoor
