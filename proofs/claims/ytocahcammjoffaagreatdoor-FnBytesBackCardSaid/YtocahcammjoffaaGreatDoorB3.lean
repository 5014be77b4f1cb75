/- Walks and lemmas for the laws of this seat. -/
import Derived.Test.YtocahcammjoffaaGreatDoorB2
namespace Go.Proofs.YtocahcammjoffaaGreatDoor
open Go.RowKit
set_option maxRecDepth 100000
set_option maxHeartbeats 400000 in
theorem small_and (a b : Int)  (w : World) : Calls Tryz.prog 36 #[.int .i64 6, .int .i64 a, .int .i64 b] w fun e w' => e = .returned (.tuple #[.int .i64 (bits .and .i64 a b), .bool true]) ∧ Below w.heap.size w w' := by
  go_enter Tryz.func36, Tryz.ntmps36
  go_wp2_with fail
  refine (operator_any 6 17 (by simp) _).mono ?_
  rintro e w1 ⟨rfl, hb1⟩
  go_wp2_with (first | (go_at_call 77; refine (mk64 _ _).mono ?_; rintro e w' ⟨rfl, rfl⟩) | (go_at_call 74; refine (bin_and _ _ _).mono ?_; rintro e w' ⟨rfl, rfl⟩) | (go_at_call 76; refine (int64Val_64 _ _).mono ?_; rintro e w' ⟨rfl, rfl⟩))
  go_ret2
  exact ⟨rfl, hb1⟩
set_option maxHeartbeats 400000 in
theorem small_or (a b : Int)  (w : World) : Calls Tryz.prog 36 #[.int .i64 7, .int .i64 a, .int .i64 b] w fun e w' => e = .returned (.tuple #[.int .i64 (bits .or .i64 a b), .bool true]) ∧ Below w.heap.size w w' := by
  go_enter Tryz.func36, Tryz.ntmps36
  go_wp2_with fail
  refine (operator_any 7 18 (by simp) _).mono ?_
  rintro e w1 ⟨rfl, hb1⟩
  go_wp2_with (first | (go_at_call 77; refine (mk64 _ _).mono ?_; rintro e w' ⟨rfl, rfl⟩) | (go_at_call 74; refine (bin_or _ _ _).mono ?_; rintro e w' ⟨rfl, rfl⟩) | (go_at_call 76; refine (int64Val_64 _ _).mono ?_; rintro e w' ⟨rfl, rfl⟩))
  go_ret2
  exact ⟨rfl, hb1⟩
set_option maxHeartbeats 400000 in
theorem small_xor (a b : Int)  (w : World) : Calls Tryz.prog 36 #[.int .i64 8, .int .i64 a, .int .i64 b] w fun e w' => e = .returned (.tuple #[.int .i64 (bits .xor .i64 a b), .bool true]) ∧ Below w.heap.size w w' := by
  go_enter Tryz.func36, Tryz.ntmps36
  go_wp2_with fail
  refine (operator_any 8 19 (by simp) _).mono ?_
  rintro e w1 ⟨rfl, hb1⟩
  go_wp2_with (first | (go_at_call 77; refine (mk64 _ _).mono ?_; rintro e w' ⟨rfl, rfl⟩) | (go_at_call 74; refine (bin_xor _ _ _).mono ?_; rintro e w' ⟨rfl, rfl⟩) | (go_at_call 76; refine (int64Val_64 _ _).mono ?_; rintro e w' ⟨rfl, rfl⟩))
  go_ret2
  exact ⟨rfl, hb1⟩
set_option maxHeartbeats 400000 in
theorem small_andNot (a b : Int)  (w : World) : Calls Tryz.prog 36 #[.int .i64 9, .int .i64 a, .int .i64 b] w fun e w' => e = .returned (.tuple #[.int .i64 (bits .andNot .i64 a b), .bool true]) ∧ Below w.heap.size w w' := by
  go_enter Tryz.func36, Tryz.ntmps36
  go_wp2_with fail
  refine (operator_any 9 22 (by simp) _).mono ?_
  rintro e w1 ⟨rfl, hb1⟩
  go_wp2_with (first | (go_at_call 77; refine (mk64 _ _).mono ?_; rintro e w' ⟨rfl, rfl⟩) | (go_at_call 74; refine (bin_andNot _ _ _).mono ?_; rintro e w' ⟨rfl, rfl⟩) | (go_at_call 76; refine (int64Val_64 _ _).mono ?_; rintro e w' ⟨rfl, rfl⟩))
  go_ret2
  exact ⟨rfl, hb1⟩
set_option maxHeartbeats 400000 in
theorem small_quo (a b : Int) (hb : b ≠ 0) (hlo : -9223372036854775808 ≤ a.tdiv b) (hhi : a.tdiv b ≤ 9223372036854775807) (w : World) : Calls Tryz.prog 36 #[.int .i64 4, .int .i64 a, .int .i64 b] w fun e w' => e = .returned (.tuple #[.int .i64 (a.tdiv b), .bool true]) ∧ Below w.heap.size w w' := by
  go_enter Tryz.func36, Tryz.ntmps36
  go_wp2_with fail
  refine (operator_any 4 26 (by simp) _).mono ?_
  rintro e w1 ⟨rfl, hb1⟩
  go_wp2_with (first | (go_at_call 77; refine (mk64 _ _).mono ?_; rintro e w' ⟨rfl, rfl⟩) | (go_at_call 74; refine (bin_quo _ _ hb hlo hhi _).mono ?_; rintro e w' ⟨rfl, rfl⟩) | (go_at_call 76; refine (int64Val_64 _ _).mono ?_; rintro e w' ⟨rfl, rfl⟩))
  go_ret2
  exact ⟨rfl, hb1⟩
set_option maxHeartbeats 400000 in
theorem small_rem (a b : Int) (hb : b ≠ 0) (w : World) : Calls Tryz.prog 36 #[.int .i64 5, .int .i64 a, .int .i64 b] w fun e w' => e = .returned (.tuple #[.int .i64 (a.tmod b), .bool true]) ∧ Below w.heap.size w w' := by
  go_enter Tryz.func36, Tryz.ntmps36
  go_wp2_with fail
  refine (operator_any 5 16 (by simp) _).mono ?_
  rintro e w1 ⟨rfl, hb1⟩
  go_wp2_with (first | (go_at_call 77; refine (mk64 _ _).mono ?_; rintro e w' ⟨rfl, rfl⟩) | (go_at_call 74; refine (bin_rem _ _ hb _).mono ?_; rintro e w' ⟨rfl, rfl⟩) | (go_at_call 76; refine (int64Val_64 _ _).mono ?_; rintro e w' ⟨rfl, rfl⟩))
  go_ret2
  exact ⟨rfl, hb1⟩
end Go.Proofs.YtocahcammjoffaaGreatDoor
