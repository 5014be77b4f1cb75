/- Walks and lemmas for the laws of this seat. -/
import Derived.Test.YtocahcammjoffaaGreatDoorM3
namespace Go.Proofs.YtocahcammjoffaaGreatDoor
open Go.RowKit Go.MuLone
set_option maxRecDepth 100000
set_option maxHeartbeats 400000 in
theorem told_str (b : Nat) (s : ByteArray) (w : World) (h : Sv w b s) : Calls Tryz.prog 62 #[.iface 180 (.pointer (some ⟨b, 0, none⟩))] w fun e w' => e = .returned (.agg #[.int .i64 2, .bool false, .string s, .bool false, .slice none 0 0, .slice none 0 0, .bool false, .slice none 0 0, .slice none 0 0]) ∧ Below w.heap.size w w' := by
  have H := hid h
  clear h
  go_enter Tryz.func62, Tryz.ntmps62
  go_wp2_with (first | (go_at_call 404; refine (kind_str _ _).mono ?_; rintro e w' ⟨rfl, rfl⟩))
  refine (stringVal_one b s _ ((H.out.alloc _).alloc _)).mono ?_
  rintro e w1 ⟨rfl, rfl⟩
  go_wp2_with fail
  refine bodyPost_ret (v := .agg #[.int .i64 2, .bool false, .string s, .bool false, .slice none 0 0, .slice none 0 0, .bool false, .slice none 0 0, .slice none 0 0]) (by simp [results, Tryz.results62, go_sem]) rfl ⟨rfl, ?_⟩
  exact ((Below.refl _ _).alloc (Nat.le_refl _) _).alloc (by simp) _
set_option maxHeartbeats 400000 in
theorem kind_bool (v : Value) (w : World) : Calls Tryz.prog 396 #[v] w fun e w' => e = .returned (.int .i64 1) ∧ w = w' := by
  go_enter Tryz.func396, Tryz.ntmps396
  go_wp2_with fail
  go_ret
  exact ⟨rfl, rfl⟩
set_option maxHeartbeats 400000 in
theorem told_bool (t : Bool) (w : World) : Calls Tryz.prog 62 #[.iface 165 (.bool t)] w fun e w' => e = .returned (.agg #[.int .i64 1, .bool t, .string (ByteArray.mk #[]), .bool false, .slice none 0 0, .slice none 0 0, .bool false, .slice none 0 0, .slice none 0 0]) ∧ Below w.heap.size w w' := by
  have h1 := ta_165_165
  go_enter Tryz.func62, Tryz.ntmps62
  go_wp2_with (first | (go_at_call 396; refine (kind_bool _ _).mono ?_; rintro e w' ⟨rfl, rfl⟩))
  refine (boolVal t _).mono ?_
  rintro e w1 ⟨rfl, rfl⟩
  go_wp2_with fail
  refine bodyPost_ret (v := .agg #[.int .i64 1, .bool t, .string (ByteArray.mk #[]), .bool false, .slice none 0 0, .slice none 0 0, .bool false, .slice none 0 0, .slice none 0 0]) (by simp [results, Tryz.results62, go_sem]) rfl ⟨rfl, ?_⟩
  exact ((Below.refl _ _).alloc (Nat.le_refl _) _).alloc (by simp) _
end Go.Proofs.YtocahcammjoffaaGreatDoor
