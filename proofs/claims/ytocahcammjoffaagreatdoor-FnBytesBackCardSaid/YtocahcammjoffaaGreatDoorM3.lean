/- Walks and lemmas for the laws of this seat. -/
import Derived.Test.YtocahcammjoffaaGreatDoorM2
import Derived.Test.YtocahcammjoffaaGreatDoorW8
namespace Go.Proofs.YtocahcammjoffaaGreatDoor
open Go.RowKit Go.MuLone
set_option maxRecDepth 100000
theorem empty_of {s : ByteArray} (h : s.toList.isEmpty = true) : s = ByteArray.mk #[] := by
  rw [ByteArray.toList_eq, List.isEmpty_iff] at h
  exact ByteArray.ext (Array.toList_inj.1 h)
set_option maxHeartbeats 400000 in
theorem mkString_any (s : ByteArray) (w : World) : Calls Tryz.prog 85 #[.string s] w fun e w' => ∃ b, e = .returned (.iface 180 (.pointer (some ⟨b, 0, none⟩))) ∧ Hid (w.heap.size ≤ b) ∧ Sv w' b s ∧ Below w.heap.size w w' := by
  go_enter Tryz.func85, Tryz.ntmps85
  go_wp2_with fail
  · rename_i h
    obtain rfl := empty_of h
    go_ret
    exact ⟨_, rfl, hid (Nat.le_refl _), blk_new w _ 187, (Below.refl _ _).alloc (Nat.le_refl _) _⟩
  · go_ret
    exact ⟨_, rfl, hid (Nat.le_refl _), blk_new w _ 187, (Below.refl _ _).alloc (Nat.le_refl _) _⟩
set_option maxHeartbeats 400000 in
theorem stringVal_one (b : Nat) (s : ByteArray) (w : World) (h : Sv w b s) : Calls Tryz.prog 84 #[.iface 180 (.pointer (some ⟨b, 0, none⟩))] w fun e w' => e = .returned (.string s) ∧ w = w' := by
  have h1 := ta_180_180
  go_enter Tryz.func84, Tryz.ntmps84
  go_wp2_with fail
  refine (string_one b s w h).mono ?_
  rintro e w1 ⟨rfl, rfl⟩
  go_wp2_with fail
  go_ret
  exact ⟨rfl, rfl⟩
set_option maxHeartbeats 400000 in
theorem kind_str (v : Value) (w : World) : Calls Tryz.prog 404 #[v] w fun e w' => e = .returned (.int .i64 2) ∧ w = w' := by
  go_enter Tryz.func404, Tryz.ntmps404
  go_wp2_with fail
  go_ret
  exact ⟨rfl, rfl⟩
end Go.Proofs.YtocahcammjoffaaGreatDoor
