/- Walks and lemmas for the laws of this seat. -/
import Derived.Test.YtocahcammjoffaaGreatDoorB3
namespace Go.Proofs.YtocahcammjoffaaGreatDoor
open Go.RowKit
set_option maxRecDepth 100000
theorem below_over {w w1 : World} {o : Obj} (h : Below (w.alloc o).heap.size (w.alloc o) w1) : Below w.heap.size w w1 :=
  ((Below.refl w.heap.size w).alloc (Nat.le_refl _) o).trans (h.mono (by rw [World.alloc]; simp))
set_option maxHeartbeats 400000 in
theorem bits_walk (op a b : Int) (h0 : 0 ≤ op) (h1 : op ≤ 255) (w : World) : Calls Tryz.prog 11 #[.int .u8 op, .int .i64 a, .int .i64 b] w fun e w' => e = .returned (.bool true) ∧ Below w.heap.size w w' := by
  have hm : op % 4 = (0 : Nat) ∨ op % 4 = (1 : Nat) ∨ op % 4 = (2 : Nat) ∨ op % 4 = (3 : Nat) := by omega
  rcases hm with h | h | h | h
  all_goals
    go_enter Tryz.func11, Tryz.ntmps11
    go_wp2_with fail
  · refine (small_and _ _ _).mono ?_
    rintro e w1 ⟨rfl, hb1⟩
    go_wp2_with fail
    go_ret
    exact ⟨rfl, below_over hb1⟩
  · refine (small_or _ _ _).mono ?_
    rintro e w1 ⟨rfl, hb1⟩
    go_wp2_with fail
    go_ret
    exact ⟨rfl, below_over hb1⟩
  · refine (small_xor _ _ _).mono ?_
    rintro e w1 ⟨rfl, hb1⟩
    go_wp2_with fail
    go_ret
    exact ⟨rfl, below_over hb1⟩
  · refine (small_andNot _ _ _).mono ?_
    rintro e w1 ⟨rfl, hb1⟩
    go_wp2_with fail
    go_ret
    exact ⟨rfl, below_over hb1⟩
end Go.Proofs.YtocahcammjoffaaGreatDoor
