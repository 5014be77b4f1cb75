/- Walks and lemmas for the laws of this seat. -/
import Derived.Test.YtocahcammjoffaaGreatDoorN3
namespace Go.Proofs.YtocahcammjoffaaGreatDoor
open Go.RowKit Go.Dig
set_option maxRecDepth 100000
theorem iv_zero (w : World) (s : Bool) : Iv (w.alloc (.cells #[.bool s, .slice none 0 0] 203)) w.heap.size s 0 :=
  ⟨_, blk_new w _ 203, by rw [Nw, dg_zero]; exact Rt.nil _ _ _⟩
theorem dg_one {n : Nat} (h0 : 0 < n) (h1 : n < 18446744073709551616) : dg 18446744073709551616 n = [n] := by
  rw [dg_pos (by omega) (by omega), Nat.mod_eq_of_lt h1, Nat.div_eq_of_lt h1, dg_zero]
theorem iv_new (w : World) (s : Bool) (z : Int) (n : Nat) (hz : z = (n : Int)) (h0 : 0 < n) (h1 : n < 18446744073709551616) :
    Iv ((w.alloc (.cells #[.int .u64 z] 158)).alloc (.cells #[.bool s, .slice (some ⟨w.heap.size, 0, none⟩) 1 1] 203)) (w.heap.size + 1) s n := by
  subst hz
  refine ⟨.slice (some ⟨w.heap.size, 0, none⟩) 1 1, ?_, ?_⟩
  · have := blk_new (w.alloc (.cells #[.int .u64 (n : Int)] 158)) #[.bool s, .slice (some ⟨w.heap.size, 0, none⟩) 1 1] 203
    simpa using this
  · have hB : BlkN .u64 158 (w.alloc (.cells #[.int .u64 (n : Int)] 158)) w.heap.size [n] := blk_new w _ 158
    have h := BlkN.rt hB (cap := 1) (by simp) (by omega)
    rw [← dg_one h0 h1] at h
    rw [show (dg 18446744073709551616 n).length = 1 by rw [dg_one h0 h1]; rfl] at h
    exact h.below ((Below.refl _ _).alloc (Nat.le_refl _) _) (Nat.le_refl _)
set_option maxHeartbeats 400000 in
theorem newInt_any (w : World) : Calls Tryz.prog 120 #[] w fun e w' => e = .returned (.pointer (some ⟨w.heap.size, 0, none⟩)) ∧ Blk w' w.heap.size #[.bool false, .slice none 0 0] 203 ∧ Below w.heap.size w w' := by
  go_enter Tryz.func120, Tryz.ntmps120
  go_wp2_with fail
  go_ret
  exact ⟨rfl, blk_new w _ 203, (Below.refl _ _).alloc (Nat.le_refl _) _⟩
set_option maxHeartbeats 400000 in
theorem bigNewInt_any (x : Int) (w : World) (h0 : -9223372036854775808 ≤ x) (h1 : x ≤ 9223372036854775807) : Calls Tryz.prog 127 #[.int .i64 x] w fun e w' => ∃ b, e = .returned (.pointer (some ⟨b, 0, none⟩)) ∧ Hid (w.heap.size ≤ b) ∧ Iv w' b (decide (x < 0)) x.natAbs ∧ Below w.heap.size w w' := by
  rcases Int.lt_trichotomy x 0 with hx | hx | hx
  · obtain ⟨n, rfl⟩ : ∃ n : Nat, x = -(n : Int) := ⟨x.natAbs, by omega⟩
    have hu := u64_neg n (by omega) (by omega)
    rw [Int.natAbs_neg, Int.natAbs_natCast]
    go_enter Tryz.func127, Tryz.ntmps127
    go_wp2_with fail
    go_ret
    have e : decide (-(n : Int) < 0) = true := decide_eq_true hx
    rw [e]
    exact ⟨_, rfl, hid (by omega), iv_new w _ _ n rfl (by omega) (by omega), ((Below.refl _ _).alloc (Nat.le_refl _) _).alloc (by simp) _⟩
  · subst hx
    go_enter Tryz.func127, Tryz.ntmps127
    go_wp2_with fail
    go_ret
    exact ⟨_, rfl, hid (Nat.le_refl _), iv_zero w false, (Below.refl _ _).alloc (Nat.le_refl _) _⟩
  · obtain ⟨n, rfl⟩ : ∃ n : Nat, x = (n : Int) := ⟨x.natAbs, by omega⟩
    rw [Int.natAbs_natCast]
    go_enter Tryz.func127, Tryz.ntmps127
    go_wp2_with fail
    go_ret
    have e : decide ((n : Int) < 0) = false := decide_eq_false (by omega)
    rw [e]
    exact ⟨_, rfl, hid (by omega), iv_new w _ _ n rfl (by omega) (by omega), ((Below.refl _ _).alloc (Nat.le_refl _) _).alloc (by simp) _⟩
end Go.Proofs.YtocahcammjoffaaGreatDoor
