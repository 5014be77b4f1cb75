/- Walks and lemmas for the laws of this seat. -/
import Derived.Test.YtocahcammjoffaaGreatDoorN4
import Derived.Shelf.Spec.BitsCarry
namespace Go.Proofs.YtocahcammjoffaaGreatDoor
open Go.RowKit Go.Dig
set_option maxRecDepth 100000
theorem info158 : (Tryz.prog.info? 158).map (fun i => (i.zero, i.size, i.bytes)) = some (some (.int .u64 0), 1, 8) := by kernel_rfl
theorem make_words (n m : Nat) (hn : n ≤ m) (hm : m ≤ 1000000) (w : World) :
    (Instr.makeSlice 198 (.int .i64 (n : Int)) (.int .i64 (m : Int))).run Tryz.prog w = .ok (.slice (some ⟨w.heap.size, 0, none⟩) n m) (w.alloc (.cells (madeCells #[.int .u64 0] m) 158)) := by
  obtain ⟨i, hi, hzz⟩ := Option.map_eq_some_iff.1 info158
  simp only [Prod.mk.injEq] at hzz
  obtain ⟨hz, hs, hb⟩ := hzz
  have hr := run_make (P := Tryz.prog) w 198 158 i (.int .u64 0) Tryz.underlying198 hi hz .i64 .i64 n m (by omega) (by omega) (by rw [hb]; omega) (by omega)
  simp only [Int.toNat_natCast, hs, Nat.mul_one] at hr
  exact hr
set_option maxHeartbeats 400000 in
theorem natMake_any (k : Nat) (hk : 1 < k) (hk2 : k < 1000) (w : World) : Calls Tryz.prog 241 #[.slice none 0 0, .int .i64 k] w fun e w' => e = .returned (.slice (some ⟨w.heap.size, 0, none⟩) k (k + 4)) ∧ w' = w.alloc (.cells (cs .u64 (List.replicate (k + 4) 0)).toArray 158) := by
  have hmk := make_words k (k + 4) (by omega) (by omega)
  have ec : ((k + 4 : Nat) : Int) = (k : Int) + 4 := by omega
  rw [ec] at hmk
  go_enter Tryz.func241, Tryz.ntmps241
  go_wp2_with fail
  go_ret
  rw [cs_zeros]
  exact ⟨rfl, rfl⟩
set_option maxHeartbeats 400000 in
theorem natMake_one (w : World) : Calls Tryz.prog 241 #[.slice none 0 0, .int .i64 1] w fun e w' => e = .returned (.slice (some ⟨w.heap.size, 0, none⟩) 1 1) ∧ w' = w.alloc (.cells (cs .u64 [0]).toArray 158) := by
  have hmk : ∀ w, (Instr.makeSlice 198 (.int .i64 1) (.int .i64 1)).run Tryz.prog w = .ok (.slice (some ⟨w.heap.size, 0, none⟩) 1 1) (w.alloc (.cells (madeCells #[.int .u64 0] 1) 158)) := make_words 1 1 (by omega) (by omega)
  go_enter Tryz.func241, Tryz.ntmps241
  go_wp2_with fail
  go_ret
  rw [cs_zeros]
  exact ⟨rfl, rfl⟩
theorem add64_c (x y c : Nat) (hc : c ≤ 1) (w : World) :
    (callFunc 322 #[.int .u64 x, .int .u64 y, .int .u64 c]).run Tryz.prog w =
      .ok (.value (.tuple #[.int .u64 (((x + y + c) % 18446744073709551616 : Nat) : Int), .int .u64 (((x + y + c) / 18446744073709551616 : Nat) : Int)])) w := by
  rw [run_callFunc_extern Tryz.func322 (by kernel_rfl) (by kernel_rfl) (by kernel_rfl) (e := add64Entry) (by kernel_rfl), run_add64 x y c (by omega) (by omega) (by omega) (by omega)]
  simp only [Result.andThen]
  congr 5 <;> omega
theorem sub64_c (x y b : Nat) (hb : b ≤ 1) (w : World) :
    (callFunc 325 #[.int .u64 x, .int .u64 y, .int .u64 b]).run Tryz.prog w =
      .ok (.value (.tuple #[.int .u64 (((x + 18446744073709551616 - y - b) % 18446744073709551616 : Nat) : Int), .int .u64 ((if x < y + b then 1 else 0 : Nat) : Int)])) w := by
  rw [run_callFunc_extern Tryz.func325 (by kernel_rfl) (by kernel_rfl) (by kernel_rfl) (e := sub64Entry) (by kernel_rfl), run_sub64 x y b hb]
  rfl
set_option maxHeartbeats 400000 in
theorem bitsAdd_any (x y c : Nat) (hc : c ≤ 1) (w : World) : Calls Tryz.prog 291 #[.int .u64 x, .int .u64 y, .int .u64 c] w fun e w' => e = .returned (.tuple #[.int .u64 ((x + y + c) % 18446744073709551616 : Nat), .int .u64 ((x + y + c) / 18446744073709551616 : Nat)]) ∧ w' = w := by
  have hr := add64_c x y c hc w
  generalize (x + y + c) % 18446744073709551616 = u at *
  generalize (x + y + c) / 18446744073709551616 = v at *
  go_enter Tryz.func291, Tryz.ntmps291
  go_wp2_with fail
  go_ret2
  exact ⟨rfl, rfl⟩
set_option maxHeartbeats 400000 in
theorem bitsSub_any (x y b : Nat) (hb : b ≤ 1) (w : World) : Calls Tryz.prog 296 #[.int .u64 x, .int .u64 y, .int .u64 b] w fun e w' => e = .returned (.tuple #[.int .u64 ((x + 18446744073709551616 - y - b) % 18446744073709551616 : Nat), .int .u64 ((if x < y + b then 1 else 0 : Nat) : Int)]) ∧ w' = w := by
  have hr := sub64_c x y b hb w
  generalize (x + 18446744073709551616 - y - b) % 18446744073709551616 = u at *
  generalize (if x < y + b then 1 else 0 : Nat) = v at *
  go_enter Tryz.func296, Tryz.ntmps296
  go_wp2_with fail
  go_ret2
  exact ⟨rfl, rfl⟩
end Go.Proofs.YtocahcammjoffaaGreatDoor
