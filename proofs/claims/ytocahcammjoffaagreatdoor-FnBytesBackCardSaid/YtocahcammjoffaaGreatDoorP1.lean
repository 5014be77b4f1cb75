/- Walks and lemmas for the laws of this seat. -/
import Derived.Test.YtocahcammjoffaaGreatDoorS20
namespace Go.Proofs.YtocahcammjoffaaGreatDoor
open Go.RowKit Go.Dig
set_option maxRecDepth 100000
theorem sgn_abs (S : Int) : sgn (decide (S < 0)) S.natAbs = S := by
  rcases Int.lt_or_le S 0 with h | h
  · rw [decide_eq_true h, sgn_true]; omega
  · rw [decide_eq_false (by omega), sgn_false]; omega
theorem sum_abs (a b : Int) : sgn (decide (a < 0)) (a.natAbs * 1) + sgn (decide (b < 0)) (b.natAbs * 1) = a + b := by
  rw [Nat.mul_one, Nat.mul_one, sgn_abs, sgn_abs]
theorem dif_abs (a b : Int) : sgn (decide (a < 0)) (a.natAbs * 1) - sgn (decide (b < 0)) (b.natAbs * 1) = a - b := by
  rw [Nat.mul_one, Nat.mul_one, sgn_abs, sgn_abs]
theorem sgn_mul (s t : Bool) (m n : Nat) : sgn (s != t) (m * n) = sgn s m * sgn t n := by
  cases s <;> cases t
  · show sgn false (m * n) = sgn false m * sgn false n
    rw [sgn_false, sgn_false, sgn_false, Int.natCast_mul]
  · show sgn true (m * n) = sgn false m * sgn true n
    rw [sgn_true, sgn_true, sgn_false, Int.natCast_mul, Int.mul_neg]
  · show sgn true (m * n) = sgn true m * sgn false n
    rw [sgn_true, sgn_true, sgn_false, Int.natCast_mul, Int.neg_mul]
  · show sgn false (m * n) = sgn true m * sgn true n
    rw [sgn_true, sgn_true, sgn_false, Int.natCast_mul, Int.neg_mul_neg]
theorem prod_abs (a b : Int) : sgn (decide (a < 0) != decide (b < 0)) (a.natAbs * b.natAbs) = a * b := by
  rw [sgn_mul, sgn_abs, sgn_abs]
theorem abs_len (S : Int) (h : S.natAbs < 65536 ^ 9) : (dg 65536 S.natAbs).length ≤ 100000 := Nat.le_trans (dg_length_le (by omega) h) (by omega)
theorem sum_bound {a b : Int} (l0 : -9223372036854775808 ≤ a) (u0 : a ≤ 9223372036854775807) (l1 : -9223372036854775808 ≤ b) (u1 : b ≤ 9223372036854775807) : (a + b).natAbs < 65536 ^ 9 := by
  have : (65536 : Nat) ^ 9 > 36893488147419103232 := by decide
  omega
theorem dif_bound {a b : Int} (l0 : -9223372036854775808 ≤ a) (u0 : a ≤ 9223372036854775807) (l1 : -9223372036854775808 ≤ b) (u1 : b ≤ 9223372036854775807) : (a - b).natAbs < 65536 ^ 9 := by
  have : (65536 : Nat) ^ 9 > 36893488147419103232 := by decide
  omega
theorem prod_bound {a b : Int} (l0 : -9223372036854775808 ≤ a) (u0 : a ≤ 9223372036854775807) (l1 : -9223372036854775808 ≤ b) (u1 : b ≤ 9223372036854775807) : (a * b).natAbs < 65536 ^ 9 := by
  rw [Int.natAbs_mul]
  calc a.natAbs * b.natAbs ≤ 9223372036854775808 * 9223372036854775808 := Nat.mul_le_mul (by omega) (by omega)
    _ < _ := by decide
end Go.Proofs.YtocahcammjoffaaGreatDoor
