/- Floats: plain laws, IsInf, IsNaN, Frexp; the reference's OfBits. -/
import Ieee.Arith
import Derived.Test.YtdhgdachchhflaaGreatDoorQA
import Derived.Test.YtdhgdachchhflaaGreatDoorQC
namespace Go.Fl
open Ieee
theorem log2_eq {n k : Nat} (h0 : 2 ^ k ≤ n) (h1 : n < 2 ^ (k + 1)) : n.log2 = k := by
  have hn : n ≠ 0 := by have := Nat.two_pow_pos k; omega
  have a : k ≤ n.log2 := (Nat.le_log2 hn).2 h0
  have b : n.log2 < k + 1 := (Nat.log2_lt hn).2 h1
  omega
theorem cut_exact (neg : Bool) {m : Nat} (k : Nat) (hm : m ≠ 0) : Toward.even.cut neg (m * 2 ^ k) k = m := by
  have hp := Nat.two_pow_pos k
  have h2 : 2 ^ k ≤ m * 2 ^ k := Nat.le_mul_of_pos_left _ (by omega)
  have h1 : k ≤ (m * 2 ^ k).log2 := (Nat.le_log2 (by omega)).2 h2
  have hmin : min k ((m * 2 ^ k).log2 + 2) = k := Nat.min_eq_left (by omega)
  unfold Toward.cut
  simp only [hmin, Nat.one_shiftLeft, Nat.mul_div_cancel _ hp, Nat.mul_mod_left]
  simp
theorem dbl_least : Ieee.double.leastPlace = -1074 := by decide
theorem dbl_binade : Ieee.double.binade = 4503599627370496 := by decide
theorem dbl_inf : Ieee.double.infRung = 9218868437227405312 := by decide
theorem dbl_sign : Ieee.double.signWeight = 9223372036854775808 := by decide
theorem dbl_frac : Ieee.double.fractionBits = 52 := rfl
/-- How a rung stands for a magnitude: m times 2 to the power of k. -/
def Mk (r m k : Nat) : Prop := r = k * 4503599627370496 + m ∧ ((4503599627370496 ≤ m ∧ m < 9007199254740992) ∨ (m < 4503599627370496 ∧ k = 0))
theorem nearest_dbl (neg : Bool) {r m k : Nat} (hm : m ≠ 0) (h : Mk r m k) (hr : r < 9218868437227405312) : Ieee.double.nearest neg (m * 2 ^ k) (-1074) = Ieee.double.word neg r := by
  obtain ⟨rfl, h⟩ := h
  have hp := Nat.two_pow_pos k
  have h0 : m * 2 ^ k ≠ 0 := Nat.mul_ne_zero hm (by omega)
  have hlast : max (-1074 + ((m * 2 ^ k).log2 : Int) - 52) (-1074) = -1074 + (k : Int) := by
    rcases h with ⟨h1, h2⟩ | ⟨h1, rfl⟩
    · have e : (m * 2 ^ k).log2 = 52 + k := log2_eq (by rw [Nat.pow_add]; exact Nat.mul_le_mul_right _ (by omega)) (by
        rw [show 52 + k + 1 = 53 + k by omega, Nat.pow_add]
        exact (Nat.mul_lt_mul_right hp).2 (by omega))
      rw [e]
      omega
    · have e : (m * 2 ^ 0).log2 < 52 := by
        rw [Nat.pow_zero, Nat.mul_one]
        exact (Nat.log2_lt hm).2 (by omega)
      omega
  unfold Format.nearest
  rw [if_neg h0]
  simp only [dbl_least, dbl_binade, dbl_inf, dbl_frac]
  have hlast' : max ((-1074 : Int) + ((m * 2 ^ k).log2 : Int) - ((52 : Nat) : Int)) (-1074) = -1074 + (k : Int) := hlast
  rw [hlast']
  have e1 : ((-1074 : Int) - (-1074 + (k : Int))).toNat = 0 := by omega
  have e2 : ((-1074 : Int) + (k : Int) - -1074).toNat = k := by omega
  rw [e1, e2, Nat.shiftLeft_zero, cut_exact neg k hm, Nat.min_eq_left (by omega)]
theorem read_dbl {x : Nat} (h : x % 9223372036854775808 < 9218868437227405312) :
    ∃ m k : Nat, Ieee.double.read x = .number (x / 9223372036854775808 % 2 == 1) m (-1074 + (k : Int)) ∧ Mk (x % 9223372036854775808) m k := by
  unfold Format.read
  simp only [dbl_least, dbl_binade, dbl_inf, dbl_sign]
  by_cases h1 : x % 9223372036854775808 < 4503599627370496
  · exact ⟨x % 9223372036854775808, 0, by rw [if_pos h1]; simp, by simp, .inr ⟨h1, rfl⟩⟩
  · refine ⟨4503599627370496 + x % 9223372036854775808 % 4503599627370496, x % 9223372036854775808 / 4503599627370496 - 1, by rw [if_neg h1, if_pos h], ?_, .inl ?_⟩
    · omega
    · omega
theorem read_zero : Ieee.double.read 0 = .number false 0 (-1074) := by decide
theorem word_back {x : Nat} (hx : x < 18446744073709551616) : Ieee.double.word (x / 9223372036854775808 % 2 == 1) (x % 9223372036854775808) = x := by
  unfold Format.word
  rw [dbl_sign]
  by_cases h : x / 9223372036854775808 % 2 = 1
  · rw [h]; simp; omega
  · have h' : (x / 9223372036854775808 % 2 == 1) = false := by simpa using h
    rw [h']
    simp
    omega
theorem add_zero {x : Nat} (hx : x < 18446744073709551616) (h : x % 9223372036854775808 < 9218868437227405312) :
    Ieee.double.add x 0 = some (if x % 9223372036854775808 = 0 then 0 else x) := by
  obtain ⟨m, k, e, hk⟩ := read_dbl h
  have hk2 := hk
  obtain ⟨hr, hc⟩ := hk2
  have hs := word_back hx
  unfold Format.add
  rw [e, read_zero]
  generalize hneg : (x / 9223372036854775808 % 2 == 1) = neg at *
  unfold Datum.sum
  have hb : min (-1074 + (k : Int)) (-1074) = -1074 := by omega
  have e1 : (-1074 + (k : Int) - -1074).toNat = k := by omega
  simp only [hb, e1]
  have e2 : ((-1074 : Int) - -1074).toNat = 0 := rfl
  rw [e2]
  by_cases hm : m = 0
  · subst hm
    have hx0 : x % 9223372036854775808 = 0 := by rcases hc with ⟨h1, _⟩ | ⟨_, rfl⟩ <;> omega
    rw [if_pos hx0]
    cases neg <;> simp [signed, Format.write, Format.nearest, Format.word]
  · have hx0 : x % 9223372036854775808 ≠ 0 := by
      rcases hc with ⟨h1, _⟩ | ⟨_, rfl⟩ <;> omega
    rw [if_neg hx0]
    have hpos : 0 < m * 2 ^ k := Nat.mul_pos (by omega) (Nat.two_pow_pos k)
    have hn := nearest_dbl neg hm hk h
    rw [hs] at hn
    have ht : signed neg m k + signed false 0 0 = if neg then -((m * 2 ^ k : Nat) : Int) else ((m * 2 ^ k : Nat) : Int) := by
      cases neg <;> simp [signed, Nat.shiftLeft_eq]
    rw [ht]
    cases neg
    · simp only [Bool.false_eq_true, if_false]
      rw [if_neg (by omega), Int.natAbs_natCast]
      have : decide (((m * 2 ^ k : Nat) : Int) < 0) = false := decide_eq_false (by omega)
      rw [this]
      simp only [Option.map_some, Format.write]
      rw [hn]
    · simp only [if_true]
      rw [if_neg (by omega), Int.natAbs_neg, Int.natAbs_natCast]
      have : decide (-((m * 2 ^ k : Nat) : Int) < 0) = true := decide_eq_true (by omega)
      rw [this]
      simp only [Option.map_some, Format.write]
      rw [hn]
end Go.Fl
namespace Go.Fl
open Ieee
theorem read_inf {x : Nat} (h : x % 9223372036854775808 = 9218868437227405312) : Ieee.double.read x = .infinity (x / 9223372036854775808 % 2 == 1) := by
  unfold Format.read
  simp only [dbl_binade, dbl_inf, dbl_sign]
  rw [if_neg (by omega), if_neg (by omega), if_pos h]
theorem read_nan {x : Nat} (h : 9218868437227405312 < x % 9223372036854775808) : ∃ s t, Ieee.double.read x = .nan s t := by
  unfold Format.read
  simp only [dbl_binade, dbl_inf, dbl_sign]
  rw [if_neg (by omega), if_neg (by omega), if_neg (by omega)]
  exact ⟨_, _, rfl⟩
theorem cmp_self (a : Int) : compare a a = .eq := by simp [compare, compareOfLessAndEq]
theorem cmp_selfN (a : Nat) : compare a a = .eq := by simp [compare, compareOfLessAndEq]
theorem order_self {x : Nat} (h : x % 9223372036854775808 ≤ 9218868437227405312) : Ieee.double.order x x = some .eq := by
  unfold Format.order
  rcases Nat.lt_or_ge (x % 9223372036854775808) 9218868437227405312 with h' | h'
  · obtain ⟨m, k, e, _⟩ := read_dbl h'
    rw [e]
    simp only [Datum.order, cmp_self]
  · rw [read_inf (by omega)]
    simp only [Datum.order, cmp_selfN]
theorem order_nan {x : Nat} (h : 9218868437227405312 < x % 9223372036854775808) : Ieee.double.order x x = none := by
  obtain ⟨s, t, e⟩ := read_nan h
  unfold Format.order
  rw [e]
  rfl
theorem read_max : Ieee.double.read 9218868437227405311 = .number false 9007199254740991 971 := by decide
theorem order_max_inf : Ieee.double.order 9218868437227405312 9218868437227405311 = some .gt := by
  unfold Format.order
  rw [read_max, read_inf (by decide)]
  rfl
theorem order_max {x : Nat} (h : x < 9218868437227405312) : (Ieee.double.order x 9218868437227405311 == some .gt) = false := by
  have hx : x % 9223372036854775808 = x := Nat.mod_eq_of_lt (by omega)
  obtain ⟨m, k, e, hr, hc⟩ := read_dbl (x := x) (by omega)
  unfold Format.order
  rw [e, read_max]
  have hneg : (x / 9223372036854775808 % 2 == 1) = false := by
    rw [Nat.div_eq_of_lt (by omega)]; rfl
  rw [hneg]
  have hk : k ≤ 2045 := by rcases hc with ⟨h1, _⟩ | ⟨_, rfl⟩ <;> omega
  have hm : m ≤ 9007199254740991 := by rcases hc with ⟨_, h1⟩ | ⟨h1, _⟩ <;> omega
  have hb : min (-1074 + (k : Int)) 971 = -1074 + (k : Int) := by omega
  have hle : m ≤ 9007199254740991 * 2 ^ (971 - (-1074 + (k : Int))).toNat := Nat.le_trans hm (Nat.le_mul_of_pos_right _ (Nat.two_pow_pos _))
  simp only [Datum.order, hb, signed, Bool.false_eq_true, if_false, Nat.shiftLeft_eq]
  rw [show (-1074 + (k : Int) - (-1074 + (k : Int))).toNat = 0 by omega, Nat.pow_zero, Nat.mul_one]
  generalize 9007199254740991 * 2 ^ (971 - (-1074 + (k : Int))).toNat = M at *
  simp only [compare, compareOfLessAndEq]
  by_cases h1 : (m : Int) < (M : Int)
  · rw [if_pos h1]; rfl
  · rw [if_neg h1, if_pos (by omega)]; rfl
theorem order_zero {x : Nat} (hx : x < 18446744073709551616) (h : x % 9223372036854775808 < 9218868437227405312) :
    (Ieee.double.order x 0 == some .lt) = (decide (9223372036854775808 ≤ x) && decide (x % 9223372036854775808 ≠ 0)) := by
  obtain ⟨m, k, e, hr, hc⟩ := read_dbl h
  unfold Format.order
  rw [e, read_zero]
  have hb : min (-1074 + (k : Int)) (-1074) = -1074 := by omega
  simp only [Datum.order, hb]
  rw [show (-1074 + (k : Int) - -1074).toNat = k by omega, show ((-1074 : Int) - -1074).toNat = 0 from rfl]
  have hp := Nat.two_pow_pos k
  have hz : signed false 0 0 = 0 := rfl
  rw [hz]
  by_cases hs : 9223372036854775808 ≤ x
  · have e1 : (x / 9223372036854775808 % 2 == 1) = true := by
      rw [show x / 9223372036854775808 = 1 by omega]; rfl
    rw [e1]
    simp only [signed, if_true, Nat.shiftLeft_eq]
    by_cases hm : m = 0
    · subst hm
      have hx0 : x % 9223372036854775808 = 0 := by rcases hc with ⟨h1, _⟩ | ⟨_, rfl⟩ <;> omega
      rw [hx0, Nat.zero_mul]
      simp [compare, compareOfLessAndEq, hs]
    · have hx0 : x % 9223372036854775808 ≠ 0 := by rcases hc with ⟨h1, _⟩ | ⟨_, rfl⟩ <;> omega
      have hpos : 0 < m * 2 ^ k := Nat.mul_pos (by omega) hp
      generalize m * 2 ^ k = M at *
      simp only [compare, compareOfLessAndEq]
      rw [if_pos (show -((M : Nat) : Int) < 0 by omega)]
      simp [hs, hx0]
  · have e1 : (x / 9223372036854775808 % 2 == 1) = false := by
      rw [Nat.div_eq_of_lt (by omega)]; rfl
    rw [e1]
    simp only [signed, Bool.false_eq_true, if_false, Nat.shiftLeft_eq]
    generalize m * 2 ^ k = M at *
    simp only [compare, compareOfLessAndEq]
    rw [if_neg (show ¬ ((M : Nat) : Int) < 0 by omega)]
    simp only [hs, decide_false, Bool.false_and]
    split <;> rfl
theorem mul_some {x y : Nat} (h : x % 9223372036854775808 < 9218868437227405312) (h2 : y % 9223372036854775808 < 9218868437227405312) : ∃ r, Ieee.double.mul x y = some r := by
  obtain ⟨m, k, e, _⟩ := read_dbl h
  obtain ⟨m2, k2, e2, _⟩ := read_dbl h2
  unfold Format.mul
  rw [e, e2]
  exact ⟨_, rfl⟩
end Go.Fl
namespace Go.Proofs.YtdhgdachchhflaaGreatDoor
open Go.RowKit
set_option maxRecDepth 100000
theorem f64bits_any (b : Nat) (w : World) : (callFunc 44 #[.float .f64 b]).run Tryz.prog w = .ok (.value (.int .u64 b)) w := by
  rw [run_callFunc_extern Tryz.func44 (by kernel_rfl) (by kernel_rfl) (by kernel_rfl) (e := Go.Extern.MathFloatBits.float64bits) (by kernel_rfl)]
  rfl
theorem f64from_any (z : Int) (w : World) : (callFunc 9 #[.int .u64 z]).run Tryz.prog w = .ok (.value (.float .f64 z.toNat)) w := by
  rw [run_callFunc_extern Tryz.func9 (by kernel_rfl) (by kernel_rfl) (by kernel_rfl) (e := Go.Extern.MathFloatBits.float64frombits) (by kernel_rfl)]
  rfl
theorem fmt64 : FloatKind.f64.format = Ieee.double := rfl
theorem unsign (x : Nat) (hx : x < 18446744073709551616) : bits .andNot .u64 (x : Int) 9223372036854775808 = ((x % 9223372036854775808 : Nat) : Int) := by
  have := u64_andNot_nat x 9223372036854775808 hx (by omega)
  rw [show (18446744073709551615 - 9223372036854775808 : Nat) = 2 ^ 63 - 1 from rfl, Nat.and_two_pow_sub_one_eq_mod] at this
  exact this
set_option maxHeartbeats 400000 in
theorem abs_any (x : Nat) (hx : x < 18446744073709551616) (w : World) : Calls Tryz.prog 42 #[.float .f64 x] w fun e w' => e = .returned (.float .f64 (x % 9223372036854775808)) ∧ w' = w := by
  have h1 := f64bits_any x
  have h2 := fun w => f64from_any ((x : Int) % 9223372036854775808) w
  have h3 := unsign x hx
  rw [show ((x : Int) % 9223372036854775808).toNat = x % 9223372036854775808 by omega] at h2
  go_enter Tryz.func42, Tryz.ntmps42
  go_wp2_with fail
  go_ret
  exact ⟨rfl, rfl⟩
set_option maxHeartbeats 400000 in
theorem isInf_any (x : Nat) (hx : x < 18446744073709551616) (w : World) : Calls Tryz.prog 21 #[.float .f64 x, .int .i64 0] w fun e w' => e = .returned (.bool (Ieee.double.order (x % 9223372036854775808) 9218868437227405311 == some .gt)) ∧ w' = w := by
  go_enter Tryz.func21, Tryz.ntmps21
  go_wp2_with (go_at_call 42; refine (abs_any x hx _).mono ?_; rintro e w' ⟨rfl, rfl⟩)
  go_ret
  exact ⟨rfl, rfl⟩
set_option maxHeartbeats 400000 in
theorem isNaN_any (x : Nat) (w : World) : Calls Tryz.prog 22 #[.float .f64 x] w fun e w' => e = .returned (.bool (Ieee.double.order x x != some .eq)) ∧ w' = w := by
  go_enter Tryz.func22, Tryz.ntmps22
  go_wp2_with fail
  go_ret
  exact ⟨rfl, rfl⟩
/-- A finite number. -/
theorem isInf_fin (x : Nat) (hx : x < 18446744073709551616) (hf : x % 9223372036854775808 < 9218868437227405312) (w : World) : Calls Tryz.prog 21 #[.float .f64 x, .int .i64 0] w fun e w' => e = .returned (.bool false) ∧ w' = w := by
  have := isInf_any x hx w
  rwa [Go.Fl.order_max hf] at this
theorem isNaN_fin (x : Nat) (hf : x % 9223372036854775808 < 9218868437227405312) (w : World) : Calls Tryz.prog 22 #[.float .f64 x] w fun e w' => e = .returned (.bool false) ∧ w' = w := by
  have := isNaN_any x w
  rwa [Go.Fl.order_self (by omega)] at this
theorem isInf_inf (x : Nat) (hx : x < 18446744073709551616) (hf : x % 9223372036854775808 = 9218868437227405312) (w : World) : Calls Tryz.prog 21 #[.float .f64 x, .int .i64 0] w fun e w' => e = .returned (.bool true) ∧ w' = w := by
  have := isInf_any x hx w
  rw [hf, Go.Fl.order_max_inf] at this
  exact this
theorem isNaN_nan (x : Nat) (hf : 9218868437227405312 < x % 9223372036854775808) (w : World) : Calls Tryz.prog 22 #[.float .f64 x] w fun e w' => e = .returned (.bool true) ∧ w' = w := by
  have := isNaN_any x w
  rw [Go.Fl.order_nan hf] at this
  exact this
set_option maxHeartbeats 400000 in
theorem normalize_fin (x : Nat) (hx : x < 18446744073709551616) (hf : x % 9223372036854775808 < 9218868437227405312) (w : World) : Calls Tryz.prog 97 #[.float .f64 x] w fun e w' => ∃ (y : Nat) (k : Int), e = .returned (.tuple #[.float .f64 y, .int .i64 k]) ∧ y < 18446744073709551616 ∧ -52 ≤ k ∧ k ≤ 0 ∧ w' = w := by
  obtain ⟨r, hr⟩ := Go.Fl.mul_some (y := 4841369599423283200) hf (by omega)
  have hr2 := fun t w => run_float_arith (P := Tryz.prog) w .mul t .f64 x 4841369599423283200 r hr
  have hr3 : r < 18446744073709551616 := Ieee.double.mul_lt hr
  cases ho : (Ieee.double.order (x % 9223372036854775808) 4503599627370496 == some .lt)
  all_goals
    have ho2 : (FloatKind.f64.format.order (x % 9223372036854775808) 4503599627370496 == some .lt) = _ := ho
    go_enter Tryz.func97, Tryz.ntmps97
    go_wp2_with (go_at_call 42; refine (abs_any x hx _).mono ?_; rintro e w' ⟨rfl, rfl⟩)
    all_goals go_ret2
  · exact ⟨x, 0, rfl, hx, by omega, by omega, rfl⟩
  · exact ⟨r, -52, rfl, hr3, by omega, by omega, rfl⟩
theorem band_exp (r : Nat) (hr : r < 18446744073709551616) : bits .and .u64 ((r : Int) / 4503599627370496) 2047 = ((r / 4503599627370496 % 2048 : Nat) : Int) := by
  rw [u64_and _ 2047 (by omega) (by omega) (by omega) (by omega), show (2047 : Int).toNat = 2 ^ 11 - 1 from rfl, Nat.and_two_pow_sub_one_eq_mod]
  omega
set_option maxHeartbeats 1000000 in
theorem frexp_fin (x : Nat) (hx : x < 18446744073709551616) (hf : x % 9223372036854775808 < 9218868437227405312) (w : World) : Calls Tryz.prog 73 #[.float .f64 x] w fun e w' => ∃ (y : Nat) (k : Int), e = .returned (.tuple #[.float .f64 y, .int .i64 k]) ∧ -2000 ≤ k ∧ k ≤ 2000 ∧ w' = w := by
  cases ho : (Ieee.double.order x 0 == some .eq)
  all_goals
    have ho2 : (FloatKind.f64.format.order x 0 == some .eq) = _ := ho
    go_enter Tryz.func73, Tryz.ntmps73
    go_wp2_with (first | (go_at_call 21; refine (isInf_fin x hx hf _).mono ?_; rintro e w' ⟨rfl, rfl⟩) | (go_at_call 22; refine (isNaN_fin x hf _).mono ?_; rintro e w' ⟨rfl, rfl⟩))
  · refine (normalize_fin x hx hf _).mono ?_
    rintro e w' ⟨y, k, rfl, hy, hk1, hk2, rfl⟩
    have hb1 := f64bits_any y
    have hb2 := f64from_any
    have he := band_exp y hy
    have hE : y / 4503599627370496 % 2048 < 2048 := Nat.mod_lt _ (by omega)
    generalize y / 4503599627370496 % 2048 = E at he hE
    go_wp2_with fail
    go_ret2
    exact ⟨_, _, rfl, by omega, by omega, rfl⟩
  · go_ret2
    exact ⟨x, 0, rfl, by omega, by omega, rfl⟩
set_option maxHeartbeats 400000 in
theorem frexpB_fin (x : Nat) (hx : x < 18446744073709551616) (hf : x % 9223372036854775808 < 9218868437227405312) (w : World) : Calls Tryz.prog 43 #[.float .f64 x] w fun e w' => ∃ (y : Nat) (k : Int), e = .returned (.tuple #[.float .f64 y, .int .i64 k]) ∧ -2000 ≤ k ∧ k ≤ 2000 ∧ w' = w := by
  go_enter Tryz.func43, Tryz.ntmps43
  go_wp2_with fail
  refine (frexp_fin x hx hf _).mono ?_
  rintro e w' ⟨y, k, rfl, h1, h2, rfl⟩
  go_wp2_with fail
  go_ret2
  exact ⟨_, _, rfl, h1, h2, rfl⟩
set_option maxHeartbeats 400000 in
theorem small_fin (x : Nat) (hx : x < 18446744073709551616) (hf : x % 9223372036854775808 < 9218868437227405312) (w : World) : Calls Tryz.prog 23 #[.float .f64 x] w fun e w' => e = .returned (.bool true) ∧ w' = w := by
  go_enter Tryz.func23, Tryz.ntmps23
  go_wp2_with (go_at_call 21; refine (isInf_fin x hx hf _).mono ?_; rintro e w' ⟨rfl, rfl⟩)
  refine (frexpB_fin x hx hf _).mono ?_
  rintro e w' ⟨y, k, rfl, h1, h2, rfl⟩
  have c1 : decide (-4096 < k) = true := decide_eq_true (by omega)
  have c2 : decide (k < 4096) = true := decide_eq_true (by omega)
  go_wp2_with fail
  go_ret
  exact ⟨rfl, rfl⟩
end Go.Proofs.YtdhgdachchhflaaGreatDoor
namespace Go.Proofs.YtdhgdachchhflaaGreatDoor
open Go.RowKit Go.Dig
set_option maxRecDepth 100000
theorem band11 (z : Int) (h0 : 0 ≤ z) (h1 : z < 18446744073709551616) : bits .and .u64 z 2047 = z % 2048 := by
  rw [u64_and z 2047 h0 h1 (by omega) (by omega)]
  rw [show (2047 : Int).toNat = 2 ^ 11 - 1 from rfl, Nat.and_two_pow_sub_one_eq_mod]
  omega
theorem band52 (z : Int) (h0 : 0 ≤ z) (h1 : z < 18446744073709551616) : bits .and .u64 z 4503599627370495 = z % 4503599627370496 := by
  rw [u64_and z 4503599627370495 h0 h1 (by omega) (by omega)]
  rw [show (4503599627370495 : Int).toNat = 2 ^ 52 - 1 from rfl, Nat.and_two_pow_sub_one_eq_mod]
  omega
/-- The parts of a pattern of bits: what the words of the mantissa are, and the exponent. -/
def ofM (b : Nat) : Nat := if 0 < b / 4503599627370496 % 2048 then b % 4503599627370496 + 4503599627370496 else b % 4503599627370496
def ofE (b : Nat) : Int := if 0 < b / 4503599627370496 % 2048 then ((b / 4503599627370496 % 2048 : Nat) : Int) - 1 - 1074 else -1074
theorem ofM_lt (b : Nat) : ofM b < 9007199254740992 := by simp only [ofM]; split <;> omega
theorem ofE_bd (b : Nat) : -1074 ≤ ofE b ∧ ofE b ≤ 972 := by simp only [ofE]; split <;> omega
theorem pow16_gen {m n K : Nat} (hm : m < 9007199254740992) (hK : 53 + n ≤ 16 * K) : m * 2 ^ n < 65536 ^ K := by
  calc m * 2 ^ n < 2 ^ 53 * 2 ^ n := Nat.mul_lt_mul_of_pos_right hm (Nat.two_pow_pos n)
    _ = 2 ^ (53 + n) := by rw [Nat.pow_add]
    _ ≤ 2 ^ (16 * K) := Nat.pow_le_pow_right (by omega) hK
    _ = 65536 ^ K := by rw [Nat.pow_mul]
theorem pow16_len {m n k : Nat} (hm : m < 9007199254740992) (hn : n ≤ k) (hk : k ≤ 2000) : (dg 65536 (m * 2 ^ n)).length ≤ 100000 := by
  have h1 := pow16_gen (K := 129) hm (show 53 + n ≤ 16 * 129 by omega)
  have := dg_length_le (b := 65536) (by omega) h1
  omega
set_option maxHeartbeats 400000 in
theorem ofBits_any (b : Nat) (hb : b < 18446744073709551616) (w : World) : Calls Tryz.prog 6 #[.int .u64 b] w fun e w' => ∃ v1 v2, e = .returned (.agg #[.bool ((b : Int) / 9223372036854775808 == 1 && decide (ofM b * 2 ^ (ofE b).toNat ≠ 0)), v1, v2]) ∧ Nt w' v1 (ofM b * 2 ^ (ofE b).toNat / Nat.gcd (ofM b * 2 ^ (ofE b).toNat) (2 ^ (-ofE b).toNat)) ∧ Nt w' v2 (2 ^ (-ofE b).toNat / Nat.gcd (ofM b * 2 ^ (ofE b).toNat) (2 ^ (-ofE b).toNat)) ∧ Below w.heap.size w w' := by
  have e1 := band11 ((b : Int) / 4503599627370496) (by omega) (by omega)
  have e2 := band52 (b : Int) (by omega) (by omega)
  have HB : Hid (Below w.heap.size w (w.alloc (.cells #[.bool false, .slice none 0 0, .slice none 0 0] 34))) := (Below.refl _ _).alloc (Nat.le_refl _) _
  have HR := hid (blk_new w #[.bool false, .slice none 0 0, .slice none 0 0] 34)
  have HM := hid (ofM_lt b)
  have HE := hid (ofE_bd b)
  have hmN : Hid (0 < (b : Int) / 4503599627370496 % 2048 → (b : Int) % 4503599627370496 + 4503599627370496 = (ofM b : Nat) ∧ (b : Int) / 4503599627370496 % 2048 - 1 - 1074 = ofE b) := hid fun h => ⟨by simp only [ofM]; split <;> omega, by simp only [ofE]; split <;> omega⟩
  have hmZ : Hid (¬ 0 < (b : Int) / 4503599627370496 % 2048 → (b : Int) % 4503599627370496 = (ofM b : Nat) ∧ (b : Int) / 4503599627370496 % 2048 - 1074 = ofE b) := hid fun h => ⟨by simp only [ofM]; split <;> omega, by simp only [ofE]; split <;> omega⟩
  have HL1 := hid (pow16_len (m := ofM b) (n := (ofE b).toNat) (k := 2000) (ofM_lt b) (by have := ofE_bd b; omega) (by omega))
  have HL2 := hid (pow16_len (m := 1) (n := (-ofE b).toNat) (k := 2000) (by omega) (by have := ofE_bd b; omega) (by omega))
  have HL0 : Hid ((dg 65536 (ofM b)).length ≤ 100000) := by have := pow16_len (m := ofM b) (n := 0) (k := 0) (ofM_lt b) (by omega) (by omega); rw [Nat.pow_zero, Nat.mul_one] at this; exact this
  rw [Nat.one_mul] at HL2
  generalize ofM b = m at *
  generalize ofE b = e at *
  have hwr : wrap64 (-e) = -e := by have := HE.out; simp only [wrap64]; omega
  go_enter Tryz.func6, Tryz.ntmps6
  go_wp2_with fail
  all_goals
    generalize w.alloc (.cells #[.bool false, .slice none 0 0, .slice none 0 0] 34) = w0 at *
  all_goals
    first
      | (obtain ⟨hm, he⟩ := hmN.out (by assumption); rw [hm, he])
      | (obtain ⟨hm, he⟩ := hmZ.out (by omega); rw [hm, he])
    clear hm he
    refine (small_any m w0 (by have := HM.out; omega)).mono ?_
    rintro r w1 ⟨v1, rfl, hv, hb1⟩
    have HV := hid hv
    have HR1 := hid (HR.out.below hb1 HR.out.lt)
    have HB1 := hid (below_next HB.out hb1)
    clear hv hb1
    go_wp2_with fail
  all_goals
    have H := shl_any v1 m e.toNat w1 HV.out HL0.out (by have := HE.out; omega)
    first
      | (rw [show ((e.toNat : Nat) : Int) = e by omega] at H)
      | (rw [show ((e.toNat : Nat) : Int) = 0 by omega] at H)
    refine H.mono ?_
    clear H
    rintro r w2 ⟨v2, rfl, hv, hb1⟩
    have HS := hid hv
    have HR2 := hid (HR1.out.below hb1 HR1.out.lt)
    have HB2 := hid (below_next HB1.out hb1)
    clear hv hb1
    go_wp2_with fail
  all_goals
    have H := bit_any (-e).toNat w2 (by have := HE.out; omega)
    first
      | (rw [show (((-e).toNat : Nat) : Int) = -e by omega] at H; refine H.mono ?_)
      | (rw [show (((-e).toNat : Nat) : Int) = 0 by omega] at H; refine H.mono ?_)
    clear H
    rintro r w3 ⟨v3, rfl, hv, hb1⟩
    have HT := hid hv
    have HS3 := hid (HS.out.below hb1 (Nat.le_refl _))
    have HR3 := hid (HR2.out.below hb1 HR2.out.lt)
    have HB3 := hid (below_next HB2.out hb1)
    clear hv hb1
    go_wp2_with fail
    refine (over_any _ v2 v3 _ _ w3 HS3.out HT.out HL1.out HL2.out (Nat.ne_of_gt (Nat.two_pow_pos _))).mono ?_
    rintro r w4 ⟨u1, u2, rfl, hu1, hu2, hb1⟩
    obtain ⟨b1, d1, rfl⟩ := hu1.shape
    obtain ⟨b2, d2, rfl⟩ := hu2.shape
    have HU1 := hid hu1
    have HU2 := hid hu2
    have HR4 := hid (HR3.out.below hb1 HR3.out.lt)
    have HB4 := hid (below_next HB3.out hb1)
    clear hu1 hu2 hb1
    obtain ⟨q0, q1, q2, q3, q4, q5⟩ := HR4.out.three
    go_wp2_with fail
  all_goals
    refine bodyPost_ret (v := .agg #[.bool ((b : Int) / 9223372036854775808 == 1 && decide (m * 2 ^ e.toNat ≠ 0)), .slice b1 (dg 65536 (m * 2 ^ e.toNat / Nat.gcd (m * 2 ^ e.toNat) (2 ^ (-e).toNat))).length d1, .slice b2 (dg 65536 (2 ^ (-e).toNat / Nat.gcd (m * 2 ^ e.toNat) (2 ^ (-e).toNat))).length d2]) (by simp [results, Tryz.results6, go_sem, q0, q1, q2]) rfl ⟨_, _, rfl, ?_, ?_, ?_⟩
    · exact HU1.out.set3 HR4.out (by decide) _ _ _
    · exact HU2.out.set3 HR4.out (by decide) _ _ _
    · exact below_set3 HB4.out (Nat.le_refl _) _ _ _
end Go.Proofs.YtdhgdachchhflaaGreatDoor
namespace Go.Pn
theorem odd_gcd {m : Nat} (h : m % 2 = 1) (s : Nat) : Nat.gcd m (2 ^ s) = 1 := by
  have h1 : Nat.Coprime m 2 := by
    unfold Nat.Coprime
    rw [Nat.gcd_comm, Nat.gcd_rec, h]
    rfl
  exact h1.pow_right s
/-- What the halving keeps: m0 and the exponent e at the start, m and the shift now. -/
def Kept (m0 : Nat) (e : Int) (m : Nat) (sh : Int) : Prop := (e < 0 → 0 ≤ sh ∧ sh ≤ -e ∧ m * 2 ^ (-e - sh).toNat = m0) ∧ (0 ≤ e → sh = -e ∧ m = m0)
theorem kept_start (m0 : Nat) (e : Int) : Kept m0 e m0 (-e) := ⟨fun _ => ⟨by omega, by omega, by simp⟩, fun _ => ⟨rfl, rfl⟩⟩
theorem kept_step {m0 m : Nat} {e sh : Int} (h : Kept m0 e m sh) (h0 : m % 2 = 0) (hs : 0 < sh) : Kept m0 e (m / 2) (sh - 1) := by
  refine ⟨fun he => ?_, fun he => ?_⟩
  · obtain ⟨h1, h2, h3⟩ := h.1 he
    refine ⟨by omega, by omega, ?_⟩
    rw [show (-e - (sh - 1)).toNat = (-e - sh).toNat + 1 by omega, Nat.pow_succ, Nat.mul_comm (2 ^ _) 2, ← Nat.mul_assoc, ← h3]
    congr 1
    omega
  · have := (h.2 he).1
    omega
theorem kept_end {m0 m : Nat} {e sh : Int} (h : Kept m0 e m sh) (hx : m % 2 = 1 ∨ sh ≤ 0) :
    m * 2 ^ (-sh).toNat = m0 * 2 ^ e.toNat / Nat.gcd (m0 * 2 ^ e.toNat) (2 ^ (-e).toNat) ∧ 2 ^ sh.toNat = 2 ^ (-e).toNat / Nat.gcd (m0 * 2 ^ e.toNat) (2 ^ (-e).toNat) ∧ Nat.gcd (m * 2 ^ (-sh).toNat) (2 ^ sh.toNat) = 1 := by
  rcases Int.lt_or_le e 0 with he | he
  · obtain ⟨h1, h2, h3⟩ := h.1 he
    have e0 : e.toNat = 0 := by omega
    have e1 : (-sh).toNat = 0 := by omega
    rw [e0, e1, Nat.pow_zero, Nat.mul_one, Nat.mul_one]
    have e2 : 2 ^ (-e).toNat = 2 ^ sh.toNat * 2 ^ (-e - sh).toNat := by rw [← Nat.pow_add]; congr 1; omega
    have hg : Nat.gcd m (2 ^ sh.toNat) = 1 := by
      rcases hx with hx | hx
      · exact odd_gcd hx _
      · rw [show sh.toNat = 0 by omega, Nat.pow_zero]; exact Nat.gcd_one_right m
    have hp := Nat.two_pow_pos (-e - sh).toNat
    rw [e2, ← h3, Nat.gcd_mul_right, hg, Nat.one_mul, Nat.mul_div_cancel _ hp, Nat.mul_div_cancel _ hp]
    exact ⟨rfl, rfl, rfl⟩
  · obtain ⟨h1, h2⟩ := h.2 he
    subst h1 h2
    have e1 : (-e).toNat = 0 := by omega
    rw [e1, Nat.pow_zero, Nat.gcd_one_right, Nat.div_one, Nat.div_one, Int.neg_neg]
    exact ⟨rfl, rfl, Nat.gcd_one_right _⟩
end Go.Pn
