/- Walks and lemmas for the laws of this seat. -/
import Derived.Test.YtgdgklhfakplhaaGreatDoorH03
import Derived.Test.YtgdgklhfakplhaaGreatDoorH33
namespace Go.Proofs.YtgdgklhfakplhaaGreatDoor
open Go.RowKit
set_option maxRecDepth 100000
theorem f64bits_z (b : Nat) (w : World) : (callFunc 18 #[.float .f64 b]).run Tryz.prog w = .ok (.value (.int .u64 b)) w := by
  rw [run_callFunc_extern Tryz.func18 (by kernel_rfl) (by kernel_rfl) (by kernel_rfl) (e := Go.Extern.MathFloatBits.float64bits) (by kernel_rfl)]
  rfl
theorem f64from_any (z : Int) (w : World) : (callFunc 23 #[.int .u64 z]).run Tryz.prog w = .ok (.value (.float .f64 z.toNat)) w := by
  rw [run_callFunc_extern Tryz.func23 (by kernel_rfl) (by kernel_rfl) (by kernel_rfl) (e := Go.Extern.MathFloatBits.float64frombits) (by kernel_rfl)]
  rfl
theorem fmt64 : FloatKind.f64.format = Ieee.double := rfl
theorem unsign (x : Nat) (hx : x < 18446744073709551616) : bits .andNot .u64 (x : Int) 9223372036854775808 = ((x % 9223372036854775808 : Nat) : Int) := by
  have := u64_andNot_nat x 9223372036854775808 hx (by omega)
  rw [show (18446744073709551615 - 9223372036854775808 : Nat) = 2 ^ 63 - 1 from rfl, Nat.and_two_pow_sub_one_eq_mod] at this
  exact this
set_option maxHeartbeats 400000 in
theorem abs_any (x : Nat) (hx : x < 18446744073709551616) (w : World) : Calls Tryz.prog 90 #[.float .f64 x] w fun e w' => e = .returned (.float .f64 (x % 9223372036854775808)) ∧ w' = w := by
  have h1 := f64bits_z x
  have h2 := fun w => f64from_any ((x : Int) % 9223372036854775808) w
  have h3 := unsign x hx
  rw [show ((x : Int) % 9223372036854775808).toNat = x % 9223372036854775808 by omega] at h2
  go_enter Tryz.func90, Tryz.ntmps90
  go_wp2_with fail
  go_ret
  exact ⟨rfl, rfl⟩
set_option maxHeartbeats 400000 in
theorem isInf_any (x : Nat) (hx : x < 18446744073709551616) (w : World) : Calls Tryz.prog 45 #[.float .f64 x, .int .i64 0] w fun e w' => e = .returned (.bool (Ieee.double.order (x % 9223372036854775808) 9218868437227405311 == some .gt)) ∧ w' = w := by
  go_enter Tryz.func45, Tryz.ntmps45
  go_wp2_with (go_at_call 90; refine (abs_any x hx _).mono ?_; rintro e w' ⟨rfl, rfl⟩)
  go_ret
  exact ⟨rfl, rfl⟩
set_option maxHeartbeats 400000 in
theorem isNaN_any (x : Nat) (w : World) : Calls Tryz.prog 46 #[.float .f64 x] w fun e w' => e = .returned (.bool (Ieee.double.order x x != some .eq)) ∧ w' = w := by
  go_enter Tryz.func46, Tryz.ntmps46
  go_wp2_with fail
  go_ret
  exact ⟨rfl, rfl⟩
/-- A finite number. -/
theorem isInf_fin (x : Nat) (hx : x < 18446744073709551616) (hf : x % 9223372036854775808 < 9218868437227405312) (w : World) : Calls Tryz.prog 45 #[.float .f64 x, .int .i64 0] w fun e w' => e = .returned (.bool false) ∧ w' = w := by
  have := isInf_any x hx w
  rwa [Go.Fl.order_max hf] at this
theorem isNaN_fin (x : Nat) (hf : x % 9223372036854775808 < 9218868437227405312) (w : World) : Calls Tryz.prog 46 #[.float .f64 x] w fun e w' => e = .returned (.bool false) ∧ w' = w := by
  have := isNaN_any x w
  rwa [Go.Fl.order_self (by omega)] at this
theorem isInf_inf (x : Nat) (hx : x < 18446744073709551616) (hf : x % 9223372036854775808 = 9218868437227405312) (w : World) : Calls Tryz.prog 45 #[.float .f64 x, .int .i64 0] w fun e w' => e = .returned (.bool true) ∧ w' = w := by
  have := isInf_any x hx w
  rw [hf, Go.Fl.order_max_inf] at this
  exact this
theorem isNaN_nan (x : Nat) (hf : 9218868437227405312 < x % 9223372036854775808) (w : World) : Calls Tryz.prog 46 #[.float .f64 x] w fun e w' => e = .returned (.bool true) ∧ w' = w := by
  have := isNaN_any x w
  rw [Go.Fl.order_nan hf] at this
  exact this
set_option maxHeartbeats 400000 in
theorem normalize_fin (x : Nat) (hx : x < 18446744073709551616) (hf : x % 9223372036854775808 < 9218868437227405312) (w : World) : Calls Tryz.prog 158 #[.float .f64 x] w fun e w' => ∃ (y : Nat) (k : Int), e = .returned (.tuple #[.float .f64 y, .int .i64 k]) ∧ y < 18446744073709551616 ∧ -52 ≤ k ∧ k ≤ 0 ∧ w' = w := by
  obtain ⟨r, hr⟩ := Go.Fl.mul_some (y := 4841369599423283200) hf (by omega)
  have hr2 := fun t w => run_float_arith (P := Tryz.prog) w .mul t .f64 x 4841369599423283200 r hr
  have hr3 : r < 18446744073709551616 := Ieee.double.mul_lt hr
  cases ho : (Ieee.double.order (x % 9223372036854775808) 4503599627370496 == some .lt)
  all_goals
    have ho2 : (FloatKind.f64.format.order (x % 9223372036854775808) 4503599627370496 == some .lt) = _ := ho
    go_enter Tryz.func158, Tryz.ntmps158
    go_wp2_with (go_at_call 90; refine (abs_any x hx _).mono ?_; rintro e w' ⟨rfl, rfl⟩)
    all_goals go_ret2
  · exact ⟨x, 0, rfl, hx, by omega, by omega, rfl⟩
  · exact ⟨r, -52, rfl, hr3, by omega, by omega, rfl⟩
theorem band_exp (r : Nat) (hr : r < 18446744073709551616) : bits .and .u64 ((r : Int) / 4503599627370496) 2047 = ((r / 4503599627370496 % 2048 : Nat) : Int) := by
  rw [u64_and _ 2047 (by omega) (by omega) (by omega) (by omega), show (2047 : Int).toNat = 2 ^ 11 - 1 from rfl, Nat.and_two_pow_sub_one_eq_mod]
  omega
set_option maxHeartbeats 1000000 in
theorem frexp_fin (x : Nat) (hx : x < 18446744073709551616) (hf : x % 9223372036854775808 < 9218868437227405312) (w : World) : Calls Tryz.prog 134 #[.float .f64 x] w fun e w' => ∃ (y : Nat) (k : Int), e = .returned (.tuple #[.float .f64 y, .int .i64 k]) ∧ -2000 ≤ k ∧ k ≤ 2000 ∧ w' = w := by
  cases ho : (Ieee.double.order x 0 == some .eq)
  all_goals
    have ho2 : (FloatKind.f64.format.order x 0 == some .eq) = _ := ho
    go_enter Tryz.func134, Tryz.ntmps134
    go_wp2_with (first | (go_at_call 45; refine (isInf_fin x hx hf _).mono ?_; rintro e w' ⟨rfl, rfl⟩) | (go_at_call 46; refine (isNaN_fin x hf _).mono ?_; rintro e w' ⟨rfl, rfl⟩))
  · refine (normalize_fin x hx hf _).mono ?_
    rintro e w' ⟨y, k, rfl, hy, hk1, hk2, rfl⟩
    have hb1 := f64bits_z y
    have hb2 := f64from_any
    have he := band_exp y hy
    have hE : y / 4503599627370496 % 2048 < 2048 := Nat.mod_lt _ (by omega)
    generalize y / 4503599627370496 % 2048 = E at he hE
    go_wp2_with fail
    go_ret2
    exact ⟨_, _, rfl, by omega, by omega, rfl⟩
  · go_ret2
    exact ⟨x, 0, rfl, by omega, by omega, rfl⟩
set_option maxHeartbeats 400000 in
theorem frexpB_fin (x : Nat) (hx : x < 18446744073709551616) (hf : x % 9223372036854775808 < 9218868437227405312) (w : World) : Calls Tryz.prog 91 #[.float .f64 x] w fun e w' => ∃ (y : Nat) (k : Int), e = .returned (.tuple #[.float .f64 y, .int .i64 k]) ∧ -2000 ≤ k ∧ k ≤ 2000 ∧ w' = w := by
  go_enter Tryz.func91, Tryz.ntmps91
  go_wp2_with fail
  refine (frexp_fin x hx hf _).mono ?_
  rintro e w' ⟨y, k, rfl, h1, h2, rfl⟩
  go_wp2_with fail
  go_ret2
  exact ⟨_, _, rfl, h1, h2, rfl⟩
set_option maxHeartbeats 400000 in
theorem small_fin (x : Nat) (hx : x < 18446744073709551616) (hf : x % 9223372036854775808 < 9218868437227405312) (w : World) : Calls Tryz.prog 47 #[.float .f64 x] w fun e w' => e = .returned (.bool true) ∧ w' = w := by
  go_enter Tryz.func47, Tryz.ntmps47
  go_wp2_with (go_at_call 45; refine (isInf_fin x hx hf _).mono ?_; rintro e w' ⟨rfl, rfl⟩)
  refine (frexpB_fin x hx hf _).mono ?_
  rintro e w' ⟨y, k, rfl, h1, h2, rfl⟩
  have c1 : decide (-4096 < k) = true := decide_eq_true (by omega)
  have c2 : decide (k < 4096) = true := decide_eq_true (by omega)
  go_wp2_with fail
  go_ret
  exact ⟨rfl, rfl⟩
end Go.Proofs.YtgdgklhfakplhaaGreatDoor
namespace Go.Fl
open Ieee
/-- A number that is a float64, however it is written. -/
theorem nearest_gen (neg : Bool) {r m k mag i j : Nat} {place : Int} (hm : m ≠ 0) (h : Mk r m k) (hr : r < 9218868437227405312) (he : mag * 2 ^ i = m * 2 ^ j) (hp : place = (k : Int) - 1074 - (j : Int) + (i : Int)) :
    Ieee.double.nearest neg mag place = Ieee.double.word neg r := by
  obtain ⟨rfl, h⟩ := h
  have hmag : mag ≠ 0 := by
    rintro rfl
    rw [Nat.zero_mul] at he
    have := Nat.mul_ne_zero hm (Nat.ne_of_gt (Nat.two_pow_pos j))
    exact this he.symm
  have hlog : (mag * 2 ^ i).log2 = (m * 2 ^ j).log2 := by rw [he]
  have hl1 : ∀ a b : Nat, a ≠ 0 → (a * 2 ^ b).log2 = a.log2 + b := by
    intro a b ha
    have h1 := Nat.log2_self_le ha
    have h2 : a < 2 ^ (a.log2 + 1) := Nat.lt_log2_self
    refine log2_eq ?_ ?_
    · rw [Nat.pow_add]; exact Nat.mul_le_mul_right _ h1
    · rw [show a.log2 + b + 1 = a.log2 + 1 + b by omega, Nat.pow_add]
      exact (Nat.mul_lt_mul_right (Nat.two_pow_pos b)).2 h2
  rw [hl1 _ _ hmag, hl1 _ _ hm] at hlog
  have hlast : max (place + (mag.log2 : Int) - 52) (-1074) = -1074 + (k : Int) := by
    rcases h with ⟨h1, h2⟩ | ⟨h1, rfl⟩
    · have e : m.log2 = 52 := log2_eq (by omega) (by omega)
      omega
    · have e : m.log2 < 52 := (Nat.log2_lt hm).2 (by omega)
      omega
  unfold Format.nearest
  rw [if_neg hmag]
  simp only [dbl_least, dbl_binade, dbl_inf, dbl_frac]
  have hlast' : max (place + (mag.log2 : Int) - ((52 : Nat) : Int)) (-1074) = -1074 + (k : Int) := hlast
  rw [hlast']
  have e3 : ((-1074 : Int) + (k : Int) - -1074).toNat = k := by omega
  rw [e3]
  rcases Nat.le_total j i with hij | hij
  · have e1 : (place - (-1074 + (k : Int))).toNat = i - j := by omega
    have e2 : (-1074 + (k : Int) - place).toNat = 0 := by omega
    have e4 : mag * 2 ^ (i - j) = m := by
      have : mag * 2 ^ (i - j) * 2 ^ j = m * 2 ^ j := by
        rw [Nat.mul_assoc, ← Nat.pow_add, show i - j + j = i by omega]; exact he
      exact Nat.eq_of_mul_eq_mul_right (Nat.two_pow_pos j) this
    have := cut_exact neg 0 hm
    rw [Nat.pow_zero, Nat.mul_one] at this
    rw [e1, e2, Nat.shiftLeft_eq, e4, this, Nat.min_eq_left (by omega)]
  · have e1 : (place - (-1074 + (k : Int))).toNat = 0 := by omega
    have e2 : (-1074 + (k : Int) - place).toNat = j - i := by omega
    have e4 : mag = m * 2 ^ (j - i) := by
      have : mag * 2 ^ i = m * 2 ^ (j - i) * 2 ^ i := by
        rw [Nat.mul_assoc, ← Nat.pow_add, show j - i + i = j by omega]; exact he
      exact Nat.eq_of_mul_eq_mul_right (Nat.two_pow_pos i) this
    rw [e1, e2, Nat.shiftLeft_zero, e4, cut_exact neg (j - i) hm, Nat.min_eq_left (by omega)]
theorem word_pos (r : Nat) : Ieee.double.word false r = r := by
  unfold Format.word; simp
/-- A whole number of at most 53 binary digits, L + 1 of them. -/
theorem of_nat {M L : Nat} (h0 : 2 ^ L ≤ M) (h1 : M < 2 ^ (L + 1)) (hL : L ≤ 52) : Ieee.double.nearest false M 0 = (1022 + L) * 4503599627370496 + M * 2 ^ (52 - L) := by
  have hp := Nat.two_pow_pos L
  have e : 2 ^ L * 2 ^ (52 - L) = 4503599627370496 := by rw [← Nat.pow_add, show L + (52 - L) = 52 by omega]
  have e' : 2 ^ (L + 1) * 2 ^ (52 - L) = 9007199254740992 := by rw [← Nat.pow_add, show L + 1 + (52 - L) = 53 by omega]
  have b0 : 4503599627370496 ≤ M * 2 ^ (52 - L) := by rw [← e]; exact Nat.mul_le_mul_right _ h0
  have b1 : M * 2 ^ (52 - L) < 9007199254740992 := by rw [← e']; exact (Nat.mul_lt_mul_right (Nat.two_pow_pos _)).2 h1
  have hlt : (1022 + L) * 4503599627370496 ≤ 1074 * 4503599627370496 := Nat.mul_le_mul_right _ (by omega)
  rw [nearest_gen (r := (1022 + L) * 4503599627370496 + M * 2 ^ (52 - L)) (m := M * 2 ^ (52 - L)) (k := 1022 + L) (i := 52 - L) (j := 0) false (by omega) ⟨rfl, .inl ⟨b0, b1⟩⟩ (by omega) (by rw [Nat.pow_zero, Nat.mul_one]) (by omega), word_pos]
theorem read_normal {E f : Nat} (h1 : 1 ≤ E) (h2 : E ≤ 2046) (hf : f < 4503599627370496) : Ieee.double.read (E * 4503599627370496 + f) = .number false (4503599627370496 + f) (-1074 + ((E - 1 : Nat) : Int)) := by
  have hb : E * 4503599627370496 ≤ 2046 * 4503599627370496 := Nat.mul_le_mul_right _ h2
  have hb1 : 1 * 4503599627370496 ≤ E * 4503599627370496 := Nat.mul_le_mul_right _ h1
  unfold Format.read
  simp only [dbl_least, dbl_binade, dbl_inf, dbl_sign]
  have e1 : (E * 4503599627370496 + f) / 9223372036854775808 = 0 := Nat.div_eq_of_lt (by omega)
  have e2 : (E * 4503599627370496 + f) % 9223372036854775808 = E * 4503599627370496 + f := Nat.mod_eq_of_lt (by omega)
  have e3 : (E * 4503599627370496 + f) % 4503599627370496 = f := by rw [Nat.mul_comm, Nat.mul_add_mod, Nat.mod_eq_of_lt hf]
  have e4 : (E * 4503599627370496 + f) / 4503599627370496 = E := by rw [Nat.mul_comm, Nat.mul_add_div (by omega), Nat.div_eq_of_lt hf, Nat.add_zero]
  rw [e1, e2, if_neg (by omega), if_pos (by omega), e3, e4]
  rfl
theorem read_one : Ieee.double.read 4607182418800017408 = .number false 4503599627370496 (-52) := by decide
theorem read_tiny : Ieee.double.read 4368491638549381120 = .number false 4503599627370496 (-105) := by decide
theorem comm52 (B x : Nat) (h : B = 2 ^ 52) : B * x * 2 ^ 0 = x * 2 ^ 52 := by
  rw [Nat.pow_zero, Nat.mul_one, Nat.mul_comm, h]
theorem mul_one {E f : Nat} (h1 : 1 ≤ E) (h2 : E ≤ 2046) (hf : f < 4503599627370496) : Ieee.double.mul 4607182418800017408 (E * 4503599627370496 + f) = some (E * 4503599627370496 + f) := by
  have hb : E * 4503599627370496 ≤ 2046 * 4503599627370496 := Nat.mul_le_mul_right _ h2
  have hE : (E - 1) * 4503599627370496 + 4503599627370496 = E * 4503599627370496 := by
    obtain ⟨k, rfl⟩ : ∃ k, E = k + 1 := ⟨E - 1, by omega⟩
    rw [Nat.add_sub_cancel, Nat.add_mul, Nat.one_mul]
  have e1 : E * 4503599627370496 + f = (E - 1) * 4503599627370496 + (4503599627370496 + f) := by rw [← hE, Nat.add_assoc]
  unfold Format.mul
  rw [read_one, read_normal h1 h2 hf]
  show some (Ieee.double.write (.number (false ^^ false) _ _)) = _
  unfold Format.write
  show some (Ieee.double.nearest false _ _) = _
  rw [nearest_gen (r := E * 4503599627370496 + f) (m := 4503599627370496 + f) (k := E - 1) (i := 0) (j := 52) false (by omega) ⟨e1, .inl ⟨Nat.le_add_right _ _, by omega⟩⟩ (by omega) (comm52 _ _ (by decide)) (by omega), word_pos]
theorem mul_tiny {E f m t : Nat} (h1 : 1 ≤ E) (hf : f < 4503599627370496) (hm : 4503599627370496 + f = m * 2 ^ t) (ht : E + t = 54) : Ieee.double.mul 4368491638549381120 (E * 4503599627370496 + f) = some m := by
  have hm0 : m ≠ 0 := by rintro rfl; omega
  have hle : m ≤ m * 2 ^ t := Nat.le_mul_of_pos_right m (Nat.two_pow_pos t)
  have hk : Mk m m 0 := by
    refine ⟨by omega, ?_⟩
    rcases Nat.lt_or_ge m 4503599627370496 with h | h
    · exact .inr ⟨h, rfl⟩
    · exact .inl ⟨h, by omega⟩
  unfold Format.mul
  rw [read_tiny, read_normal h1 (by omega) hf]
  show some (Ieee.double.write (.number (false ^^ false) _ _)) = _
  unfold Format.write
  show some (Ieee.double.nearest false _ _) = _
  rw [nearest_gen (r := m) (m := m) (k := 0) (i := 0) (j := 52 + t) false hm0 hk (by omega) (by rw [hm, Nat.pow_zero, Nat.mul_one, Nat.pow_add, Nat.mul_left_comm]) (by omega), word_pos]
theorem read_least : Ieee.double.read 4503599627370496 = .number false 4503599627370496 (-1074) := by decide
theorem order_pos_zero {E f : Nat} (h1 : 1 ≤ E) (h2 : E ≤ 2046) (hf : f < 4503599627370496) : Ieee.double.order (E * 4503599627370496 + f) 0 = some .gt := by
  unfold Format.order
  rw [read_normal h1 h2 hf, read_zero]
  have hb : min (-1074 + ((E - 1 : Nat) : Int)) (-1074) = -1074 := by omega
  simp only [Datum.order, hb]
  rw [show (-1074 + ((E - 1 : Nat) : Int) - -1074).toNat = E - 1 by omega, show ((-1074 : Int) - -1074).toNat = 0 from rfl]
  have hz : signed false 0 0 = 0 := rfl
  rw [hz]
  simp only [signed, Bool.false_eq_true, if_false, Nat.shiftLeft_eq]
  have hpos : 0 < (4503599627370496 + f) * 2 ^ (E - 1) := Nat.mul_pos (by omega) (Nat.two_pow_pos _)
  generalize (4503599627370496 + f) * 2 ^ (E - 1) = M at *
  simp only [compare, compareOfLessAndEq]
  rw [if_neg (show ¬ ((M : Nat) : Int) < 0 by omega), if_neg (show ¬ ((M : Nat) : Int) = 0 by omega)]
theorem order_pos_least {E f : Nat} (h1 : 1 ≤ E) (h2 : E ≤ 2046) (hf : f < 4503599627370496) : (Ieee.double.order (E * 4503599627370496 + f) 4503599627370496 == some .lt) = false := by
  unfold Format.order
  rw [read_normal h1 h2 hf, read_least]
  have hb : min (-1074 + ((E - 1 : Nat) : Int)) (-1074) = -1074 := by omega
  simp only [Datum.order, hb]
  rw [show (-1074 + ((E - 1 : Nat) : Int) - -1074).toNat = E - 1 by omega, show ((-1074 : Int) - -1074).toNat = 0 from rfl]
  simp only [signed, Bool.false_eq_true, if_false, Nat.shiftLeft_eq]
  have hle : 4503599627370496 + f ≤ (4503599627370496 + f) * 2 ^ (E - 1) := Nat.le_mul_of_pos_right _ (Nat.two_pow_pos _)
  generalize (4503599627370496 + f) * 2 ^ (E - 1) = M at *
  simp only [compare, compareOfLessAndEq]
  rw [Nat.pow_zero, Nat.mul_one, if_neg (show ¬ ((M : Nat) : Int) < ((4503599627370496 : Nat) : Int) by omega)]
  split <;> rfl
end Go.Fl
