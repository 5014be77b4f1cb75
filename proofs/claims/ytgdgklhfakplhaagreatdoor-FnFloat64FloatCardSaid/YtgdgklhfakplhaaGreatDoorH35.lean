/- Walks and lemmas for the laws of this seat. -/
import Derived.Test.YtgdgklhfakplhaaGreatDoorH34
import Derived.Test.YtgdgklhfakplhaaGreatDoorH02
namespace Go.Proofs.YtgdgklhfakplhaaGreatDoor
open Go.RowKit Go.Dig
set_option maxRecDepth 100000
theorem norm_facts {E f : Nat} (h1 : 1 ≤ E) (h2 : E ≤ 2046) (hf : f < 4503599627370496) : E * 4503599627370496 + f < 9218868437227405312 ∧ (E * 4503599627370496 + f) % 9223372036854775808 = E * 4503599627370496 + f ∧ (E * 4503599627370496 + f) / 4503599627370496 = E ∧ (E * 4503599627370496 + f) % 4503599627370496 = f := by
  have hb : E * 4503599627370496 ≤ 2046 * 4503599627370496 := Nat.mul_le_mul_right _ h2
  exact ⟨by omega, Nat.mod_eq_of_lt (by omega), by rw [Nat.mul_comm, Nat.mul_add_div (by omega), Nat.div_eq_of_lt hf, Nat.add_zero], by rw [Nat.mul_comm, Nat.mul_add_mod, Nat.mod_eq_of_lt hf]⟩
theorem normalize_pos (E f : Nat) (h1 : 1 ≤ E) (h2 : E ≤ 2046) (hf : f < 4503599627370496) (w : World) : Calls Tryz.prog 158 #[.float .f64 (E * 4503599627370496 + f)] w fun e w' => e = .returned (.tuple #[.float .f64 (E * 4503599627370496 + f), .int .i64 0]) ∧ w' = w := by
  obtain ⟨n1, n2, _, _⟩ := norm_facts h1 h2 hf
  have ho2 : (FloatKind.f64.format.order (E * 4503599627370496 + f) 4503599627370496 == some .lt) = false := Go.Fl.order_pos_least h1 h2 hf
  have HA := fun w => abs_any (E * 4503599627370496 + f) (by omega) w
  rw [n2] at HA
  clear n2
  generalize E * 4503599627370496 + f = x at *
  go_enter Tryz.func158, Tryz.ntmps158
  go_wp2_with fail
  refine (HA _).mono ?_
  rintro e w' ⟨rfl, rfl⟩
  go_wp2_with fail
  go_ret2
  exact ⟨rfl, rfl⟩
theorem and2047 : ∀ n : Fin 2048, bits .and .i64 (n.val : Int) 2047 = (n.val : Int) := by decide +kernel
theorem and_top {x : Nat} (hx : x < 2 ^ 63) : x &&& 2 ^ 63 = 0 := by
  apply Nat.eq_of_testBit_eq
  intro i
  rw [Nat.testBit_and, Nat.testBit_two_pow, Nat.zero_testBit]
  by_cases h : 63 = i
  · subst h; rw [Nat.testBit_lt_two_pow hx]; rfl
  · simp [h]
theorem strip {E f : Nat} (h2 : E ≤ 2046) (hf : f < 4503599627370496) : bits .andNot .u64 ((E * 4503599627370496 + f : Nat) : Int) 9218868437227405312 = (f : Int) := by
  have hb : E * 4503599627370496 ≤ 2046 * 4503599627370496 := Nat.mul_le_mul_right _ h2
  have := u64_andNot_nat (E * 4503599627370496 + f) 9218868437227405312 (by omega) (by omega)
  rw [show (18446744073709551615 - 9218868437227405312 : Nat) = 2 ^ 63 ||| (2 ^ 52 - 1) from by decide, Nat.and_or_distrib_left, Nat.and_two_pow_sub_one_eq_mod,
    and_top (show E * 4503599627370496 + f < 2 ^ 63 by omega), show (2 : Nat) ^ 52 = 4503599627370496 by decide, show (E * 4503599627370496 + f) % 4503599627370496 = f by rw [Nat.mul_comm, Nat.mul_add_mod, Nat.mod_eq_of_lt hf]] at this
  rw [Nat.zero_or] at this
  exact this
theorem glue {E f : Nat} (h2 : E ≤ 2046) (hf : f < 4503599627370496) : bits .or .u64 (f : Int) ((E : Int) * 4503599627370496) = ((E * 4503599627370496 + f : Nat) : Int) := by
  have hb : E * 4503599627370496 ≤ 2046 * 4503599627370496 := Nat.mul_le_mul_right _ h2
  have h1 : ((E : Int) * 4503599627370496) = ((E * 4503599627370496 : Nat) : Int) := by simp
  rw [h1, bits_or_u64_nat _ _ (by omega) (by omega)]
  congr 1
  have := Nat.shiftLeft_add_eq_or_of_lt (a := E) (i := 52) (b := f) (by omega)
  rw [Nat.shiftLeft_eq, show (2 : Nat) ^ 52 = 4503599627370496 by decide] at this
  rw [Nat.or_comm, this]
set_option maxHeartbeats 1000000 in
theorem ldexp_mid (E f E' : Nat) (z : Int) (h1 : 1 ≤ E) (h2 : E ≤ 2046) (hf : f < 4503599627370496) (hz : (E : Int) + z = E') (hE1 : 1 ≤ E') (hE2 : E' ≤ 2046) (w : World) : Calls Tryz.prog 150 #[.float .f64 (E * 4503599627370496 + f), .int .i64 z] w fun e w' => e = .returned (.float .f64 (E' * 4503599627370496 + f)) ∧ w' = w := by
  obtain ⟨n1, n2, n3, n4⟩ := norm_facts h1 h2 hf
  have ho : (FloatKind.f64.format.order (E * 4503599627370496 + f) 0 == some .eq) = false := by
    have : FloatKind.f64.format.order (E * 4503599627370496 + f) 0 = some .gt := Go.Fl.order_pos_zero h1 h2 hf
    rw [this]; rfl
  have HI := fun w => isInf_fin (E * 4503599627370496 + f) (by omega) (by rw [n2]; exact n1) w
  have HN := fun w => isNaN_fin (E * 4503599627370496 + f) (by rw [n2]; exact n1) w
  have HNM := fun w => normalize_pos E f h1 h2 hf w
  have hb1 := f64bits_z (E * 4503599627370496 + f)
  have hb2 := f64from_any
  have a2 : wrap64 (((E * 4503599627370496 + f : Nat) : Int) / 4503599627370496) = (E : Int) := by
    rw [show ((E * 4503599627370496 + f : Nat) : Int) / 4503599627370496 = (((E * 4503599627370496 + f) / 4503599627370496 : Nat) : Int) by simp, n3]
    unfold wrap64; omega
  have a3 : bits .and .i64 (E : Int) 2047 = (E : Int) := and2047 ⟨E, by omega⟩
  have a1 : wrap64 z = z := by unfold wrap64; omega
  have a4 : wrap64 ((E : Int) - 1023) = (E : Int) - 1023 := by unfold wrap64; omega
  have a5 : wrap64 (z + ((E : Int) - 1023)) = (E' : Int) - 1023 := by unfold wrap64; omega
  have c1 : decide ((E' : Int) - 1023 < -1075) = false := decide_eq_false (by omega)
  have c2 : decide (1023 < (E' : Int) - 1023) = false := decide_eq_false (by omega)
  have c3 : decide ((E' : Int) - 1023 < -1022) = false := decide_eq_false (by omega)
  have c1' : ¬ (E' : Int) - 1023 < -1075 := by omega
  have c2' : ¬ 1023 < (E' : Int) - 1023 := by omega
  have c3' : ¬ (E' : Int) - 1023 < -1022 := by omega
  have d1 := strip h2 hf
  have d2 := glue hE2 hf
  have hmul := Go.Fl.mul_one hE1 hE2 hf
  have hr2 := fun t w => run_float_arith (P := Tryz.prog) w .mul t .f64 4607182418800017408 (E' * 4503599627370496 + f) _ hmul
  obtain ⟨x, hx⟩ : ∃ x, x = E * 4503599627370496 + f := ⟨_, rfl⟩
  rw [← hx] at ho HI HN HNM hb1 a2 d1 n1 ⊢
  have HX := hid hx
  obtain ⟨y, hy⟩ : ∃ y, y = E' * 4503599627370496 + f := ⟨_, rfl⟩
  rw [← hy] at hr2 d2 ⊢
  have HY := hid hy
  have HZ := hid hz
  clear hx hy n1 n2 n3 n4 hmul h1 h2 hf hE1 hE2 hz
  go_enter Tryz.func150, Tryz.ntmps150
  go_wp2_with fail
  refine (HI _).mono ?_
  rintro e w' ⟨rfl, rfl⟩
  go_wp2_with fail
  refine (HN _).mono ?_
  rintro e w' ⟨rfl, rfl⟩
  go_wp2_with fail
  refine (HNM _).mono ?_
  rintro e w' ⟨rfl, rfl⟩
  clear HI HN HNM ho
  go_wp2_with fail
  go_ret
  exact ⟨rfl, rfl⟩
set_option maxHeartbeats 1000000 in
theorem ldexp_tiny (E f E' m t : Nat) (z : Int) (h1 : 1 ≤ E) (h2 : E ≤ 2046) (hf : f < 4503599627370496) (hz : (E : Int) + z + 53 = E') (hE1 : 1 ≤ E') (hE2 : E' ≤ 53) (hm : 4503599627370496 + f = m * 2 ^ t) (ht : E' + t = 54) (w : World) : Calls Tryz.prog 150 #[.float .f64 (E * 4503599627370496 + f), .int .i64 z] w fun e w' => e = .returned (.float .f64 m) ∧ w' = w := by
  obtain ⟨n1, n2, n3, n4⟩ := norm_facts h1 h2 hf
  have ho : (FloatKind.f64.format.order (E * 4503599627370496 + f) 0 == some .eq) = false := by
    have : FloatKind.f64.format.order (E * 4503599627370496 + f) 0 = some .gt := Go.Fl.order_pos_zero h1 h2 hf
    rw [this]; rfl
  have HI := fun w => isInf_fin (E * 4503599627370496 + f) (by omega) (by rw [n2]; exact n1) w
  have HN := fun w => isNaN_fin (E * 4503599627370496 + f) (by rw [n2]; exact n1) w
  have HNM := fun w => normalize_pos E f h1 h2 hf w
  have hb1 := f64bits_z (E * 4503599627370496 + f)
  have hb2 := f64from_any
  have a2 : wrap64 (((E * 4503599627370496 + f : Nat) : Int) / 4503599627370496) = (E : Int) := by
    rw [show ((E * 4503599627370496 + f : Nat) : Int) / 4503599627370496 = (((E * 4503599627370496 + f) / 4503599627370496 : Nat) : Int) by simp, n3]
    unfold wrap64; omega
  have a3 : bits .and .i64 (E : Int) 2047 = (E : Int) := and2047 ⟨E, by omega⟩
  have a1 : wrap64 z = z := by unfold wrap64; omega
  have a4 : wrap64 ((E : Int) - 1023) = (E : Int) - 1023 := by unfold wrap64; omega
  have a5 : wrap64 (z + ((E : Int) - 1023)) = (E' : Int) - 1076 := by unfold wrap64; omega
  have c1 : decide ((E' : Int) - 1076 < -1075) = false := decide_eq_false (by omega)
  have c2 : decide (1023 < (E' : Int) - 1076) = false := decide_eq_false (by omega)
  have c3 : decide ((E' : Int) - 1076 < -1022) = true := decide_eq_true (by omega)
  have c1' : ¬ (E' : Int) - 1076 < -1075 := by omega
  have c2' : ¬ 1023 < (E' : Int) - 1076 := by omega
  have c3' : (E' : Int) - 1076 < -1022 := by omega
  have a6 : wrap64 ((E' : Int) - 1076 + 53) = (E' : Int) - 1023 := by unfold wrap64; omega
  have a7 : (E' : Int) - 1076 + 53 = (E' : Int) - 1023 := by omega
  have d1 := strip h2 hf
  have d2 := glue (show E' ≤ 2046 by omega) hf
  have hmul := Go.Fl.mul_tiny hE1 hf hm ht
  have hr2 := fun t w => run_float_arith (P := Tryz.prog) w .mul t .f64 4368491638549381120 (E' * 4503599627370496 + f) _ hmul
  obtain ⟨x, hx⟩ : ∃ x, x = E * 4503599627370496 + f := ⟨_, rfl⟩
  rw [← hx] at ho HI HN HNM hb1 a2 d1 n1 ⊢
  have HX := hid hx
  obtain ⟨y, hy⟩ : ∃ y, y = E' * 4503599627370496 + f := ⟨_, rfl⟩
  rw [← hy] at hr2 d2
  have HY := hid hy
  have HZ := hid hz
  clear hx hy n1 n2 n3 n4 hmul h1 h2 hf hE1 hE2 hz hm ht
  go_enter Tryz.func150, Tryz.ntmps150
  go_wp2_with fail
  refine (HI _).mono ?_
  rintro e w' ⟨rfl, rfl⟩
  go_wp2_with fail
  refine (HN _).mono ?_
  rintro e w' ⟨rfl, rfl⟩
  go_wp2_with fail
  refine (HNM _).mono ?_
  rintro e w' ⟨rfl, rfl⟩
  clear HI HN HNM ho
  go_wp2_with fail
  go_ret
  exact ⟨rfl, rfl⟩
theorem inf_pos (w : World) : Calls Tryz.prog 66 #[.int .i64 1] w fun e w' => e = .returned (.float .f64 9218868437227405312) ∧ w' = w := by
  have hb2 := f64from_any 9218868437227405312
  go_enter Tryz.func66, Tryz.ntmps66
  go_wp2_with fail
  go_ret
  exact ⟨rfl, rfl⟩
set_option maxHeartbeats 1000000 in
theorem ldexp_inf (E f E' : Nat) (z : Int) (h1 : 1 ≤ E) (h2 : E ≤ 2046) (hf : f < 4503599627370496) (hz : (E : Int) + z = E') (hE1 : 2047 ≤ E') (hE2 : E' ≤ 100000) (w : World) : Calls Tryz.prog 150 #[.float .f64 (E * 4503599627370496 + f), .int .i64 z] w fun e w' => e = .returned (.float .f64 9218868437227405312) ∧ w' = w := by
  obtain ⟨n1, n2, n3, n4⟩ := norm_facts h1 h2 hf
  have ho : (FloatKind.f64.format.order (E * 4503599627370496 + f) 0 == some .eq) = false := by
    have : FloatKind.f64.format.order (E * 4503599627370496 + f) 0 = some .gt := Go.Fl.order_pos_zero h1 h2 hf
    rw [this]; rfl
  have HI := fun w => isInf_fin (E * 4503599627370496 + f) (by omega) (by rw [n2]; exact n1) w
  have HN := fun w => isNaN_fin (E * 4503599627370496 + f) (by rw [n2]; exact n1) w
  have HNM := fun w => normalize_pos E f h1 h2 hf w
  have hb1 := f64bits_z (E * 4503599627370496 + f)
  have hb2 := f64from_any
  have a2 : wrap64 (((E * 4503599627370496 + f : Nat) : Int) / 4503599627370496) = (E : Int) := by
    rw [show ((E * 4503599627370496 + f : Nat) : Int) / 4503599627370496 = (((E * 4503599627370496 + f) / 4503599627370496 : Nat) : Int) by simp, n3]
    unfold wrap64; omega
  have a3 : bits .and .i64 (E : Int) 2047 = (E : Int) := and2047 ⟨E, by omega⟩
  have a1 : wrap64 z = z := by unfold wrap64; omega
  have a4 : wrap64 ((E : Int) - 1023) = (E : Int) - 1023 := by unfold wrap64; omega
  have a5 : wrap64 (z + ((E : Int) - 1023)) = (E' : Int) - 1023 := by unfold wrap64; omega
  have c1 : decide ((E' : Int) - 1023 < -1075) = false := decide_eq_false (by omega)
  have c2 : decide (1023 < (E' : Int) - 1023) = true := decide_eq_true (by omega)
  have c3 : decide ((E' : Int) - 1023 < -1022) = false := decide_eq_false (by omega)
  have c1' : ¬ (E' : Int) - 1023 < -1075 := by omega
  have c2' : 1023 < (E' : Int) - 1023 := by omega
  have c3' : ¬ (E' : Int) - 1023 < -1022 := by omega
  have d1 := strip h2 hf
  have hol : (FloatKind.f64.format.order (E * 4503599627370496 + f) 0 == some .lt) = false := by
    have : FloatKind.f64.format.order (E * 4503599627370496 + f) 0 = some .gt := Go.Fl.order_pos_zero h1 h2 hf
    rw [this]; rfl
  obtain ⟨x, hx⟩ : ∃ x, x = E * 4503599627370496 + f := ⟨_, rfl⟩
  rw [← hx] at ho hol HI HN HNM hb1 a2 d1 n1 ⊢
  have HX := hid hx
  have HZ := hid hz
  clear hx n1 n2 n3 n4 h1 h2 hf hE1 hE2 hz
  go_enter Tryz.func150, Tryz.ntmps150
  go_wp2_with fail
  refine (HI _).mono ?_
  rintro e w' ⟨rfl, rfl⟩
  go_wp2_with fail
  refine (HN _).mono ?_
  rintro e w' ⟨rfl, rfl⟩
  go_wp2_with fail
  refine (HNM _).mono ?_
  rintro e w' ⟨rfl, rfl⟩
  clear HI HN HNM ho
  go_wp2_with fail
  refine (inf_pos _).mono ?_
  rintro e w' ⟨rfl, rfl⟩
  go_wp2_with fail
  go_ret
  exact ⟨rfl, rfl⟩
set_option maxHeartbeats 400000 in
theorem ldexp_zero (z : Int) (w : World) : Calls Tryz.prog 150 #[.float .f64 0, .int .i64 z] w fun e w' => e = .returned (.float .f64 0) ∧ w' = w := by
  have ho : (FloatKind.f64.format.order 0 0 == some .eq) = true := by decide
  go_enter Tryz.func150, Tryz.ntmps150
  go_wp2_with fail
  go_ret
  exact ⟨rfl, rfl⟩
theorem ldexp_wrap (x y : Nat) (z : Int) (w : World) (h : Calls Tryz.prog 150 #[.float .f64 x, .int .i64 z] w fun e w' => e = .returned (.float .f64 y) ∧ w' = w) : Calls Tryz.prog 113 #[.float .f64 x, .int .i64 z] w fun e w' => e = .returned (.float .f64 y) ∧ w' = w := by
  go_enter Tryz.func113, Tryz.ntmps113
  go_wp2_with fail
  refine h.mono ?_
  rintro e w' ⟨rfl, rfl⟩
  go_wp2_with fail
  go_ret
  exact ⟨rfl, rfl⟩
end Go.Proofs.YtgdgklhfakplhaaGreatDoor
namespace Go.Proofs.YtgdgklhfakplhaaGreatDoor
open Go.RowKit Go.Dig
set_option maxRecDepth 100000
theorem mid_le {B k M N : Nat} (h1 : k ≤ 2045) (h2 : M < 2 * B) (h3 : 2047 * B = N) : k * B + M ≤ N := by
  have := Nat.mul_le_mul_right B h1
  omega
/-- math.Ldexp of a whole number of at most 53 digits that is normal there, or stands at the least place. -/
theorem ldexp_fin (M k : Nat) (w : World) (h0 : 0 < M) (h1 : M < 9007199254740992) (h2 : 4503599627370496 ≤ M ∨ k = 0) (hk : k < 90000) :
    Calls Tryz.prog 113 #[.float .f64 (Ieee.double.nearest false M 0), .int .i64 ((k : Int) - 1074)] w fun e w' => e = .returned (.float .f64 (min (k * 4503599627370496 + M) 9218868437227405312)) ∧ w' = w := by
  refine ldexp_wrap _ _ _ w ?_
  have hM : M ≠ 0 := by omega
  obtain ⟨L, hL⟩ : ∃ L, M.log2 = L := ⟨_, rfl⟩
  have a0 : 2 ^ L ≤ M := by rw [← hL]; exact Nat.log2_self_le hM
  have a1 : M < 2 ^ (L + 1) := by rw [← hL]; exact Nat.lt_log2_self
  have hL52 : L ≤ 52 := by
    have : L < 53 := by rw [← hL]; exact (Nat.log2_lt hM).2 (by omega)
    omega
  have hof := Go.Fl.of_nat a0 a1 hL52
  have e : 2 ^ L * 2 ^ (52 - L) = 4503599627370496 := by rw [← Nat.pow_add, show L + (52 - L) = 52 by omega]
  have e' : 2 ^ (L + 1) * 2 ^ (52 - L) = 9007199254740992 := by rw [← Nat.pow_add, show L + 1 + (52 - L) = 53 by omega]
  have b0 : 4503599627370496 ≤ M * 2 ^ (52 - L) := by rw [← e]; exact Nat.mul_le_mul_right _ a0
  have b1 : M * 2 ^ (52 - L) < 9007199254740992 := by rw [← e']; exact (Nat.mul_lt_mul_right (Nat.two_pow_pos _)).2 a1
  obtain ⟨f, hf⟩ : ∃ f, M * 2 ^ (52 - L) = 4503599627370496 + f := ⟨M * 2 ^ (52 - L) - 4503599627370496, by omega⟩
  have hfB : f < 4503599627370496 := by omega
  rw [hof, hf, show (1022 + L) * 4503599627370496 + (4503599627370496 + f) = (1023 + L) * 4503599627370496 + f by
    rw [show 1023 + L = (1022 + L) + 1 by omega, Nat.add_mul (1022 + L), Nat.one_mul, Nat.add_assoc]]
  rcases Nat.lt_or_ge M 4503599627370496 with hs | hs
  · have hk0 : k = 0 := by omega
    subst hk0
    have hL51 : L ≤ 51 := by
      have : L < 52 := by rw [← hL]; exact (Nat.log2_lt hM).2 (by omega)
      omega
    have := ldexp_tiny (1023 + L) f (L + 2) M (52 - L) (((0 : Nat) : Int) - 1074) (by omega) (by omega) hfB (by omega) (by omega) (by omega) (by rw [hf]) (by omega) w
    rw [Nat.zero_mul, Nat.zero_add, Nat.min_eq_left (by omega)]
    exact this
  · have hLe : L = 52 := by
      rw [← hL]; exact Go.Fl.log2_eq (by omega) (by omega)
    subst hLe
    rw [Nat.sub_self, Nat.pow_zero, Nat.mul_one] at hf
    have hfM : f = M - 4503599627370496 := by omega
    rcases Nat.lt_or_ge (k + 1) 2047 with hi | hi
    · have := ldexp_mid (1023 + 52) f (k + 1) ((k : Int) - 1074) (by omega) (by omega) hfB (by omega) (by omega) (by omega) w
      have hmid : (k + 1) * 4503599627370496 + f = k * 4503599627370496 + M := by omega
      rw [hmid] at this
      have hle : k * 4503599627370496 + M ≤ 9218868437227405312 := mid_le (by omega) h1 (by decide)
      rw [Nat.min_eq_left hle]
      exact this
    · have := ldexp_inf (1023 + 52) f (k + 1) ((k : Int) - 1074) (by omega) (by omega) hfB (by omega) (by omega) (by omega) w
      have hkb : 2046 * 4503599627370496 ≤ k * 4503599627370496 := Nat.mul_le_mul_right _ (by omega)
      rw [Nat.min_eq_right (by omega)]
      exact this
end Go.Proofs.YtgdgklhfakplhaaGreatDoor
namespace Go.Rnd

/-- The fraction N/D in units of 2^e: dividend, divisor. -/
def un (N : Nat) (e : Int) : Nat := N * 2 ^ (-e).toNat
def ud (D : Nat) (e : Int) : Nat := D * 2 ^ e.toNat
def uq (N D : Nat) (e : Int) : Nat := un N e / ud D e
def ur (N D : Nat) (e : Int) : Nat := un N e % ud D e
/-- 0 nothing, 1 less than a half, 2 a half, 3 more. -/
def leftOf (r d : Nat) : Nat := if r = 0 then 0 else if 2 * r < d then 1 else if 2 * r = d then 2 else 3
def left (N D : Nat) (e : Int) : Nat := leftOf (ur N D e) (ud D e)

theorem ud_pos {D : Nat} (hD : 0 < D) (e : Int) : 0 < ud D e := Nat.mul_pos hD (Nat.pow_pos (by omega))

theorem step_cases (N D : Nat) (e : Int) :
    (un N (e - 1) = un N e ∧ ud D e = 2 * ud D (e - 1)) ∨ (un N (e - 1) = 2 * un N e ∧ ud D (e - 1) = ud D e) := by
  unfold un ud
  rcases Int.lt_or_le 0 e with h | h
  · left
    have h1 : (-e).toNat = 0 := by omega
    have h2 : (-(e - 1)).toNat = 0 := by omega
    have h3 : e.toNat = (e - 1).toNat + 1 := by omega
    rw [h1, h2, h3, Nat.pow_succ]
    refine ⟨rfl, ?_⟩
    rw [← Nat.mul_assoc, Nat.mul_comm]
  · right
    have h1 : e.toNat = 0 := by omega
    have h2 : (e - 1).toNat = 0 := by omega
    have h3 : (-(e - 1)).toNat = (-e).toNat + 1 := by omega
    rw [h1, h2, h3, Nat.pow_succ]
    refine ⟨?_, rfl⟩
    rw [← Nat.mul_assoc, Nat.mul_comm]

/-- The digit ahead, and whether anything is left there, tell the quotient and what is left. -/
theorem step {N D : Nat} (hD : 0 < D) (e : Int) :
    uq N D e = uq N D (e - 1) / 2 ∧
    left N D e = (if ur N D (e - 1) = 0 then (if uq N D (e - 1) % 2 = 0 then 0 else 2) else (if uq N D (e - 1) % 2 = 0 then 1 else 3)) := by
  have hd := ud_pos hD e
  have hd' := ud_pos hD (e - 1)
  unfold left uq ur
  rcases step_cases N D e with ⟨h1, h2⟩ | ⟨h1, h2⟩
  · rw [h1, h2]
    generalize un N e = n
    generalize ud D (e - 1) = d at hd'
    have e1 := Nat.div_add_mod n d
    have e2 := Nat.mod_lt n hd'
    generalize n / d = m at e1 ⊢
    generalize n % d = r at e1 e2 ⊢
    have q2 : m = 2 * (m / 2) + m % 2 := by omega
    have hb : m % 2 < 2 := Nat.mod_lt _ (by omega)
    have en : n = 2 * d * (m / 2) + (d * (m % 2) + r) := by
      have : d * m = d * (2 * (m / 2)) + d * (m % 2) := by rw [← Nat.mul_add, ← q2]
      have h3 : d * (2 * (m / 2)) = 2 * d * (m / 2) := by rw [← Nat.mul_assoc, Nat.mul_comm d 2]
      omega
    have hlt : d * (m % 2) + r < 2 * d := by
      rcases (by omega : m % 2 = 0 ∨ m % 2 = 1) with h | h <;> rw [h] <;> omega
    have a1 : n / (2 * d) = m / 2 := by rw [en, Nat.mul_add_div (by omega), Nat.div_eq_of_lt hlt, Nat.add_zero]
    have a2 : n % (2 * d) = d * (m % 2) + r := by rw [en, Nat.mul_add_mod, Nat.mod_eq_of_lt hlt]
    refine ⟨a1, ?_⟩
    rw [a2]
    unfold leftOf
    rcases (by omega : m % 2 = 0 ∨ m % 2 = 1) with h | h
    · rw [h]
      by_cases hr : r = 0
      · simp [hr]
      · simp [hr]; omega
    · rw [h]
      by_cases hr : r = 0
      · simp [hr]; omega
      · have c1 : ¬ (d * 1 + r = 0) := by omega
        have c2 : ¬ (2 * (d * 1 + r) < 2 * d) := by omega
        have c3 : ¬ (2 * (d * 1 + r) = 2 * d) := by omega
        rw [if_neg c1, if_neg c2, if_neg c3, if_neg hr]; rfl
  · rw [h1, h2]
    generalize un N e = n
    generalize ud D e = d at hd
    have e1 := Nat.div_add_mod (2 * n) d
    have e2 := Nat.mod_lt (2 * n) hd
    generalize 2 * n / d = m at e1 ⊢
    generalize 2 * n % d = r at e1 e2 ⊢
    have q2 : m = 2 * (m / 2) + m % 2 := by omega
    have en : 2 * n = 2 * (d * (m / 2)) + (d * (m % 2) + r) := by
      have : d * m = d * (2 * (m / 2)) + d * (m % 2) := by rw [← Nat.mul_add, ← q2]
      have h3 : d * (2 * (m / 2)) = 2 * (d * (m / 2)) := by rw [Nat.mul_left_comm]
      omega
    have hs : d * (m % 2) + r < 2 * d := by
      rcases (by omega : m % 2 = 0 ∨ m % 2 = 1) with h | h <;> rw [h] <;> omega
    obtain ⟨s, hs2⟩ : ∃ s, d * (m % 2) + r = 2 * s := ⟨n - d * (m / 2), by omega⟩
    have en' : n = d * (m / 2) + s := by omega
    have hslt : s < d := by omega
    have a1 : n / d = m / 2 := by rw [en', Nat.mul_add_div hd, Nat.div_eq_of_lt hslt, Nat.add_zero]
    have a2 : n % d = s := by rw [en', Nat.mul_add_mod, Nat.mod_eq_of_lt hslt]
    refine ⟨a1, ?_⟩
    rw [a2]
    unfold leftOf
    rcases (by omega : m % 2 = 0 ∨ m % 2 = 1) with h | h
    · rw [h] at hs2 ⊢
      by_cases hr : r = 0
      · have : s = 0 := by omega
        simp [hr, this]
      · have h1 : ¬ s = 0 := by omega
        have h2 : 2 * s < d := by omega
        simp [hr, h1, h2]
    · rw [h] at hs2 ⊢
      by_cases hr : r = 0
      · have h1 : ¬ s = 0 := by omega
        have h2 : ¬ 2 * s < d := by omega
        have h3 : 2 * s = d := by omega
        simp [hr, h1, h3]
      · have h1 : ¬ s = 0 := by omega
        have h2 : ¬ 2 * s < d := by omega
        have h3 : ¬ 2 * s = d := by omega
        simp [hr, h1, h2, h3]

/-- Whether anything is left, one unit on. -/
theorem ur_zero {N D : Nat} (hD : 0 < D) (e : Int) : (ur N D e = 0) = (ur N D (e - 1) = 0 ∧ uq N D (e - 1) % 2 = 0) := by
  have h := (step (N := N) hD e).2
  have hz : (ur N D e = 0) ↔ left N D e = 0 := by
    unfold left leftOf
    constructor
    · intro h; simp [h]
    · intro h
      split at h
      · assumption
      · split at h
        · cases h
        · split at h <;> cases h
  apply propext
  rw [hz, h]
  by_cases h1 : ur N D (e - 1) = 0 <;> by_cases h2 : uq N D (e - 1) % 2 = 0 <;> simp [h1, h2]

end Go.Rnd
namespace Go.Rnd
open Go.Dig
theorem blen_lo {n : Nat} (h : 0 < n) : 2 ^ (blen n - 1) ≤ n := by
  have hp := blen_pos (n := n) (by omega)
  exact blen_ge (by omega)
/-- The first quotient has c or c + 1 digits. -/
theorem first_quot {P D : Nat} (hP : 0 < P) (hD : 0 < D) (c : Nat) (e : Int) (he : e = (blen P : Int) - blen D - c) (hc : 1 ≤ c) : 2 ^ (c - 1) ≤ uq P D e ∧ uq P D e < 2 ^ (c + 1) := by
  have p1 := blen_lo hP
  have p2 := blen_lt P
  have d1 := blen_lo hD
  have d2 := blen_lt D
  have hp := blen_pos (n := P) (by omega)
  have hd := blen_pos (n := D) (by omega)
  generalize blen P = a at *
  generalize blen D = d at *
  have hud := ud_pos hD e
  unfold uq
  suffices h : 2 ^ (c - 1) * ud D e ≤ un P e ∧ un P e < 2 ^ (c + 1) * ud D e from
    ⟨(Nat.le_div_iff_mul_le hud).2 h.1, Nat.div_lt_of_lt_mul (by rw [Nat.mul_comm]; exact h.2)⟩
  unfold un ud
  rcases Int.le_total 0 e with h | h
  · have h1 : (-e).toNat = 0 := by omega
    rw [h1, Nat.pow_zero, Nat.mul_one]
    obtain ⟨k, hk⟩ : ∃ k : Nat, e.toNat = k := ⟨_, rfl⟩
    rw [hk]
    constructor
    · calc 2 ^ (c - 1) * (D * 2 ^ k) ≤ 2 ^ (c - 1) * (2 ^ d * 2 ^ k) := Nat.mul_le_mul_left _ (Nat.mul_le_mul_right _ (Nat.le_of_lt d2))
        _ = 2 ^ (a - 1) := by rw [← Nat.pow_add, ← Nat.pow_add]; congr 1; omega
        _ ≤ P := p1
    · calc P < 2 ^ a := p2
        _ = 2 ^ (c + 1) * (2 ^ (d - 1) * 2 ^ k) := by rw [← Nat.pow_add, ← Nat.pow_add]; congr 1; omega
        _ ≤ 2 ^ (c + 1) * (D * 2 ^ k) := Nat.mul_le_mul_left _ (Nat.mul_le_mul_right _ d1)
  · have h1 : e.toNat = 0 := by omega
    rw [h1, Nat.pow_zero, Nat.mul_one]
    obtain ⟨k, hk⟩ : ∃ k : Nat, (-e).toNat = k := ⟨_, rfl⟩
    rw [hk]
    constructor
    · calc 2 ^ (c - 1) * D ≤ 2 ^ (c - 1) * 2 ^ d := Nat.mul_le_mul_left _ (Nat.le_of_lt d2)
        _ = 2 ^ (a - 1) * 2 ^ k := by rw [← Nat.pow_add, ← Nat.pow_add]; congr 1; omega
        _ ≤ P * 2 ^ k := Nat.mul_le_mul_right _ p1
    · calc P * 2 ^ k < 2 ^ a * 2 ^ k := (Nat.mul_lt_mul_right (Nat.two_pow_pos k)).2 p2
        _ = 2 ^ (c + 1) * 2 ^ (d - 1) := by rw [← Nat.pow_add, ← Nat.pow_add]; congr 1; omega
        _ ≤ 2 ^ (c + 1) * D := Nat.mul_le_mul_left _ d1
theorem uq_half {N D : Nat} (hD : 0 < D) (e : Int) : uq N D (e + 1) = uq N D e / 2 ∧ (ur N D (e + 1) = 0 ↔ ur N D e = 0 ∧ uq N D e % 2 = 0) := by
  have h1 := (step (N := N) hD (e + 1)).1
  have h2 := ur_zero (N := N) hD (e + 1)
  rw [show e + 1 - 1 = e by omega] at h1 h2
  exact ⟨h1, by rw [h2]⟩
/-- s digits dropped. -/
theorem uq_drop {N D : Nat} (hD : 0 < D) (e : Int) : ∀ s : Nat, uq N D (e + s) = uq N D e / 2 ^ s ∧ (ur N D (e + s) = 0 ↔ ur N D e = 0 ∧ uq N D e % 2 ^ s = 0)
  | 0 => by simp [Nat.mod_one]
  | s + 1 => by
    obtain ⟨h1, h2⟩ := uq_drop (N := N) hD e s
    obtain ⟨h3, h4⟩ := uq_half (N := N) hD (e + s)
    rw [show e + ((s + 1 : Nat) : Int) = e + (s : Int) + 1 by omega, h3, h4, h1, h2, Nat.div_div_eq_div_mul, Nat.pow_succ]
    refine ⟨rfl, ?_⟩
    generalize uq N D e = q
    have hp := Nat.two_pow_pos s
    rw [Nat.mod_mul]
    constructor
    · rintro ⟨⟨a, b⟩, c⟩
      exact ⟨a, by rw [b, c]; simp⟩
    · rintro ⟨a, b⟩
      have b1 : q % 2 ^ s = 0 := by omega
      have b2 : 2 ^ s * (q / 2 ^ s % 2) = 0 := by omega
      refine ⟨⟨a, b1⟩, ?_⟩
      rcases Nat.mul_eq_zero.1 b2 with h | h
      · omega
      · exact h
theorem un_small {P D B k : Nat} (c : Nat) (e : Int) (he : e = (blen P : Int) - blen D - c) (h1 : blen P ≤ k) (h2 : blen D + c ≤ k) (hB : B = 2 ^ k) : un P e < B := by
  have p2 := blen_lt P
  subst hB
  unfold un
  rcases Int.le_total 0 e with h | h
  · rw [show (-e).toNat = 0 by omega, Nat.pow_zero, Nat.mul_one]
    exact Nat.lt_of_lt_of_le p2 (Nat.pow_le_pow_right (by omega) h1)
  · calc P * 2 ^ (-e).toNat < 2 ^ blen P * 2 ^ (-e).toNat := (Nat.mul_lt_mul_right (Nat.two_pow_pos _)).2 p2
      _ = 2 ^ (blen P + (-e).toNat) := (Nat.pow_add ..).symm
      _ ≤ 2 ^ k := Nat.pow_le_pow_right (by omega) (by omega)
theorem ud_small {P D B k : Nat} (c : Nat) (e : Int) (he : e = (blen P : Int) - blen D - c) (h1 : blen P ≤ k) (h2 : blen D ≤ k) (hB : B = 2 ^ k) : ud D e < B := by
  have p2 := blen_lt D
  subst hB
  unfold ud
  rcases Int.le_total 0 e with h | h
  · calc D * 2 ^ e.toNat < 2 ^ blen D * 2 ^ e.toNat := (Nat.mul_lt_mul_right (Nat.two_pow_pos _)).2 p2
      _ = 2 ^ (blen D + e.toNat) := (Nat.pow_add ..).symm
      _ ≤ 2 ^ k := Nat.pow_le_pow_right (by omega) (by omega)
  · rw [show e.toNat = 0 by omega, Nat.pow_zero, Nat.mul_one]
    exact Nat.lt_of_lt_of_le p2 (Nat.pow_le_pow_right (by omega) h2)
def up (N D : Nat) (U : Int) : Bool := decide (left N D U = 3) || (decide (left N D U = 2) && decide (uq N D U % 2 = 1))
/-- The number of units that is nearest; of two the even one. -/
def near (N D : Nat) (U : Int) : Nat := uq N D U + (if up N D U then 1 else 0)
/-- The last digit found is dropped, and what is found there rounds. -/
theorem round_last {N D : Nat} (hD : 0 < D) (e : Int) :
    near N D (e + 1) = (if uq N D e % 2 = 1 ∧ (ur N D e ≠ 0 ∨ uq N D e / 2 % 2 = 1) then (uq N D e + 1) / 2 else uq N D e / 2) ∧
    (left N D (e + 1) = 0 ↔ ur N D e = 0 ∧ uq N D e % 2 = 0) := by
  obtain ⟨h1, h2⟩ := step (N := N) hD (e + 1)
  rw [show e + 1 - 1 = e by omega] at h1 h2
  unfold near up
  rw [h1, h2]
  generalize uq N D e = q
  by_cases hr : ur N D e = 0
  · rcases Nat.mod_two_eq_zero_or_one q with hq | hq
    · simp [hr, hq]
    · by_cases hq2 : q / 2 % 2 = 1
      · simp [hr, hq, hq2]; omega
      · simp [hr, hq, hq2]
  · rcases Nat.mod_two_eq_zero_or_one q with hq | hq
    · simp [hr, hq]
    · simp [hr, hq]; omega
end Go.Rnd
