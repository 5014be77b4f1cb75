/- Walks and lemmas for the laws of this seat. -/
import Derived.Test.YtgdgklhfakplhaaGreatDoorH18
import Derived.Test.YtgdgklhfakplhaaGreatDoorH22
import Derived.Test.YtgdgklhfakplhaaGreatDoorH13
import Derived.Test.YtgdgklhfakplhaaGreatDoorH23
import Derived.Test.YtgdgklhfakplhaaGreatDoorH03
import Derived.Lib.ItoaNum
import Derived.Deep.DeepCutAuto
import Derived.Deep.CutBlock
namespace Go.Proofs.YtgdgklhfakplhaaGreatDoor
open Go.RowKit Go.Dig
set_option maxRecDepth 100000
theorem lz_bounds {y : Nat} (h0 : 0 < y) (h1 : y < 18446744073709551616) : ∃ s : Nat, s ≤ 63 ∧ (64 : Int) - (Lib.bitLen y : Int) = (s : Int) ∧ 9223372036854775808 ≤ y * 2 ^ s ∧ y * 2 ^ s < 18446744073709551616 := by
  obtain ⟨b1, b2, b3⟩ := Lib.bitLenAux_bounds 64 y h1 (by omega)
  have hle : Lib.bitLen y ≤ 64 := Lib.bitLen_le y 64 (by omega) h1
  have e : Lib.bitLen y = Lib.bitLenAux 64 y := rfl
  rw [← e] at b1 b2 b3
  refine ⟨64 - Lib.bitLen y, by omega, by omega, ?_, ?_⟩
  · calc 9223372036854775808 = 2 ^ (Lib.bitLen y - 1) * 2 ^ (64 - Lib.bitLen y) := by rw [← Nat.pow_add, show Lib.bitLen y - 1 + (64 - Lib.bitLen y) = 63 by omega]
      _ ≤ y * 2 ^ (64 - Lib.bitLen y) := Nat.mul_le_mul_right _ b2
  · calc y * 2 ^ (64 - Lib.bitLen y) < 2 ^ Lib.bitLen y * 2 ^ (64 - Lib.bitLen y) := Nat.mul_lt_mul_of_pos_right b3 (Nat.two_pow_pos _)
      _ = 18446744073709551616 := by rw [← Nat.pow_add, show Lib.bitLen y + (64 - Lib.bitLen y) = 64 by omega]
set_option maxHeartbeats 400000 in
theorem blen_any (y : Nat) (h1 : y < 18446744073709551616) (w : World) : Calls Tryz.prog 141 #[.int .u64 y] w fun e w' => e = .returned (.int .i64 (Lib.bitLen y)) ∧ w' = w := by
  have H := fun w => sh_bits_Len64 (y : Int) w (by omega) (by omega)
  rw [Int.toNat_natCast] at H
  generalize Lib.bitLen y = L at *
  go_enter Tryz.func141, Tryz.ntmps141
  go_wp2_with fail
  refine (H _).mono ?_
  rintro e w' ⟨rfl, rfl⟩
  go_wp2_with fail
  go_ret
  exact ⟨rfl, rfl⟩
set_option maxHeartbeats 400000 in
theorem lz_any (y s : Nat) (h1 : y < 18446744073709551616) (hs : s ≤ 63) (he : (64 : Int) - (Lib.bitLen y : Int) = (s : Int)) (w : World) : Calls Tryz.prog 142 #[.int .u64 y] w fun e w' => e = .returned (.int .i64 s) ∧ w' = w := by
  have H := fun w => blen_any y h1 w
  have hb : Lib.bitLen y ≤ 64 := Lib.bitLen_le y 64 (by omega) h1
  generalize Lib.bitLen y = L at *
  go_enter Tryz.func142, Tryz.ntmps142
  go_wp2_with fail
  refine (H _).mono ?_
  rintro e w' ⟨rfl, rfl⟩
  go_wp2_with fail
  go_ret
  exact ⟨rfl, rfl⟩
set_option maxHeartbeats 400000 in
theorem nlz_any (y s : Nat) (h1 : y < 18446744073709551616) (hs : s ≤ 63) (he : (64 : Int) - (Lib.bitLen y : Int) = (s : Int)) (w : World) : Calls Tryz.prog 107 #[.int .u64 y] w fun e w' => e = .returned (.int .u64 s) ∧ w' = w := by
  have H := fun w => lz_any y s h1 hs he w
  clear he
  go_enter Tryz.func107, Tryz.ntmps107
  go_wp2_with fail
  refine (H _).mono ?_
  rintro e w' ⟨rfl, rfl⟩
  go_wp2_with fail
  go_ret
  exact ⟨rfl, rfl⟩
/-- What the shifted operands of a division are. -/
theorem shifted_facts {hi lo y s : Nat} (hh : hi < y) (hlo : lo < 18446744073709551616) (hs : s ≤ 63) (hn2 : y * 2 ^ s < 18446744073709551616) :
    bits .or .u64 ((hi * 2 ^ s : Nat) : Int) ((lo / 2 ^ (64 - s) : Nat) : Int) = ((hi * 2 ^ s + lo / 2 ^ (64 - s) : Nat) : Int) ∧ hi * 2 ^ s + lo / 2 ^ (64 - s) < y * 2 ^ s ∧
    (hi * 2 ^ s + lo / 2 ^ (64 - s)) * 18446744073709551616 + lo * 2 ^ s % 18446744073709551616 = (hi * 18446744073709551616 + lo) * 2 ^ s := by
  have hp := Nat.two_pow_pos s
  have e64 : (18446744073709551616 : Nat) = 2 ^ (64 - s) * 2 ^ s := by rw [← Nat.pow_add, show 64 - s + s = 64 by omega]
  have hl : lo / 2 ^ (64 - s) < 2 ^ s := by
    apply Nat.div_lt_of_lt_mul
    rw [← e64]
    exact hlo
  have h1 : (hi + 1) * 2 ^ s ≤ y * 2 ^ s := Nat.mul_le_mul_right _ hh
  rw [Nat.add_mul, Nat.one_mul] at h1
  refine ⟨?_, by omega, ?_⟩
  · rw [bits_or_u64_nat _ _ (by omega) (by omega)]
    congr 1
    rw [← Nat.shiftLeft_eq, ← Nat.shiftLeft_add_eq_or_of_lt hl]
  · have e1 : lo * 2 ^ s % 18446744073709551616 = lo % 2 ^ (64 - s) * 2 ^ s := by
      rw [e64, Nat.mul_mod_mul_right]
    rw [e1]
    have e2 := Nat.div_add_mod lo (2 ^ (64 - s))
    have e3 : lo / 2 ^ (64 - s) * 18446744073709551616 = 2 ^ (64 - s) * (lo / 2 ^ (64 - s)) * 2 ^ s := by
      rw [e64, Nat.mul_comm (2 ^ (64 - s)) (lo / 2 ^ (64 - s)), Nat.mul_assoc]
    rw [Nat.add_mul, e3, Nat.add_mul, Nat.add_assoc, ← Nat.add_mul, e2, Nat.mul_right_comm]
theorem band32 (z : Nat) (h : z < 18446744073709551616) : bits .and .u64 (z : Int) 4294967295 = ((z % 4294967296 : Nat) : Int) := by
  rw [u64_and _ 4294967295 (by omega) (by omega) (by omega) (by omega), show (4294967295 : Int).toNat = 2 ^ 32 - 1 from rfl, Nat.and_two_pow_sub_one_eq_mod]
  simp
theorem wrapN' (n : Nat) (h : n < 18446744073709551616) : IntKind.u64.wrap (n : Int) = n := by rw [IntKind.wrap_u64]; omega
theorem tdivN (a b : Nat) : Int.tdiv (a : Int) (b : Int) = ((a / b : Nat) : Int) := by
  rw [Int.tdiv_eq_ediv_of_nonneg (by omega)]; simp
theorem wrap_rest {U u1 Y q R : Nat} (h : U * 4294967296 + u1 = q * Y + R) (hR : R < 18446744073709551616) :
    IntKind.u64.wrap (IntKind.u64.wrap (IntKind.u64.wrap ((U : Int) * 4294967296) + (u1 : Int)) - IntKind.u64.wrap ((q : Int) * (Y : Int))) = (R : Int) := by
  simp only [IntKind.wrap_u64]
  rw [show (q : Int) * (Y : Int) = ((q * Y : Nat) : Int) by simp]
  generalize q * Y = T at *
  omega
theorem guess_facts {U yn1 : Nat} (hU : U < 18446744073709551616) (h1 : 2147483648 ≤ yn1) (h2 : yn1 < 4294967296) :
    IntKind.u64.wrap ((U : Int) / (yn1 : Int)) = ((U / yn1 : Nat) : Int) ∧ IntKind.u64.wrap (Int.tdiv (U : Int) (yn1 : Int)) = ((U / yn1 : Nat) : Int) ∧ IntKind.u64.wrap (((U / yn1 : Nat) : Int) * (yn1 : Int)) = ((U / yn1 * yn1 : Nat) : Int) ∧
    IntKind.u64.wrap ((U : Int) - ((U / yn1 * yn1 : Nat) : Int)) = ((U % yn1 : Nat) : Int) ∧ U % yn1 < 4294967296 := by
  have hq1 : U / yn1 * yn1 ≤ U := Nat.div_mul_le_self _ _
  have hm := Nat.mod_lt U (show yn1 > 0 by omega)
  refine ⟨?_, ?_, ?_, ?_, by omega⟩
  · rw [show (U : Int) / (yn1 : Int) = ((U / yn1 : Nat) : Int) by simp, wrapN' _ (Nat.lt_of_le_of_lt (Nat.div_le_self _ _) hU)]
  · rw [tdivN, wrapN' _ (Nat.lt_of_le_of_lt (Nat.div_le_self _ _) hU)]
  · rw [show ((U / yn1 : Nat) : Int) * (yn1 : Int) = ((U / yn1 * yn1 : Nat) : Int) by simp, wrapN' _ (by omega)]
  · have := Nat.div_add_mod U yn1
    rw [Nat.mul_comm] at this
    rw [show (U : Int) - ((U / yn1 * yn1 : Nat) : Int) = ((U % yn1 : Nat) : Int) by omega, wrapN' _ (by omega)]
theorem guess_top {U Y yn1 yn0 : Nat} (hU : U < Y) (hY : Y = yn1 * 4294967296 + yn0) (h1 : 2147483648 ≤ yn1) (h0 : yn0 < 4294967296) : U / yn1 ≤ 4294967297 := by
  have : U / yn1 < 4294967298 := Nat.div_lt_of_lt_mul (by
    have : yn1 * 4294967298 = yn1 * 4294967296 + yn1 * 2 := by rw [← Nat.mul_add]
    omega)
  omega
set_option maxHeartbeats 1000000 in
theorem div64_any (hi lo y s : Nat) (hh : hi < y) (hlo : lo < 18446744073709551616) (hy : y < 18446744073709551616) (hs : s ≤ 63) (he : (64 : Int) - (Lib.bitLen y : Int) = (s : Int)) (hn1 : 9223372036854775808 ≤ y * 2 ^ s) (hn2 : y * 2 ^ s < 18446744073709551616) (w : World) :
    Calls Tryz.prog 222 #[.int .u64 hi, .int .u64 lo, .int .u64 y] w fun e w' => e = .returned (.tuple #[.int .u64 (((hi * 18446744073709551616 + lo) / y : Nat) : Int), .int .u64 (((hi * 18446744073709551616 + lo) % y : Nat) : Int)]) ∧ ∃ k, w' = w.drewN k := by
  have H := fun w => sh_bits_LeadingZeros64 (y : Int) w (by omega) (by omega)
  rw [Int.toNat_natCast, he] at H
  have y0 : ((y : Int) == 0) = false := by simp; omega
  have yn : (y : Int) ≠ 0 := by omega
  have yn2 : ¬ y = 0 := by omega
  have yd : decide (y = 0) = false := decide_eq_false (by omega)
  rcases Nat.eq_zero_or_pos hi with h0 | h0
  · subst h0
    rw [Nat.zero_mul, Nat.zero_add]
    have HY := hid hh
    clear hh he H hn1 hn2
    have t1 : IntKind.u64.wrap (Int.tdiv (lo : Int) (y : Int)) = ((lo / y : Nat) : Int) := by
      rw [tdivN, wrapN' _ (Nat.lt_of_le_of_lt (Nat.div_le_self _ _) hlo)]
    have t1' : IntKind.u64.wrap ((lo : Int) / (y : Int)) = ((lo / y : Nat) : Int) := by
      rw [show (lo : Int) / (y : Int) = ((lo / y : Nat) : Int) by simp, wrapN' _ (Nat.lt_of_le_of_lt (Nat.div_le_self _ _) hlo)]
    have t2 : Int.tmod (lo : Int) (y : Int) = ((lo % y : Nat) : Int) := by
      rw [Int.tmod_eq_emod_of_nonneg (by omega)]; simp
    have t3 := wrapN' (lo % y) (Nat.lt_of_le_of_lt (Nat.mod_le _ _) hlo)
    generalize lo / y = q at *
    generalize lo % y = r at *
    go_enter Tryz.func222, Tryz.ntmps222
    go_wp2_with fail
    go_quiet (fail)
    go_wp2_with fail
    go_ret2
    exact ⟨rfl, _, rfl⟩
  · have hi0 : ((hi : Int) == 0) = false := by simp; omega
    have y1 : decide ((y : Int) ≤ hi) = false := decide_eq_false (by omega)
    obtain ⟨QQ, HQQ⟩ : ∃ QQ, Hid (QQ = (hi * 18446744073709551616 + lo) / y) := ⟨_, rfl⟩
    obtain ⟨RR, HRR⟩ : ∃ RR, Hid (RR = (hi * 18446744073709551616 + lo) % y) := ⟨_, rfl⟩
    rw [← HQQ.out, ← HRR.out]
    obtain ⟨g1, g2, g3⟩ := shifted_facts hh hlo hs hn2
    obtain ⟨Y, hY⟩ : ∃ Y, Y = y * 2 ^ s := ⟨_, rfl⟩
    obtain ⟨A, hA⟩ : ∃ A, A = hi * 2 ^ s := ⟨_, rfl⟩
    obtain ⟨C, hC⟩ : ∃ C, C = lo / 2 ^ (64 - s) := ⟨_, rfl⟩
    obtain ⟨V, hV⟩ : ∃ V, V = lo * 2 ^ s % 18446744073709551616 := ⟨_, rfl⟩
    have f1 : IntKind.u64.wrap ((y : Int) * 2 ^ s) = (Y : Int) := by rw [hY, wrap_mul, Nat.mod_eq_of_lt hn2]
    have f4 : IntKind.u64.wrap ((hi : Int) * 2 ^ s) = (A : Int) := by rw [hA, wrap_mul, Nat.mod_eq_of_lt (by omega)]
    have f5 : (lo : Int) / 2 ^ (64 - s) = (C : Int) := by rw [hC]; simp
    have f7 : IntKind.u64.wrap ((lo : Int) * 2 ^ s) = (V : Int) := by rw [hV, wrap_mul]
    rw [← hY] at hn1 hn2 g2
    rw [← hA, ← hC] at g1 g2 g3
    rw [← hV] at g3
    have hV2 : V < 18446744073709551616 := by rw [hV]; exact Nat.mod_lt _ (by omega)
    have HG3 := hid g3
    have HYs := hid hY
    clear hY hA hC hV g3
    obtain ⟨U, hU⟩ : ∃ U, U = A + C := ⟨_, rfl⟩
    rw [← hU] at g1 g2 HG3
    have HU := hid hU
    clear hU
    obtain ⟨yn1, hyn1⟩ : ∃ n, n = Y / 4294967296 := ⟨_, rfl⟩
    obtain ⟨yn0, hyn0⟩ : ∃ n, n = Y % 4294967296 := ⟨_, rfl⟩
    obtain ⟨u1, hu1⟩ : ∃ n, n = V / 4294967296 := ⟨_, rfl⟩
    obtain ⟨u0, hu0⟩ : ∃ n, n = V % 4294967296 := ⟨_, rfl⟩
    have f2 : (Y : Int) / 4294967296 = (yn1 : Int) := by omega
    have f3 : bits .and .u64 (Y : Int) 4294967295 = (yn0 : Int) := by rw [hyn0, band32 Y hn2]
    have f8 : (V : Int) / 4294967296 = (u1 : Int) := by omega
    have f9 : bits .and .u64 (V : Int) 4294967295 = (u0 : Int) := by rw [hu0, band32 V hV2]
    have b1 : 2147483648 ≤ yn1 ∧ yn1 < 4294967296 := by omega
    have b0 : yn0 < 4294967296 := by omega
    have bu1 : u1 < 4294967296 := by omega
    have bu0 : u0 < 4294967296 := by omega
    have hYe : Y = yn1 * 4294967296 + yn0 := by omega
    have hVe : V = u1 * 4294967296 + u0 := by omega
    have HYe := hid hYe
    have HVe := hid hVe
    clear hyn1 hyn0 hu1 hu0 hVe
    have hq1 : U / yn1 * yn1 ≤ U := Nat.div_mul_le_self _ _
    have f10 : IntKind.u64.wrap ((U : Int) / (yn1 : Int)) = ((U / yn1 : Nat) : Int) := by
      rw [show (U : Int) / (yn1 : Int) = ((U / yn1 : Nat) : Int) by simp, wrapN' _ (Nat.lt_of_le_of_lt (Nat.div_le_self _ _) (by omega))]
    have f11 : IntKind.u64.wrap (((U / yn1 : Nat) : Int) * (yn1 : Int)) = ((U / yn1 * yn1 : Nat) : Int) := by
      rw [show ((U / yn1 : Nat) : Int) * (yn1 : Int) = ((U / yn1 * yn1 : Nat) : Int) by simp, wrapN' _ (by omega)]
    have f12 : IntKind.u64.wrap ((U : Int) - ((U / yn1 * yn1 : Nat) : Int)) = ((U % yn1 : Nat) : Int) := by
      have := Nat.div_add_mod U yn1
      rw [Nat.mul_comm] at this
      rw [show (U : Int) - ((U / yn1 * yn1 : Nat) : Int) = ((U % yn1 : Nat) : Int) by omega, wrapN' _ (by have := Nat.mod_lt U (show yn1 > 0 by omega); omega)]
    have HG0 : Hid (Go.DivPl.Guess 4294967296 yn1 yn0 U u1 (U / yn1) (U % yn1)) := Go.DivPl.guess_start (by omega) bu1
    have hr0 : U % yn1 < 4294967296 := by have := Nat.mod_lt U (show yn1 > 0 by omega); omega
    have hq0 : U / yn1 ≤ 4294967297 := by
      have : U / yn1 < 4294967298 := Nat.div_lt_of_lt_mul (by
        have : yn1 * 4294967298 = yn1 * 4294967296 + yn1 * 2 := by rw [← Nat.mul_add]
        omega)
      omega
    generalize U / yn1 * yn1 = P at *
    generalize U / yn1 = q0 at *
    generalize U % yn1 = r0 at *
    have yp : (yn1 : Int) ≠ 0 := by omega
    have yp2 : ¬ yn1 = 0 := by omega
    have hU2 : U < 18446744073709551616 := by omega
    clear hq1 hYe
    go_enter Tryz.func222, Tryz.ntmps222
    go_upto_block 0 with (go_at_call 234; refine (H _).mono ?_; rintro e w' ⟨rfl, rfl⟩)
    clear f1 f2 f3 f4 f5 f7 f8 f9 f10 f11 f12
    go_cut [15, 16] (fun v15 v16 wx => ∃ q r : Nat, v15 = .int .u64 q ∧ v16 = .int .u64 r ∧ Hid (Go.DivPl.Guess 4294967296 yn1 yn0 U u1 q r) ∧ Hid (q * yn0 ≤ 4294967296 * r + u1) ∧ wx = w')
    case first =>
      go_wp2_with fail
      go_loopw [15, 16] (fun v15 v16 wr => ∃ q r : Nat, v15 = .int .u64 q ∧ v16 = .int .u64 r ∧ q ≤ 4294967297 ∧ r < 4294967296 ∧ Hid (Go.DivPl.Guess 4294967296 yn1 yn0 U u1 q r) ∧ wr = w') (fun v15 _ _ => (intOf v15).toNat)
      case atStart => exact ⟨q0, r0, rfl, rfl, hq0, hr0, HG0, rfl⟩
      case round =>
        obtain ⟨q, r, rfl, rfl, hq, hr, HG, rfl⟩ := hrel
        have hcase : 4294967296 ≤ q ∨ (q < 4294967296 ∧ 4294967296 * r + u1 < q * yn0) ∨ (q < 4294967296 ∧ q * yn0 ≤ 4294967296 * r + u1) := by omega
        have HM : Hid (∃ M, M = q * yn0 ∧ (q < 4294967296 → M < 18446744073709551616)) := ⟨_, rfl, fun h => by
          have := Nat.mul_le_mul (show q ≤ 4294967295 by omega) (show yn0 ≤ 4294967295 by omega); omega⟩
        obtain ⟨M, hM, hM2⟩ := HM.out
        rw [← hM] at hcase
        have hM3 := hid hM
        clear hM HM
        have p2 : IntKind.u64.wrap (4294967296 * (r : Int)) = 4294967296 * (r : Int) := by rw [IntKind.wrap_u64]; omega
        have p3 : IntKind.u64.wrap (4294967296 * (r : Int) + (u1 : Int)) = 4294967296 * (r : Int) + (u1 : Int) := by rw [IntKind.wrap_u64]; omega
        rcases hcase with hb | ⟨hb, hb2⟩ | ⟨hb, hb2⟩
        · have c1 : decide ((4294967296 : Int) ≤ (q : Int)) = true := decide_eq_true (by omega)
          obtain ⟨hp, G'⟩ := Go.DivPl.guess_step HG.out (by rw [← HYe.out]; exact g2) bu1 (.inl hb)
          have HG' := hid G'
          clear G'
          by_cases hbr : 4294967296 ≤ r + yn1
          · have c2 : decide ((4294967296 : Int) ≤ (r : Int) + (yn1 : Int)) = true := decide_eq_true (by omega)
            go_wp2_with fail
            go_meet
            exact ⟨q - 1, r + yn1, by go_num, by go_num, HG', Go.DivPl.guess_break HG'.out (by rw [← HYe.out]; exact g2) b0 hbr, rfl⟩
          · have c2 : decide ((4294967296 : Int) ≤ (r : Int) + (yn1 : Int)) = false := decide_eq_false (by omega)
            go_wp2_with fail
            refine ⟨⟨q - 1, r + yn1, by go_num, by go_num, by omega, by omega, HG', trivial⟩, by simp [intOf]; omega⟩
        · have c1 : decide ((4294967296 : Int) ≤ (q : Int)) = false := decide_eq_false (by omega)
          have p1 : IntKind.u64.wrap ((q : Int) * (yn0 : Int)) = (M : Int) := by rw [hM3.out, show (q : Int) * (yn0 : Int) = ((q * yn0 : Nat) : Int) by simp, wrapN' _ (by rw [← hM3.out]; exact hM2 hb)]
          have c3 : decide (4294967296 * (r : Int) + (u1 : Int) < (M : Int)) = true := decide_eq_true (by omega)
          obtain ⟨hp, G'⟩ := Go.DivPl.guess_step HG.out (by rw [← HYe.out]; exact g2) bu1 (.inr (by rw [← hM3.out]; exact hb2))
          have HG' := hid G'
          clear G' hM2
          by_cases hbr : 4294967296 ≤ r + yn1
          · have c2 : decide ((4294967296 : Int) ≤ (r : Int) + (yn1 : Int)) = true := decide_eq_true (by omega)
            go_wp2_with fail
            go_meet
            exact ⟨q - 1, r + yn1, by go_num, by go_num, HG', Go.DivPl.guess_break HG'.out (by rw [← HYe.out]; exact g2) b0 hbr, rfl⟩
          · have c2 : decide ((4294967296 : Int) ≤ (r : Int) + (yn1 : Int)) = false := decide_eq_false (by omega)
            go_wp2_with fail
            refine ⟨⟨q - 1, r + yn1, by go_num, by go_num, by omega, by omega, HG', trivial⟩, by simp [intOf]; omega⟩
        · have c1 : decide ((4294967296 : Int) ≤ (q : Int)) = false := decide_eq_false (by omega)
          have p1 : IntKind.u64.wrap ((q : Int) * (yn0 : Int)) = (M : Int) := by rw [hM3.out, show (q : Int) * (yn0 : Int) = ((q * yn0 : Nat) : Int) by simp, wrapN' _ (by rw [← hM3.out]; exact hM2 hb)]
          have c3 : decide (4294967296 * (r : Int) + (u1 : Int) < (M : Int)) = false := decide_eq_false (by omega)
          clear hM2
          go_wp2_with fail
          go_meet
          exact ⟨q, r, rfl, rfl, HG, hid (by rw [← hM3.out]; exact hb2), rfl⟩
    case rest =>
      obtain ⟨q, r, rfl, rfl, HG, HL, rfl⟩ := hcut
      have hqd := Go.DivPl.guess_done HG.out HL.out
      rw [← HYe.out] at hqd
      have HQ := hid hqd
      obtain ⟨R, hR⟩ : ∃ R, R = (U * 4294967296 + u1) % Y := ⟨_, rfl⟩
      have hRY : R < Y := by rw [hR]; exact Nat.mod_lt _ (by omega)
      have hsum : U * 4294967296 + u1 = q * Y + R := by
        have := Nat.div_add_mod (U * 4294967296 + u1) Y
        rw [← hqd, ← hR, Nat.mul_comm] at this
        exact this.symm
      have m1 := wrap_rest hsum (by omega)
      have HR := hid hR
      obtain ⟨m2, m2', m3, m4, hr2⟩ := guess_facts (show R < 18446744073709551616 by omega) b1.1 b1.2
      have hq2 := guess_top hRY HYe.out b1.1 b0
      have HG2 : Hid (Go.DivPl.Guess 4294967296 yn1 yn0 R u0 (R / yn1) (R % yn1)) := Go.DivPl.guess_start (by omega) bu0
      generalize R / yn1 * yn1 = P2 at *
      generalize R / yn1 = q2 at *
      generalize R % yn1 = r2 at *
      clear hqd hR hsum HG HL
      go_upto_block 2 with fail
      clear m1 m2 m2' m3 m4
      go_cut [18, 16] (fun v18 v16 wx => ∃ q r : Nat, v18 = .int .u64 q ∧ v16 = .int .u64 r ∧ Hid (Go.DivPl.Guess 4294967296 yn1 yn0 R u0 q r) ∧ Hid (q * yn0 ≤ 4294967296 * r + u0) ∧ wx = wc)
      case first =>
        go_wp2_with fail
        go_loopw [18, 16] (fun v18 v16 wr => ∃ q r : Nat, v18 = .int .u64 q ∧ v16 = .int .u64 r ∧ q ≤ 4294967297 ∧ r < 4294967296 ∧ Hid (Go.DivPl.Guess 4294967296 yn1 yn0 R u0 q r) ∧ wr = wc) (fun v18 _ _ => (intOf v18).toNat)
        case atStart => exact ⟨q2, r2, rfl, rfl, hq2, hr2, HG2, rfl⟩
        case round =>
          obtain ⟨q, r, rfl, rfl, hq, hr, HG, rfl⟩ := hrel
          have hcase : 4294967296 ≤ q ∨ (q < 4294967296 ∧ 4294967296 * r + u0 < q * yn0) ∨ (q < 4294967296 ∧ q * yn0 ≤ 4294967296 * r + u0) := by omega
          have HM : Hid (∃ M, M = q * yn0 ∧ (q < 4294967296 → M < 18446744073709551616)) := ⟨_, rfl, fun h => by
            have := Nat.mul_le_mul (show q ≤ 4294967295 by omega) (show yn0 ≤ 4294967295 by omega); omega⟩
          obtain ⟨M, hM, hM2⟩ := HM.out
          rw [← hM] at hcase
          have hM3 := hid hM
          clear hM HM
          have p2 : IntKind.u64.wrap (4294967296 * (r : Int)) = 4294967296 * (r : Int) := by rw [IntKind.wrap_u64]; omega
          have p3 : IntKind.u64.wrap (4294967296 * (r : Int) + (u0 : Int)) = 4294967296 * (r : Int) + (u0 : Int) := by rw [IntKind.wrap_u64]; omega
          rcases hcase with hb | ⟨hb, hb2⟩ | ⟨hb, hb2⟩
          · have c1 : decide ((4294967296 : Int) ≤ (q : Int)) = true := decide_eq_true (by omega)
            obtain ⟨hp, G'⟩ := Go.DivPl.guess_step HG.out (by rw [← HYe.out]; exact hRY) bu0 (.inl hb)
            have HG' := hid G'
            clear G'
            by_cases hbr : 4294967296 ≤ r + yn1
            · have c2 : decide ((4294967296 : Int) ≤ (r : Int) + (yn1 : Int)) = true := decide_eq_true (by omega)
              go_wp2_with fail
              go_meet
              exact ⟨q - 1, r + yn1, by go_num, by go_num, HG', Go.DivPl.guess_break HG'.out (by rw [← HYe.out]; exact hRY) b0 hbr, rfl⟩
            · have c2 : decide ((4294967296 : Int) ≤ (r : Int) + (yn1 : Int)) = false := decide_eq_false (by omega)
              go_wp2_with fail
              refine ⟨⟨q - 1, r + yn1, by go_num, by go_num, by omega, by omega, HG', trivial⟩, by simp [intOf]; omega⟩
          · have c1 : decide ((4294967296 : Int) ≤ (q : Int)) = false := decide_eq_false (by omega)
            have p1 : IntKind.u64.wrap ((q : Int) * (yn0 : Int)) = (M : Int) := by rw [hM3.out, show (q : Int) * (yn0 : Int) = ((q * yn0 : Nat) : Int) by simp, wrapN' _ (by rw [← hM3.out]; exact hM2 hb)]
            have c3 : decide (4294967296 * (r : Int) + (u0 : Int) < (M : Int)) = true := decide_eq_true (by omega)
            obtain ⟨hp, G'⟩ := Go.DivPl.guess_step HG.out (by rw [← HYe.out]; exact hRY) bu0 (.inr (by rw [← hM3.out]; exact hb2))
            have HG' := hid G'
            clear G' hM2
            by_cases hbr : 4294967296 ≤ r + yn1
            · have c2 : decide ((4294967296 : Int) ≤ (r : Int) + (yn1 : Int)) = true := decide_eq_true (by omega)
              go_wp2_with fail
              go_meet
              exact ⟨q - 1, r + yn1, by go_num, by go_num, HG', Go.DivPl.guess_break HG'.out (by rw [← HYe.out]; exact hRY) b0 hbr, rfl⟩
            · have c2 : decide ((4294967296 : Int) ≤ (r : Int) + (yn1 : Int)) = false := decide_eq_false (by omega)
              go_wp2_with fail
              refine ⟨⟨q - 1, r + yn1, by go_num, by go_num, by omega, by omega, HG', trivial⟩, by simp [intOf]; omega⟩
          · have c1 : decide ((4294967296 : Int) ≤ (q : Int)) = false := decide_eq_false (by omega)
            have p1 : IntKind.u64.wrap ((q : Int) * (yn0 : Int)) = (M : Int) := by rw [hM3.out, show (q : Int) * (yn0 : Int) = ((q * yn0 : Nat) : Int) by simp, wrapN' _ (by rw [← hM3.out]; exact hM2 hb)]
            have c3 : decide (4294967296 * (r : Int) + (u0 : Int) < (M : Int)) = false := decide_eq_false (by omega)
            clear hM2
            go_wp2_with fail
            go_meet
            exact ⟨q, r, rfl, rfl, HG, hid (by rw [← hM3.out]; exact hb2), rfl⟩
      case rest =>
        obtain ⟨q', r', rfl, rfl, HG', HL', rfl⟩ := hcut
        have hqd := Go.DivPl.guess_done HG'.out HL'.out
        rw [← HYe.out] at hqd
        obtain ⟨R2, hR2⟩ : ∃ R2, R2 = (R * 4294967296 + u0) % Y := ⟨_, rfl⟩
        have hR2Y : R2 < Y := by rw [hR2]; exact Nat.mod_lt _ (by omega)
        have hsum : R * 4294967296 + u0 = q' * Y + R2 := by
          have := Nat.div_add_mod (R * 4294967296 + u0) Y
          rw [← hqd, ← hR2, Nat.mul_comm] at this
          exact this.symm
        have m1 := wrap_rest hsum (by omega)
        obtain ⟨t1, t2⟩ := Go.DivPl.two_digits (B := 4294967296) (U := U) (d1 := u1) (d0 := u0) (show 0 < Y by omega)
        rw [← HR.out, ← HQ.out, ← hqd, show U * (4294967296 * 4294967296) + (u1 * 4294967296 + u0) = (hi * 18446744073709551616 + lo) * 2 ^ s by rw [← HG3.out, HVe.out], HYs.out, Go.DivPl.scaled_div (Nat.two_pow_pos s)] at t1
        rw [← HR.out, ← hR2, show U * (4294967296 * 4294967296) + (u1 * 4294967296 + u0) = (hi * 18446744073709551616 + lo) * 2 ^ s by rw [← HG3.out, HVe.out], HYs.out, Go.DivPl.scaled_mod] at t2
        have hX : (hi * 18446744073709551616 + lo) / y < 18446744073709551616 := Nat.div_lt_of_lt_mul (by
          have := Nat.mul_le_mul_right 18446744073709551616 (Nat.succ_le_of_lt hh)
          rw [Nat.succ_mul] at this
          omega)
        have m5 : IntKind.u64.wrap (IntKind.u64.wrap ((q : Int) * 4294967296) + (q' : Int)) = (QQ : Int) := by
          rw [HQQ.out, ← t1]
          rw [← t1] at hX
          simp only [IntKind.wrap_u64]
          omega
        have m6 : (R2 : Int) / 2 ^ s = (RR : Int) := by
          rw [HRR.out, t2, show (((hi * 18446744073709551616 + lo) % y * 2 ^ s : Nat) : Int) / 2 ^ s = (((hi * 18446744073709551616 + lo) % y * 2 ^ s / 2 ^ s : Nat) : Int) by simp, Nat.mul_div_cancel _ (Nat.two_pow_pos s)]
        clear t1 t2 hqd hR2 hsum HG' HL' hX
        go_wp2_with fail
        go_ret2
        exact ⟨rfl, 0, rfl⟩
end Go.Proofs.YtgdgklhfakplhaaGreatDoor
