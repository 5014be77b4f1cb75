/- Walks and lemmas for the laws of this seat. -/
import Derived.Test.YtgdgklhfakplhaaGreatDoorH24
namespace Go.Proofs.YtgdgklhfakplhaaGreatDoor
open Go.RowKit Go.Dig
set_option maxRecDepth 100000
set_option maxHeartbeats 400000 in
theorem bitsDiv_any (hi lo y : Nat) (hh : hi < y) (hlo : lo < 18446744073709551616) (hy : y < 18446744073709551616) (w : World) :
    Calls Tryz.prog 197 #[.int .u64 hi, .int .u64 lo, .int .u64 y] w fun e w' => e = .returned (.tuple #[.int .u64 (((hi * 18446744073709551616 + lo) / y : Nat) : Int), .int .u64 (((hi * 18446744073709551616 + lo) % y : Nat) : Int)]) ∧ ∃ k, w' = w.drewN k := by
  obtain ⟨s, hs, he, h1, h2⟩ := lz_bounds (show 0 < y by omega) hy
  have H := fun w => div64_any hi lo y s hh hlo hy hs he h1 h2 w
  have hq : (hi * 18446744073709551616 + lo) / y < 18446744073709551616 := Nat.div_lt_of_lt_mul (by
    have := Nat.mul_le_mul_right 18446744073709551616 (Nat.succ_le_of_lt hh)
    rw [Nat.succ_mul] at this
    omega)
  have hr : (hi * 18446744073709551616 + lo) % y < 18446744073709551616 := Nat.lt_trans (Nat.mod_lt _ (by omega)) hy
  clear he h1 h2
  generalize (hi * 18446744073709551616 + lo) / y = QQ at *
  generalize (hi * 18446744073709551616 + lo) % y = RR at *
  have e1 := wrapN' QQ hq
  have e2 := wrapN' RR hr
  go_enter Tryz.func197, Tryz.ntmps197
  go_wp2_with fail
  refine (H _).mono ?_
  rintro e w' ⟨rfl, k, rfl⟩
  go_wp2_with fail
  go_ret2
  exact ⟨rfl, _, rfl⟩
theorem not64 (u : Nat) (h : u < 18446744073709551616) : 18446744073709551615 ^^^ u = 18446744073709551615 - u := by
  have h1 := BitVec.toNat_not (x := BitVec.ofNat 64 u)
  rw [BitVec.not_def, BitVec.toNat_xor, BitVec.toNat_allOnes, BitVec.toNat_ofNat, Nat.mod_eq_of_lt h] at h1
  exact h1
set_option maxHeartbeats 400000 in
theorem recip_any (y s : Nat) (_hy0 : 0 < y) (hy : y < 18446744073709551616) (hs : s ≤ 63) (he : (64 : Int) - (Lib.bitLen y : Int) = (s : Int)) (hn1 : 9223372036854775808 ≤ y * 2 ^ s) (hn2 : y * 2 ^ s < 18446744073709551616) (w : World) :
    Calls Tryz.prog 198 #[.int .u64 y] w fun e w' => ∃ m : Nat, e = .returned (.int .u64 m) ∧ Hid (m + 18446744073709551616 = (18446744073709551616 * 18446744073709551616 - 1) / (y * 2 ^ s) ∧ m < 18446744073709551616) ∧ ∃ k, w' = w.drewN k := by
  have H := fun w => nlz_any y s hy hs he w
  clear he
  have f1 : IntKind.u64.wrap ((y : Int) * 2 ^ s) = ((y * 2 ^ s : Nat) : Int) := by rw [wrap_mul, Nat.mod_eq_of_lt hn2]
  generalize y * 2 ^ s = u at *
  have hq : ((18446744073709551615 - u) * 18446744073709551616 + 18446744073709551615) / u + 18446744073709551616 = (18446744073709551616 * 18446744073709551616 - 1) / u := by
    rw [← Nat.add_mul_div_left _ _ (show 0 < u by omega)]
    congr 1
    omega
  have hq2 : ((18446744073709551615 - u) * 18446744073709551616 + 18446744073709551615) / u < 18446744073709551616 := by
    apply Nat.div_lt_of_lt_mul
    omega
  have HB := fun w => bitsDiv_any (18446744073709551615 - u) 18446744073709551615 u (by omega) (by omega) hn2 w
  have x1 : bits .xor .u64 IntKind.u64.max (u : Int) = ((18446744073709551615 - u : Nat) : Int) := by
    have := u64_xor_nat 18446744073709551615 u (by omega) hn2
    rw [not64 u hn2] at this
    exact this
  generalize ((18446744073709551615 - u) * 18446744073709551616 + 18446744073709551615) / u = Q at *
  generalize ((18446744073709551615 - u) * 18446744073709551616 + 18446744073709551615) % u = RR at *
  generalize (18446744073709551615 - u) = v at *
  have HQ := hid hq
  clear hq
  have e1 := wrapN' Q hq2
  go_enter Tryz.func198, Tryz.ntmps198
  go_wp2_with fail
  refine (H _).mono ?_
  rintro e w' ⟨rfl, rfl⟩
  go_wp2_with fail
  refine (HB _).mono ?_
  rintro e w' ⟨rfl, k, rfl⟩
  go_wp2_with fail
  go_ret
  exact ⟨Q, rfl, hid ⟨HQ.out, hq2⟩, _, rfl⟩
/-- A division by a word with its reciprocal: the last steps. -/
theorem ww_end {U V d m X Q : Nat} (hd1 : 9223372036854775808 ≤ d) (hd2 : d < 18446744073709551616) (hU : U < d) (hV : V < 18446744073709551616) (hm : m + 18446744073709551616 = (18446744073709551616 * 18446744073709551616 - 1) / d) (hX : X = U * 18446744073709551616 + V) (hQ : Q = (m * U + V) / 18446744073709551616 + U) :
    Q < 18446744073709551616 ∧ Q * d ≤ X ∧ X < Q * d + 18446744073709551616 + d := by
  obtain ⟨h1, h2⟩ := Go.DivPl.recip_guess (B := 18446744073709551616) hd2 hm (by omega) hU hV
  rw [← hQ, ← hX] at h1 h2
  refine ⟨?_, h1, h2⟩
  have h3 : X < d * 18446744073709551616 := by
    have : (U + 1) * 18446744073709551616 ≤ d * 18446744073709551616 := Nat.mul_le_mul_right _ hU
    omega
  rcases Nat.lt_or_ge Q 18446744073709551616 with h | h
  · exact h
  · have := Nat.mul_le_mul_right d h
    rw [Nat.mul_comm 18446744073709551616] at this
    omega
theorem ww_subs {U V D X R : Nat} (hX : X = U * 18446744073709551616 + V) (_hU : U < 18446744073709551616) (hV : V < 18446744073709551616) (hR : X = D + R) (hR2 : R < 36893488147419103232) :
    (V + 18446744073709551616 - D % 18446744073709551616 - 0) % 18446744073709551616 = R % 18446744073709551616 ∧ (if V < D % 18446744073709551616 + 0 then 1 else 0 : Nat) ≤ 1 ∧
    (U + 18446744073709551616 - D / 18446744073709551616 - (if V < D % 18446744073709551616 + 0 then 1 else 0 : Nat)) % 18446744073709551616 = R / 18446744073709551616 := by
  split <;> omega
theorem ww_adds {m U V Q : Nat} (hQ : Q = (m * U + V) / 18446744073709551616 + U) (hQ1 : Q < 18446744073709551616) (hV : V < 18446744073709551616) :
    (m * U % 18446744073709551616 + V + 0) / 18446744073709551616 ≤ 1 ∧ (m * U / 18446744073709551616 + U + (m * U % 18446744073709551616 + V + 0) / 18446744073709551616) % 18446744073709551616 = Q := by
  generalize m * U = P at *
  omega
theorem ww_final {x1 x0 y s d qf rf QQ RR U V : Nat} (hd : d = y * 2 ^ s) (hX : U * 18446744073709551616 + V = (x1 * 18446744073709551616 + x0) * 2 ^ s) (h : U * 18446744073709551616 + V = qf * d + rf) (hr : rf < d) (hQ : QQ = (x1 * 18446744073709551616 + x0) / y) (hR : RR = (x1 * 18446744073709551616 + x0) % y) : qf = QQ ∧ rf / 2 ^ s = RR := by
  obtain ⟨h1, h2⟩ := Go.DivPl.quot_rem h hr
  rw [hX, hd, Go.DivPl.scaled_div (Nat.two_pow_pos s)] at h1
  rw [hX, hd, Go.DivPl.scaled_mod] at h2
  refine ⟨by rw [h1, hQ], ?_⟩
  rw [h2, Nat.mul_div_cancel _ (Nat.two_pow_pos s), hR]
set_option maxHeartbeats 1000000 in
theorem divWW_any (x1 x0 y s m : Nat) (hx1 : x1 < y) (hx0 : x0 < 18446744073709551616) (hy : y < 18446744073709551616) (hs : s ≤ 63) (he : (64 : Int) - (Lib.bitLen y : Int) = (s : Int)) (hn1 : 9223372036854775808 ≤ y * 2 ^ s) (hn2 : y * 2 ^ s < 18446744073709551616) (hm : m + 18446744073709551616 = (18446744073709551616 * 18446744073709551616 - 1) / (y * 2 ^ s)) (hm2 : m < 18446744073709551616) (w : World) :
    Calls Tryz.prog 199 #[.int .u64 x1, .int .u64 x0, .int .u64 y, .int .u64 m] w fun e w' => e = .returned (.tuple #[.int .u64 (((x1 * 18446744073709551616 + x0) / y : Nat) : Int), .int .u64 (((x1 * 18446744073709551616 + x0) % y : Nat) : Int)]) ∧ ∃ k, w' = w.drewN k := by
  have H := fun w => nlz_any y s hy hs he w
  clear he
  obtain ⟨g1, g2, g3⟩ := shifted_facts hx1 hx0 hs hn2
  obtain ⟨QQ, HQQ⟩ : ∃ QQ, Hid (QQ = (x1 * 18446744073709551616 + x0) / y) := ⟨_, rfl⟩
  obtain ⟨RR, HRR⟩ : ∃ RR, Hid (RR = (x1 * 18446744073709551616 + x0) % y) := ⟨_, rfl⟩
  rw [← HQQ.out, ← HRR.out]
  obtain ⟨d, hd⟩ : ∃ d, d = y * 2 ^ s := ⟨_, rfl⟩
  obtain ⟨A, hA⟩ : ∃ A, A = x1 * 2 ^ s := ⟨_, rfl⟩
  obtain ⟨C, hC⟩ : ∃ C, C = x0 / 2 ^ (64 - s) := ⟨_, rfl⟩
  obtain ⟨V, hV⟩ : ∃ V, V = x0 * 2 ^ s % 18446744073709551616 := ⟨_, rfl⟩
  have f1 : IntKind.u64.wrap ((y : Int) * 2 ^ s) = (d : Int) := by rw [hd, wrap_mul, Nat.mod_eq_of_lt hn2]
  have f4 : IntKind.u64.wrap ((x1 : Int) * 2 ^ s) = (A : Int) := by rw [hA, wrap_mul, Nat.mod_eq_of_lt (by omega)]
  have f5 : (x0 : Int) / 2 ^ (64 - s) = (C : Int) := by rw [hC]; simp
  have f7 : IntKind.u64.wrap ((x0 : Int) * 2 ^ s) = (V : Int) := by rw [hV, wrap_mul]
  rw [← hd] at hn1 hn2 g2 hm
  rw [← hA, ← hC] at g1 g2 g3
  rw [← hV] at g3
  have hV2 : V < 18446744073709551616 := by rw [hV]; exact Nat.mod_lt _ (by omega)
  have HD := hid hd
  obtain ⟨U, hU⟩ : ∃ U, U = A + C := ⟨_, rfl⟩
  rw [← hU] at g1 g2 g3
  have HG3 := hid g3
  obtain ⟨Q, hQ⟩ : ∃ Q, Q = (m * U + V) / 18446744073709551616 + U := ⟨_, rfl⟩
  obtain ⟨hQ1, hQ2, hQ3⟩ := ww_end hn1 hn2 g2 hV2 hm rfl hQ
  have hz : s = 0 → U = x1 ∧ V = x0 ∧ d = y := by
    rintro rfl
    refine ⟨?_, ?_, ?_⟩
    · rw [hU, hA, hC, Nat.pow_zero, Nat.mul_one, Nat.sub_zero, Nat.div_eq_of_lt (show x0 < 2 ^ 64 from hx0), Nat.add_zero]
    · rw [hV, Nat.pow_zero, Nat.mul_one, Nat.mod_eq_of_lt hx0]
    · rw [hd, Nat.pow_zero, Nat.mul_one]
  clear hd hA hC hV hU g3 hm
  obtain ⟨c1, c2⟩ := ww_adds hQ hQ1 hV2
  obtain ⟨R, hR⟩ : ∃ R, U * 18446744073709551616 + V = Q * d + R := ⟨U * 18446744073709551616 + V - Q * d, by omega⟩
  have hR2 : R < 18446744073709551616 + d := by omega
  have hUw : U < 18446744073709551616 := by omega
  rw [Nat.mul_comm Q d] at hR
  obtain ⟨s1, s2, s3⟩ := ww_subs rfl hUw hV2 hR (by omega)
  have M1 := fun w => bitsMul_any m U hm2 hUw w
  have A1 := fun w => bitsAdd_any (m * U % 18446744073709551616) V 0 (by omega) w
  have A2 := fun w => bitsAdd_any (m * U / 18446744073709551616) U ((m * U % 18446744073709551616 + V + 0) / 18446744073709551616) c1 w
  have M2 := fun w => bitsMul_any d Q hn2 hQ1 w
  have S1 := fun w => bitsSub_any V (d * Q % 18446744073709551616) 0 (by omega) w
  have S2 := fun w => bitsSub_any U (d * Q / 18446744073709551616) (if V < d * Q % 18446744073709551616 + 0 then 1 else 0) s2 w
  rw [c2] at A2
  rw [s1] at S1
  rw [s3] at S2
  have HF := hid (fun qf rf h1 h2 => @ww_final x1 x0 y s d qf rf QQ RR U V HD.out HG3.out h1 h2 HQQ.out HRR.out)
  rw [Nat.mul_comm d Q] at hR
  have HR := hid hR
  clear c1 c2 s1 s2 s3 hR hQ hQ2 hQ3
  generalize (if V < d * Q % 18446744073709551616 + 0 then 1 else 0 : Nat) = bb at *
  generalize d * Q % 18446744073709551616 = dq0 at *
  generalize d * Q / 18446744073709551616 = dq1 at *
  generalize (m * U % 18446744073709551616 + V + 0) / 18446744073709551616 = cc at *
  generalize (m * U % 18446744073709551616 + V + 0) % 18446744073709551616 = cl at *
  generalize m * U % 18446744073709551616 = mu0 at *
  generalize m * U / 18446744073709551616 = mu1 at *
  generalize (mu1 + U + cc) / 18446744073709551616 = ch at *
  generalize (if U < dq1 + bb then 1 else 0 : Nat) = bb2 at *
  obtain ⟨R1, hR1⟩ : ∃ R1, R1 = R / 18446744073709551616 := ⟨_, rfl⟩
  obtain ⟨R0, hR0⟩ : ∃ R0, R0 = R % 18446744073709551616 := ⟨_, rfl⟩
  rw [← hR0] at S1
  rw [← hR1] at S2
  have hQQ : QQ < 18446744073709551616 := by
    rw [HQQ.out]
    apply Nat.div_lt_of_lt_mul
    have := Nat.mul_le_mul_right 18446744073709551616 (Nat.succ_le_of_lt hx1)
    rw [Nat.succ_mul] at this
    omega
  have HR0 := hid hR0
  have HR1 := hid hR1
  clear hR0 hR1
  go_enter Tryz.func199, Tryz.ntmps199
  go_wp2_with fail
  refine (H _).mono ?_
  rintro e w' ⟨rfl, rfl⟩
  rcases Nat.eq_zero_or_pos s with h0 | h0
  · have hs0 : ((s : Int) != 0) = false := by simp; omega
    obtain ⟨rfl, rfl, rfl⟩ := hz h0
    clear hz H HRR HQQ
    go_wp2_with fail
    refine (M1 _).mono ?_; rintro e w' ⟨rfl, rfl⟩
    go_wp2_with fail
    refine (A1 _).mono ?_; rintro e w' ⟨rfl, rfl⟩
    go_wp2_with fail
    refine (A2 _).mono ?_; rintro e w' ⟨rfl, rfl⟩
    go_wp2_with fail
    refine (M2 _).mono ?_; rintro e w' ⟨rfl, rfl⟩
    go_wp2_with fail
    refine (S1 _).mono ?_; rintro e w' ⟨rfl, rfl⟩
    go_wp2_with fail
    refine (S2 _).mono ?_; rintro e w' ⟨rfl, rfl⟩
    clear M1 A1 A2 M2 S1 S2
    have hR0 := HR0.out
    have hR1 := HR1.out
    rcases Nat.eq_zero_or_pos R1 with hr1 | hr1
    · have n1 : ((R1 : Int) != 0) = false := by simp; omega
      by_cases hd : R0 < d
      · have n2 : decide ((d : Int) ≤ (R0 : Int)) = false := decide_eq_false (by omega)
        obtain ⟨k1, k2⟩ := HF.out (Q) (R) (by have := HR.out; omega) (by omega)
        have k3 : (((R : Nat) : Int)) / 2 ^ s = (RR : Int) := by rw [← k2]; simp
        obtain ⟨rf, hrf⟩ : ∃ rf, rf = R := ⟨_, rfl⟩
        rw [← hrf] at k3
        obtain rfl : rf = RR := by rw [h0, Int.pow_zero, Int.ediv_one] at k3; omega
        have q1 : (Q : Int) = (QQ : Int) := by omega
        have q2 : (R0 : Int) = (rf : Int) := by omega
        clear HF HR k1 k2 hrf hR0 hR1
        go_wp2_with fail
        go_ret2
        exact ⟨rfl, 0, rfl⟩
      · have n2 : decide ((d : Int) ≤ (R0 : Int)) = true := decide_eq_true (by omega)
        obtain ⟨k1, k2⟩ := HF.out (Q + 1) (R - d) (by have := HR.out; rw [Nat.add_mul]; omega) (by omega)
        have k3 : (((R - d : Nat) : Int)) / 2 ^ s = (RR : Int) := by rw [← k2]; simp
        obtain ⟨rf, hrf⟩ : ∃ rf, rf = R - d := ⟨_, rfl⟩
        rw [← hrf] at k3
        obtain rfl : rf = RR := by rw [h0, Int.pow_zero, Int.ediv_one] at k3; omega
        have q1 : IntKind.u64.wrap ((Q : Int) + 1) = (QQ : Int) := by rw [IntKind.wrap_u64]; omega
        have q2 : IntKind.u64.wrap ((R0 : Int) - (d : Int)) = (rf : Int) := by rw [IntKind.wrap_u64]; omega
        clear HF HR k1 k2 hrf hR0 hR1
        go_wp2_with fail
        go_ret2
        exact ⟨rfl, 0, rfl⟩
    · have n1 : ((R1 : Int) != 0) = true := by simp; omega
      by_cases hd : R - d < d
      · have n2 : decide ((d : Int) ≤ (((R - d : Nat)) : Int)) = false := decide_eq_false (by omega)
        obtain ⟨k1, k2⟩ := HF.out (Q + 1) (R - d) (by have := HR.out; rw [Nat.add_mul]; omega) (by omega)
        have k3 : (((R - d : Nat) : Int)) / 2 ^ s = (RR : Int) := by rw [← k2]; simp
        obtain ⟨rf, hrf⟩ : ∃ rf, rf = R - d := ⟨_, rfl⟩
        rw [← hrf] at k3
        obtain rfl : rf = RR := by rw [h0, Int.pow_zero, Int.ediv_one] at k3; omega
        have q1 : IntKind.u64.wrap ((Q : Int) + 1) = (QQ : Int) := by rw [IntKind.wrap_u64]; omega
        have q2 : IntKind.u64.wrap ((R0 : Int) - (d : Int)) = (rf : Int) := by rw [IntKind.wrap_u64]; omega
        have n3 : rf < d := by omega
        have n4 : ¬ d ≤ rf := by omega
        clear n2
        clear HF HR k1 k2 hrf hR0 hR1
        go_wp2_with fail
        go_ret2
        exact ⟨rfl, 0, rfl⟩
      · have n2 : 0 = 0 := rfl
        obtain ⟨k1, k2⟩ := HF.out (Q + 2) (R - d - d) (by have := HR.out; rw [Nat.add_mul]; omega) (by omega)
        have k3 : (((R - d - d : Nat) : Int)) / 2 ^ s = (RR : Int) := by rw [← k2]; simp
        obtain ⟨rf, hrf⟩ : ∃ rf, rf = R - d - d := ⟨_, rfl⟩
        rw [← hrf] at k3
        obtain rfl : rf = RR := by rw [h0, Int.pow_zero, Int.ediv_one] at k3; omega
        have q1 : IntKind.u64.wrap ((Q : Int) + 1 + 1) = (QQ : Int) := by rw [IntKind.wrap_u64]; omega
        have q0 : IntKind.u64.wrap ((Q : Int) + 1) = (Q : Int) + 1 := by rw [IntKind.wrap_u64]; omega
        obtain ⟨rm, hrm⟩ : ∃ rm, rm = R - d := ⟨_, rfl⟩
        have q2 : IntKind.u64.wrap ((R0 : Int) - (d : Int)) = (rm : Int) := by rw [IntKind.wrap_u64]; omega
        have q3 : IntKind.u64.wrap ((rm : Int) - (d : Int)) = (rf : Int) := by rw [IntKind.wrap_u64]; omega
        have n3 : d ≤ rm := by omega
        clear n2 hrm
        clear HF HR k1 k2 hrf hR0 hR1
        go_wp2_with fail
        go_ret2
        exact ⟨rfl, 0, rfl⟩
  · have hs0 : ((s : Int) != 0) = true := by simp; omega
    clear hz H
    go_wp2_with fail
    refine (M1 _).mono ?_; rintro e w' ⟨rfl, rfl⟩
    go_wp2_with fail
    refine (A1 _).mono ?_; rintro e w' ⟨rfl, rfl⟩
    go_wp2_with fail
    refine (A2 _).mono ?_; rintro e w' ⟨rfl, rfl⟩
    go_wp2_with fail
    refine (M2 _).mono ?_; rintro e w' ⟨rfl, rfl⟩
    go_wp2_with fail
    refine (S1 _).mono ?_; rintro e w' ⟨rfl, rfl⟩
    go_wp2_with fail
    refine (S2 _).mono ?_; rintro e w' ⟨rfl, rfl⟩
    clear M1 A1 A2 M2 S1 S2
    have hR0 := HR0.out
    have hR1 := HR1.out
    rcases Nat.eq_zero_or_pos R1 with hr1 | hr1
    · have n1 : ((R1 : Int) != 0) = false := by simp; omega
      by_cases hd : R0 < d
      · have n2 : decide ((d : Int) ≤ (R0 : Int)) = false := decide_eq_false (by omega)
        obtain ⟨k1, k2⟩ := HF.out (Q) (R) (by have := HR.out; omega) (by omega)
        have k3 : (((R : Nat) : Int)) / 2 ^ s = (RR : Int) := by rw [← k2]; simp
        obtain ⟨rf, hrf⟩ : ∃ rf, rf = R := ⟨_, rfl⟩
        rw [← hrf] at k3
        have q1 : (Q : Int) = (QQ : Int) := by omega
        have q2 : (R0 : Int) = (rf : Int) := by omega
        clear HF HR k1 k2 hrf hR0 hR1
        go_wp2_with fail
        go_ret2
        exact ⟨rfl, 0, rfl⟩
      · have n2 : decide ((d : Int) ≤ (R0 : Int)) = true := decide_eq_true (by omega)
        obtain ⟨k1, k2⟩ := HF.out (Q + 1) (R - d) (by have := HR.out; rw [Nat.add_mul]; omega) (by omega)
        have k3 : (((R - d : Nat) : Int)) / 2 ^ s = (RR : Int) := by rw [← k2]; simp
        obtain ⟨rf, hrf⟩ : ∃ rf, rf = R - d := ⟨_, rfl⟩
        rw [← hrf] at k3
        have q1 : IntKind.u64.wrap ((Q : Int) + 1) = (QQ : Int) := by rw [IntKind.wrap_u64]; omega
        have q2 : IntKind.u64.wrap ((R0 : Int) - (d : Int)) = (rf : Int) := by rw [IntKind.wrap_u64]; omega
        clear HF HR k1 k2 hrf hR0 hR1
        go_wp2_with fail
        go_ret2
        exact ⟨rfl, 0, rfl⟩
    · have n1 : ((R1 : Int) != 0) = true := by simp; omega
      by_cases hd : R - d < d
      · have n2 : decide ((d : Int) ≤ (((R - d : Nat)) : Int)) = false := decide_eq_false (by omega)
        obtain ⟨k1, k2⟩ := HF.out (Q + 1) (R - d) (by have := HR.out; rw [Nat.add_mul]; omega) (by omega)
        have k3 : (((R - d : Nat) : Int)) / 2 ^ s = (RR : Int) := by rw [← k2]; simp
        obtain ⟨rf, hrf⟩ : ∃ rf, rf = R - d := ⟨_, rfl⟩
        rw [← hrf] at k3
        have q1 : IntKind.u64.wrap ((Q : Int) + 1) = (QQ : Int) := by rw [IntKind.wrap_u64]; omega
        have q2 : IntKind.u64.wrap ((R0 : Int) - (d : Int)) = (rf : Int) := by rw [IntKind.wrap_u64]; omega
        have n3 : rf < d := by omega
        have n4 : ¬ d ≤ rf := by omega
        clear n2
        clear HF HR k1 k2 hrf hR0 hR1
        go_wp2_with fail
        go_ret2
        exact ⟨rfl, 0, rfl⟩
      · have n2 : 0 = 0 := rfl
        obtain ⟨k1, k2⟩ := HF.out (Q + 2) (R - d - d) (by have := HR.out; rw [Nat.add_mul]; omega) (by omega)
        have k3 : (((R - d - d : Nat) : Int)) / 2 ^ s = (RR : Int) := by rw [← k2]; simp
        obtain ⟨rf, hrf⟩ : ∃ rf, rf = R - d - d := ⟨_, rfl⟩
        rw [← hrf] at k3
        have q1 : IntKind.u64.wrap ((Q : Int) + 1 + 1) = (QQ : Int) := by rw [IntKind.wrap_u64]; omega
        have q0 : IntKind.u64.wrap ((Q : Int) + 1) = (Q : Int) + 1 := by rw [IntKind.wrap_u64]; omega
        obtain ⟨rm, hrm⟩ : ∃ rm, rm = R - d := ⟨_, rfl⟩
        have q2 : IntKind.u64.wrap ((R0 : Int) - (d : Int)) = (rm : Int) := by rw [IntKind.wrap_u64]; omega
        have q3 : IntKind.u64.wrap ((rm : Int) - (d : Int)) = (rf : Int) := by rw [IntKind.wrap_u64]; omega
        have n3 : d ≤ rm := by omega
        clear n2 hrm
        clear HF HR k1 k2 hrf hR0 hR1
        go_wp2_with fail
        go_ret2
        exact ⟨rfl, 0, rfl⟩
end Go.Proofs.YtgdgklhfakplhaaGreatDoor
