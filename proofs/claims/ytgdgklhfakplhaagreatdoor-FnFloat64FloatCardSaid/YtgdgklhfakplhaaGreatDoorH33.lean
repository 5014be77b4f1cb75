/- Walks and lemmas for the laws of this seat. -/
import Derived.Test.YtgdgklhfakplhaaGreatDoorH32
import Ieee.Arith
namespace Go.Proofs.YtgdgklhfakplhaaGreatDoor
open Go.RowKit Go.Dig
set_option maxRecDepth 100000
set_option maxHeartbeats 1000000 in
/-- nat.div onto the store of the dividend: the quotient, and of the remainder its length. -/
theorem natDiv_all (K sp bu cu bv cv X Y : Nat) (vu vv : Value) (w : World) (hst : Stk w K sp none) (hthr : w.cell? ⟨1, 0, none⟩ = some (.int .i64 40)) (hK1 : 1 < K) (hKu : K ≤ bu) (hu : On w vu bu cu X) (hv : On w vv bv cv Y) (hne : bv ≠ bu) (hY0 : 0 < Y) (hle : Y ≤ X)
    (hlX : (dg 18446744073709551616 X).length ≤ 800) (hlY : (dg 18446744073709551616 Y).length < 40) (hcu : cu < 1000000) (hcv : cv < 1000000) :
    Calls Tryz.prog 111 #[.slice none 0 0, .pointer (some ⟨sp, 0, none⟩), vu, vu, vv] w fun e w' => ∃ (bq cq br cr : Nat) (t' : Option (Nat × Nat × Nat)), e = .returned (.tuple #[.slice (some ⟨bq, 0, none⟩) (dg 18446744073709551616 (X / Y)).length cq, .slice (some ⟨br, 0, none⟩) (dg 18446744073709551616 (X % Y)).length cr]) ∧ Ds w' bq 0 (dg 18446744073709551616 (X / Y)) ∧ Stk w' K sp t' ∧ Below K w w' := by
  have hX0 : 0 < X := by omega
  have hml := dg_length_mono (b := 18446744073709551616) (by omega) hle
  have hlY0 : 0 < (dg 18446744073709551616 Y).length := by
    rcases Nat.eq_zero_or_pos (dg 18446744073709551616 Y).length with h | h
    · have := (dg_nil_iff (b := 18446744073709551616) (by omega)).1 (List.length_eq_zero_iff.1 h); omega
    · exact h
  have hX := hu.ds
  have hY := hv.ds
  rcases Nat.lt_or_ge 1 (dg 18446744073709551616 Y).length with h1 | h1
  · obtain ⟨k, hk⟩ : ∃ k, (dg 18446744073709551616 Y).length = k + 2 := ⟨(dg 18446744073709551616 Y).length - 2, by omega⟩
    obtain ⟨m, hm⟩ : ∃ m, (dg 18446744073709551616 X).length = m + (k + 2) := ⟨(dg 18446744073709551616 X).length - (k + 2), by omega⟩
    have HDL := fun kk => divLarge_any K sp k m bu cu bv cv X Y vu vv (w.drewN kk) (hst.below (below_drewN' kk)) hthr hK1 hKu (show On (w.drewN kk) vu bu cu X from hu) (show On (w.drewN kk) vv bv cv Y from hv) hne (by omega) hk hm (by omega) hcu hcv
    obtain ⟨rfl, hcu1, _⟩ := hu
    obtain ⟨rfl, hcv1, _⟩ := hv
    have HCM := ncmp_ge _ _ X Y w (hX.nw hcu1 (by omega)) (hY.nw hcv1 (by omega)) hle (by omega)
    rw [hm, hk] at HCM HDL ⊢
    have k0 : ((k : Int) + 2 == 0) = false := by simp; omega
    have k1 : ((k : Int) + 2 == 1) = false := by simp; omega
    clear hX hY hcu1 hcv1 hml
    go_enter Tryz.func111, Tryz.ntmps111
    go_wp2_with fail
    refine HCM.mono ?_
    rintro e w1 ⟨r, rfl, hr, kk, rfl⟩
    have hr0 : decide (r < 0) = false := decide_eq_false (by omega)
    have hr0' : ¬ r < 0 := by omega
    clear HCM
    replace HDL := HDL kk
    have HB := hid (below_drewN' (B := K) (w := w) kk)
    generalize w.drewN kk = w1 at *
    clear hr
    go_wp2_with fail
    refine HDL.mono ?_
    rintro e w2 ⟨bq, cq, br, cr, t', rfl, hd, hs, hb⟩
    have HD := hid hd
    have HS := hid hs
    have HB2 := hid (HB.out.trans hb)
    clear HDL hd hs hb
    go_wp2_with fail
    go_ret2
    exact ⟨bq, cq, br, cr, t', rfl, HD.out, HS.out, HB2.out⟩
  · have hYB : Y < 18446744073709551616 := by
      have h2 := lt_pow_dg_length (b := 18446744073709551616) (by omega) Y
      have h3 := Nat.pow_le_pow_right (show 0 < 18446744073709551616 by omega) h1
      rw [Nat.pow_one] at h3
      omega
    have hy0 := hY.cell (i := 0) hlY0
    rw [dg_one hY0 hYB, List.getD_cons_zero, Nat.add_zero] at hy0
    obtain ⟨rfl, hcu1, lu, hdu, hlu, _⟩ := hu
    obtain ⟨rfl, hcv1, _⟩ := hv
    have HDW := divW_own _ X Y w (hX.nw hcu1 (by omega)) hX0 (by omega) hY0 hYB
    have hlY1 : (dg 18446744073709551616 Y).length = 1 := by omega
    have hlX0 : 0 < (dg 18446744073709551616 X).length := by omega
    rw [hlY1]
    have hub := hdu.lt
    clear hX hY hml hlY0 h1 hcv1
    go_enter Tryz.func111, Tryz.ntmps111
    go_wp2_with fail
    refine HDW.mono ?_
    rintro e w1 ⟨cq, r, rfl, hr, hdq, hcq1, hcq2, hb1⟩
    have hrB : r < 18446744073709551616 := by rw [hr.out]; exact Nat.lt_trans (Nat.mod_lt _ hY0) hYB
    have hdu1 := hdu.below hb1 hub
    have HSW := setWord_own bu cu (dg 18446744073709551616 X).length r lu w1 hdu1 hlu (by omega) hrB
    have hs1 := hst.below hb1
    have HB1 := hid (hb1.mono hst.size)
    clear HDW hdu hst hb1
    go_wp2_with fail
    refine HSW.mono ?_
    rintro e w2 ⟨rfl, hw2⟩
    have HF : Hid (Ds w2 w.heap.size 0 (dg 18446744073709551616 (X / Y)) ∧ Stk w2 K sp none ∧ Below K w w2) := by
      rcases hw2 with rfl | rfl
      · exact hid ⟨hdq, hs1, HB1.out⟩
      · have hf : Fx bu 0 cu w1 (w1.setCell ⟨bu, 0, none⟩ (.int .u64 (r : Int))) := (Fx.refl _ _ _ _).setCell (Nat.le_refl _) (by omega) _
        have hp := hdu1.put (i := 0) (by omega) r
        rw [Nat.add_zero] at hp
        exact hid ⟨hdq.fx hf (.inl (by omega)), hs1.put trivial hdu1 (by rw [List.length_set, hlu]; exact hf) hp, HB1.out.trans (hf.below hKu hs1.size)⟩
    clear HSW hw2 hdq hs1 hdu1
    have er : (dg 18446744073709551616 r).length = (dg 18446744073709551616 (X % Y)).length := by rw [hr.out]
    rw [er]
    clear er hr
    go_wp2_with fail
    go_ret2
    exact ⟨w.heap.size, cq, bu, cu, none, rfl, HF.out.1, HF.out.2.1, HF.out.2.2⟩
end Go.Proofs.YtgdgklhfakplhaaGreatDoor
namespace Go.Proofs.YtgdgklhfakplhaaGreatDoor
open Go.RowKit Go.Dig
set_option maxRecDepth 100000
theorem or_nat {x y : Nat} (hx : x < 18446744073709551616) (hy : y < 18446744073709551616) : bits .or .u64 (x : Int) (y : Int) = ((x ||| y : Nat) : Int) := by
  exact bits_or_u64_nat _ _ hx hy
/-- A number and what is shifted out of it: between it and the next power of two. -/
theorem smear {x L : Nat} (d : Nat) (D : Int) (hD : (d : Int) = D) (hx : x < 2 ^ L) (hL : L ≤ 64) : ∃ t : Nat, bits .or .u64 (x : Int) ((x : Int) / D) = (t : Int) ∧ x ≤ t ∧ t < 2 ^ L := by
  have h64 : (2 : Nat) ^ L ≤ 18446744073709551616 := by
    rw [show 18446744073709551616 = 2 ^ 64 from rfl]
    exact Nat.pow_le_pow_right (by omega) hL
  have h1 : x / d ≤ x := Nat.div_le_self _ _
  refine ⟨x ||| x / d, ?_, Nat.left_le_or, Nat.or_lt_two_pow hx (by omega)⟩
  rw [← hD, show (x : Int) / (d : Int) = ((x / d : Nat) : Int) by simp]
  exact or_nat (by omega) (by omega)
theorem blen_top {n i t L : Nat} (h1 : t * 18446744073709551616 ^ i ≤ n) (h2 : n < (t + 1) * 18446744073709551616 ^ i) (h3 : 2 ^ (L - 1) ≤ t) (h4 : t < 2 ^ L) (h5 : 1 ≤ L) : blen n = 64 * i + L := by
  have e : 18446744073709551616 ^ i = 2 ^ (64 * i) := by rw [Nat.pow_mul]
  rw [e] at h1 h2
  have := blen_eq (n := n) (k := 64 * i + L - 1) ?_ ?_
  · rw [this]; omega
  · rw [show 64 * i + L - 1 = (L - 1) + 64 * i by omega, Nat.pow_add]
    exact Nat.le_trans (Nat.mul_le_mul_right _ h3) h1
  · rw [show 64 * i + L - 1 + 1 = L + 64 * i by omega, Nat.pow_add]
    exact Nat.lt_of_lt_of_le h2 (Nat.mul_le_mul_right _ h4)
theorem bitLen_same {t t' : Nat} (h0 : 0 < t) (h1 : t ≤ t') (h2 : t' < 2 ^ Lib.bitLen t) (h3 : t' < 18446744073709551616) : Lib.bitLen t' = Lib.bitLen t := by
  obtain ⟨a1, a2, a3⟩ := Lib.bitLenAux_bounds 64 t (by omega) (by omega)
  obtain ⟨b1, b2, b3⟩ := Lib.bitLenAux_bounds 64 t' h3 (by omega)
  change 1 ≤ Lib.bitLen t at a1
  change 2 ^ (Lib.bitLen t - 1) ≤ t at a2
  change 1 ≤ Lib.bitLen t' at b1
  change 2 ^ (Lib.bitLen t' - 1) ≤ t' at b2
  change t' < 2 ^ Lib.bitLen t' at b3
  have c1 := (Nat.pow_lt_pow_iff_right (a := 2) (by omega)).1 (Nat.lt_of_le_of_lt b2 h2)
  have c2 := (Nat.pow_lt_pow_iff_right (a := 2) (by omega)).1 (Nat.lt_of_le_of_lt (Nat.le_trans a2 h1) b3)
  omega
set_option maxHeartbeats 1000000 in
/-- nat.bitLen of a number that is not 0. -/
theorem nbitLen_any (vx : Value) (n : Nat) (w : World) (hx : Nw w vx n) (hn : 0 < n) (hl : (dg 18446744073709551616 n).length ≤ 900) : Calls Tryz.prog 105 #[vx] w fun e w' => e = .returned (.int .i64 (blen n : Nat)) ∧ w' = w := by
  have hl0 : 0 < (dg 18446744073709551616 n).length := by
    rcases Nat.eq_zero_or_pos (dg 18446744073709551616 n).length with h | h
    · have := (dg_nil_iff (b := 18446744073709551616) (by omega)).1 (List.length_eq_zero_iff.1 h); omega
    · exact h
  obtain ⟨h1, h2, h3⟩ := top_digit (b := 18446744073709551616) (by omega) (n := n) (by omega)
  obtain ⟨ax, cx, rfl, hx1, hx2, hx3⟩ := hx
  obtain ⟨b, off, rfl, _, hc⟩ := hx3 hl0
  have hct := hc ((dg 18446744073709551616 n).length - 1) (by omega)
  rw [h1] at hct
  obtain ⟨i, hi⟩ : ∃ i, (dg 18446744073709551616 n).length = i + 1 := ⟨(dg 18446744073709551616 n).length - 1, by omega⟩
  rw [hi, Nat.add_sub_cancel] at hct h2 h3
  rw [hi]
  have hp : 0 < 18446744073709551616 ^ i := Nat.pow_pos (by omega)
  have q1 : n / 18446744073709551616 ^ i * 18446744073709551616 ^ i ≤ n := Nat.div_mul_le_self _ _
  have q2 : n < (n / 18446744073709551616 ^ i + 1) * 18446744073709551616 ^ i := by
    have := Nat.lt_mul_div_succ n hp
    rw [Nat.mul_comm]; exact this
  have Q1 := hid q1
  have Q2 := hid q2
  clear q1 q2 hp hc hx3 h1 hx1
  generalize n / 18446744073709551616 ^ i = t at *
  have hi2 : i < 900 := by omega
  clear hl hl0 hi
  obtain ⟨a1, a2, a3⟩ := Lib.bitLenAux_bounds 64 t h3 h2
  change 1 ≤ Lib.bitLen t at a1
  change 2 ^ (Lib.bitLen t - 1) ≤ t at a2
  change t < 2 ^ Lib.bitLen t at a3
  have hL : Lib.bitLen t ≤ 64 := Lib.bitLen_le t 64 (by omega) h3
  obtain ⟨t1, e1, l1, u1⟩ := smear 2 2 rfl a3 hL
  obtain ⟨t2, e2, l2, u2⟩ := smear 4 4 rfl u1 hL
  obtain ⟨t3, e3, l3, u3⟩ := smear 16 16 rfl u2 hL
  obtain ⟨t4, e4, l4, u4⟩ := smear 256 256 rfl u3 hL
  obtain ⟨t5, e5, l5, u5⟩ := smear 65536 65536 rfl u4 hL
  obtain ⟨t6, e6, l6, u6⟩ := smear 4294967296 4294967296 rfl u5 hL
  have hdd : (t5 : Int) / 65536 / 65536 = (t5 : Int) / 4294967296 := by omega
  have h64 : (2 : Nat) ^ Lib.bitLen t ≤ 18446744073709551616 := by
    rw [show 18446744073709551616 = 2 ^ 64 from rfl]
    exact Nat.pow_le_pow_right (by omega) hL
  have hs := bitLen_same (t := t) (t' := t6) (by omega) (by omega) u6 (by omega)
  have HB := fun w => blen_any t6 (by omega) w
  rw [hs] at HB
  have HE := hid (blen_top Q1.out Q2.out a2 a3 a1)
  clear hs u1 u2 u3 u4 u5 u6 l1 l2 l3 l4 l5 l6 h64 a1 a2 a3 h2 h3 Q1 Q2
  generalize Lib.bitLen t = L at *
  have hLL : L ≤ 64 := hL
  rw [HE.out]
  clear HE
  go_enter Tryz.func105, Tryz.ntmps105
  go_wp2_with fail
  refine (HB _).mono ?_
  rintro e w' ⟨rfl, rfl⟩
  clear HB
  go_wp2_with fail
  go_ret
  exact ⟨by go_num, rfl⟩
set_option maxHeartbeats 400000 in
theorem low64_q (b c n : Nat) (w : World) (h : Ds w b 0 (dg 18446744073709551616 n)) (hn : n < 18446744073709551616) : Calls Tryz.prog 112 #[.slice (some ⟨b, 0, none⟩) (dg 18446744073709551616 n).length c] w fun e w' => e = .returned (.int .u64 n) ∧ w' = w := by
  rcases Nat.eq_zero_or_pos n with h0 | h0
  · subst h0
    rw [dg_zero]
    go_enter Tryz.func112, Tryz.ntmps112
    go_wp2_with fail
    go_ret
    exact ⟨rfl, rfl⟩
  · rw [dg_one h0 hn] at h ⊢
    have hc := h.cell (i := 0) (by simp)
    rw [List.getD_cons_zero, Nat.add_zero] at hc
    clear h
    go_enter Tryz.func112, Tryz.ntmps112
    go_wp2_with fail
    go_ret
    exact ⟨rfl, rfl⟩
end Go.Proofs.YtgdgklhfakplhaaGreatDoor
namespace Go.Fl
open Ieee
theorem log2_eq {n k : Nat} (h0 : 2 ^ k ≤ n) (h1 : n < 2 ^ (k + 1)) : n.log2 = k := by
  have hn : n ≠ 0 := by have := Nat.two_pow_pos k; omega
  have a : k ≤ n.log2 := (Nat.le_log2 hn).2 h0
  have b : n.log2 < k + 1 := (Nat.log2_lt hn).2 h1
  omega
theorem cut_exact (neg : Bool) {m : Nat} (k : Nat) (hm : m ≠ 0) : Toward.even.cut neg (m * 2 ^ k) k = m := by
  have hp := Nat.two_pow_pos k
  have h2 : 2 ^ k ≤ m * 2 ^ k := Nat.le_mul_of_pos_left _ (by omega)
  have h1 : k ≤ (m * 2 ^ k).log2 := (Nat.le_log2 (by omega)).2 h2
  have hmin : min k ((m * 2 ^ k).log2 + 2) = k := Nat.min_eq_left (by omega)
  unfold Toward.cut
  simp only [hmin, Nat.one_shiftLeft, Nat.mul_div_cancel _ hp, Nat.mul_mod_left]
  simp
theorem dbl_least : Ieee.double.leastPlace = -1074 := by decide
theorem dbl_binade : Ieee.double.binade = 4503599627370496 := by decide
theorem dbl_inf : Ieee.double.infRung = 9218868437227405312 := by decide
theorem dbl_sign : Ieee.double.signWeight = 9223372036854775808 := by decide
theorem dbl_frac : Ieee.double.fractionBits = 52 := rfl
/-- How a rung stands for a magnitude: m times 2 to the power of k. -/
def Mk (r m k : Nat) : Prop := r = k * 4503599627370496 + m ∧ ((4503599627370496 ≤ m ∧ m < 9007199254740992) ∨ (m < 4503599627370496 ∧ k = 0))
theorem nearest_dbl (neg : Bool) {r m k : Nat} (hm : m ≠ 0) (h : Mk r m k) (hr : r < 9218868437227405312) : Ieee.double.nearest neg (m * 2 ^ k) (-1074) = Ieee.double.word neg r := by
  obtain ⟨rfl, h⟩ := h
  have hp := Nat.two_pow_pos k
  have h0 : m * 2 ^ k ≠ 0 := Nat.mul_ne_zero hm (by omega)
  have hlast : max (-1074 + ((m * 2 ^ k).log2 : Int) - 52) (-1074) = -1074 + (k : Int) := by
    rcases h with ⟨h1, h2⟩ | ⟨h1, rfl⟩
    · have e : (m * 2 ^ k).log2 = 52 + k := log2_eq (by rw [Nat.pow_add]; exact Nat.mul_le_mul_right _ (by omega)) (by
        rw [show 52 + k + 1 = 53 + k by omega, Nat.pow_add]
        exact (Nat.mul_lt_mul_right hp).2 (by omega))
      rw [e]
      omega
    · have e : (m * 2 ^ 0).log2 < 52 := by
        rw [Nat.pow_zero, Nat.mul_one]
        exact (Nat.log2_lt hm).2 (by omega)
      omega
  unfold Format.nearest
  rw [if_neg h0]
  simp only [dbl_least, dbl_binade, dbl_inf, dbl_frac]
  have hlast' : max ((-1074 : Int) + ((m * 2 ^ k).log2 : Int) - ((52 : Nat) : Int)) (-1074) = -1074 + (k : Int) := hlast
  rw [hlast']
  have e1 : ((-1074 : Int) - (-1074 + (k : Int))).toNat = 0 := by omega
  have e2 : ((-1074 : Int) + (k : Int) - -1074).toNat = k := by omega
  rw [e1, e2, Nat.shiftLeft_zero, cut_exact neg k hm, Nat.min_eq_left (by omega)]
theorem read_dbl {x : Nat} (h : x % 9223372036854775808 < 9218868437227405312) :
    ∃ m k : Nat, Ieee.double.read x = .number (x / 9223372036854775808 % 2 == 1) m (-1074 + (k : Int)) ∧ Mk (x % 9223372036854775808) m k := by
  unfold Format.read
  simp only [dbl_least, dbl_binade, dbl_inf, dbl_sign]
  by_cases h1 : x % 9223372036854775808 < 4503599627370496
  · exact ⟨x % 9223372036854775808, 0, by rw [if_pos h1]; simp, by simp, .inr ⟨h1, rfl⟩⟩
  · refine ⟨4503599627370496 + x % 9223372036854775808 % 4503599627370496, x % 9223372036854775808 / 4503599627370496 - 1, by rw [if_neg h1, if_pos h], ?_, .inl ?_⟩
    · omega
    · omega
theorem read_zero : Ieee.double.read 0 = .number false 0 (-1074) := by decide
theorem word_back {x : Nat} (hx : x < 18446744073709551616) : Ieee.double.word (x / 9223372036854775808 % 2 == 1) (x % 9223372036854775808) = x := by
  unfold Format.word
  rw [dbl_sign]
  by_cases h : x / 9223372036854775808 % 2 = 1
  · rw [h]; simp; omega
  · have h' : (x / 9223372036854775808 % 2 == 1) = false := by simpa using h
    rw [h']
    simp
    omega
theorem add_zero {x : Nat} (hx : x < 18446744073709551616) (h : x % 9223372036854775808 < 9218868437227405312) :
    Ieee.double.add x 0 = some (if x % 9223372036854775808 = 0 then 0 else x) := by
  obtain ⟨m, k, e, hk⟩ := read_dbl h
  have hk2 := hk
  obtain ⟨hr, hc⟩ := hk2
  have hs := word_back hx
  unfold Format.add
  rw [e, read_zero]
  generalize hneg : (x / 9223372036854775808 % 2 == 1) = neg at *
  unfold Datum.sum
  have hb : min (-1074 + (k : Int)) (-1074) = -1074 := by omega
  have e1 : (-1074 + (k : Int) - -1074).toNat = k := by omega
  simp only [hb, e1]
  have e2 : ((-1074 : Int) - -1074).toNat = 0 := rfl
  rw [e2]
  by_cases hm : m = 0
  · subst hm
    have hx0 : x % 9223372036854775808 = 0 := by rcases hc with ⟨h1, _⟩ | ⟨_, rfl⟩ <;> omega
    rw [if_pos hx0]
    cases neg <;> simp [signed, Format.write, Format.nearest, Format.word]
  · have hx0 : x % 9223372036854775808 ≠ 0 := by
      rcases hc with ⟨h1, _⟩ | ⟨_, rfl⟩ <;> omega
    rw [if_neg hx0]
    have hpos : 0 < m * 2 ^ k := Nat.mul_pos (by omega) (Nat.two_pow_pos k)
    have hn := nearest_dbl neg hm hk h
    rw [hs] at hn
    have ht : signed neg m k + signed false 0 0 = if neg then -((m * 2 ^ k : Nat) : Int) else ((m * 2 ^ k : Nat) : Int) := by
      cases neg <;> simp [signed, Nat.shiftLeft_eq]
    rw [ht]
    cases neg
    · simp only [Bool.false_eq_true, if_false]
      rw [if_neg (by omega), Int.natAbs_natCast]
      have : decide (((m * 2 ^ k : Nat) : Int) < 0) = false := decide_eq_false (by omega)
      rw [this]
      simp only [Option.map_some, Format.write]
      rw [hn]
    · simp only [if_true]
      rw [if_neg (by omega), Int.natAbs_neg, Int.natAbs_natCast]
      have : decide (-((m * 2 ^ k : Nat) : Int) < 0) = true := decide_eq_true (by omega)
      rw [this]
      simp only [Option.map_some, Format.write]
      rw [hn]
end Go.Fl
namespace Go.Fl
open Ieee
theorem read_inf {x : Nat} (h : x % 9223372036854775808 = 9218868437227405312) : Ieee.double.read x = .infinity (x / 9223372036854775808 % 2 == 1) := by
  unfold Format.read
  simp only [dbl_binade, dbl_inf, dbl_sign]
  rw [if_neg (by omega), if_neg (by omega), if_pos h]
theorem read_nan {x : Nat} (h : 9218868437227405312 < x % 9223372036854775808) : ∃ s t, Ieee.double.read x = .nan s t := by
  unfold Format.read
  simp only [dbl_binade, dbl_inf, dbl_sign]
  rw [if_neg (by omega), if_neg (by omega), if_neg (by omega)]
  exact ⟨_, _, rfl⟩
theorem cmp_self (a : Int) : compare a a = .eq := by simp [compare, compareOfLessAndEq]
theorem cmp_selfN (a : Nat) : compare a a = .eq := by simp [compare, compareOfLessAndEq]
theorem order_self {x : Nat} (h : x % 9223372036854775808 ≤ 9218868437227405312) : Ieee.double.order x x = some .eq := by
  unfold Format.order
  rcases Nat.lt_or_ge (x % 9223372036854775808) 9218868437227405312 with h' | h'
  · obtain ⟨m, k, e, _⟩ := read_dbl h'
    rw [e]
    simp only [Datum.order, cmp_self]
  · rw [read_inf (by omega)]
    simp only [Datum.order, cmp_selfN]
theorem order_nan {x : Nat} (h : 9218868437227405312 < x % 9223372036854775808) : Ieee.double.order x x = none := by
  obtain ⟨s, t, e⟩ := read_nan h
  unfold Format.order
  rw [e]
  rfl
theorem read_max : Ieee.double.read 9218868437227405311 = .number false 9007199254740991 971 := by decide
theorem order_max_inf : Ieee.double.order 9218868437227405312 9218868437227405311 = some .gt := by
  unfold Format.order
  rw [read_max, read_inf (by decide)]
  rfl
theorem order_max {x : Nat} (h : x < 9218868437227405312) : (Ieee.double.order x 9218868437227405311 == some .gt) = false := by
  have hx : x % 9223372036854775808 = x := Nat.mod_eq_of_lt (by omega)
  obtain ⟨m, k, e, hr, hc⟩ := read_dbl (x := x) (by omega)
  unfold Format.order
  rw [e, read_max]
  have hneg : (x / 9223372036854775808 % 2 == 1) = false := by
    rw [Nat.div_eq_of_lt (by omega)]; rfl
  rw [hneg]
  have hk : k ≤ 2045 := by rcases hc with ⟨h1, _⟩ | ⟨_, rfl⟩ <;> omega
  have hm : m ≤ 9007199254740991 := by rcases hc with ⟨_, h1⟩ | ⟨h1, _⟩ <;> omega
  have hb : min (-1074 + (k : Int)) 971 = -1074 + (k : Int) := by omega
  have hle : m ≤ 9007199254740991 * 2 ^ (971 - (-1074 + (k : Int))).toNat := Nat.le_trans hm (Nat.le_mul_of_pos_right _ (Nat.two_pow_pos _))
  simp only [Datum.order, hb, signed, Bool.false_eq_true, if_false, Nat.shiftLeft_eq]
  rw [show (-1074 + (k : Int) - (-1074 + (k : Int))).toNat = 0 by omega, Nat.pow_zero, Nat.mul_one]
  generalize 9007199254740991 * 2 ^ (971 - (-1074 + (k : Int))).toNat = M at *
  simp only [compare, compareOfLessAndEq]
  by_cases h1 : (m : Int) < (M : Int)
  · rw [if_pos h1]; rfl
  · rw [if_neg h1, if_pos (by omega)]; rfl
theorem order_zero {x : Nat} (hx : x < 18446744073709551616) (h : x % 9223372036854775808 < 9218868437227405312) :
    (Ieee.double.order x 0 == some .lt) = (decide (9223372036854775808 ≤ x) && decide (x % 9223372036854775808 ≠ 0)) := by
  obtain ⟨m, k, e, hr, hc⟩ := read_dbl h
  unfold Format.order
  rw [e, read_zero]
  have hb : min (-1074 + (k : Int)) (-1074) = -1074 := by omega
  simp only [Datum.order, hb]
  rw [show (-1074 + (k : Int) - -1074).toNat = k by omega, show ((-1074 : Int) - -1074).toNat = 0 from rfl]
  have hp := Nat.two_pow_pos k
  have hz : signed false 0 0 = 0 := rfl
  rw [hz]
  by_cases hs : 9223372036854775808 ≤ x
  · have e1 : (x / 9223372036854775808 % 2 == 1) = true := by
      rw [show x / 9223372036854775808 = 1 by omega]; rfl
    rw [e1]
    simp only [signed, if_true, Nat.shiftLeft_eq]
    by_cases hm : m = 0
    · subst hm
      have hx0 : x % 9223372036854775808 = 0 := by rcases hc with ⟨h1, _⟩ | ⟨_, rfl⟩ <;> omega
      rw [hx0, Nat.zero_mul]
      simp [compare, compareOfLessAndEq, hs]
    · have hx0 : x % 9223372036854775808 ≠ 0 := by rcases hc with ⟨h1, _⟩ | ⟨_, rfl⟩ <;> omega
      have hpos : 0 < m * 2 ^ k := Nat.mul_pos (by omega) hp
      generalize m * 2 ^ k = M at *
      simp only [compare, compareOfLessAndEq]
      rw [if_pos (show -((M : Nat) : Int) < 0 by omega)]
      simp [hs, hx0]
  · have e1 : (x / 9223372036854775808 % 2 == 1) = false := by
      rw [Nat.div_eq_of_lt (by omega)]; rfl
    rw [e1]
    simp only [signed, Bool.false_eq_true, if_false, Nat.shiftLeft_eq]
    generalize m * 2 ^ k = M at *
    simp only [compare, compareOfLessAndEq]
    rw [if_neg (show ¬ ((M : Nat) : Int) < 0 by omega)]
    simp only [hs, decide_false, Bool.false_and]
    split <;> rfl
theorem mul_some {x y : Nat} (h : x % 9223372036854775808 < 9218868437227405312) (h2 : y % 9223372036854775808 < 9218868437227405312) : ∃ r, Ieee.double.mul x y = some r := by
  obtain ⟨m, k, e, _⟩ := read_dbl h
  obtain ⟨m2, k2, e2, _⟩ := read_dbl h2
  unfold Format.mul
  rw [e, e2]
  exact ⟨_, rfl⟩
end Go.Fl
