/- Walks and lemmas for the laws of this seat. -/
import Derived.Test.YtocahcammjoffaaGreatDoorQ1
import Derived.Test.YtocahcammjoffaaGreatDoorS18
namespace Go.Proofs.YtocahcammjoffaaGreatDoor
open Go.RowKit Go.Dig
set_option maxRecDepth 100000
theorem of64_h (x : Int) (w : World) (h0 : -9223372036854775808 ≤ x) (h1 : x ≤ 9223372036854775807) :
    Calls Tryz.prog 39 #[.int .i64 x] w fun e w' => ∃ s n v1 v2, e = .returned (.agg #[.bool s, v1, v2]) ∧ Hid (s = decide (x < 0)) ∧ Hid (n = x.natAbs) ∧ Nt w' v1 n ∧ Nt w' v2 1 ∧ Below w.heap.size w w' :=
  (of64_any x w h0 h1).mono fun _ _ ⟨v1, v2, e, a, b, c⟩ => ⟨_, _, v1, v2, e, rfl, rfl, a, b, c⟩
theorem small_quo_h (a b : Int) (hb : b ≠ 0) (hlo : -9223372036854775808 ≤ a.tdiv b) (hhi : a.tdiv b ≤ 9223372036854775807) (w : World) : Calls Tryz.prog 36 #[.int .i64 4, .int .i64 a, .int .i64 b] w fun e w' => ∃ x, e = .returned (.tuple #[.int .i64 x, .bool true]) ∧ Hid (x = a.tdiv b) ∧ Below w.heap.size w w' :=
  (small_quo a b hb hlo hhi w).mono fun _ _ ⟨e, h⟩ => ⟨_, e, rfl, h⟩
theorem small_rem_h (a b : Int) (hb : b ≠ 0) (w : World) : Calls Tryz.prog 36 #[.int .i64 5, .int .i64 a, .int .i64 b] w fun e w' => ∃ x, e = .returned (.tuple #[.int .i64 x, .bool true]) ∧ Hid (x = a.tmod b) ∧ Below w.heap.size w w' :=
  (small_rem a b hb w).mono fun _ _ ⟨e, h⟩ => ⟨_, e, rfl, h⟩
theorem nat_div_le {m n : Nat} (hn : n ≠ 0) (h : n ≠ 1) : m / n ≤ m / 2 := Nat.div_le_div_left (by omega) (by omega)
theorem tdiv_lo {a b : Int} (_ : b ≠ 0) (l0 : -9223372036854775808 ≤ a) (u0 : a ≤ 9223372036854775807) : -9223372036854775808 ≤ a.tdiv b := by
  rw [tdiv_sgn]
  have h1 := Nat.div_le_self a.natAbs b.natAbs
  have h2 : a.natAbs ≤ 9223372036854775808 := by omega
  generalize a.natAbs / b.natAbs = q at *
  cases (decide (a < 0) != decide (b < 0))
  · rw [sgn_f]; omega
  · rw [sgn_t]; omega
theorem tdiv_hi {a b : Int} (hb : b ≠ 0) (l0 : -9223372036854775808 ≤ a) (u0 : a ≤ 9223372036854775807) (h : a ≠ -9223372036854775808 ∨ b ≠ -1) : a.tdiv b ≤ 9223372036854775807 := by
  rw [tdiv_sgn]
  have h1 := Nat.div_le_self a.natAbs b.natAbs
  have h2 : a.natAbs ≤ 9223372036854775808 := by omega
  rcases Nat.lt_or_ge (a.natAbs / b.natAbs) 9223372036854775808 with h3 | h3
  · generalize a.natAbs / b.natAbs = q at *
    cases (decide (a < 0) != decide (b < 0))
    · rw [sgn_f]; omega
    · rw [sgn_t]; omega
  · have h4 : a = -9223372036854775808 := by omega
    have h5 : b.natAbs = 1 := by
      rcases Nat.lt_or_ge b.natAbs 2 with h6 | h6
      · omega
      · have := nat_div_le (m := a.natAbs) (n := b.natAbs) (by omega) (by omega)
        omega
    have h6 : b = 1 := by omega
    rw [h4, h6]; decide
theorem tmod_in {a b : Int} (_ : b ≠ 0) (l0 : -9223372036854775808 ≤ a) (u0 : a ≤ 9223372036854775807) : -9223372036854775808 ≤ a.tmod b ∧ a.tmod b ≤ 9223372036854775807 := by
  rw [tmod_sgn]
  have h1 := Nat.mod_le a.natAbs b.natAbs
  rcases Int.lt_or_le a 0 with h | h
  · rw [decide_eq_true h, sgn_t]; omega
  · rw [decide_eq_false (by omega), sgn_f]; omega
set_option maxHeartbeats 1000000 in
theorem quot_walk (a b : Int) (l0 : -9223372036854775808 ≤ a) (u0 : a ≤ 9223372036854775807) (l1 : -9223372036854775808 ≤ b) (u1 : b ≤ 9223372036854775807) (w : World) : Calls Tryz.prog 14 #[.int .i64 a, .int .i64 b] w fun e w' => e = .returned (.bool true) ∧ Below w.heap.size w w' := by
  rcases (by omega : b = 0 ∨ (a = -9223372036854775808 ∧ b = -1) ∨ (b ≠ 0 ∧ a ≠ -9223372036854775808) ∨ (b ≠ 0 ∧ b ≠ -1 ∧ a ≤ -9223372036854775808)) with hb | hb | hb | hb
  · subst hb
    go_enter Tryz.func14, Tryz.ntmps14
    go_wp2_with fail
    go_ret
    exact ⟨rfl, Below.refl _ _⟩
  · obtain ⟨rfl, rfl⟩ := hb
    go_enter Tryz.func14, Tryz.ntmps14
    go_wp2_with fail
    go_ret
    exact ⟨rfl, Below.refl _ _⟩
  · have hbz := hb.1
    have hcase : a ≠ -9223372036854775808 ∨ b ≠ -1 := .inl hb.2
    go_enter Tryz.func14, Tryz.ntmps14
    go_wp2_with fail
    refine (of64_h a _ l0 u0).mono ?_
    rintro e w1 ⟨sa, ma, v1, v2, rfl, SA, MA, h1, h2, hb1⟩
    obtain ⟨p1, c1, rfl⟩ := h1.shape
    obtain ⟨p2, c2, rfl⟩ := h2.shape
    have A1 := hid h1
    have A2 := hid h2
    clear h1 h2
    go_wp2_with fail
    refine (of64_h b _ l1 u1).mono ?_
    rintro e w2 ⟨sb, mb, v3, v4, rfl, SB, MB, h3, h4, hb2⟩
    obtain ⟨p3, c3, rfl⟩ := h3.shape
    obtain ⟨p4, c4, rfl⟩ := h4.shape
    have B1 := hid h3
    have B2 := hid h4
    have hbb := below_next hb1 hb2
    have C1 : Hid (Nt w2 _ ma) := A1.out.below hb2 (Nat.le_refl _)
    have C2 : Hid (Nt w2 _ 1) := A2.out.below hb2 (Nat.le_refl _)
    clear h3 h4 hb1 hb2 A1 A2
    go_wp2_with fail
    refine (divided_any _ _ _ _ _ _ ma mb w2 C1.out C2.out B1.out B2.out (by rw [MA.out]; exact Nat.le_trans (small_len a l0 u0) (by omega)) (by rw [MB.out]; exact Nat.le_trans (small_len b l1 u1) (by omega)) (by rw [MB.out]; omega)).mono ?_
    rintro e w3 ⟨u, v, q1, q2, r1, r2, rfl, rfl, rfl, hq1, hq2, hr1, hr2, hb3⟩
    obtain ⟨p5, c5, rfl⟩ := hq1.shape
    obtain ⟨p6, c6, rfl⟩ := hq2.shape
    obtain ⟨p7, c7, rfl⟩ := hr1.shape
    obtain ⟨p8, c8, rfl⟩ := hr2.shape
    have Q1 := hid hq1
    have Q2 := hid hq2
    have R1 := hid hr1
    have R2 := hid hr2
    have hbc := below_next hbb hb3
    clear hq1 hq2 hr1 hr2 hb3 hbb B1 B2 C1 C2
    generalize hz1 : decide (sgn (sa != sb) (ma / mb) < 0) = z1
    generalize hz2 : decide (sgn sa (ma % mb) < 0) = z2
    have Z1 := hid hz1
    have Z2 := hid hz2
    clear hz1 hz2
    go_wp2_with fail
    have hK1 := (blk_new w3 #[.bool z1, .slice p5 (dg 65536 (ma / mb)).length c5, .slice p6 (dg 65536 1).length c6] 31).alloc (.cells #[.bool z2, .slice p7 (dg 65536 (ma % mb)).length c7, .slice p8 (dg 65536 1).length c8] 31)
    have hK2 : Blk ((w3.alloc (.cells #[.bool z1, .slice p5 (dg 65536 (ma / mb)).length c5, .slice p6 (dg 65536 1).length c6] 31)).alloc (.cells #[.bool z2, .slice p7 (dg 65536 (ma % mb)).length c7, .slice p8 (dg 65536 1).length c8] 31)) (w3.heap.size + 1) #[.bool z2, .slice p7 (dg 65536 (ma % mb)).length c7, .slice p8 (dg 65536 1).length c8] 31 := by
      have := blk_new (w3.alloc (.cells #[.bool z1, .slice p5 (dg 65536 (ma / mb)).length c5, .slice p6 (dg 65536 1).length c6] 31)) #[.bool z2, .slice p7 (dg 65536 (ma % mb)).length c7, .slice p8 (dg 65536 1).length c8] 31
      simpa using this
    have hbk : Below w3.heap.size w3 ((w3.alloc (.cells #[.bool z1, .slice p5 (dg 65536 (ma / mb)).length c5, .slice p6 (dg 65536 1).length c6] 31)).alloc (.cells #[.bool z2, .slice p7 (dg 65536 (ma % mb)).length c7, .slice p8 (dg 65536 1).length c8] 31)) := ((Below.refl _ _).alloc (Nat.le_refl _) _).alloc (by simp) _
    have hsz : ∀ x, ((w3.alloc (.cells #[.bool z1, .slice p5 (dg 65536 (ma / mb)).length c5, .slice p6 (dg 65536 1).length c6] 31)).alloc (.cells #[.bool z2, .slice p7 (dg 65536 (ma % mb)).length c7, .slice p8 (dg 65536 1).length c8] 31)) = x → True := fun _ _ => trivial
    clear hsz
    generalize (w3.alloc (.cells #[.bool z1, .slice p5 (dg 65536 (ma / mb)).length c5, .slice p6 (dg 65536 1).length c6] 31)).alloc (.cells #[.bool z2, .slice p7 (dg 65536 (ma % mb)).length c7, .slice p8 (dg 65536 1).length c8] 31) = wk at *
    have Q1k : Hid (Nt wk _ (ma / mb)) := Q1.out.below hbk (Nat.le_refl _)
    have Q2k : Hid (Nt wk _ 1) := Q2.out.below hbk (Nat.le_refl _)
    have R1k : Hid (Nt wk _ (ma % mb)) := R1.out.below hbk (Nat.le_refl _)
    have R2k : Hid (Nt wk _ 1) := R2.out.below hbk (Nat.le_refl _)
    have hbc2 := below_next hbc hbk
    clear Q1 Q2 R1 R2 hbc hbk
    have Q1 := Q1k
    have Q2 := Q2k
    have R1 := R1k
    have R2 := R2k
    have hbc := hbc2
    have hK3 := hid hK1
    have hK4 := hid hK2
    clear Q1k Q2k R1k R2k hbc2 hK1 hK2
    have TD : Hid (a.tdiv b = sgn (sa != sb) (ma / mb)) := by rw [SA.out, SB.out, MA.out, MB.out]; exact tdiv_sgn a b
    have TM : Hid (a.tmod b = sgn sa (ma % mb)) := by rw [SA.out, MA.out, MB.out]; exact tmod_sgn a b
    refine (small_quo_h a b hbz (tdiv_lo hbz l0 u0) (tdiv_hi hbz l0 u0 hcase) wk).mono ?_
    rintro e w4 ⟨xq, rfl, XQ, hb4⟩
    have hbd := below_next hbc hb4
    have D1 : Hid (Nt w4 _ (ma / mb)) := Q1.out.below hb4 (Nat.le_refl _)
    have D2 : Hid (Nt w4 _ 1) := Q2.out.below hb4 (Nat.le_refl _)
    have E1 : Hid (Nt w4 _ (ma % mb)) := R1.out.below hb4 (Nat.le_refl _)
    have E2 : Hid (Nt w4 _ 1) := R2.out.below hb4 (Nat.le_refl _)
    have hK5 := hid (hK3.out.below hb4 hK3.out.lt)
    have hK6 := hid (hK4.out.below hb4 hK4.out.lt)
    clear hb4 hbc Q1 Q2 R1 R2 hK3 hK4
    go_wp2_with fail
    refine (small_rem_h a b hbz w4).mono ?_
    rintro e w5 ⟨xr, rfl, XR, hb5⟩
    have hbe := below_next hbd hb5
    have F1 : Hid (Nt w5 _ (ma / mb)) := D1.out.below hb5 (Nat.le_refl _)
    have F2 : Hid (Nt w5 _ 1) := D2.out.below hb5 (Nat.le_refl _)
    have G1 : Hid (Nt w5 _ (ma % mb)) := E1.out.below hb5 (Nat.le_refl _)
    have G2 : Hid (Nt w5 _ 1) := E2.out.below hb5 (Nat.le_refl _)
    have hK7 := hid (hK5.out.below hb5 hK5.out.lt)
    have hK8 := hid (hK6.out.below hb5 hK6.out.lt)
    obtain ⟨i0, i1, i2, i3, i4, i5⟩ := hK7.out.three
    clear hb5 hbd D1 D2 E1 E2 hK5 hK6
    go_wp2_with fail
    refine (fits_any _ true _ _ _ (ma / mb) w5 F1.out F2.out (fun h => neg_ne _ _ (Z1.out.trans h)) (div_len _ (by rw [MA.out]; exact Nat.le_trans (small_len a l0 u0) (by omega))) (by rw [← Z1.out]; exact fit_ok _ _ (by rw [← TD.out]; exact tdiv_lo hbz l0 u0) (by rw [← TD.out]; exact tdiv_hi hbz l0 u0 hcase)) (fun _ => by rw [← Z1.out, sgn_sgn, ← TD.out]; exact XQ.out)).mono ?_
    rintro e w6 ⟨rfl, hb6⟩
    have hbf := below_next hbe hb6
    have J1 : Hid (Nt w6 _ (ma % mb)) := G1.out.below hb6 (Nat.le_refl _)
    have J2 : Hid (Nt w6 _ 1) := G2.out.below hb6 (Nat.le_refl _)
    have hK9 := hid (hK8.out.below hb6 hK8.out.lt)
    obtain ⟨j0, j1, j2, j3, j4, j5⟩ := hK9.out.three
    clear hb6 hbe F1 F2 G1 G2 hK7 hK8 i0 i1 i2 i3 i4 i5
    go_wp2_with fail
    refine (fits_any _ true _ _ _ (ma % mb) w6 J1.out J2.out (fun h => neg_ne _ _ (Z2.out.trans h)) (Nat.le_trans (dg_length_mono (by omega) (Nat.mod_le _ _)) (by rw [MA.out]; exact Nat.le_trans (small_len a l0 u0) (by omega))) (by rw [← Z2.out]; exact fit_ok _ _ (by rw [← TM.out]; exact (tmod_in hbz l0 u0).1) (by rw [← TM.out]; exact (tmod_in hbz l0 u0).2)) (fun _ => by rw [← Z2.out, sgn_sgn, ← TM.out]; exact XR.out)).mono ?_
    rintro e w7 ⟨rfl, hb7⟩
    go_wp2_with fail
    go_ret
    exact ⟨rfl, below_next hbf hb7⟩
  · have hbz := hb.1
    have hbm := hb.2.1
    obtain rfl : a = -9223372036854775808 := by have := hb.2.2; omega
    clear hb
    have hcase : (-9223372036854775808 : Int) ≠ -9223372036854775808 ∨ b ≠ -1 := .inr hbm
    go_enter Tryz.func14, Tryz.ntmps14
    go_wp2_with fail
    · exfalso
      rename_i hq
      rcases (by simpa using hq : b = 0 ∨ b = -1) with h | h
      · exact hbz h
      · exact hbm h
    refine (of64_h (-9223372036854775808 : Int) _ l0 u0).mono ?_
    rintro e w1 ⟨sa, ma, v1, v2, rfl, SA, MA, h1, h2, hb1⟩
    obtain ⟨p1, c1, rfl⟩ := h1.shape
    obtain ⟨p2, c2, rfl⟩ := h2.shape
    have A1 := hid h1
    have A2 := hid h2
    clear h1 h2
    go_wp2_with fail
    refine (of64_h b _ l1 u1).mono ?_
    rintro e w2 ⟨sb, mb, v3, v4, rfl, SB, MB, h3, h4, hb2⟩
    obtain ⟨p3, c3, rfl⟩ := h3.shape
    obtain ⟨p4, c4, rfl⟩ := h4.shape
    have B1 := hid h3
    have B2 := hid h4
    have hbb := below_next hb1 hb2
    have C1 : Hid (Nt w2 _ ma) := A1.out.below hb2 (Nat.le_refl _)
    have C2 : Hid (Nt w2 _ 1) := A2.out.below hb2 (Nat.le_refl _)
    clear h3 h4 hb1 hb2 A1 A2
    go_wp2_with fail
    refine (divided_any _ _ _ _ _ _ ma mb w2 C1.out C2.out B1.out B2.out (by rw [MA.out]; exact Nat.le_trans (small_len (-9223372036854775808 : Int) l0 u0) (by omega)) (by rw [MB.out]; exact Nat.le_trans (small_len b l1 u1) (by omega)) (by rw [MB.out]; omega)).mono ?_
    rintro e w3 ⟨u, v, q1, q2, r1, r2, rfl, rfl, rfl, hq1, hq2, hr1, hr2, hb3⟩
    obtain ⟨p5, c5, rfl⟩ := hq1.shape
    obtain ⟨p6, c6, rfl⟩ := hq2.shape
    obtain ⟨p7, c7, rfl⟩ := hr1.shape
    obtain ⟨p8, c8, rfl⟩ := hr2.shape
    have Q1 := hid hq1
    have Q2 := hid hq2
    have R1 := hid hr1
    have R2 := hid hr2
    have hbc := below_next hbb hb3
    clear hq1 hq2 hr1 hr2 hb3 hbb B1 B2 C1 C2
    generalize hz1 : decide (sgn (sa != sb) (ma / mb) < 0) = z1
    generalize hz2 : decide (sgn sa (ma % mb) < 0) = z2
    have Z1 := hid hz1
    have Z2 := hid hz2
    clear hz1 hz2
    go_wp2_with fail
    have hK1 := (blk_new w3 #[.bool z1, .slice p5 (dg 65536 (ma / mb)).length c5, .slice p6 (dg 65536 1).length c6] 31).alloc (.cells #[.bool z2, .slice p7 (dg 65536 (ma % mb)).length c7, .slice p8 (dg 65536 1).length c8] 31)
    have hK2 : Blk ((w3.alloc (.cells #[.bool z1, .slice p5 (dg 65536 (ma / mb)).length c5, .slice p6 (dg 65536 1).length c6] 31)).alloc (.cells #[.bool z2, .slice p7 (dg 65536 (ma % mb)).length c7, .slice p8 (dg 65536 1).length c8] 31)) (w3.heap.size + 1) #[.bool z2, .slice p7 (dg 65536 (ma % mb)).length c7, .slice p8 (dg 65536 1).length c8] 31 := by
      have := blk_new (w3.alloc (.cells #[.bool z1, .slice p5 (dg 65536 (ma / mb)).length c5, .slice p6 (dg 65536 1).length c6] 31)) #[.bool z2, .slice p7 (dg 65536 (ma % mb)).length c7, .slice p8 (dg 65536 1).length c8] 31
      simpa using this
    have hbk : Below w3.heap.size w3 ((w3.alloc (.cells #[.bool z1, .slice p5 (dg 65536 (ma / mb)).length c5, .slice p6 (dg 65536 1).length c6] 31)).alloc (.cells #[.bool z2, .slice p7 (dg 65536 (ma % mb)).length c7, .slice p8 (dg 65536 1).length c8] 31)) := ((Below.refl _ _).alloc (Nat.le_refl _) _).alloc (by simp) _
    have hsz : ∀ x, ((w3.alloc (.cells #[.bool z1, .slice p5 (dg 65536 (ma / mb)).length c5, .slice p6 (dg 65536 1).length c6] 31)).alloc (.cells #[.bool z2, .slice p7 (dg 65536 (ma % mb)).length c7, .slice p8 (dg 65536 1).length c8] 31)) = x → True := fun _ _ => trivial
    clear hsz
    generalize (w3.alloc (.cells #[.bool z1, .slice p5 (dg 65536 (ma / mb)).length c5, .slice p6 (dg 65536 1).length c6] 31)).alloc (.cells #[.bool z2, .slice p7 (dg 65536 (ma % mb)).length c7, .slice p8 (dg 65536 1).length c8] 31) = wk at *
    have Q1k : Hid (Nt wk _ (ma / mb)) := Q1.out.below hbk (Nat.le_refl _)
    have Q2k : Hid (Nt wk _ 1) := Q2.out.below hbk (Nat.le_refl _)
    have R1k : Hid (Nt wk _ (ma % mb)) := R1.out.below hbk (Nat.le_refl _)
    have R2k : Hid (Nt wk _ 1) := R2.out.below hbk (Nat.le_refl _)
    have hbc2 := below_next hbc hbk
    clear Q1 Q2 R1 R2 hbc hbk
    have Q1 := Q1k
    have Q2 := Q2k
    have R1 := R1k
    have R2 := R2k
    have hbc := hbc2
    have hK3 := hid hK1
    have hK4 := hid hK2
    clear Q1k Q2k R1k R2k hbc2 hK1 hK2
    have TD : Hid ((-9223372036854775808 : Int).tdiv b = sgn (sa != sb) (ma / mb)) := by rw [SA.out, SB.out, MA.out, MB.out]; exact tdiv_sgn (-9223372036854775808 : Int) b
    have TM : Hid ((-9223372036854775808 : Int).tmod b = sgn sa (ma % mb)) := by rw [SA.out, MA.out, MB.out]; exact tmod_sgn (-9223372036854775808 : Int) b
    refine (small_quo_h (-9223372036854775808 : Int) b hbz (tdiv_lo hbz l0 u0) (tdiv_hi hbz l0 u0 hcase) wk).mono ?_
    rintro e w4 ⟨xq, rfl, XQ, hb4⟩
    have hbd := below_next hbc hb4
    have D1 : Hid (Nt w4 _ (ma / mb)) := Q1.out.below hb4 (Nat.le_refl _)
    have D2 : Hid (Nt w4 _ 1) := Q2.out.below hb4 (Nat.le_refl _)
    have E1 : Hid (Nt w4 _ (ma % mb)) := R1.out.below hb4 (Nat.le_refl _)
    have E2 : Hid (Nt w4 _ 1) := R2.out.below hb4 (Nat.le_refl _)
    have hK5 := hid (hK3.out.below hb4 hK3.out.lt)
    have hK6 := hid (hK4.out.below hb4 hK4.out.lt)
    clear hb4 hbc Q1 Q2 R1 R2 hK3 hK4
    go_wp2_with fail
    refine (small_rem_h (-9223372036854775808 : Int) b hbz w4).mono ?_
    rintro e w5 ⟨xr, rfl, XR, hb5⟩
    have hbe := below_next hbd hb5
    have F1 : Hid (Nt w5 _ (ma / mb)) := D1.out.below hb5 (Nat.le_refl _)
    have F2 : Hid (Nt w5 _ 1) := D2.out.below hb5 (Nat.le_refl _)
    have G1 : Hid (Nt w5 _ (ma % mb)) := E1.out.below hb5 (Nat.le_refl _)
    have G2 : Hid (Nt w5 _ 1) := E2.out.below hb5 (Nat.le_refl _)
    have hK7 := hid (hK5.out.below hb5 hK5.out.lt)
    have hK8 := hid (hK6.out.below hb5 hK6.out.lt)
    obtain ⟨i0, i1, i2, i3, i4, i5⟩ := hK7.out.three
    clear hb5 hbd D1 D2 E1 E2 hK5 hK6
    go_wp2_with fail
    refine (fits_any _ true _ _ _ (ma / mb) w5 F1.out F2.out (fun h => neg_ne _ _ (Z1.out.trans h)) (div_len _ (by rw [MA.out]; exact Nat.le_trans (small_len (-9223372036854775808 : Int) l0 u0) (by omega))) (by rw [← Z1.out]; exact fit_ok _ _ (by rw [← TD.out]; exact tdiv_lo hbz l0 u0) (by rw [← TD.out]; exact tdiv_hi hbz l0 u0 hcase)) (fun _ => by rw [← Z1.out, sgn_sgn, ← TD.out]; exact XQ.out)).mono ?_
    rintro e w6 ⟨rfl, hb6⟩
    have hbf := below_next hbe hb6
    have J1 : Hid (Nt w6 _ (ma % mb)) := G1.out.below hb6 (Nat.le_refl _)
    have J2 : Hid (Nt w6 _ 1) := G2.out.below hb6 (Nat.le_refl _)
    have hK9 := hid (hK8.out.below hb6 hK8.out.lt)
    obtain ⟨j0, j1, j2, j3, j4, j5⟩ := hK9.out.three
    clear hb6 hbe F1 F2 G1 G2 hK7 hK8 i0 i1 i2 i3 i4 i5
    go_wp2_with fail
    refine (fits_any _ true _ _ _ (ma % mb) w6 J1.out J2.out (fun h => neg_ne _ _ (Z2.out.trans h)) (Nat.le_trans (dg_length_mono (by omega) (Nat.mod_le _ _)) (by rw [MA.out]; exact Nat.le_trans (small_len (-9223372036854775808 : Int) l0 u0) (by omega))) (by rw [← Z2.out]; exact fit_ok _ _ (by rw [← TM.out]; exact (tmod_in hbz l0 u0).1) (by rw [← TM.out]; exact (tmod_in hbz l0 u0).2)) (fun _ => by rw [← Z2.out, sgn_sgn, ← TM.out]; exact XR.out)).mono ?_
    rintro e w7 ⟨rfl, hb7⟩
    go_wp2_with fail
    go_ret
    exact ⟨rfl, below_next hbf hb7⟩
end Go.Proofs.YtocahcammjoffaaGreatDoor
