/- The walk of FnFromFloat64. -/
import Derived.Test.YtdhgdachchhflaaGreatDoorQP
import Derived.Test.YtdhgdachchhflaaGreatDoorQN
namespace Go.Proofs.YtdhgdachchhflaaGreatDoor
open Go.RowKit Go.Dig
set_option maxRecDepth 100000
set_option maxHeartbeats 1000000 in
theorem rational_told (n1 : Bool) (v1 v2 : Value) (m d : Nat) (hn : n1 = (n1 && decide (m ≠ 0))) (hd : d ≠ 0) (hg : Nat.gcd m d = 1) (w : World) (h1 : Rd .u64 w v1 (dg 18446744073709551616 m)) (h2 : Rd .u64 w v2 (dg 18446744073709551616 d)) (hl1 : (dg 18446744073709551616 m).length ≤ 1000) (hl2 : (dg 18446744073709551616 d).length ≤ 1000) :
    Calls Tryz.prog 10 #[.agg #[.int .i64 4, .bool false, .string (ByteArray.mk #[]), .bool n1, v1, v2, .bool false, .slice none 0 0, .slice none 0 0]] w fun e w' => ∃ u1 u2, e = .returned (.tuple #[.agg #[.bool n1, u1, u2], .bool true]) ∧ Nt w' u1 m ∧ Nt w' u2 d ∧ Below w.heap.size w w' := by
  obtain ⟨a1, c1, rfl⟩ := h1.shape
  obtain ⟨a2, c2, rfl⟩ := h2.shape
  have HF := fun W h1 h2 => fraction_told n1 (.slice a1 (dg 18446744073709551616 m).length c1) (.slice a2 (dg 18446744073709551616 d).length c2) m d hn hd hg W h1 h2 hl1 hl2
  generalize (dg 18446744073709551616 m).length = l1 at *
  generalize (dg 18446744073709551616 d).length = l2 at *
  have HK := hid ((blk_new w #[.int .i64 4, .bool false, .string (ByteArray.mk #[]), .bool n1, .slice a1 l1 c1, .slice a2 l2 c2, .bool false, .slice none 0 0, .slice none 0 0] 27).alloc (.cells #[.bool false, .slice none 0 0, .slice none 0 0] 34))
  have HR : Hid (Blk ((w.alloc (.cells #[.int .i64 4, .bool false, .string (ByteArray.mk #[]), .bool n1, .slice a1 l1 c1, .slice a2 l2 c2, .bool false, .slice none 0 0, .slice none 0 0] 27)).alloc (.cells #[.bool false, .slice none 0 0, .slice none 0 0] 34)) (w.heap.size + 1) #[.bool false, .slice none 0 0, .slice none 0 0] 34) := by
    have := blk_new (w.alloc (.cells #[.int .i64 4, .bool false, .string (ByteArray.mk #[]), .bool n1, .slice a1 l1 c1, .slice a2 l2 c2, .bool false, .slice none 0 0, .slice none 0 0] 27)) #[.bool false, .slice none 0 0, .slice none 0 0] 34
    refine hid ?_
    simpa using this
  have HB : Hid (Below w.heap.size w ((w.alloc (.cells #[.int .i64 4, .bool false, .string (ByteArray.mk #[]), .bool n1, .slice a1 l1 c1, .slice a2 l2 c2, .bool false, .slice none 0 0, .slice none 0 0] 27)).alloc (.cells #[.bool false, .slice none 0 0, .slice none 0 0] 34))) := ((Below.refl _ _).alloc (Nat.le_refl _) _).alloc (by simp) _
  have H1 := hid (h1.below HB.out (Nat.le_refl _))
  have H2 := hid (h2.below HB.out (Nat.le_refl _))
  clear h1 h2 hn hd hg hl1 hl2
  obtain ⟨b0, b1, b2, b3, b4, b5, b6, b7, b8, f0, f1, f2, f3, f4, f5, f6, f7, f8⟩ := HK.out.nine
  go_enter Tryz.func10, Tryz.ntmps10
  go_wp2_with fail
  generalize ((w.alloc (.cells #[.int .i64 4, .bool false, .string (ByteArray.mk #[]), .bool n1, .slice a1 l1 c1, .slice a2 l2 c2, .bool false, .slice none 0 0, .slice none 0 0] 27)).alloc (.cells #[.bool false, .slice none 0 0, .slice none 0 0] 34)) = w0 at *
  refine (rest_told 4 n1 _ _ _ _ _ _ _ _ _ _ _).mono ?_
  rintro e w1 ⟨rfl, hb⟩
  have HK1 := hid (HK.out.below hb HK.out.lt)
  have HR1 := hid (HR.out.below hb HR.out.lt)
  have HB1 := hid (below_next HB.out hb)
  have H11 := hid (H1.out.below hb (Nat.le_refl _))
  have H21 := hid (H2.out.below hb (Nat.le_refl _))
  clear b0 b1 b2 b3 b4 b5 b6 b7 b8 f0 f1 f2 f3 f4 f5 f6 f7 f8 HK HR HB H1 H2 hb
  obtain ⟨b0, b1, b2, b3, b4, b5, b6, b7, b8, f0, f1, f2, f3, f4, f5, f6, f7, f8⟩ := HK1.out.nine
  go_wp2_with fail
  refine (HF w1 H11.out H21.out).mono ?_
  rintro e w2 ⟨u1, u2, rfl, h1, h2, hb⟩
  have HU1 := hid h1
  have HU2 := hid h2
  have HR2 := hid (HR1.out.below hb HR1.out.lt)
  have HB2 := hid (below_next HB1.out hb)
  obtain ⟨p1, k1, rfl⟩ := h1.shape
  obtain ⟨p2, k2, rfl⟩ := h2.shape
  clear b0 b1 b2 b3 b4 b5 b6 b7 b8 f0 f1 f2 f3 f4 f5 f6 f7 f8 HK1 HR1 HB1 H11 H21 hb h1 h2
  obtain ⟨r0, r1, r2, g0, g1, g2⟩ := HR2.out.three
  go_wp2_with fail
  have HRF : Hid (Blk (((w2.setCell ⟨w.heap.size + 1, 0, none⟩ (.bool n1)).setCell ⟨w.heap.size + 1, 1, none⟩ (.slice p1 (dg 65536 m).length k1)).setCell ⟨w.heap.size + 1, 2, none⟩ (.slice p2 (dg 65536 d).length k2)) (w.heap.size + 1) #[.bool n1, .slice p1 (dg 65536 m).length k1, .slice p2 (dg 65536 d).length k2] 34) := by
    have := ((HR2.out.set 0 (.bool n1)).set 1 (.slice p1 (dg 65536 m).length k1)).set 2 (.slice p2 (dg 65536 d).length k2)
    refine hid ?_
    simpa using this
  clear r0 r1 r2 g0 g1 g2
  obtain ⟨r0, r1, r2, g0, g1, g2⟩ := HRF.out.three
  refine bodyPost_ret (v := .tuple #[.agg #[.bool n1, .slice p1 (dg 65536 m).length k1, .slice p2 (dg 65536 d).length k2], .bool true]) (by simp [results, Tryz.results10, go_sem, r0, r1, r2]) rfl ⟨_, _, rfl, ?_, ?_, ?_⟩
  · exact HU1.out.set3 HR2.out (by decide) _ _ _
  · exact HU2.out.set3 HR2.out (by decide) _ _ _
  · exact ((HB2.out.setCell (p := ⟨w.heap.size + 1, 0, none⟩) (Nat.le_succ _) _).setCell (p := ⟨w.heap.size + 1, 1, none⟩) (Nat.le_succ _) _).setCell (p := ⟨w.heap.size + 1, 2, none⟩) (Nat.le_succ _) _
set_option maxHeartbeats 1000000 in
theorem isFloat_told (n1 : Bool) (v1 v2 v3 v4 : Value) (m d : Nat) (hn : n1 = (n1 && decide (m ≠ 0))) (hd : d ≠ 0) (hg : Nat.gcd m d = 1) (w : World) (h1 : Rd .u64 w v1 (dg 18446744073709551616 m)) (h2 : Rd .u64 w v2 (dg 18446744073709551616 d)) (hl1 : (dg 18446744073709551616 m).length ≤ 1000) (hl2 : (dg 18446744073709551616 d).length ≤ 1000) (h3 : Nt w v3 m) (h4 : Nt w v4 d) :
    Calls Tryz.prog 5 #[.agg #[.int .i64 4, .bool false, .string (ByteArray.mk #[]), .bool n1, v1, v2, .bool false, .slice none 0 0, .slice none 0 0], .agg #[.bool n1, v3, v4]] w fun e w' => e = .returned (.bool true) ∧ Below w.heap.size w w' := by
  have HF := fun W h1 h2 => rational_told n1 v1 v2 m d hn hd hg W h1 h2 hl1 hl2
  clear hn hd hg
  obtain ⟨a1, c1, rfl⟩ := h1.shape
  obtain ⟨a2, c2, rfl⟩ := h2.shape
  obtain ⟨a3, c3, rfl⟩ := h3.shape
  obtain ⟨a4, c4, rfl⟩ := h4.shape
  have HR : Hid (Blk ((w.alloc (.cells #[.int .i64 4, .bool false, .string (ByteArray.mk #[]), .bool n1, .slice a1 (dg 18446744073709551616 m).length c1, .slice a2 (dg 18446744073709551616 d).length c2, .bool false, .slice none 0 0, .slice none 0 0] 27)).alloc (.cells #[.bool n1, .slice a3 (dg 65536 m).length c3, .slice a4 (dg 65536 d).length c4] 34)) (w.heap.size + 1) #[.bool n1, .slice a3 (dg 65536 m).length c3, .slice a4 (dg 65536 d).length c4] 34) := by
    have := blk_new (w.alloc (.cells #[.int .i64 4, .bool false, .string (ByteArray.mk #[]), .bool n1, .slice a1 (dg 18446744073709551616 m).length c1, .slice a2 (dg 18446744073709551616 d).length c2, .bool false, .slice none 0 0, .slice none 0 0] 27)) #[.bool n1, .slice a3 (dg 65536 m).length c3, .slice a4 (dg 65536 d).length c4] 34
    refine hid ?_
    simpa using this
  have HB : Hid (Below w.heap.size w ((w.alloc (.cells #[.int .i64 4, .bool false, .string (ByteArray.mk #[]), .bool n1, .slice a1 (dg 18446744073709551616 m).length c1, .slice a2 (dg 18446744073709551616 d).length c2, .bool false, .slice none 0 0, .slice none 0 0] 27)).alloc (.cells #[.bool n1, .slice a3 (dg 65536 m).length c3, .slice a4 (dg 65536 d).length c4] 34))) := ((Below.refl _ _).alloc (Nat.le_refl _) _).alloc (by simp) _
  have H1 := hid (h1.below HB.out (Nat.le_refl _))
  have H2 := hid (h2.below HB.out (Nat.le_refl _))
  have H3 := hid (h3.below HB.out (Nat.le_refl _))
  have H4 := hid (h4.below HB.out (Nat.le_refl _))
  clear h1 h2 h3 h4 hl1 hl2
  go_enter Tryz.func5, Tryz.ntmps5
  go_wp2_with fail
  generalize ((w.alloc (.cells #[.int .i64 4, .bool false, .string (ByteArray.mk #[]), .bool n1, .slice a1 (dg 18446744073709551616 m).length c1, .slice a2 (dg 18446744073709551616 d).length c2, .bool false, .slice none 0 0, .slice none 0 0] 27)).alloc (.cells #[.bool n1, .slice a3 (dg 65536 m).length c3, .slice a4 (dg 65536 d).length c4] 34)) = w0 at *
  refine (HF w0 H1.out H2.out).mono ?_
  rintro e w1 ⟨u1, u2, rfl, h1, h2, hb⟩
  have HU1 := hid h1
  have HU2 := hid h2
  have HR1 := hid (HR.out.below hb HR.out.lt)
  have HB1 := hid (below_next HB.out hb)
  have H31 := hid (H3.out.below hb (Nat.le_refl _))
  have H41 := hid (H4.out.below hb (Nat.le_refl _))
  obtain ⟨p1, k1, rfl⟩ := h1.shape
  obtain ⟨p2, k2, rfl⟩ := h2.shape
  clear HR HB H1 H2 H3 H4 hb h1 h2 HF
  have HR2 := hid (HR1.out.alloc (.cells #[.bool n1, .slice p1 (dg 65536 m).length k1, .slice p2 (dg 65536 d).length k2] 34))
  have HV2 := hid (blk_new w1 #[.bool n1, .slice p1 (dg 65536 m).length k1, .slice p2 (dg 65536 d).length k2] 34)
  have HE : Hid (Below w1.heap.size w1 (w1.alloc (.cells #[.bool n1, .slice p1 (dg 65536 m).length k1, .slice p2 (dg 65536 d).length k2] 34))) := (Below.refl _ _).alloc (Nat.le_refl _) _
  have HU12 := hid (HU1.out.below HE.out (Nat.le_refl _))
  have HU22 := hid (HU2.out.below HE.out (Nat.le_refl _))
  have H32 := hid (H31.out.below HE.out (Nat.le_refl _))
  have H42 := hid (H41.out.below HE.out (Nat.le_refl _))
  have HB2 := hid (below_next HB1.out HE.out)
  obtain ⟨r0, r1, r2, g0, g1, g2⟩ := HR2.out.three
  obtain ⟨r3, r4, r5, g3, g4, g5⟩ := HV2.out.three
  focus go_wp2_with fail
  refine (same_any n1 n1 _ _ _ _ m d m d _ HU12.out HU22.out H32.out H42.out).mono ?_
  rintro e w2 ⟨b, rfl, h, hb⟩
  rw [h.out.2 ⟨rfl, rfl, rfl⟩]
  have HB3 := hid (below_next HB2.out hb)
  clear r0 r1 r2 g0 g1 g2 r3 r4 r5 g3 g4 g5 hb h
  focus go_wp2_with fail
  go_ret
  exact ⟨rfl, HB3.out⟩
end Go.Proofs.YtdhgdachchhflaaGreatDoor
namespace Go.Proofs.YtdhgdachchhflaaGreatDoor
open Go.RowKit Go.Dig
set_option maxRecDepth 100000
theorem rat_len {w : World} {b x P D : Nat} {vP vD : Value} (h : RatOf w b x P D vP vD) : (dg 18446744073709551616 P).length ≤ 900 ∧ (dg 18446744073709551616 D).length ≤ 900 ∧ 0 < D := by
  have hb := ofE_bd x
  have hB : 0 < 2 ^ (-ofE x).toNat := Nat.two_pow_pos _
  refine ⟨?_, ?_, ?_⟩
  · have h1 : P ≤ ofM x * 2 ^ (ofE x).toNat := by rw [h.hP]; exact Nat.div_le_self _ _
    exact Nat.le_trans (dg_length_mono (by omega) h1) (pow_len' _ (ofM_lt x) (by omega))
  · have h1 : D ≤ 2 ^ (-ofE x).toNat := by rw [h.hD]; exact Nat.div_le_self _ _
    exact Nat.le_trans (dg_length_mono (by omega) h1) (pow_len _ (by omega))
  · rw [h.hD]
    exact Nat.div_pos (Nat.le_of_dvd hB (Nat.gcd_dvd_right _ _)) (Nat.gcd_pos_of_pos_right _ hB)
set_option maxHeartbeats 1000000 in
theorem fromFloat_fin (x : Nat) (hx : x < 18446744073709551616) (hf : x % 9223372036854775808 < 9218868437227405312) (w : World) :
    Calls Tryz.prog 4 #[.int .u64 x] w fun e w' => ∃ P D v u, e = .returned (.agg #[.int .i64 4, .bool false, .string (ByteArray.mk #[]), .bool (decide (9223372036854775808 ≤ x) && decide (P ≠ 0)), v, u, .bool false, .slice none 0 0, .slice none 0 0]) ∧
      Hid (P = ofM x * 2 ^ (ofE x).toNat / Nat.gcd (ofM x * 2 ^ (ofE x).toNat) (2 ^ (-ofE x).toNat) ∧ D = 2 ^ (-ofE x).toNat / Nat.gcd (ofM x * 2 ^ (ofE x).toNat) (2 ^ (-ofE x).toNat) ∧ Nat.gcd P D = 1 ∧ (dg 18446744073709551616 P).length ≤ 900 ∧ (dg 18446744073709551616 D).length ≤ 900 ∧ 0 < D) ∧ Rd .u64 w' v (dg 18446744073709551616 P) ∧ Rd .u64 w' u (dg 18446744073709551616 D) ∧ Below w.heap.size w w' := by
  have hfb := fun w => f64from_any (x : Int) w
  simp only [Int.toNat_natCast] at hfb
  have HR0 : Hid (Blk (w.alloc (.cells #[.int .i64 0, .bool false, .string (ByteArray.mk #[]), .bool false, .slice none 0 0, .slice none 0 0, .bool false, .slice none 0 0, .slice none 0 0] 27)) w.heap.size #[.int .i64 0, .bool false, .string (ByteArray.mk #[]), .bool false, .slice none 0 0, .slice none 0 0, .bool false, .slice none 0 0, .slice none 0 0] 27) := blk_new w _ 27
  have Hb0 : Hid (Below w.heap.size w (w.alloc (.cells #[.int .i64 0, .bool false, .string (ByteArray.mk #[]), .bool false, .slice none 0 0, .slice none 0 0, .bool false, .slice none 0 0, .slice none 0 0] 27))) := (Below.refl _ _).alloc (Nat.le_refl _) _
  go_enter Tryz.func4, Tryz.ntmps4
  go_wp2_with fail
  generalize w.alloc (.cells #[.int .i64 0, .bool false, .string (ByteArray.mk #[]), .bool false, .slice none 0 0, .slice none 0 0, .bool false, .slice none 0 0, .slice none 0 0] 27) = w0 at *
  refine (makeFloat_fin x hx hf w0).mono ?_
  rintro e w1 ⟨b, P, D, vP, vD, rfl, hR, hb⟩
  have HR := hid hR
  have HB := hid (below_next Hb0.out hb)
  have HR1 := hid (HR0.out.below hb HR0.out.lt)
  clear hR hb HR0 Hb0
  go_wp2_with fail
  obtain ⟨l1, l2, l3⟩ := rat_len HR.out
  refine (told_rat b P D _ vP vD w1 HR.out.blk HR.out.nP HR.out.nD l1 l2 l3).mono ?_
  rintro e w2 ⟨t, v, u, rfl, ht, hv, hu, hb⟩
  obtain ⟨a, c, rfl⟩ := hv.shape
  obtain ⟨a', c', rfl⟩ := hu.shape
  have HR2 := hid (HR1.out.below hb HR1.out.lt)
  have HV : Hid (Kp w.heap.size w.heap.size w2 _ _) := ⟨hv, ⟨_, HR2.out.shape⟩, ⟨_, HR2.out.shape⟩⟩
  have HU : Hid (Kp w.heap.size w.heap.size w2 _ _) := ⟨hu, ⟨_, HR2.out.shape⟩, ⟨_, HR2.out.shape⟩⟩
  have HE := hid (below_next HB.out hb)
  have hts : t = (decide (9223372036854775808 ≤ x) && decide (P ≠ 0)) := by
    rw [ht.out]
    by_cases h1 : 9223372036854775808 ≤ x <;> by_cases h2 : P = 0 <;> simp [sgn, h1, h2]
    omega
  have HF := hid (And.intro HR.out.hP (And.intro HR.out.hD (And.intro HR.out.hg (And.intro l1 (And.intro l2 l3)))))
  clear hv hu hb HR HB ht l1 l2 l3 HR1
  subst hts
  obtain ⟨sg, hsg⟩ : ∃ sg, sg = (decide (9223372036854775808 ≤ x) && decide (P ≠ 0)) := ⟨_, rfl⟩
  rw [← hsg]
  have HSG := hid hsg
  clear hsg
  obtain ⟨r0, r1, r2, r3, r4, r5, r6, r7, r8, g0, g1, g2, g3, g4, g5, g6, g7, g8⟩ := HR2.out.nine
  go_wp2_with fail
  refine bodyPost_ret (v := .agg #[.int .i64 4, .bool false, .string (ByteArray.mk #[]), .bool sg, .slice a (dg 18446744073709551616 P).length c, .slice a' (dg 18446744073709551616 D).length c', .bool false, .slice none 0 0, .slice none 0 0]) (by simp [results, Tryz.results4, go_sem, r0, r1, r2, r3, r4, r5, r6, r7, r8]) rfl ⟨P, D, _, _, by rw [HSG.out], HF, ?_, ?_, ?_⟩
  · exact (((((((((HV.out.r 0 _).r 1 _).r 2 _).r 3 _).r 4 _).r 5 _).r 6 _).r 7 _).r 8 _).rt.rd
  · exact (((((((((HU.out.r 0 _).r 1 _).r 2 _).r 3 _).r 4 _).r 5 _).r 6 _).r 7 _).r 8 _).rt.rd
  · exact below_set9 HE.out (Nat.le_refl _) _ _ _ _ _ _ _ _ _
set_option maxHeartbeats 1000000 in
theorem fromFloat_not (x : Nat) (hx : x < 18446744073709551616) (hf : 9218868437227405312 ≤ x % 9223372036854775808) (w : World) :
    Calls Tryz.prog 4 #[.int .u64 x] w fun e w' => e = .returned (.agg #[.int .i64 0, .bool false, .string (ByteArray.mk #[]), .bool false, .slice none 0 0, .slice none 0 0, .bool false, .slice none 0 0, .slice none 0 0]) ∧ Below w.heap.size w w' := by
  have hfb := fun w => f64from_any (x : Int) w
  simp only [Int.toNat_natCast] at hfb
  have HR0 : Hid (Blk (w.alloc (.cells #[.int .i64 0, .bool false, .string (ByteArray.mk #[]), .bool false, .slice none 0 0, .slice none 0 0, .bool false, .slice none 0 0, .slice none 0 0] 27)) w.heap.size #[.int .i64 0, .bool false, .string (ByteArray.mk #[]), .bool false, .slice none 0 0, .slice none 0 0, .bool false, .slice none 0 0, .slice none 0 0] 27) := blk_new w _ 27
  have Hb0 : Hid (Below w.heap.size w (w.alloc (.cells #[.int .i64 0, .bool false, .string (ByteArray.mk #[]), .bool false, .slice none 0 0, .slice none 0 0, .bool false, .slice none 0 0, .slice none 0 0] 27))) := (Below.refl _ _).alloc (Nat.le_refl _) _
  go_enter Tryz.func4, Tryz.ntmps4
  go_wp2_with fail
  generalize w.alloc (.cells #[.int .i64 0, .bool false, .string (ByteArray.mk #[]), .bool false, .slice none 0 0, .slice none 0 0, .bool false, .slice none 0 0, .slice none 0 0] 27) = w0 at *
  refine (makeFloat_not x hx hf w0).mono ?_
  rintro e w1 ⟨rfl, rfl⟩
  go_wp2_with fail
  refine (told_unk _).mono ?_
  rintro e w2 ⟨rfl, hb⟩
  have HB := hid (below_next Hb0.out hb)
  have HR2 := hid (HR0.out.below hb HR0.out.lt)
  clear hb HR0 Hb0
  obtain ⟨r0, r1, r2, r3, r4, r5, r6, r7, r8, g0, g1, g2, g3, g4, g5, g6, g7, g8⟩ := HR2.out.nine
  go_wp2_with fail
  refine bodyPost_ret (v := .agg #[.int .i64 0, .bool false, .string (ByteArray.mk #[]), .bool false, .slice none 0 0, .slice none 0 0, .bool false, .slice none 0 0, .slice none 0 0]) (by simp [results, Tryz.results4, go_sem, r0, r1, r2, r3, r4, r5, r6, r7, r8]) rfl ⟨rfl, ?_⟩
  exact below_set9 HB.out (Nat.le_refl _) _ _ _ _ _ _ _ _ _
end Go.Proofs.YtdhgdachchhflaaGreatDoor
namespace Go.Proofs.YtdhgdachchhflaaGreatDoor
open Go.RowKit Go.Dig
set_option maxRecDepth 100000
theorem nine9 {w : World} {b : Nat} {x0 x1 x2 x3 x4 x5 x6 x7 x8 : Value} {e : TypeId} (h : Blk w b #[x0, x1, x2, x3, x4, x5, x6, x7, x8] e) :
    w.cell? ⟨b, 0, none⟩ = some x0 ∧ w.cell? ⟨b, 1, none⟩ = some x1 ∧ w.cell? ⟨b, 2, none⟩ = some x2 ∧ w.cell? ⟨b, 3, none⟩ = some x3 ∧ w.cell? ⟨b, 4, none⟩ = some x4 ∧ w.cell? ⟨b, 5, none⟩ = some x5 ∧ w.cell? ⟨b, 6, none⟩ = some x6 ∧ w.cell? ⟨b, 7, none⟩ = some x7 ∧ w.cell? ⟨b, 8, none⟩ = some x8 :=
  ⟨h.cell 0, h.cell 1, h.cell 2, h.cell 3, h.cell 4, h.cell 5, h.cell 6, h.cell 7, h.cell 8⟩
theorem sg_eq {x P : Nat} {B : Nat} (hx : x < 18446744073709551616) (hP : P = ofM x * 2 ^ (ofE x).toNat / Nat.gcd (ofM x * 2 ^ (ofE x).toNat) B) : ((x : Int) / 9223372036854775808 == 1 && decide (ofM x * 2 ^ (ofE x).toNat ≠ 0)) = (decide (9223372036854775808 ≤ x) && decide (P ≠ 0)) := by
  have h1 : ((x : Int) / 9223372036854775808 == 1) = decide (9223372036854775808 ≤ x) := by
    by_cases h : 9223372036854775808 ≤ x
    · rw [decide_eq_true h]; simp; omega
    · rw [decide_eq_false h]; simp; omega
  have h2 : decide (ofM x * 2 ^ (ofE x).toNat ≠ 0) = decide (P ≠ 0) := by
    rw [hP]
    generalize ofM x * 2 ^ (ofE x).toNat = A
    by_cases h : A = 0
    · subst h; simp
    · have hg : 0 < Nat.gcd A B := Nat.gcd_pos_of_pos_left _ (by omega)
      have hd : 0 < A / Nat.gcd A B := Nat.div_pos (Nat.le_of_dvd (by omega) (Nat.gcd_dvd_left _ _)) hg
      rw [decide_eq_true h, decide_eq_true (show A / Nat.gcd A B ≠ 0 by omega)]
  rw [h1, h2]
theorem field_kind (k : Int) (n : Bool) (v u : Value) (w : World) : (Instr.field 27 (.agg #[.int .i64 k, .bool false, .string (ByteArray.mk #[]), .bool n, v, u, .bool false, .slice none 0 0, .slice none 0 0]) 0).run Tryz.prog w = .ok (.int .i64 k) w := by kernel_rfl
theorem one_fin (w : World) : Calls Tryz.prog 4 #[.int .u64 4607182418800017408] w fun e w' => ∃ n v u, e = .returned (.agg #[.int .i64 4, .bool false, .string (ByteArray.mk #[]), .bool n, v, u, .bool false, .slice none 0 0, .slice none 0 0]) ∧ Below w.heap.size w w' := by
  refine (fromFloat_fin 4607182418800017408 (by omega) (by omega) w).mono ?_
  rintro e w' ⟨P, D, v, u, rfl, _, _, _, hb⟩
  exact ⟨_, _, _, rfl, hb⟩
set_option maxHeartbeats 2000000 in
theorem ff_fin (x : Nat) (hx : x < 18446744073709551616) (hf : x % 9223372036854775808 < 9218868437227405312) (w : World) :
    Calls Tryz.prog 3 #[.int .u64 x] w fun e w' => e = .returned (.bool true) ∧ Below w.heap.size w w' := by
  have e1 := band_exp x hx
  have hE : x / 4503599627370496 % 2048 < 2047 := by omega
  generalize x / 4503599627370496 % 2048 = E at *
  have n1 : ((E : Int) == 2047) = false := by simp; omega
  go_enter Tryz.func3, Tryz.ntmps3
  go_wp2_with fail
  refine (fromFloat_fin x hx hf w).mono ?_
  rintro e w1 ⟨P, D, v, u, rfl, hF, hv, hu, hb⟩
  obtain ⟨a, c, rfl⟩ := hv.shape
  obtain ⟨a', c', rfl⟩ := hu.shape
  have HF := hid hF
  have HV := hid hv
  have HU := hid hu
  have HB := hid hb
  clear hF hv hu hb
  obtain ⟨sg, hsg⟩ : ∃ sg, sg = (decide (9223372036854775808 ≤ x) && decide (P ≠ 0)) := ⟨_, rfl⟩
  rw [← hsg]
  have HSG := hid hsg
  clear hsg
  have HZ : Hid (Blk (w1.alloc (.cells #[.int .i64 4, .bool false, .string (ByteArray.mk #[]), .bool sg, .slice a (dg 18446744073709551616 P).length c, .slice a' (dg 18446744073709551616 D).length c', .bool false, .slice none 0 0, .slice none 0 0] 27)) w1.heap.size #[.int .i64 4, .bool false, .string (ByteArray.mk #[]), .bool sg, .slice a (dg 18446744073709551616 P).length c, .slice a' (dg 18446744073709551616 D).length c', .bool false, .slice none 0 0, .slice none 0 0] 27) := blk_new w1 _ 27
  have HE0 : Hid (Below w1.heap.size w1 (w1.alloc (.cells #[.int .i64 4, .bool false, .string (ByteArray.mk #[]), .bool sg, .slice a (dg 18446744073709551616 P).length c, .slice a' (dg 18446744073709551616 D).length c', .bool false, .slice none 0 0, .slice none 0 0] 27))) := (Below.refl _ _).alloc (Nat.le_refl _) _
  go_wp2_with fail
  have HV2 := hid (HV.out.below HE0.out (Nat.le_refl _))
  have HU2 := hid (HU.out.below HE0.out (Nat.le_refl _))
  have HB2 := hid (below_next HB.out HE0.out)
  clear HV HU HB HE0
  generalize (w1.alloc (.cells #[.int .i64 4, .bool false, .string (ByteArray.mk #[]), .bool sg, .slice a (dg 18446744073709551616 P).length c, .slice a' (dg 18446744073709551616 D).length c', .bool false, .slice none 0 0, .slice none 0 0] 27)) = w2 at *
  generalize w1.heap.size = O at *
  have HZd : Hid (Blk w2.drew O _ 27) := HZ
  have HEd : Hid (Below w2.heap.size w2 w2.drew) := (Below.refl _ _).drew
  have HV3 := hid (HV2.out.below HEd.out (Nat.le_refl _))
  have HU3 := hid (HU2.out.below HEd.out (Nat.le_refl _))
  have HB3 := hid (below_next HB2.out HEd.out)
  clear HV2 HU2 HB2 HEd HZ
  have kd := nine9 HZd.out
  refine wp_region_held_drew (S := fun w' => w'.cell? ⟨O, 0, none⟩ = some (.int .i64 4) ∧ w'.cell? ⟨O, 1, none⟩ = some (.bool false) ∧ w'.cell? ⟨O, 2, none⟩ = some (.string (ByteArray.mk #[])) ∧ w'.cell? ⟨O, 3, none⟩ = some (.bool sg) ∧ w'.cell? ⟨O, 4, none⟩ = some (.slice a (dg 18446744073709551616 P).length c) ∧ w'.cell? ⟨O, 5, none⟩ = some (.slice a' (dg 18446744073709551616 D).length c') ∧ w'.cell? ⟨O, 6, none⟩ = some (.bool false) ∧ w'.cell? ⟨O, 7, none⟩ = some (.slice none 0 0) ∧ w'.cell? ⟨O, 8, none⟩ = some (.slice none 0 0)) (by kernel_rfl) kd (fun hHeld => ?_)
  refine wpAnyH_take (i := 0) (v := ?_) rfl (by kernel_rfl) (by kernel_rfl) (by kernel_rfl) (fun _ _ _ h => h) (Or.inl ⟨by rfl, ?_⟩) (by assumption) ?_
  rotate_left
  · intro w hSw
    try dsimp only at hSw
    go_simp
    try with_reducible rfl
  try simp only [Act.put, List.setIfInBounds_toArray]
  refine wpAnyH_take (i := 1) (v := ?_) rfl (by kernel_rfl) (by kernel_rfl) (by kernel_rfl) (fun _ _ _ h => h) (Or.inl ⟨by rfl, ?_⟩) (by assumption) ?_
  rotate_left
  · intro w hSw
    try dsimp only at hSw
    go_simp
    try with_reducible rfl
  try simp only [Act.put]
  refine wpAnyH_ready (rs := [2]) (by kernel_rfl) (by simp) ?_
  refine AllReadyH.cons rfl (fun K hK => ?_) AllReadyH.nil
  go_simp
  refine (ofBits_any x hx w2.drew).mono ?_
  rintro e w3 ⟨v1, v2, rfl, h1, h2, hb⟩
  obtain ⟨p1, k1, rfl⟩ := h1.shape
  obtain ⟨p2, k2, rfl⟩ := h2.shape
  have HN1 := hid h1
  have HN2 := hid h2
  rw [← HF.out.1] at HN1
  rw [← HF.out.2.1] at HN2
  have HZ3 := hid (HZd.out.below hb HZd.out.lt)
  have HV4 := hid (HV3.out.below hb (Nat.le_refl _))
  have HU4 := hid (HU3.out.below hb (Nat.le_refl _))
  have HB4 := hid (below_next HB3.out hb)
  have ke := nine9 HZ3.out
  have hbool : ((x : Int) / 9223372036854775808 == 1 && decide (ofM x * 2 ^ (ofE x).toNat ≠ 0)) = sg := by rw [HSG.out]; exact sg_eq hx HF.out.1
  rw [hbool, ← HF.out.1, ← HF.out.2.1]
  clear h1 h2 hb HZd HV3 HU3 HB3 hbool
  go_wp2_with fail
  refine hK.out _ _ ke (fun _ => ?_)
  clear hK K
  refine wpAnyH_ready (rs := [3]) (by kernel_rfl) (by simp) ?_
  refine AllReadyH.cons rfl (fun K hK => ?_) AllReadyH.nil
  go_simp
  refine (isFloat_told sg _ _ _ _ P D (by rw [HSG.out]; cases decide (9223372036854775808 ≤ x) <;> cases decide (P ≠ 0) <;> rfl) (by have := HF.out.2.2.2.2.2; omega) HF.out.2.2.1 w3 HV4.out HU4.out (by have := HF.out.2.2.2.1; omega) (by have := HF.out.2.2.2.2.1; omega) HN1.out HN2.out).mono ?_
  rintro e w4 ⟨rfl, hb⟩
  have HZ4 := hid (HZ3.out.below hb HZ3.out.lt)
  have HB5 := hid (below_next HB4.out hb)
  have kf := nine9 HZ4.out
  clear hb
  go_wp2_with fail
  refine hK.out _ _ kf (fun _ => ?_)
  clear hK K
  refine wpAnyH_take (i := 4) (v := ?_) rfl (by kernel_rfl) (by kernel_rfl) (by kernel_rfl) (fun _ _ _ h => h) (Or.inl ⟨by rfl, ?_⟩) (by assumption) ?_
  rotate_left
  · intro w hSw
    try dsimp only at hSw
    go_simp
    try with_reducible rfl
  simp only [Act.put, List.getElem_toArray, List.getElem_cons_succ, List.getElem_cons_zero, List.setIfInBounds_toArray, List.set_cons_succ, List.set_cons_zero]
  refine wpAnyH_done (by kernel_rfl) ?_ _
  go_wp2_with fail
  go_ret
  exact ⟨rfl, HB5.out⟩
set_option maxHeartbeats 1000000 in
theorem ff_not (x : Nat) (hx : x < 18446744073709551616) (hf : 9218868437227405312 ≤ x % 9223372036854775808) (w : World) :
    Calls Tryz.prog 3 #[.int .u64 x] w fun e w' => e = .returned (.bool true) ∧ Below w.heap.size w w' := by
  have e1 := band_exp x hx
  have hE : x / 4503599627370496 % 2048 = 2047 := by omega
  rw [hE] at e1
  clear hE
  go_enter Tryz.func3, Tryz.ntmps3
  go_wp2_with fail
  refine (fromFloat_not x hx hf w).mono ?_
  rintro e w1 ⟨rfl, hb⟩
  have HB := hid hb
  clear hb
  go_wp2_with fail
  refine (one_fin _).mono ?_
  rintro e w2 ⟨n, v, u, rfl, hb⟩
  have HB2 := hid (below_next HB.out (below_next ((Below.refl w1.heap.size w1).alloc (Nat.le_refl _) _) hb))
  clear hb
  have hfk := field_kind 4 n v u
  go_wp2_with fail
  go_ret
  exact ⟨rfl, HB2.out⟩
theorem ff_walk (z : Int) (l : 0 ≤ z) (u : z ≤ 18446744073709551615) (w : World) : Calls Tryz.prog 3 #[.int .u64 z] w fun e w' => e = .returned (.bool true) ∧ Below w.heap.size w w' := by
  obtain ⟨x, rfl⟩ : ∃ x : Nat, z = x := ⟨z.toNat, by omega⟩
  rcases Nat.lt_or_ge (x % 9223372036854775808) 9218868437227405312 with h | h
  · exact ff_fin x (by omega) h w
  · exact ff_not x (by omega) h w
end Go.Proofs.YtdhgdachchhflaaGreatDoor
