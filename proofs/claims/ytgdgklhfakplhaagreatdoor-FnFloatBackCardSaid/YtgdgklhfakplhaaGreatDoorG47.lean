/- Walks and lemmas for the laws of this seat. -/
import Derived.Test.YtgdgklhfakplhaaGreatDoorG46
import Derived.Test.YtgdgklhfakplhaaGreatDoorG43
import Derived.Test.YtgdgklhfakplhaaGreatDoorG42

namespace Go.Proofs.YtgdgklhfakplhaaGreatDoor
open Go.RowKit Go.Dig
set_option maxRecDepth 100000
set_option maxHeartbeats 1000000 in
theorem rational_told (n1 : Bool) (v1 v2 : Value) (m d : Nat) (hn : n1 = (n1 && decide (m ≠ 0))) (hd : d ≠ 0) (hg : Nat.gcd m d = 1) (w : World) (h1 : Rd .u64 w v1 (dg 18446744073709551616 m)) (h2 : Rd .u64 w v2 (dg 18446744073709551616 d)) (hl1 : (dg 18446744073709551616 m).length ≤ 1000) (hl2 : (dg 18446744073709551616 d).length ≤ 1000) :
    Calls Tryz.prog 13 #[.agg #[.int .i64 4, .bool false, .string (ByteArray.mk #[]), .bool n1, v1, v2, .bool false, .slice none 0 0, .slice none 0 0]] w fun e w' => ∃ u1 u2, e = .returned (.tuple #[.agg #[.bool n1, u1, u2], .bool true]) ∧ Nt w' u1 m ∧ Nt w' u2 d ∧ Below w.heap.size w w' := by
  obtain ⟨a1, c1, rfl⟩ := h1.shape
  obtain ⟨a2, c2, rfl⟩ := h2.shape
  have HF := fun W h1 h2 => fraction_told n1 (.slice a1 (dg 18446744073709551616 m).length c1) (.slice a2 (dg 18446744073709551616 d).length c2) m d hn hd hg W h1 h2 hl1 hl2
  generalize (dg 18446744073709551616 m).length = l1 at *
  generalize (dg 18446744073709551616 d).length = l2 at *
  have HK := hid ((blk_new w #[.int .i64 4, .bool false, .string (ByteArray.mk #[]), .bool n1, .slice a1 l1 c1, .slice a2 l2 c2, .bool false, .slice none 0 0, .slice none 0 0] 26).alloc (.cells #[.bool false, .slice none 0 0, .slice none 0 0] 31))
  have HR : Hid (Blk ((w.alloc (.cells #[.int .i64 4, .bool false, .string (ByteArray.mk #[]), .bool n1, .slice a1 l1 c1, .slice a2 l2 c2, .bool false, .slice none 0 0, .slice none 0 0] 26)).alloc (.cells #[.bool false, .slice none 0 0, .slice none 0 0] 31)) (w.heap.size + 1) #[.bool false, .slice none 0 0, .slice none 0 0] 31) := by
    have := blk_new (w.alloc (.cells #[.int .i64 4, .bool false, .string (ByteArray.mk #[]), .bool n1, .slice a1 l1 c1, .slice a2 l2 c2, .bool false, .slice none 0 0, .slice none 0 0] 26)) #[.bool false, .slice none 0 0, .slice none 0 0] 31
    refine hid ?_
    simpa using this
  have HB : Hid (Below w.heap.size w ((w.alloc (.cells #[.int .i64 4, .bool false, .string (ByteArray.mk #[]), .bool n1, .slice a1 l1 c1, .slice a2 l2 c2, .bool false, .slice none 0 0, .slice none 0 0] 26)).alloc (.cells #[.bool false, .slice none 0 0, .slice none 0 0] 31))) := ((Below.refl _ _).alloc (Nat.le_refl _) _).alloc (by simp) _
  have H1 := hid (h1.below HB.out (Nat.le_refl _))
  have H2 := hid (h2.below HB.out (Nat.le_refl _))
  clear h1 h2 hn hd hg hl1 hl2
  obtain ⟨b0, b1, b2, b3, b4, b5, b6, b7, b8, f0, f1, f2, f3, f4, f5, f6, f7, f8⟩ := HK.out.nine
  go_enter Tryz.func13, Tryz.ntmps13
  go_wp2_with fail
  generalize ((w.alloc (.cells #[.int .i64 4, .bool false, .string (ByteArray.mk #[]), .bool n1, .slice a1 l1 c1, .slice a2 l2 c2, .bool false, .slice none 0 0, .slice none 0 0] 26)).alloc (.cells #[.bool false, .slice none 0 0, .slice none 0 0] 31)) = w0 at *
  refine (rest_told 4 n1 _ _ _ _ _ _ _ _ _ _ _).mono ?_
  rintro e w1 ⟨rfl, hb⟩
  have HK1 := hid (HK.out.below hb HK.out.lt)
  have HR1 := hid (HR.out.below hb HR.out.lt)
  have HB1 := hid (below_next HB.out hb)
  have H11 := hid (H1.out.below hb (Nat.le_refl _))
  have H21 := hid (H2.out.below hb (Nat.le_refl _))
  clear b0 b1 b2 b3 b4 b5 b6 b7 b8 f0 f1 f2 f3 f4 f5 f6 f7 f8 HK HR HB H1 H2 hb
  obtain ⟨b0, b1, b2, b3, b4, b5, b6, b7, b8, f0, f1, f2, f3, f4, f5, f6, f7, f8⟩ := HK1.out.nine
  go_wp2_with fail
  refine (HF w1 H11.out H21.out).mono ?_
  rintro e w2 ⟨u1, u2, rfl, h1, h2, hb⟩
  have HU1 := hid h1
  have HU2 := hid h2
  have HR2 := hid (HR1.out.below hb HR1.out.lt)
  have HB2 := hid (below_next HB1.out hb)
  obtain ⟨p1, k1, rfl⟩ := h1.shape
  obtain ⟨p2, k2, rfl⟩ := h2.shape
  clear b0 b1 b2 b3 b4 b5 b6 b7 b8 f0 f1 f2 f3 f4 f5 f6 f7 f8 HK1 HR1 HB1 H11 H21 hb h1 h2
  obtain ⟨r0, r1, r2, g0, g1, g2⟩ := HR2.out.three
  go_wp2_with fail
  have HRF : Hid (Blk (((w2.setCell ⟨w.heap.size + 1, 0, none⟩ (.bool n1)).setCell ⟨w.heap.size + 1, 1, none⟩ (.slice p1 (dg 65536 m).length k1)).setCell ⟨w.heap.size + 1, 2, none⟩ (.slice p2 (dg 65536 d).length k2)) (w.heap.size + 1) #[.bool n1, .slice p1 (dg 65536 m).length k1, .slice p2 (dg 65536 d).length k2] 31) := by
    have := ((HR2.out.set 0 (.bool n1)).set 1 (.slice p1 (dg 65536 m).length k1)).set 2 (.slice p2 (dg 65536 d).length k2)
    refine hid ?_
    simpa using this
  clear r0 r1 r2 g0 g1 g2
  obtain ⟨r0, r1, r2, g0, g1, g2⟩ := HRF.out.three
  refine bodyPost_ret (v := .tuple #[.agg #[.bool n1, .slice p1 (dg 65536 m).length k1, .slice p2 (dg 65536 d).length k2], .bool true]) (by simp [results, Tryz.results13, go_sem, r0, r1, r2]) rfl ⟨_, _, rfl, ?_, ?_, ?_⟩
  · exact HU1.out.set3 HR2.out (by decide) _ _ _
  · exact HU2.out.set3 HR2.out (by decide) _ _ _
  · exact ((HB2.out.setCell (p := ⟨w.heap.size + 1, 0, none⟩) (Nat.le_succ _) _).setCell (p := ⟨w.heap.size + 1, 1, none⟩) (Nat.le_succ _) _).setCell (p := ⟨w.heap.size + 1, 2, none⟩) (Nat.le_succ _) _
end Go.Proofs.YtgdgklhfakplhaaGreatDoor
namespace Go.Proofs.YtgdgklhfakplhaaGreatDoor
open Go.RowKit Go.Dig
set_option maxRecDepth 100000
theorem rat_len {w : World} {b x P D : Nat} {vP vD : Value} (h : RatOf w b x P D vP vD) : (dg 18446744073709551616 P).length ≤ 900 ∧ (dg 18446744073709551616 D).length ≤ 900 ∧ 0 < D := by
  have hb := ofE_bd x
  have hB : 0 < 2 ^ (-ofE x).toNat := Nat.two_pow_pos _
  refine ⟨?_, ?_, ?_⟩
  · have h1 : P ≤ ofM x * 2 ^ (ofE x).toNat := by rw [h.hP]; exact Nat.div_le_self _ _
    exact Nat.le_trans (dg_length_mono (by omega) h1) (pow_len' _ (ofM_lt x) (by omega))
  · have h1 : D ≤ 2 ^ (-ofE x).toNat := by rw [h.hD]; exact Nat.div_le_self _ _
    exact Nat.le_trans (dg_length_mono (by omega) h1) (pow_len _ (by omega))
  · rw [h.hD]
    exact Nat.div_pos (Nat.le_of_dvd hB (Nat.gcd_dvd_right _ _)) (Nat.gcd_pos_of_pos_right _ hB)
set_option maxHeartbeats 1000000 in
theorem fromFloat_fin (x : Nat) (hx : x < 18446744073709551616) (hf : x % 9223372036854775808 < 9218868437227405312) (w : World) :
    Calls Tryz.prog 11 #[.int .u64 x] w fun e w' => ∃ P D v u, e = .returned (.agg #[.int .i64 4, .bool false, .string (ByteArray.mk #[]), .bool (decide (9223372036854775808 ≤ x) && decide (P ≠ 0)), v, u, .bool false, .slice none 0 0, .slice none 0 0]) ∧
      Hid (P = ofM x * 2 ^ (ofE x).toNat / Nat.gcd (ofM x * 2 ^ (ofE x).toNat) (2 ^ (-ofE x).toNat) ∧ D = 2 ^ (-ofE x).toNat / Nat.gcd (ofM x * 2 ^ (ofE x).toNat) (2 ^ (-ofE x).toNat) ∧ Nat.gcd P D = 1 ∧ (dg 18446744073709551616 P).length ≤ 900 ∧ (dg 18446744073709551616 D).length ≤ 900 ∧ 0 < D) ∧ Rd .u64 w' v (dg 18446744073709551616 P) ∧ Rd .u64 w' u (dg 18446744073709551616 D) ∧ Below w.heap.size w w' := by
  have hfb := fun w => f64from_any (x : Int) w
  simp only [Int.toNat_natCast] at hfb
  have HR0 : Hid (Blk (w.alloc (.cells #[.int .i64 0, .bool false, .string (ByteArray.mk #[]), .bool false, .slice none 0 0, .slice none 0 0, .bool false, .slice none 0 0, .slice none 0 0] 26)) w.heap.size #[.int .i64 0, .bool false, .string (ByteArray.mk #[]), .bool false, .slice none 0 0, .slice none 0 0, .bool false, .slice none 0 0, .slice none 0 0] 26) := blk_new w _ 26
  have Hb0 : Hid (Below w.heap.size w (w.alloc (.cells #[.int .i64 0, .bool false, .string (ByteArray.mk #[]), .bool false, .slice none 0 0, .slice none 0 0, .bool false, .slice none 0 0, .slice none 0 0] 26))) := (Below.refl _ _).alloc (Nat.le_refl _) _
  go_enter Tryz.func11, Tryz.ntmps11
  go_wp2_with fail
  generalize w.alloc (.cells #[.int .i64 0, .bool false, .string (ByteArray.mk #[]), .bool false, .slice none 0 0, .slice none 0 0, .bool false, .slice none 0 0, .slice none 0 0] 26) = w0 at *
  refine (makeFloat_fin x hx hf w0).mono ?_
  rintro e w1 ⟨b, P, D, vP, vD, rfl, hR, hb⟩
  have HR := hid hR
  have HB := hid (below_next Hb0.out hb)
  have HR1 := hid (HR0.out.below hb HR0.out.lt)
  clear hR hb HR0 Hb0
  go_wp2_with fail
  obtain ⟨l1, l2, l3⟩ := rat_len HR.out
  refine (told_rat b P D _ vP vD w1 HR.out.blk HR.out.nP HR.out.nD l1 l2 l3).mono ?_
  rintro e w2 ⟨t, v, u, rfl, ht, hv, hu, hb⟩
  obtain ⟨a, c, rfl⟩ := hv.shape
  obtain ⟨a', c', rfl⟩ := hu.shape
  have HR2 := hid (HR1.out.below hb HR1.out.lt)
  have HV : Hid (Kp w.heap.size w.heap.size w2 _ _) := ⟨hv, ⟨_, HR2.out.shape⟩, ⟨_, HR2.out.shape⟩⟩
  have HU : Hid (Kp w.heap.size w.heap.size w2 _ _) := ⟨hu, ⟨_, HR2.out.shape⟩, ⟨_, HR2.out.shape⟩⟩
  have HE := hid (below_next HB.out hb)
  have hts : t = (decide (9223372036854775808 ≤ x) && decide (P ≠ 0)) := by
    rw [ht.out]
    by_cases h1 : 9223372036854775808 ≤ x <;> by_cases h2 : P = 0 <;> simp [sgn, h1, h2]
    omega
  have HF := hid (And.intro HR.out.hP (And.intro HR.out.hD (And.intro HR.out.hg (And.intro l1 (And.intro l2 l3)))))
  clear hv hu hb HR HB ht l1 l2 l3 HR1
  subst hts
  obtain ⟨sg, hsg⟩ : ∃ sg, sg = (decide (9223372036854775808 ≤ x) && decide (P ≠ 0)) := ⟨_, rfl⟩
  rw [← hsg]
  have HSG := hid hsg
  clear hsg
  obtain ⟨r0, r1, r2, r3, r4, r5, r6, r7, r8, g0, g1, g2, g3, g4, g5, g6, g7, g8⟩ := HR2.out.nine
  go_wp2_with fail
  refine bodyPost_ret (v := .agg #[.int .i64 4, .bool false, .string (ByteArray.mk #[]), .bool sg, .slice a (dg 18446744073709551616 P).length c, .slice a' (dg 18446744073709551616 D).length c', .bool false, .slice none 0 0, .slice none 0 0]) (by simp [results, Tryz.results11, go_sem, r0, r1, r2, r3, r4, r5, r6, r7, r8]) rfl ⟨P, D, _, _, by rw [HSG.out], HF, ?_, ?_, ?_⟩
  · exact (((((((((HV.out.r 0 _).r 1 _).r 2 _).r 3 _).r 4 _).r 5 _).r 6 _).r 7 _).r 8 _).rt.rd
  · exact (((((((((HU.out.r 0 _).r 1 _).r 2 _).r 3 _).r 4 _).r 5 _).r 6 _).r 7 _).r 8 _).rt.rd
  · exact below_set9 HE.out (Nat.le_refl _) _ _ _ _ _ _ _ _ _
set_option maxHeartbeats 1000000 in
theorem fromFloat_not (x : Nat) (hx : x < 18446744073709551616) (hf : 9218868437227405312 ≤ x % 9223372036854775808) (w : World) :
    Calls Tryz.prog 11 #[.int .u64 x] w fun e w' => e = .returned (.agg #[.int .i64 0, .bool false, .string (ByteArray.mk #[]), .bool false, .slice none 0 0, .slice none 0 0, .bool false, .slice none 0 0, .slice none 0 0]) ∧ Below w.heap.size w w' := by
  have hfb := fun w => f64from_any (x : Int) w
  simp only [Int.toNat_natCast] at hfb
  have HR0 : Hid (Blk (w.alloc (.cells #[.int .i64 0, .bool false, .string (ByteArray.mk #[]), .bool false, .slice none 0 0, .slice none 0 0, .bool false, .slice none 0 0, .slice none 0 0] 26)) w.heap.size #[.int .i64 0, .bool false, .string (ByteArray.mk #[]), .bool false, .slice none 0 0, .slice none 0 0, .bool false, .slice none 0 0, .slice none 0 0] 26) := blk_new w _ 26
  have Hb0 : Hid (Below w.heap.size w (w.alloc (.cells #[.int .i64 0, .bool false, .string (ByteArray.mk #[]), .bool false, .slice none 0 0, .slice none 0 0, .bool false, .slice none 0 0, .slice none 0 0] 26))) := (Below.refl _ _).alloc (Nat.le_refl _) _
  go_enter Tryz.func11, Tryz.ntmps11
  go_wp2_with fail
  generalize w.alloc (.cells #[.int .i64 0, .bool false, .string (ByteArray.mk #[]), .bool false, .slice none 0 0, .slice none 0 0, .bool false, .slice none 0 0, .slice none 0 0] 26) = w0 at *
  refine (makeFloat_not x hx hf w0).mono ?_
  rintro e w1 ⟨rfl, rfl⟩
  go_wp2_with fail
  refine (told_unk _).mono ?_
  rintro e w2 ⟨rfl, hb⟩
  have HB := hid (below_next Hb0.out hb)
  have HR2 := hid (HR0.out.below hb HR0.out.lt)
  clear hb HR0 Hb0
  obtain ⟨r0, r1, r2, r3, r4, r5, r6, r7, r8, g0, g1, g2, g3, g4, g5, g6, g7, g8⟩ := HR2.out.nine
  go_wp2_with fail
  refine bodyPost_ret (v := .agg #[.int .i64 0, .bool false, .string (ByteArray.mk #[]), .bool false, .slice none 0 0, .slice none 0 0, .bool false, .slice none 0 0, .slice none 0 0]) (by simp [results, Tryz.results11, go_sem, r0, r1, r2, r3, r4, r5, r6, r7, r8]) rfl ⟨rfl, ?_⟩
  exact below_set9 HB.out (Nat.le_refl _) _ _ _ _ _ _ _ _ _
end Go.Proofs.YtgdgklhfakplhaaGreatDoor
namespace Go.Proofs.YtgdgklhfakplhaaGreatDoor
open Go.RowKit Go.Dig Go.Rnd
set_option maxRecDepth 100000
theorem e1_place {P D : Nat} (hP : 0 < P) (hD : 0 < D) : 2 ^ 53 ≤ uq P D (e1 P D) ∧ uq P D (e1 P D) < 2 ^ (53 + 1) := by
  obtain ⟨h1, h2⟩ := first_quot hP hD 54 ((blen P : Int) - blen D - 54) rfl (by omega)
  obtain ⟨k1, k2⟩ := e1_cases hD (e0 := (blen P : Int) - blen D - 54) rfl
  have p54 : (2 : Nat) ^ (54 + 1) = 36028797018963968 := by decide
  have p53 : (2 : Nat) ^ (54 - 1) = 9007199254740992 := by decide
  have p53' : (2 : Nat) ^ 53 = 9007199254740992 := by decide
  have p54' : (2 : Nat) ^ (53 + 1) = 18014398509481984 := by decide
  rw [p54] at h2
  rw [p53] at h1
  rw [p53', p54']
  rcases Nat.lt_or_ge (uq P D ((blen P : Int) - blen D - 54)) 18014398509481984 with h | h
  · rw [k1 h]; exact ⟨h1, h⟩
  · obtain ⟨k3, k4, _⟩ := k2 h
    rw [k3, k4]; omega
theorem ofME (x : Nat) (_hx : x < 18446744073709551616) (hf : x % 9223372036854775808 < 9218868437227405312) : (4503599627370496 ≤ ofM x ∨ ofE x = -1074) ∧ (ofE x + 1074).toNat * 4503599627370496 + ofM x = x % 9223372036854775808 := by
  have e1 : x / 4503599627370496 % 2048 = x % 9223372036854775808 / 4503599627370496 := by omega
  have e2 : x % 4503599627370496 = x % 9223372036854775808 % 4503599627370496 := by omega
  simp only [ofM, ofE]
  rw [e1, e2]
  generalize x % 9223372036854775808 = y at *
  split
  · refine ⟨.inl (by omega), ?_⟩
    omega
  · exact ⟨.inr rfl, by omega⟩
theorem back_exact {P D g x : Nat} (hx : x < 18446744073709551616) (hf : x % 9223372036854775808 < 9218868437227405312) (hP0 : 0 < P) (hD : 0 < D) (hg : 0 < g) (hP : P * g = ofM x * 2 ^ (ofE x).toNat) (hDg : D * g = 2 ^ (-ofE x).toNat) (hM : 0 < ofM x) :
    -1128 ≤ e1 P D ∧ res64 P D = x % 9223372036854775808 ∧ exa64 P D = true := by
  obtain ⟨m1, m2⟩ := ofME x hx hf
  have hMlt := ofM_lt x
  have hE := ofE_bd x
  generalize ofM x = m at *
  generalize ofE x = E at *
  obtain ⟨L, hL⟩ : ∃ L, m.log2 = L := ⟨_, rfl⟩
  have a0 : 2 ^ L ≤ m := by rw [← hL]; exact Nat.log2_self_le (by omega)
  have a1 : m < 2 ^ (L + 1) := by rw [← hL]; exact Nat.lt_log2_self
  have hL52 : L ≤ 52 := by
    have : L < 53 := by rw [← hL]; exact (Nat.log2_lt (by omega)).2 (by omega)
    omega
  obtain ⟨q1, _⟩ := exact_at hD hg hP hDg (e := E - ((53 - L : Nat) : Int)) (by omega)
  rw [show (E - (E - ((53 - L : Nat) : Int))).toNat = 53 - L by omega] at q1
  have b0 : 2 ^ 53 ≤ m * 2 ^ (53 - L) := by
    calc 2 ^ 53 = 2 ^ L * 2 ^ (53 - L) := by rw [← Nat.pow_add]; congr 1; omega
      _ ≤ m * 2 ^ (53 - L) := Nat.mul_le_mul_right _ a0
  have b1 : m * 2 ^ (53 - L) < 2 ^ (53 + 1) := by
    calc m * 2 ^ (53 - L) < 2 ^ (L + 1) * 2 ^ (53 - L) := (Nat.mul_lt_mul_right (Nat.two_pow_pos _)).2 a1
      _ = 2 ^ (53 + 1) := by rw [← Nat.pow_add]; congr 1; omega
  obtain ⟨c0, c1⟩ := e1_place hP0 hD
  have he : e1 P D = E - ((53 - L : Nat) : Int) := place_unique hD c0 c1 (by rw [q1]; exact b0) (by rw [q1]; exact b1)
  have hLc : L = 52 ∨ E = -1074 := by
    rcases m1 with h | h
    · left
      rw [← hL]; exact Go.Fl.log2_eq (by omega) (by omega)
    · exact .inr h
  have hu : uni P D = E := by
    unfold uni
    rw [he]; omega
  obtain ⟨q2, q3⟩ := exact_at hD hg hP hDg (e := E) (Int.le_refl _)
  rw [show (E - E).toNat = 0 by omega, Nat.pow_zero, Nat.mul_one] at q2
  obtain ⟨n1, n2⟩ := near_exact q3
  refine ⟨by omega, ?_, ?_⟩
  · unfold res64
    rw [hu, n2, q2, m2]
    exact Nat.min_eq_left (Nat.le_of_lt hf)
  · unfold exa64
    rw [hu, n2, q2, m2, n1, decide_eq_true hf]
    rfl
end Go.Proofs.YtgdgklhfakplhaaGreatDoor
namespace Go.Proofs.YtgdgklhfakplhaaGreatDoor
open Go.RowKit Go.Dig Go.Rnd
set_option maxRecDepth 100000
theorem lens_small (x : Nat) : (dg 18446744073709551616 (ofM x * 2 ^ (ofE x).toNat)).length ≤ 30 ∧ (dg 18446744073709551616 (2 ^ (-ofE x).toNat)).length ≤ 30 := by
  have h1 := ofM_lt x
  have h2 := ofE_bd x
  generalize ofM x = m at *
  generalize ofE x = E at *
  have p53 : (2 : Nat) ^ 53 = 9007199254740992 := by decide
  constructor
  · apply dg_length_le (by omega)
    rw [pow_words]
    calc m * 2 ^ E.toNat < 2 ^ 53 * 2 ^ E.toNat := (Nat.mul_lt_mul_right (Nat.two_pow_pos _)).2 (by rw [p53]; exact h1)
      _ = 2 ^ (53 + E.toNat) := (Nat.pow_add ..).symm
      _ ≤ 2 ^ (64 * 30) := Nat.pow_le_pow_right (by omega) (by omega)
  · apply dg_length_le (by omega)
    rw [pow_words]
    calc 2 ^ (-E).toNat < 2 ^ ((-E).toNat + 1) := by rw [Nat.pow_succ]; have := Nat.two_pow_pos (-E).toNat; omega
      _ ≤ 2 ^ (64 * 30) := Nat.pow_le_pow_right (by omega) (by omega)
/-- What comes back of a finite float64. -/
theorem back_facts {P D x : Nat} (hx : x < 18446744073709551616) (hf : x % 9223372036854775808 < 9218868437227405312)
    (hP : P = ofM x * 2 ^ (ofE x).toNat / Nat.gcd (ofM x * 2 ^ (ofE x).toNat) (2 ^ (-ofE x).toNat)) (hD : D = 2 ^ (-ofE x).toNat / Nat.gcd (ofM x * 2 ^ (ofE x).toNat) (2 ^ (-ofE x).toNat)) :
    (dg 18446744073709551616 P).length ≤ 30 ∧ (dg 18446744073709551616 D).length ≤ 30 ∧ (P = 0 ∨ -1128 ≤ e1 P D) ∧ ox64 P D = true ∧ (out64 (decide (9223372036854775808 ≤ x) && decide (P ≠ 0)) P D = x ∨ (out64 (decide (9223372036854775808 ≤ x) && decide (P ≠ 0)) P D = 0 ∧ x = 9223372036854775808)) := by
  obtain ⟨l1, l2⟩ := lens_small x
  have hB : 0 < 2 ^ (-ofE x).toNat := Nat.two_pow_pos _
  have hg : 0 < Nat.gcd (ofM x * 2 ^ (ofE x).toNat) (2 ^ (-ofE x).toNat) := Nat.gcd_pos_of_pos_right _ hB
  have c1 : P * Nat.gcd (ofM x * 2 ^ (ofE x).toNat) (2 ^ (-ofE x).toNat) = ofM x * 2 ^ (ofE x).toNat := by rw [hP]; exact Nat.div_mul_cancel (Nat.gcd_dvd_left _ _)
  have c2 : D * Nat.gcd (ofM x * 2 ^ (ofE x).toNat) (2 ^ (-ofE x).toNat) = 2 ^ (-ofE x).toNat := by rw [hD]; exact Nat.div_mul_cancel (Nat.gcd_dvd_right _ _)
  have b1 : P ≤ ofM x * 2 ^ (ofE x).toNat := by rw [hP]; exact Nat.div_le_self _ _
  have b2 : D ≤ 2 ^ (-ofE x).toNat := by rw [hD]; exact Nat.div_le_self _ _
  refine ⟨Nat.le_trans (dg_length_mono (by omega) b1) l1, Nat.le_trans (dg_length_mono (by omega) b2) l2, ?_⟩
  have hD0 : 0 < D := by
    rcases Nat.eq_zero_or_pos D with h | h
    · rw [h, Nat.zero_mul] at c2; omega
    · exact h
  rcases Nat.eq_zero_or_pos P with h0 | h0
  · have hm0 : ofM x = 0 := by
      rw [h0, Nat.zero_mul] at c1
      rcases Nat.mul_eq_zero.1 c1.symm with h | h
      · exact h
      · exact absurd h (Nat.ne_of_gt (Nat.two_pow_pos _))
    obtain ⟨m1, m2⟩ := ofME x hx hf
    have hE : ofE x = -1074 := by
      rcases m1 with h | h
      · omega
      · exact h
    have hk0 : (ofE x + 1074).toNat = 0 := by rw [hE]; decide
    have hx0 : x % 9223372036854775808 = 0 := by
      generalize (ofE x + 1074).toNat = kk at *
      omega
    refine ⟨.inl h0, ?_, ?_⟩
    · unfold ox64; rw [if_pos h0]
    · have ho : out64 (decide (9223372036854775808 ≤ x) && decide (P ≠ 0)) P D = 0 := by unfold out64; rw [if_pos h0]
      rw [ho]
      rcases Nat.lt_or_ge x 9223372036854775808 with h | h
      · left; omega
      · right; exact ⟨rfl, by omega⟩
  · have hM : 0 < ofM x := by
      rcases Nat.eq_zero_or_pos (ofM x) with h | h
      · have hpos := Nat.mul_pos h0 hg
        rw [c1, h, Nat.zero_mul] at hpos
        exact absurd hpos (Nat.lt_irrefl 0)
      · exact h
    obtain ⟨r1, r2, r3⟩ := back_exact hx hf h0 hD0 hg c1 c2 hM
    have hp : ¬ P = 0 := by omega
    refine ⟨.inr r1, ?_, .inl ?_⟩
    · unfold ox64; rw [if_neg hp]; exact r3
    · unfold out64
      rw [if_neg hp, r2]
      rcases Nat.lt_or_ge x 9223372036854775808 with h | h
      · have : decide (9223372036854775808 ≤ x) = false := decide_eq_false (by omega)
        rw [this, Bool.false_and]
        simp
        omega
      · have : decide (9223372036854775808 ≤ x) = true := decide_eq_true h
        rw [this, Bool.true_and, decide_eq_true hp]
        simp
        omega
set_option maxHeartbeats 1000000 in
theorem fback_walk (x : Nat) (hx : x < 18446744073709551616) (w : World) (hthr : w.cell? ⟨1, 0, none⟩ = some (.int .i64 40)) :
    Calls Tryz.prog 5 #[.int .u64 x] w fun e w' => e = .returned (.bool true) ∧ Below w.heap.size w w' := by
  have hbe := band_exp x hx
  rcases Nat.lt_or_ge (x % 9223372036854775808) 9218868437227405312 with hf | hf
  · have hne : x / 4503599627370496 % 2048 ≠ 2047 := by omega
    have c0 : (((x / 4503599627370496 % 2048 : Nat) : Int) == 2047) = false := by simp; omega
    have HFF := fun w => fromFloat_fin x hx hf w
    have HBF := hid (fun P D => @back_facts P D x hx hf)
    have h1w := World.block_lt_of_cell? w _ hthr
    generalize x / 4503599627370496 % 2048 = E at *
    clear hne
    go_enter Tryz.func5, Tryz.ntmps5
    go_wp2_with fail
    refine (HFF _).mono ?_
    rintro e w1 ⟨P, D, v, u, rfl, hpd, hv, hu, hb⟩
    obtain ⟨p1, p2, p3, p4, p5, p6⟩ := hpd.out
    obtain ⟨f1, f2, f3, f4, f5⟩ := HBF.out P D p1 p2
    have hthr1 : w1.cell? ⟨1, 0, none⟩ = some (.int .i64 40) := (hb.cell (p := ⟨1, 0, none⟩) h1w).trans hthr
    have H9 := f64Float_any (.bool false) (.string (ByteArray.mk #[])) (decide (9223372036854775808 ≤ x) && decide (P ≠ 0)) v u (.bool false) (.slice none 0 0) (.slice none 0 0) P D w1 hv hu f1 f2 p6 f3 hthr1
    rw [f4] at H9
    obtain ⟨sg, hsg⟩ : ∃ sg, sg = (decide (9223372036854775808 ≤ x) && decide (P ≠ 0)) := ⟨_, rfl⟩
    rw [← hsg] at H9 f5 ⊢
    obtain ⟨r, hr⟩ : ∃ r, r = out64 sg P D := ⟨_, rfl⟩
    rw [← hr] at H9 f5
    obtain ⟨av, cv, rfl⟩ := hv.shape
    obtain ⟨au, cu, rfl⟩ := hu.shape
    have HB := hid hb
    have F5 := hid f5
    clear HFF HBF hb p1 p2 p3 p4 p5 p6 f1 f2 f3 f4 f5 hsg hr hv hu hpd hthr hthr1
    go_wp2_with fail
    refine H9.mono ?_
    rintro e w2 ⟨rfl, hb2⟩
    have HB2 := hid (below_next HB.out hb2.out)
    clear H9 hb2 HB
    rcases F5.out with h | ⟨h, h'⟩
    · subst h
      have hrr : ((r : Int) == (r : Int)) = true := by simp
      go_wp2_with fail
      go_ret
      exact ⟨rfl, HB2.out⟩
    · subst h
      subst h'
      go_wp2_with fail
      go_ret
      exact ⟨rfl, HB2.out⟩
  · have he : x / 4503599627370496 % 2048 = 2047 := by omega
    rw [he] at hbe
    go_enter Tryz.func5, Tryz.ntmps5
    go_wp2_with fail
    go_ret
    exact ⟨rfl, Below.refl _ _⟩
end Go.Proofs.YtgdgklhfakplhaaGreatDoor
