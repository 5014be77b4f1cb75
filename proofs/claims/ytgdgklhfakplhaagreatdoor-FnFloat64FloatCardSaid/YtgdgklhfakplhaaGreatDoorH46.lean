/- Walks and lemmas for the laws of this seat. -/
import Derived.Test.YtgdgklhfakplhaaGreatDoorH44
import Derived.Test.YtgdgklhfakplhaaGreatDoorH45
import Derived.Test.YtgdgklhfakplhaaGreatDoorH06
import Derived.Test.YtgdgklhfakplhaaGreatDoorH05
import Derived.Test.YtgdgklhfakplhaaGreatDoorH04
namespace Go.Proofs.YtgdgklhfakplhaaGreatDoor
open Go.RowKit Go.Dig Go.Rnd
set_option maxRecDepth 100000
theorem e1_place {P D : Nat} (hP : 0 < P) (hD : 0 < D) : 2 ^ 53 ≤ uq P D (e1 P D) ∧ uq P D (e1 P D) < 2 ^ (53 + 1) := by
  obtain ⟨h1, h2⟩ := first_quot hP hD 54 ((blen P : Int) - blen D - 54) rfl (by omega)
  obtain ⟨k1, k2⟩ := e1_cases hD (e0 := (blen P : Int) - blen D - 54) rfl
  have p54 : (2 : Nat) ^ (54 + 1) = 36028797018963968 := by decide
  have p53 : (2 : Nat) ^ (54 - 1) = 9007199254740992 := by decide
  have p53' : (2 : Nat) ^ 53 = 9007199254740992 := by decide
  have p54' : (2 : Nat) ^ (53 + 1) = 18014398509481984 := by decide
  rw [p54] at h2
  rw [p53] at h1
  rw [p53', p54']
  rcases Nat.lt_or_ge (uq P D ((blen P : Int) - blen D - 54)) 18014398509481984 with h | h
  · rw [k1 h]; exact ⟨h1, h⟩
  · obtain ⟨k3, k4, _⟩ := k2 h
    rw [k3, k4]; omega
theorem ofME (x : Nat) (_hx : x < 18446744073709551616) (hf : x % 9223372036854775808 < 9218868437227405312) : (4503599627370496 ≤ ofM x ∨ ofE x = -1074) ∧ (ofE x + 1074).toNat * 4503599627370496 + ofM x = x % 9223372036854775808 := by
  have e1 : x / 4503599627370496 % 2048 = x % 9223372036854775808 / 4503599627370496 := by omega
  have e2 : x % 4503599627370496 = x % 9223372036854775808 % 4503599627370496 := by omega
  simp only [ofM, ofE]
  rw [e1, e2]
  generalize x % 9223372036854775808 = y at *
  split
  · refine ⟨.inl (by omega), ?_⟩
    omega
  · exact ⟨.inr rfl, by omega⟩
theorem back_exact {P D g x : Nat} (hx : x < 18446744073709551616) (hf : x % 9223372036854775808 < 9218868437227405312) (hP0 : 0 < P) (hD : 0 < D) (hg : 0 < g) (hP : P * g = ofM x * 2 ^ (ofE x).toNat) (hDg : D * g = 2 ^ (-ofE x).toNat) (hM : 0 < ofM x) :
    -1128 ≤ e1 P D ∧ res64 P D = x % 9223372036854775808 ∧ exa64 P D = true := by
  obtain ⟨m1, m2⟩ := ofME x hx hf
  have hMlt := ofM_lt x
  have hE := ofE_bd x
  generalize ofM x = m at *
  generalize ofE x = E at *
  obtain ⟨L, hL⟩ : ∃ L, m.log2 = L := ⟨_, rfl⟩
  have a0 : 2 ^ L ≤ m := by rw [← hL]; exact Nat.log2_self_le (by omega)
  have a1 : m < 2 ^ (L + 1) := by rw [← hL]; exact Nat.lt_log2_self
  have hL52 : L ≤ 52 := by
    have : L < 53 := by rw [← hL]; exact (Nat.log2_lt (by omega)).2 (by omega)
    omega
  obtain ⟨q1, _⟩ := exact_at hD hg hP hDg (e := E - ((53 - L : Nat) : Int)) (by omega)
  rw [show (E - (E - ((53 - L : Nat) : Int))).toNat = 53 - L by omega] at q1
  have b0 : 2 ^ 53 ≤ m * 2 ^ (53 - L) := by
    calc 2 ^ 53 = 2 ^ L * 2 ^ (53 - L) := by rw [← Nat.pow_add]; congr 1; omega
      _ ≤ m * 2 ^ (53 - L) := Nat.mul_le_mul_right _ a0
  have b1 : m * 2 ^ (53 - L) < 2 ^ (53 + 1) := by
    calc m * 2 ^ (53 - L) < 2 ^ (L + 1) * 2 ^ (53 - L) := (Nat.mul_lt_mul_right (Nat.two_pow_pos _)).2 a1
      _ = 2 ^ (53 + 1) := by rw [← Nat.pow_add]; congr 1; omega
  obtain ⟨c0, c1⟩ := e1_place hP0 hD
  have he : e1 P D = E - ((53 - L : Nat) : Int) := place_unique hD c0 c1 (by rw [q1]; exact b0) (by rw [q1]; exact b1)
  have hLc : L = 52 ∨ E = -1074 := by
    rcases m1 with h | h
    · left
      rw [← hL]; exact Go.Fl.log2_eq (by omega) (by omega)
    · exact .inr h
  have hu : uni P D = E := by
    unfold uni
    rw [he]; omega
  obtain ⟨q2, q3⟩ := exact_at hD hg hP hDg (e := E) (Int.le_refl _)
  rw [show (E - E).toNat = 0 by omega, Nat.pow_zero, Nat.mul_one] at q2
  obtain ⟨n1, n2⟩ := near_exact q3
  refine ⟨by omega, ?_, ?_⟩
  · unfold res64
    rw [hu, n2, q2, m2]
    exact Nat.min_eq_left (Nat.le_of_lt hf)
  · unfold exa64
    rw [hu, n2, q2, m2, n1, decide_eq_true hf]
    rfl
end Go.Proofs.YtgdgklhfakplhaaGreatDoor
namespace Go.Proofs.YtgdgklhfakplhaaGreatDoor
open Go.RowKit Go.Dig Go.Rnd
set_option maxRecDepth 100000
/-- The unit that spec.Bits finds is the code's. -/
theorem spec_unit {P D : Nat} (hP : 0 < P) (hD : 0 < D) (u0 : Int) (hu : u0 = max ((blen P : Int) - blen D - 53) (-1074)) :
    (53 < blen (uq P D u0) → uni P D = u0 + 1) ∧ (blen (uq P D u0) ≤ 53 → uni P D = u0) := by
  obtain ⟨e0, he0⟩ : ∃ e0 : Int, e0 = (blen P : Int) - blen D - 54 := ⟨_, rfl⟩
  obtain ⟨h1, h2⟩ := first_quot hP hD 54 e0 he0 (by omega)
  obtain ⟨k1, k2⟩ := e1_cases hD he0
  have p55 : (2 : Nat) ^ (54 + 1) = 36028797018963968 := by decide
  have p53 : (2 : Nat) ^ (54 - 1) = 9007199254740992 := by decide
  rw [p55] at h2
  rw [p53] at h1
  have hbl : ∀ q : Nat, (9007199254740992 ≤ q → 53 < blen q) ∧ (q < 9007199254740992 → blen q ≤ 53) := by
    intro q
    constructor
    · intro h
      rcases Nat.lt_or_ge 53 (blen q) with g | g
      · exact g
      · have := blen_lt q
        have h3 := Nat.pow_le_pow_right (show 0 < 2 by omega) g
        rw [show (2 : Nat) ^ 53 = 9007199254740992 by decide] at h3
        omega
    · intro h
      exact blen_le (by rw [show (2 : Nat) ^ 53 = 9007199254740992 by decide]; exact h)
  rcases Int.lt_or_le (e0 + 1) (-1074) with hc | hc
  · have e : u0 = -1074 := by omega
    obtain ⟨s, hs⟩ : ∃ s : Nat, (s : Int) = -1074 - e0 - 2 := ⟨(-1074 - e0 - 2).toNat, by omega⟩
    have hq := (uq_drop (N := P) hD e0 (s + 2)).1
    rw [show e0 + ((s + 2 : Nat) : Int) = u0 by omega] at hq
    have hlt : uq P D u0 < 9007199254740992 := by
      rw [hq, Nat.pow_add, Nat.mul_comm, ← Nat.div_div_eq_div_mul]
      exact Nat.lt_of_le_of_lt (Nat.div_le_self _ _) (by omega)
    refine ⟨fun h => absurd ((hbl _).2 hlt) (by omega), fun _ => ?_⟩
    unfold uni
    rcases Nat.lt_or_ge (uq P D e0) 18014398509481984 with h | h
    · rw [k1 h]; omega
    · rw [(k2 h).1]; omega
  · have e : u0 = e0 + 1 := by omega
    have hq := (uq_half (N := P) hD e0).1
    rw [← e] at hq
    constructor
    · intro h
      have hge : 9007199254740992 ≤ uq P D u0 := by
        rcases Nat.lt_or_ge (uq P D u0) 9007199254740992 with g | g
        · exact absurd ((hbl _).2 g) (by omega)
        · exact g
      unfold uni
      rw [(k2 (by omega)).1]; omega
    · intro h
      have hlt : uq P D u0 < 9007199254740992 := by
        rcases Nat.lt_or_ge (uq P D u0) 9007199254740992 with g | g
        · exact g
        · exact absurd ((hbl _).1 g) (by omega)
      unfold uni
      rw [k1 (by omega)]; omega
/-- What is so small that it rounds to 0 is left out by the law. -/
theorem too_small {P D : Nat} (hP : 0 < P) (hD : 0 < D) (h : e1 P D < -1128) : uni P D = -1074 ∧ near P D (-1074) = 0 ∧ left P D (-1074) ≠ 0 := by
  obtain ⟨c0, c1⟩ := e1_place hP hD
  obtain ⟨s, hs⟩ : ∃ s : Nat, (s : Int) = -1075 - e1 P D := ⟨(-1075 - e1 P D).toNat, by omega⟩
  obtain ⟨d1, d2⟩ := uq_drop (N := P) hD (e1 P D) s
  rw [show e1 P D + (s : Int) = -1075 by omega] at d1 d2
  have hps : (2 : Nat) ^ (53 + 1) ≤ 2 ^ s := Nat.pow_le_pow_right (by omega) (by omega)
  have hq0 : uq P D (-1075) = 0 := by rw [d1]; exact Nat.div_eq_of_lt (Nat.lt_of_lt_of_le c1 hps)
  have hr0 : ¬ ur P D (-1075) = 0 := by
    rw [d2, Nat.mod_eq_of_lt (Nat.lt_of_lt_of_le c1 hps)]
    rintro ⟨_, g⟩
    rw [g] at c0
    exact absurd c0 (by decide)
  obtain ⟨r1, r2⟩ := round_last (N := P) hD (-1075)
  rw [hq0] at r1 r2
  refine ⟨by unfold uni; omega, ?_, ?_⟩
  · have : near P D (-1075 + 1) = 0 := by rw [r1]; simp
    exact this
  · intro g
    exact hr0 (r2.1 g).1
end Go.Proofs.YtgdgklhfakplhaaGreatDoor
namespace Go.Proofs.YtgdgklhfakplhaaGreatDoor
open Go.RowKit Go.Dig Go.Rnd
set_option maxRecDepth 100000
theorem left_cmp {r d : Nat} (h : r ≠ 0) : 2 + cmpI (r + r) d = ((Go.Rnd.leftOf r d : Nat) : Int) := by
  unfold Go.Rnd.leftOf cmpI
  rw [if_neg h]
  rcases Nat.lt_trichotomy (r + r) d with g | g | g
  · rw [if_pos g, if_pos (by omega)]; rfl
  · rw [if_neg (by omega), if_pos g, if_neg (by omega), if_pos (by omega)]; rfl
  · rw [if_neg (by omega), if_neg (by omega), if_neg (by omega), if_neg (by omega)]; rfl
theorem cmpI_range (m n : Nat) : -1 ≤ cmpI m n ∧ cmpI m n ≤ 1 := by
  unfold cmpI
  split
  · omega
  · split <;> omega
theorem pow16w (k : Nat) : 65536 ^ k = 2 ^ (16 * k) := by rw [Nat.pow_mul]
theorem shl_len {n s a K : Nat} (h : (dg 65536 n).length ≤ a) (hs : 16 * a + s ≤ 16 * K) : (dg 65536 (n * 2 ^ s)).length ≤ K := by
  apply dg_length_le (by omega)
  have h1 := lt_pow_dg_length (b := 65536) (by omega) n
  have h3 := Nat.pow_le_pow_right (show 0 < 65536 by omega) h
  have h2 : n < 65536 ^ a := Nat.lt_of_lt_of_le h1 h3
  rw [pow16w] at h2 ⊢
  calc n * 2 ^ s < 2 ^ (16 * a) * 2 ^ s := (Nat.mul_lt_mul_right (Nat.two_pow_pos _)).2 h2
    _ = 2 ^ (16 * a + s) := (Nat.pow_add ..).symm
    _ ≤ 2 ^ (16 * K) := Nat.pow_le_pow_right (by omega) hs
set_option maxHeartbeats 1000000 in
theorem units_any (neg : Bool) (vN vD : Value) (P D : Nat) (e : Int) (w : World) (hN : Nt w vN P) (hD : Nt w vD D) (hD0 : 0 < D) (he1 : -20000 ≤ e) (he2 : e ≤ 20000) (hlN : (dg 65536 P).length ≤ 2000) (hlD : (dg 65536 D).length ≤ 2000) :
    Calls Tryz.prog 27 #[.agg #[.bool neg, vN, vD], .int .i64 e] w fun e' w' => ∃ vq, e' = .returned (.tuple #[vq, .int .i64 ((left P D e : Nat) : Int)]) ∧ Nt w' vq (uq P D e) ∧ Below w.heap.size w w' := by
  have HN := hid hN
  have HD := hid hD
  obtain ⟨aN, lN, cN, rfl⟩ : ∃ a l c, vN = .slice a l c := by obtain ⟨a, c, h, _⟩ := hN; exact ⟨a, _, c, h⟩
  obtain ⟨aD, lD, cD, rfl⟩ : ∃ a l c, vD = .slice a l c := by obtain ⟨a, c, h, _⟩ := hD; exact ⟨a, _, c, h⟩
  clear hN hD
  go_enter Tryz.func27, Tryz.ntmps27
  go_wp2_with fail
  have hB0 : Blk (w.alloc (.cells #[.bool neg, .slice aN lN cN, .slice aD lD cD] 31)) w.heap.size #[.bool neg, .slice aN lN cN, .slice aD lD cD] 31 := blk_new w _ 31
  have hb0 : Below w.heap.size w (w.alloc (.cells #[.bool neg, .slice aN lN cN, .slice aD lD cD] 31)) := (Below.refl _ _).alloc (Nat.le_refl _) _
  generalize w.alloc (.cells #[.bool neg, .slice aN lN cN, .slice aD lD cD] 31) = w0 at *
  have m1 : max e 0 = ((e.toNat : Nat) : Int) := by omega
  have m2 : max (-e) 0 = (((-e).toNat : Nat) : Int) := by omega
  have hD0' := HD.out.below hb0 (Nat.le_refl _)
  have hN0 := HN.out.below hb0 (Nat.le_refl _)
  have H1 := shl_any _ D e.toNat w0 hD0' (by omega) (by omega)
  rw [← m1] at H1
  have HB0 := hid hB0
  have HE0 := hid hb0
  have HN0 := hid hN0
  clear hB0 hb0 hD0' hN0 HN HD
  refine H1.mono ?_
  rintro e' w1 ⟨v1, rfl, hv1, hb1⟩
  have HB1 := hid (HB0.out.below hb1 HB0.out.lt)
  have h1c := HB1.out.cell 1
  simp only [List.getElem?_toArray, List.getElem?_cons_zero, List.getElem?_cons_succ] at h1c
  have H2 := shl_any _ P (-e).toNat w1 (HN0.out.below hb1 (Nat.le_refl _)) (by omega) (by omega)
  rw [← m2] at H2
  have HV1 : Hid (Nt w1 v1 (ud D e)) := hid hv1
  have HE1 := hid (below_next HE0.out hb1)
  obtain ⟨a1, l1, c1, rfl⟩ : ∃ a l c, v1 = .slice a l c := by obtain ⟨a, c, h, _⟩ := hv1; exact ⟨a, _, c, h⟩
  clear H1 hv1 hb1 HB0 HE0 HN0 m1 m2
  go_wp2_with fail
  refine H2.mono ?_
  rintro e' w2 ⟨v2, rfl, hv2, hb2⟩
  have hud := ud_pos hD0 e
  have hlu : (dg 65536 (un P e)).length ≤ 100000 ∧ (dg 65536 (ud D e)).length ≤ 100000 := ⟨shl_len hlN (by omega), shl_len hlD (by omega)⟩
  have H3 := divmod_any v2 (.slice a1 l1 c1) (un P e) (ud D e) w2 hv2 (HV1.out.below hb2 (Nat.le_refl _)) hlu.1 hlu.2 (by omega)
  have HV2 := hid (HV1.out.below hb2 (Nat.le_refl _))
  have HE2 := hid (below_next HE1.out hb2)
  obtain ⟨a2, l2, c2, rfl⟩ : ∃ a l c, v2 = .slice a l c := by obtain ⟨a, c, h, _⟩ := hv2; exact ⟨a, _, c, h⟩
  clear H2 hv2 hb2 HV1 HE1 HB1 h1c
  go_wp2_with fail
  refine H3.mono ?_
  rintro e' w3 ⟨vq, vr, rfl, hq, hr, hb3⟩
  have HQ3 : Hid (Nt w3 vq (uq P D e)) := hid hq
  have HR3 : Hid (Nt w3 vr (ur P D e)) := hid hr
  have HV3 := hid (HV2.out.below hb3 (Nat.le_refl _))
  have HE3 := hid (below_next HE2.out hb3)
  obtain ⟨aq, lq, cq, rfl⟩ : ∃ a l c, vq = .slice a l c := by obtain ⟨a, c, h, _⟩ := hq; exact ⟨a, _, c, h⟩
  obtain ⟨ar, cr, rfl⟩ : ∃ a c, vr = .slice a (dg 65536 (ur P D e)).length c := by obtain ⟨a, c, h, _⟩ := HR3.out; exact ⟨a, c, h⟩
  have hrl : (dg 65536 (ur P D e)).length ≤ 100000 := by
    have : ur P D e ≤ un P e := Nat.mod_le _ _
    exact Nat.le_trans (dg_length_mono (by omega) this) hlu.1
  clear H3 hq hr hb3 HV2 HE2
  rcases Nat.eq_zero_or_pos (ur P D e) with h0 | h0
  · have hl : left P D e = 0 := by unfold left Go.Rnd.leftOf; rw [if_pos h0]
    have HL := hid hl
    rw [h0, dg_zero]
    clear hrl hl
    go_wp2_with fail
    go_ret2
    exact ⟨_, (by rw [HL.out]; rfl), HQ3.out, HE3.out⟩
  · have hcm : 2 + cmpI (ur P D e + ur P D e) (ud D e) = ((left P D e : Nat) : Int) := left_cmp (by omega)
    have hne : 0 < (dg 65536 (ur P D e)).length := by
      rcases Nat.eq_zero_or_pos (dg 65536 (ur P D e)).length with h | h
      · have := (dg_nil_iff (b := 65536) (by omega)).1 (List.length_eq_zero_iff.1 h); omega
      · exact h
    have hne0 : (((dg 65536 (ur P D e)).length : Int) == 0) = false := by simp; intro h; rw [h] at hne; simp at hne
    have H4 := add_any _ _ (ur P D e) (ur P D e) w3 HR3.out HR3.out hrl hrl
    have HCM := hid hcm
    clear hcm hne
    go_wp2_with fail
    refine H4.mono ?_
    rintro e' w4 ⟨v4, rfl, hv4, hb4⟩
    have H5 := cmp_any v4 (.slice a1 l1 c1) (ur P D e + ur P D e) (ud D e) w4 hv4 (HV3.out.below hb4 (Nat.le_refl _))
    have HQ4 := hid (HQ3.out.below hb4 (Nat.le_refl _))
    have HE4 := hid (below_next HE3.out hb4)
    obtain ⟨a4, l4, c4, rfl⟩ : ∃ a l c, v4 = .slice a l c := by obtain ⟨a, c, h, _⟩ := hv4; exact ⟨a, _, c, h⟩
    clear H4 hv4 hb4 HQ3 HE3 HV3
    go_wp2_with fail
    refine H5.mono ?_
    rintro e' w5 ⟨k5, rfl, rfl⟩
    have HQ5 : Hid (Nt (w4.drewN k5) _ _) := hid (HQ4.out.below (below_drewN' (B := w4.heap.size) k5) (Nat.le_refl _))
    have HE5 := hid (HE4.out.trans (below_drewN' k5))
    have hcr : -1 ≤ cmpI (ur P D e + ur P D e) (ud D e) ∧ cmpI (ur P D e + ur P D e) (ud D e) ≤ 1 := cmpI_range _ _
    generalize cmpI (ur P D e + ur P D e) (ud D e) = cc at *
    clear H5 HQ4 HE4
    go_wp2_with fail
    go_ret2
    exact ⟨_, (by rw [← HCM.out]; rfl), HQ5.out, HE5.out⟩
end Go.Proofs.YtgdgklhfakplhaaGreatDoor
namespace Go.Proofs.YtgdgklhfakplhaaGreatDoor
open Go.RowKit Go.Dig Go.Rnd
set_option maxRecDepth 100000
theorem bandi1 (n : Int) : bits .and .i64 n 1 = n % 2 := by
  have h1 : (BitVec.ofInt 64 1).toNat = 2 ^ 1 - 1 := by decide
  have key : (BitVec.ofInt 64 n &&& BitVec.ofInt 64 1).toNat = (n % ((2 ^ 64 : Nat) : Int)).toNat % 2 ^ 1 := by
    rw [BitVec.toNat_and, BitVec.toNat_ofInt, h1, Nat.and_two_pow_sub_one_eq_mod]
  show IntKind.i64.wrap ((BitVec.ofInt 64 n &&& BitVec.ofInt 64 1).toNat : Nat) = n % 2
  rw [key, IntKind.wrap_i64]
  omega
set_option maxHeartbeats 1000000 in
theorem has0_any (v : Value) (n : Nat) (w : World) (h : Nt w v n) : Calls Tryz.prog 28 #[v, .int .i64 0] w fun e w' => e = .returned (.bool (decide (n % 2 = 1))) ∧ ∃ k, w' = w.drewN k := by
  obtain ⟨a, c, rfl, h1, h2, h3⟩ := h
  rcases Nat.eq_zero_or_pos n with h0 | h0
  · subst h0
    rw [dg_zero]
    go_enter Tryz.func28, Tryz.ntmps28
    go_wp2_with fail
    go_ret
    exact ⟨rfl, 0, rfl⟩
  · have hl : 0 < (dg 65536 n).length := by
      rcases Nat.eq_zero_or_pos (dg 65536 n).length with h | h
      · have := (dg_nil_iff (b := 65536) (by omega)).1 (List.length_eq_zero_iff.1 h); omega
      · exact h
    obtain ⟨b, off, rfl, _, hc⟩ := h3 hl
    have hc0 := hc 0 hl
    have hd : (dg 65536 n).getD 0 0 = n % 65536 := by
      have := dg_getD (b := 65536) (by omega) n 0
      rw [Nat.pow_zero, Nat.div_one] at this
      exact this
    rw [hd, Nat.add_zero] at hc0
    have hb := bandi1 ((n % 65536 : Nat) : Int)
    have hlen : ((dg 65536 n).length : Int) > 0 := by omega
    have hdec : decide (0 < ((dg 65536 n).length : Int)) = true := decide_eq_true (by omega)
    have hp2 : (n % 65536) % 2 = n % 2 := by omega
    generalize (dg 65536 n).length = L at *
    obtain ⟨t, ht⟩ : ∃ t, n % 65536 = t := ⟨_, rfl⟩
    rw [ht] at hc0 hb hp2
    rw [← hp2]
    clear hc h3 h1 hd ht hp2 hlen
    go_enter Tryz.func28, Tryz.ntmps28
    have hfin : ((t : Int) % 2 == 1) = decide (t % 2 = 1) := by
      rcases Nat.mod_two_eq_zero_or_one t with g | g
      · have : (t : Int) % 2 = 0 := by omega
        rw [this, g]; rfl
      · have : (t : Int) % 2 = 1 := by omega
        rw [this, g]; rfl
    have HFIN := hid hfin
    clear hfin
    go_wp2_with fail
    go_ret
    exact ⟨by rw [← HFIN.out]; rfl, 0, rfl⟩
end Go.Proofs.YtgdgklhfakplhaaGreatDoor
