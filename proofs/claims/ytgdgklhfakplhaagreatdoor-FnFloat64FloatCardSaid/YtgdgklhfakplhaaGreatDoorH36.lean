/- Walks and lemmas for the laws of this seat. -/
import Derived.Test.YtgdgklhfakplhaaGreatDoorH33
import Derived.Test.YtgdgklhfakplhaaGreatDoorH35
import Derived.Test.YtgdgklhfakplhaaGreatDoorH21
namespace Go.Proofs.YtgdgklhfakplhaaGreatDoor
open Go.RowKit Go.Dig Go.Rnd
set_option maxRecDepth 100000
/-- The place of the last digit found ahead of rounding: 54 digits. -/
def e1 (P D : Nat) : Int := if 2 ^ 54 ≤ uq P D ((blen P : Int) - blen D - 54) then (blen P : Int) - blen D - 54 + 1 else (blen P : Int) - blen D - 54
/-- The unit. -/
def uni (P D : Nat) : Int := max (e1 P D + 1) (-1074)
theorem pow_words (n : Nat) : 18446744073709551616 ^ n = 2 ^ (64 * n) := by rw [Nat.pow_mul]
theorem Stk.fx0 {w w1 : World} {K sp b o k : Nat} (h : Stk w K sp none) (hf : Fx b o k w w1) (hne : sp ≠ b) : Stk w1 K sp none := ⟨h.1, hf.blk h.2 hne⟩
theorem band1q (q : Nat) (h : q < 18446744073709551616) : bits .and .u64 (q : Int) 1 = ((q % 2 : Nat) : Int) := by
  rw [u64_and _ 1 (by omega) (by omega) (by omega) (by omega), show (1 : Int).toNat = 2 ^ 1 - 1 from rfl, Nat.and_two_pow_sub_one_eq_mod]
  simp
theorem bandm (q s : Nat) (hq : q < 18446744073709551616) (hs : s ≤ 53) : bits .and .u64 (q : Int) (((2 ^ s - 1 : Nat)) : Int) = ((q % 2 ^ s : Nat) : Int) := by
  have hp : (2 : Nat) ^ s ≤ 2 ^ 53 := Nat.pow_le_pow_right (by omega) hs
  rw [u64_and _ _ (by omega) (by omega) (by omega) (by omega), Int.toNat_natCast, Int.toNat_natCast, Nat.and_two_pow_sub_one_eq_mod]
theorem and2 (q : Nat) : q &&& 2 = 2 * (q / 2 % 2) := by
  have h3 : q &&& 3 = q % 4 := Nat.and_two_pow_sub_one_eq_mod q 2
  have h : q &&& 2 = (q % 4) &&& 2 := by
    rw [← h3, Nat.and_assoc]
    rfl
  rw [h]
  rcases (by omega : q % 4 = 0 ∨ q % 4 = 1 ∨ q % 4 = 2 ∨ q % 4 = 3) with g | g | g | g
  · rw [g, show q / 2 % 2 = 0 by omega]; rfl
  · rw [g, show q / 2 % 2 = 0 by omega]; rfl
  · rw [g, show q / 2 % 2 = 1 by omega]; rfl
  · rw [g, show q / 2 % 2 = 1 by omega]; rfl
theorem band2 (q : Nat) (h : q < 18446744073709551616) : bits .and .u64 (q : Int) 2 = ((2 * (q / 2 % 2) : Nat) : Int) := by
  rw [u64_and _ 2 (by omega) (by omega) (by omega) (by omega), show (2 : Int).toNat = 2 from rfl, Int.toNat_natCast, and2]
theorem foi (M : Nat) : floatOfInt .f64 (M : Int) = Ieee.double.nearest false M 0 := by
  have h : decide ((M : Int) < 0) = false := decide_eq_false (by omega)
  show Ieee.double.nearest (decide ((M : Int) < 0)) (M : Int).natAbs 0 = _
  rw [h, Int.natAbs_natCast]
/-- What math.Ldexp makes of the rounded number. -/
theorem ldexp_rounded (M kk n : Nat) (x3 : Int) (w : World) (hM : M < 9007199254740992) (hkk : kk < 80000) (hc : (M = n ∧ x3 = (kk : Int) - 1021) ∨ (M = 4503599627370496 ∧ n = 9007199254740992 ∧ x3 = (kk : Int) - 1020)) (hb : 4503599627370496 ≤ M ∨ kk = 0) :
    Calls Tryz.prog 113 #[.float .f64 (floatOfInt .f64 (M : Int)), .int .i64 (wrap64 (x3 - 53))] w fun e w' => e = .returned (.float .f64 (min (kk * 4503599627370496 + n) 9218868437227405312)) ∧ w' = w := by
  rw [foi]
  rcases hc with ⟨rfl, rfl⟩ | ⟨rfl, rfl, rfl⟩
  · have hw : wrap64 ((kk : Int) - 1021 - 53) = (kk : Int) - 1074 := by unfold wrap64; omega
    rw [hw]
    rcases Nat.eq_zero_or_pos M with h0 | h0
    · subst h0
      obtain rfl : kk = 0 := by omega
      have e : Ieee.double.nearest false 0 0 = 0 := by decide
      rw [e]
      refine (ldexp_wrap 0 0 _ w (ldexp_zero _ w)).mono ?_
      rintro e w' ⟨rfl, rfl⟩
      exact ⟨rfl, rfl⟩
    · exact ldexp_fin M kk w h0 hM hb (by omega)
  · have hw : wrap64 ((kk : Int) - 1020 - 53) = ((kk + 1 : Nat) : Int) - 1074 := by unfold wrap64; omega
    rw [hw, show kk * 4503599627370496 + 9007199254740992 = (kk + 1) * 4503599627370496 + 4503599627370496 by omega]
    exact ldexp_fin 4503599627370496 (kk + 1) w (by omega) (by omega) (.inl (Nat.le_refl _)) (by omega)
theorem e1_cases {P D : Nat} (hD : 0 < D) {e0 : Int} (h0 : e0 = (blen P : Int) - blen D - 54) :
    (uq P D e0 < 18014398509481984 → e1 P D = e0) ∧ (18014398509481984 ≤ uq P D e0 → e1 P D = e0 + 1 ∧ uq P D (e0 + 1) = uq P D e0 / 2 ∧ (ur P D (e0 + 1) = 0 ↔ ur P D e0 = 0 ∧ uq P D e0 % 2 = 0)) := by
  unfold e1
  rw [← h0, show (2 : Nat) ^ 54 = 18014398509481984 by decide]
  refine ⟨fun h => by rw [if_neg (by omega)], fun h => ⟨by rw [if_pos h], uq_half hD e0⟩⟩
set_option maxHeartbeats 4000000 in
theorem quot64 (K sp P D : Nat) (va vb : Value) (w : World) (hst : Stk w K sp none) (hthr : w.cell? ⟨1, 0, none⟩ = some (.int .i64 40)) (hK1 : 1 < K) (ha : Nw w va P) (hb : Nw w vb D) (hP : 0 < P) (hD : 0 < D)
    (hlP : (dg 18446744073709551616 P).length ≤ 30) (hlD : (dg 18446744073709551616 D).length ≤ 30) (hlow : -1128 ≤ e1 P D) :
    Calls Tryz.prog 71 #[.pointer (some ⟨sp, 0, none⟩), va, vb] w fun e w' => ∃ t', e = .returned (.tuple #[.float .f64 (min ((uni P D + 1074).toNat * 4503599627370496 + near P D (uni P D)) 9218868437227405312), .bool (decide (left P D (uni P D) = 0) && decide ((uni P D + 1074).toNat * 4503599627370496 + near P D (uni P D) < 9218868437227405312))]) ∧ Stk w' K sp t' ∧ Below K w w' := by
  have HBP := fun w (h : Nw w va P) => nbitLen_any va P w h hP (by omega)
  have HBD := fun w (h : Nw w vb D) => nbitLen_any vb D w h hD (by omega)
  have hp0 := blen_pos (n := P) (by omega)
  have hd0 := blen_pos (n := D) (by omega)
  obtain ⟨alen, hal⟩ : ∃ a, a = blen P := ⟨_, rfl⟩
  obtain ⟨dlen, hdl⟩ : ∃ a, a = blen D := ⟨_, rfl⟩
  rw [← hal] at HBP hp0
  rw [← hdl] at HBD hd0
  have HAL := hid hal
  have HDL := hid hdl
  have HA := hid ha
  have HB := hid hb
  obtain ⟨aA, cA, eva⟩ := ha.shape
  obtain ⟨aB, cB, evb⟩ := hb.shape
  have HSP := hid (nset_own va P w ha hP (by omega))
  clear hal hdl
  have hbl : alen ≤ 1920 ∧ dlen ≤ 1920 := by
    have h1 := lt_pow_dg_length (b := 18446744073709551616) (by omega) P
    have h2 := lt_pow_dg_length (b := 18446744073709551616) (by omega) D
    have e : ∀ n : Nat, 18446744073709551616 ^ n = 2 ^ (64 * n) := fun n => by rw [Nat.pow_mul]
    rw [e] at h1 h2
    have g1 := blen_le h1
    have g2 := blen_le h2
    rw [← HAL.out] at g1
    rw [← HDL.out] at g2
    omega
  have n1 : ((alen : Int) == 0) = false := by simp; omega
  have n2 : ((dlen : Int) == 0) = false := by simp; omega
  subst eva evb
  go_enter Tryz.func71, Tryz.ntmps71
  go_wp2_with fail
  refine (HBP _ HA.out).mono ?_
  rintro e w' ⟨rfl, rfl⟩
  go_wp2_with fail
  refine (HBD _ HB.out).mono ?_
  rintro e w' ⟨rfl, rfl⟩
  go_wp2_with fail
  refine HSP.out.mono ?_
  rintro e w1 ⟨va2, ca2, rfl, hOA, hca2, hb1⟩
  have HOA := hid hOA
  have HB1 := hid (HB.out.below hb1 (Nat.le_refl _))
  have hal2 := hOA.lt
  have hs1 := hst.below hb1
  have hspn := hst.2.lt
  have hK1s := hst.size
  have hbb1 := hb1
  clear HSP hOA hst hb1
  have HSD := hid (nset_own _ D w1 HB1.out hD (by omega))
  obtain ⟨rfl, _, _⟩ := HOA.out
  go_wp2_with fail
  refine HSD.out.mono ?_
  rintro e w2 ⟨vb2, cb2, rfl, hOB, hcb2, hb2⟩
  have HOA2 := hid (HOA.out.below hb2 hal2)
  have HOB := hid hOB
  have hs2 := hs1.below hb2
  have HBW := hid ((hbb1.mono hK1s).trans (hb2.mono hs1.size))
  have hne : w1.heap.size ≠ w'.heap.size := by omega
  have hKA : K ≤ w'.heap.size := hK1s
  have hKB := hs1.size
  clear HSD hOB hs1 hb2 hbb1 HOA HB1 hK1s HA HB
  obtain ⟨rfl, _, _⟩ := HOB.out
  obtain ⟨e0, he0⟩ : ∃ e0 : Int, e0 = (alen : Int) - dlen - 54 := ⟨_, rfl⟩
  have he0' : e0 = (blen P : Int) - blen D - ((54 : Nat) : Int) := by rw [← HAL.out, ← HDL.out]; exact he0
  have hfq := first_quot hP hD 54 e0 he0' (by omega)
  obtain ⟨X, hX⟩ : ∃ X, X = un P e0 := ⟨_, rfl⟩
  obtain ⟨Y, hY⟩ : ∃ Y, Y = ud D e0 := ⟨_, rfl⟩
  have hXs : X < 18446744073709551616 ^ 31 := by
    rw [hX]; exact un_small (k := 64 * 31) 54 e0 he0' (by rw [← HAL.out]; omega) (by rw [← HDL.out]; omega) (pow_words 31)
  have hYs : Y < 18446744073709551616 ^ 31 := by
    rw [hY]; exact ud_small (k := 64 * 31) 54 e0 he0' (by rw [← HAL.out]; omega) (by rw [← HDL.out]; omega) (pow_words 31)
  have hlX := dg_length_le (b := 18446744073709551616) (by omega) hXs
  have hlY := dg_length_le (b := 18446744073709551616) (by omega) hYs
  have hY0 : 0 < Y := by rw [hY]; exact ud_pos hD e0
  have HXu := hid hX
  have HYu := hid hY
  have HFQ := hid hfq
  clear hXs hYs hX hY hfq
  go_upto_if 41 with fail
  go_cut [11, 12] from 41 (fun va vb wx => ∃ bA cA2 bB cB2 : Nat, va = .slice (some ⟨bA, 0, none⟩) (dg 18446744073709551616 X).length cA2 ∧ vb = .slice (some ⟨bB, 0, none⟩) (dg 18446744073709551616 Y).length cB2 ∧ Hid (On wx va bA cA2 X) ∧ Hid (On wx vb bB cB2 Y) ∧ bB ≠ bA ∧ K ≤ bA ∧ cA2 < 1000000 ∧ cB2 < 1000000 ∧ Stk wx K sp none ∧ Hid (Below K w' wx))
  case first =>
    have hszB := HOB.out.lt
    have hszA := HOA2.out.lt
    rcases Int.lt_trichotomy e0 0 with h | h | h
    · have c1 : decide ((alen : Int) - dlen < 54) = true := decide_eq_true (by omega)
      obtain ⟨s, hs⟩ : ∃ s : Nat, (s : Int) = -e0 := ⟨(-e0).toNat, by omega⟩
      have eX : X = P * 2 ^ s := by rw [HXu.out]; unfold un; rw [show (-e0).toNat = s by omega]
      have eY : Y = D := by rw [HYu.out]; unfold ud; rw [show e0.toNat = 0 by omega, Nat.pow_zero, Nat.mul_one]
      have HL := lsh_own _ _ ca2 P s w2 HOA2.out hP (by omega) (by omega) (by omega) (by omega)
      rw [show (s : Int) = 54 - ((alen : Int) - dlen) by omega] at HL
      have EX := hid eX
      have EY := hid eY
      clear eX eY hs
      go_wp2_with fail
      refine HL.mono ?_
      rintro e w3 ⟨v', b', c', rfl, hO, hc', hb', hF⟩
      rw [← EX.out] at hO
      have HO := hid hO
      obtain ⟨rfl, _, _⟩ := hO
      have HR : Hid (On w3 (.slice (some ⟨w1.heap.size, 0, none⟩) (dg 18446744073709551616 D).length cb2) w1.heap.size cb2 Y) := by
        rw [EY.out]; exact hid (HOB.out.fx hF hne)
      have hs3 := hs2.fx0 hF (by omega)
      have HB3 := hid (HBW.out.trans (hF.below hKA hs2.size))
      have hbne : w1.heap.size ≠ b' := by rcases hb' with rfl | rfl <;> omega
      have hKb : K ≤ b' := by
        rcases hb' with h' | h'
        · rw [h']; exact hKA
        · rw [h']; exact hs2.size
      clear HL hF hb'
      go_wp2_with fail
      go_meet
      exact ⟨b', c', w1.heap.size, cb2, rfl, by rw [EY.out], HO, HR, hbne, hKb, hc', by omega, hs3, HB3⟩
    · have c1 : decide ((alen : Int) - dlen < 54) = false := decide_eq_false (by omega)
      have c2 : decide ((54 : Int) < (alen : Int) - dlen) = false := decide_eq_false (by omega)
      have c1' : ¬ (alen : Int) - dlen < 54 := by omega
      have c2' : ¬ (54 : Int) - ((alen : Int) - dlen) < 0 := by omega
      have eX : X = P := by rw [HXu.out]; unfold un; rw [show (-e0).toNat = 0 by omega, Nat.pow_zero, Nat.mul_one]
      have eY : Y = D := by rw [HYu.out]; unfold ud; rw [show e0.toNat = 0 by omega, Nat.pow_zero, Nat.mul_one]
      have EX := hid eX
      have EY := hid eY
      clear eX eY
      go_wp2_with fail
      go_meet
      exact ⟨w'.heap.size, ca2, w1.heap.size, cb2, by rw [EX.out], by rw [EY.out], by rw [EX.out]; exact HOA2, by rw [EY.out]; exact HOB, hne, hKA, by omega, by omega, hs2, HBW⟩
    · have c1 : decide ((alen : Int) - dlen < 54) = false := decide_eq_false (by omega)
      have c2 : decide ((54 : Int) < (alen : Int) - dlen) = true := decide_eq_true (by omega)
      have c2' : (54 : Int) - ((alen : Int) - dlen) < 0 := by omega
      obtain ⟨s, hs⟩ : ∃ s : Nat, (s : Int) = e0 := ⟨e0.toNat, by omega⟩
      have eX : X = P := by rw [HXu.out]; unfold un; rw [show (-e0).toNat = 0 by omega, Nat.pow_zero, Nat.mul_one]
      have eY : Y = D * 2 ^ s := by rw [HYu.out]; unfold ud; rw [show e0.toNat = s by omega]
      have HL := lsh_own _ _ cb2 D s w2 HOB.out hD (by omega) (by omega) (by omega) (by omega)
      rw [show (s : Int) = -(54 - ((alen : Int) - dlen)) by omega] at HL
      have EX := hid eX
      have EY := hid eY
      clear eX eY hs
      go_wp2_with fail
      refine HL.mono ?_
      rintro e w3 ⟨v', b', c', rfl, hO, hc', hb', hF⟩
      rw [← EY.out] at hO
      have HO := hid hO
      obtain ⟨rfl, _, _⟩ := hO
      have HR : Hid (On w3 (.slice (some ⟨w'.heap.size, 0, none⟩) (dg 18446744073709551616 P).length ca2) w'.heap.size ca2 X) := by
        rw [EX.out]; exact hid (HOA2.out.fx hF hne.symm)
      have hs3 := hs2.fx0 hF (by omega)
      have HB3 := hid (HBW.out.trans (hF.below hKB hs2.size))
      have hbne : b' ≠ w'.heap.size := by rcases hb' with h' | h' <;> omega
      clear HL hF hb'
      go_wp2_with fail
      go_meet
      exact ⟨w'.heap.size, ca2, b', c', by rw [EX.out], rfl, HR, HO, hbne, hKA, by omega, hc', hs3, HB3⟩
  case rest =>
    obtain ⟨bA, cA2, bB, cB2, rfl, rfl, HOA3, HOB3, hne3, hKA3, hcA3, hcB3, hs3, HB3⟩ := hcut
    have hle : Y ≤ X := by
      have h := HFQ.out.1
      unfold uq at h
      rw [← HXu.out, ← HYu.out] at h
      have h2 := (Nat.le_div_iff_mul_le hY0).1 h
      have h3 : 1 * Y ≤ 2 ^ (54 - 1) * Y := Nat.mul_le_mul_right Y (Nat.pow_pos (by omega))
      omega
    have hthr3 : wc.cell? ⟨1, 0, none⟩ = some (.int .i64 40) := (HB3.out.cell (p := ⟨1, 0, none⟩) hK1).trans hthr
    have HDV := natDiv_all K sp bA cA2 bB cB2 X Y _ _ wc hs3 hthr3 hK1 hKA3 HOA3.out HOB3.out hne3 hY0 hle (by omega) (by omega) hcA3 hcB3
    have HQ : Hid (X / Y = uq P D e0) := by rw [HXu.out, HYu.out]; exact hid rfl
    have HRM : Hid (X % Y = ur P D e0) := by rw [HXu.out, HYu.out]; exact hid rfl
    clear hle hthr3 hs3 HBP HBD HOA2 HOB hs2 HBW
    obtain ⟨q, hq⟩ : ∃ q, X / Y = q := ⟨_, rfl⟩
    rw [hq] at HDV HQ
    obtain ⟨rl, hrl⟩ : ∃ rl, (dg 18446744073709551616 (X % Y)).length = rl := ⟨_, rfl⟩
    rw [hrl] at HDV
    have HRL : Hid (rl = 0 ↔ ur P D e0 = 0) := by
      rw [← hrl, HRM.out, List.length_eq_zero_iff, dg_nil_iff (by omega)]; exact hid Iff.rfl
    have hqlo : 9007199254740992 ≤ q := by have := HFQ.out.1; rw [← HQ.out] at this; exact this
    have hqhi : q < 36028797018963968 := by have := HFQ.out.2; rw [← HQ.out] at this; exact this
    clear hq hrl
    go_wp2_with fail
    refine HDV.mono ?_
    rintro e w4 ⟨bq, cq, br, cr, t', rfl, hdq, hs4, hb4⟩
    have HL64 := low64_q bq cq q w4 hdq (by omega)
    have HS4 := hid hs4
    have HB4 := hid (HB3.out.trans hb4)
    clear HDV hdq hs4 hb4 HB3 HOA3 HOB3
    go_wp2_with fail
    refine HL64.mono ?_
    rintro e w5 ⟨rfl, rfl⟩
    clear HL64
    obtain ⟨E, hE⟩ : ∃ E, E = e1 P D := ⟨_, rfl⟩
    obtain ⟨k1, k2⟩ := e1_cases hD (show e0 = (blen P : Int) - blen D - 54 by omega)
    rw [← hE, ← HQ.out] at k1 k2
    have HK1 := hid k1
    have HK2 := hid k2
    have HE := hid hE
    rw [← hE] at hlow
    have HEU : Hid (E < e0 + 2) := by
      rcases Nat.lt_or_ge q 18014398509481984 with h | h
      · exact hid (by rw [k1 h]; omega)
      · exact hid (by rw [(k2 h).1]; omega)
    clear k1 k2 hE he0'
    have ex0 : (alen : Int) - dlen = e0 + 54 := by omega
    rw [ex0]
    have hed : -3000 ≤ e0 ∧ e0 ≤ 3000 := by omega
    clear ex0 he0 hbl hp0 hd0 n1 n2 HAL HDL
    go_upto_if 71 with fail
    go_cut [16, 17, 10] from 66 (fun vm vh vx wx => ∃ (q1 : Nat) (R1 : Bool), vm = .int .u64 q1 ∧ vh = .bool R1 ∧ vx = .int .i64 (E + 54) ∧ 9007199254740992 ≤ q1 ∧ q1 < 18014398509481984 ∧ Hid (q1 = uq P D E) ∧ Hid (R1 = true ↔ ur P D E ≠ 0) ∧ wx = w5)
    case first =>
      rcases Nat.lt_or_ge q 18014398509481984 with hq | hq
      · have hEe := HK1.out hq
        have cq1 : ((q : Int) / 18014398509481984 == 1) = false := by simp; omega
        go_wp2_with fail
        go_meet
        refine ⟨q, _, rfl, rfl, by rw [hEe], hqlo, hq, by rw [hEe]; exact HQ, ?_, rfl⟩
        rw [hEe]
        have := HRL.out
        exact hid (by simp; omega)
      · obtain ⟨hEe, k3, k4⟩ := HK2.out hq
        have cq1 : ((q : Int) / 18014398509481984 == 1) = true := by simp; omega
        have b1 := band1q q (by omega)
        have HK3 := hid k3
        have HK4 := hid k4
        clear k3 k4
        have hq2 : 9007199254740992 ≤ q / 2 ∧ q / 2 < 18014398509481984 := by omega
        rcases Nat.mod_two_eq_zero_or_one q with h2 | h2
        · rw [h2] at b1
          go_wp2_with fail
          go_meet
          refine ⟨q / 2, _, by simp, rfl, by rw [hEe]; congr 1; omega, hq2.1, hq2.2, by rw [hEe, HK3.out, HQ.out]; exact hid rfl, ?_, rfl⟩
          rw [hEe]
          have h3 := HRL.out
          have h4 := HK4.out
          exact hid (by rw [Ne, h4]; simp [h2]; omega)
        · rw [h2] at b1
          go_wp2_with fail
          go_meet
          refine ⟨q / 2, true, by simp, rfl, by rw [hEe]; congr 1; omega, hq2.1, hq2.2, by rw [hEe, HK3.out, HQ.out]; exact hid rfl, ?_, rfl⟩
          rw [hEe]
          have h4 := HK4.out
          exact hid (by rw [Ne, h4]; simp [h2])
    case rest =>
      obtain ⟨q1, R1, rfl, rfl, rfl, hlo1, hhi1, HQ1, HR1, rfl⟩ := hcut
      clear HQ HRM HRL HK1 HK2 HFQ HXu HYu hlX hlY hY0 hqlo hqhi hthr ha hb
      have cp : ((q1 : Int) / 9007199254740992 != 1) = false := by simp; omega
      have hE3 : E ≤ 3002 := by have := HEU.out; omega
      clear HEU
      go_upto_if 88 with fail
      go_cut [16, 17, 10, 18, 19] from 66 (fun vm vh vx _ _ wx => ∃ (q2 : Nat) (R2 : Bool) (F : Int), vm = .int .u64 q2 ∧ vh = .bool R2 ∧ vx = .int .i64 (F + 54) ∧ q2 < 18014398509481984 ∧ Hid (F = max E (-1075)) ∧ (9007199254740992 ≤ q2 ∨ F = -1075) ∧ -1075 ≤ F ∧ F ≤ 3002 ∧ Hid (q2 = uq P D F) ∧ Hid (R2 = true ↔ ur P D F ≠ 0) ∧ wx = wc)
      case first =>
        rcases Int.lt_or_le E (-1075) with hd | hd
        · obtain ⟨s, hs⟩ : ∃ s : Nat, (s : Int) = -1075 - E := ⟨(-1075 - E).toNat, by omega⟩
          have hs53 : s ≤ 53 := by omega
          have c1 : decide (-1074 ≤ E + 54) = true := decide_eq_true (by omega)
          have c2 : decide (E + 54 ≤ -1022) = true := decide_eq_true (by omega)
          have a1 : (-1022 : Int) - (E + 54 - 1) = (s : Int) := by omega
          have hpow : (2 : Nat) ^ s ≤ 2 ^ 53 := Nat.pow_le_pow_right (by omega) hs53
          have hpow0 := Nat.two_pow_pos s
          have hcast : ((2 : Int) ^ s) = ((2 ^ s : Nat) : Int) := by simp
          obtain ⟨Lm, hLm⟩ : ∃ Lm : Nat, Lm = 2 ^ s - 1 := ⟨_, rfl⟩
          have a2 : IntKind.u64.wrap ((2 : Int) ^ s) = (2 : Int) ^ s := by rw [hcast, IntKind.wrap_u64]; omega
          have a3 : IntKind.u64.wrap ((2 : Int) ^ s - 1) = (Lm : Int) := by rw [hcast, IntKind.wrap_u64]; omega
          have a4 := bandm q1 s (by omega) hs53
          rw [← hLm] at a4
          obtain ⟨lost, hlost⟩ : ∃ lost, lost = q1 % 2 ^ s := ⟨_, rfl⟩
          rw [← hlost] at a4
          obtain ⟨q2, hq2⟩ : ∃ q2, q2 = q1 / 2 ^ s := ⟨_, rfl⟩
          have a5 : (q1 : Int) / 2 ^ s = (q2 : Int) := by rw [hq2]; simp
          obtain ⟨u1, u2⟩ := uq_drop (N := P) hD E s
          rw [show E + (s : Int) = -1075 by omega, ← HQ1.out, ← hq2] at u1
          rw [show E + (s : Int) = -1075 by omega, ← HQ1.out, ← hlost] at u2
          have hq2b : q2 < 18014398509481984 := by rw [hq2]; exact Nat.lt_of_le_of_lt (Nat.div_le_self _ _) hhi1
          have U1 := hid u1
          have U2 := hid u2
          have HF : Hid ((-1075 : Int) = max E (-1075)) := hid (by omega)
          clear hq2 hlost hLm hpow hpow0 hcast u1 u2 hs
          have HR1o := HR1.out
          cases R1
          · have hr0 : ur P D E = 0 := by
              rcases Nat.eq_zero_or_pos (ur P D E) with h | h
              · exact h
              · have := HR1o.2 (by omega); cases this
            have HR0 := hid hr0
            clear hr0 HR1o
            rcases Nat.eq_zero_or_pos lost with hl | hl
            · subst hl
              go_wp2_with fail
              go_meet
              refine ⟨q2, false, -1075, rfl, rfl, rfl, hq2b, HF, .inr rfl, by omega, by omega, hid U1.out.symm, ?_, rfl⟩
              exact hid (by rw [Ne, U2.out, HR0.out]; simp)
            · have hl1 : ((lost : Int) != 0) = true := by simp; omega
              have hl2 : ¬ lost = 0 := by omega
              go_wp2_with fail
              go_meet
              refine ⟨q2, true, -1075, rfl, rfl, rfl, hq2b, HF, .inr rfl, by omega, by omega, hid U1.out.symm, ?_, rfl⟩
              exact hid (by rw [Ne, U2.out, HR0.out]; simp [hl2])
          · have HR0 := hid (HR1o.1 rfl)
            clear HR1o
            go_wp2_with fail
            go_meet
            refine ⟨q2, true, -1075, rfl, rfl, rfl, hq2b, HF, .inr rfl, by omega, by omega, hid U1.out.symm, ?_, rfl⟩
            exact hid (by rw [Ne, U2.out]; simp [HR0.out])
        · have c2 : decide (E + 54 ≤ -1022) = false := decide_eq_false (by omega)
          have c2' : ¬ E + 54 ≤ -1022 := by omega
          go_wp2_with fail
          go_meet
          exact ⟨q1, R1, E, rfl, rfl, rfl, hhi1, hid (by omega), .inl hlo1, hd, hE3, HQ1, HR1, rfl⟩
      case rest =>
        obtain ⟨q2, R2, F, rfl, rfl, rfl, hq2, HF, hFc, hFlo, hFhi, HQ2, HR2, rfl⟩ := hcut
        obtain ⟨r1, r2⟩ := round_last (N := P) hD F
        rw [← HQ2.out] at r1 r2
        have HN := hid r1
        have HLF := hid r2
        have b1 := band1q q2 (by omega)
        have b2 := band2 q2 (by omega)
        clear r1 r2 HQ1 HR1
        go_upto_if 110 with fail
        go_cut [16, 7, 10] from 66 (fun vm ve vx wx => ∃ (m3 : Nat) (ex : Bool) (x3 : Int), vm = .int .u64 m3 ∧ ve = .bool ex ∧ vx = .int .i64 x3 ∧ m3 < 18014398509481984 ∧ Hid (ex = true ↔ left P D (F + 1) = 0) ∧ Hid ((m3 / 2 = near P D (F + 1) ∧ x3 = F + 54) ∨ (m3 = 9007199254740992 ∧ near P D (F + 1) = 9007199254740992 ∧ x3 = F + 55)) ∧ (9007199254740992 ≤ m3 ∨ F = -1075) ∧ wx = wc)
        case first =>
          have hr2 := HR2.out
          rcases Nat.mod_two_eq_zero_or_one q2 with h2 | h2
          · rw [h2] at b1
            go_wp2_with fail
            go_meet
            refine ⟨q2, !R2, F + 54, rfl, rfl, rfl, hq2, ?_, ?_, hFc, rfl⟩
            · have := HLF.out
              rw [h2] at this
              cases R2
              · refine hid ⟨fun _ => this.2 ⟨?_, rfl⟩, fun _ => rfl⟩
                rcases Nat.eq_zero_or_pos (ur P D F) with h | h
                · exact h
                · have := hr2.2 (by omega); cases this
              · refine hid ⟨fun h => (by cases h), fun h => absurd (this.1 h).1 (hr2.1 rfl)⟩
            · have := HN.out
              rw [if_neg (by rw [h2]; omega)] at this
              exact hid (.inl ⟨this.symm, rfl⟩)
          · rw [h2] at b1
            have hnl : ¬ left P D (F + 1) = 0 := by
              rw [HLF.out, h2]; omega
            have HNL := hid hnl
            clear hnl
            by_cases hup : R2 = true ∨ q2 / 2 % 2 = 1
            · have hnear : near P D (F + 1) = (q2 + 1) / 2 := by
                rw [HN.out, if_pos]
                refine ⟨h2, ?_⟩
                rcases hup with h | h
                · exact .inl (hr2.1 h)
                · exact .inr h
              have HNR := hid hnear
              clear hnear
              have hq21 : q2 + 1 ≤ 18014398509481984 := by omega
              have hup2 : R2 = true ∨ (R2 = false ∧ q2 / 2 % 2 = 1) := by
                cases R2
                · rcases hup with h | h
                  · cases h
                  · exact .inr ⟨rfl, h⟩
                · exact .inl rfl
              clear hup hr2
              by_cases hbig : q2 + 1 = 18014398509481984
              · have cb : decide ((18014398509481984 : Int) ≤ (q2 : Int) + 1) = true := decide_eq_true (by omega)
                have cb' : (18014398509481984 : Int) ≤ (q2 : Int) + 1 := by omega
                have hd2 : ((q2 : Int) + 1) / 2 = 9007199254740992 := by omega
                have hn2 : near P D (F + 1) = 9007199254740992 := by rw [HNR.out]; omega
                have HN2 := hid hn2
                clear hn2
                rcases hup2 with h | ⟨h, hb⟩
                · subst h
                  go_wp2_with fail
                  go_meet
                  exact ⟨9007199254740992, false, F + 55, by simp, rfl, by congr 1; omega, by omega, hid ⟨fun h => (by cases h), fun h => absurd h HNL.out⟩, hid (.inr ⟨rfl, HN2.out, rfl⟩), .inl (Nat.le_refl _), rfl⟩
                · subst h
                  rw [hb] at b2
                  go_wp2_with fail
                  go_meet
                  exact ⟨9007199254740992, false, F + 55, by simp, rfl, by congr 1; omega, by omega, hid ⟨fun h => (by cases h), fun h => absurd h HNL.out⟩, hid (.inr ⟨rfl, HN2.out, rfl⟩), .inl (Nat.le_refl _), rfl⟩
              · have cb : decide ((18014398509481984 : Int) ≤ (q2 : Int) + 1) = false := decide_eq_false (by omega)
                have cb' : ¬ (18014398509481984 : Int) ≤ (q2 : Int) + 1 := by omega
                rcases hup2 with h | ⟨h, hb⟩
                · subst h
                  go_wp2_with fail
                  go_meet
                  exact ⟨q2 + 1, false, F + 54, by simp, rfl, rfl, by omega, hid ⟨fun h => (by cases h), fun h => absurd h HNL.out⟩, hid (.inl ⟨HNR.out.symm, rfl⟩), by omega, rfl⟩
                · subst h
                  rw [hb] at b2
                  go_wp2_with fail
                  go_meet
                  exact ⟨q2 + 1, false, F + 54, by simp, rfl, rfl, by omega, hid ⟨fun h => (by cases h), fun h => absurd h HNL.out⟩, hid (.inl ⟨HNR.out.symm, rfl⟩), by omega, rfl⟩
            · have hR2 : R2 = false := Bool.eq_false_iff.2 (fun h => hup (.inl h))
              have hb : q2 / 2 % 2 = 0 := by omega
              subst hR2
              rw [hb] at b2
              have hnear : near P D (F + 1) = q2 / 2 := by
                rw [HN.out, if_neg]
                rintro ⟨_, h | h⟩
                · have := hr2.2 h; cases this
                · omega
              have HNR := hid hnear
              clear hnear hup hr2
              go_wp2_with fail
              go_meet
              exact ⟨q2, false, F + 54, rfl, rfl, rfl, hq2, hid ⟨fun h => (by cases h), fun h => absurd h HNL.out⟩, hid (.inl ⟨HNR.out.symm, rfl⟩), hFc, rfl⟩
        case rest =>
          obtain ⟨m3, ex, x3, rfl, rfl, rfl, hm3, HEX, HNX, hmc, rfl⟩ := hcut
          clear HN HLF HR2 HQ2
          obtain ⟨M, hM⟩ : ∃ M, M = m3 / 2 := ⟨_, rfl⟩
          have dM : (m3 : Int) / 2 = (M : Int) := by rw [hM]; simp
          have HM := hid hM
          clear hM b1 b2 cp
          obtain ⟨kk, hkk⟩ : ∃ kk : Nat, (kk : Int) = F + 1075 := ⟨(F + 1075).toNat, by omega⟩
          have hun : uni P D = F + 1 := by
            unfold uni
            rw [← HE.out, HF.out]; omega
          have hk2 : (uni P D + 1074).toNat = kk := by omega
          have hLD := fun w => ldexp_rounded M kk (near P D (F + 1)) x3 w (by rw [HM.out]; omega) (by omega) (by
            rcases HNX.out with ⟨g1, g2⟩ | ⟨g1, g2, g3⟩
            · exact .inl ⟨by rw [HM.out]; exact g1, by omega⟩
            · exact .inr ⟨by rw [HM.out, g1], g2, by omega⟩) (by
            rcases hmc with g | g
            · exact .inl (by rw [HM.out]; omega)
            · exact .inr (by omega))
          obtain ⟨r, hr⟩ : ∃ r, r = kk * 4503599627370496 + near P D (F + 1) := ⟨_, rfl⟩
          rw [← hr] at hLD
          have HEXo := HEX.out
          have HR5 : Hid ((uni P D + 1074).toNat * 4503599627370496 + near P D (uni P D) = r) := by rw [hk2, hun]; exact hid hr.symm
          have HLE : Hid (left P D (uni P D) = 0 ↔ ex = true) := by rw [hun]; exact hid HEXo.symm
          clear hkk hun hk2 hr HNX HF HM hmc hFc HEXo HEX
          rcases Nat.lt_or_ge r 9218868437227405312 with hfin | hinf
          · rw [Nat.min_eq_left (Nat.le_of_lt hfin)] at hLD
            have HFIN : Hid (min ((uni P D + 1074).toNat * 4503599627370496 + near P D (uni P D)) 9218868437227405312 = r ∧ (decide (left P D (uni P D) = 0) && decide ((uni P D + 1074).toNat * 4503599627370496 + near P D (uni P D) < 9218868437227405312)) = ex) := by
              rw [HR5.out]
              refine hid ⟨Nat.min_eq_left (Nat.le_of_lt hfin), ?_⟩
              rw [decide_eq_true hfin, Bool.and_true]
              cases ex
              · exact decide_eq_false (fun h => by have := HLE.out.1 h; cases this)
              · exact decide_eq_true (HLE.out.2 rfl)
            have HI := fun w => isInf_fin r (by omega) (by rw [Nat.mod_eq_of_lt (by omega)]; exact hfin) w
            clear hfin HLE HR5
            go_wp2_with fail
            refine (hLD _).mono ?_
            rintro e w6 ⟨rfl, rfl⟩
            go_wp2_with fail
            refine (HI _).mono ?_
            rintro e w7 ⟨rfl, rfl⟩
            clear HI hLD
            go_wp2_with fail
            go_ret2
            exact ⟨t', (by rw [HFIN.out.1, HFIN.out.2]; rfl), HS4.out, HB4.out⟩
          · rw [Nat.min_eq_right hinf] at hLD
            have HFIN : Hid (min ((uni P D + 1074).toNat * 4503599627370496 + near P D (uni P D)) 9218868437227405312 = 9218868437227405312 ∧ (decide (left P D (uni P D) = 0) && decide ((uni P D + 1074).toNat * 4503599627370496 + near P D (uni P D) < 9218868437227405312)) = false) := by
              rw [HR5.out]
              refine hid ⟨Nat.min_eq_right hinf, ?_⟩
              rw [decide_eq_false (p := r < 9218868437227405312) (by omega), Bool.and_false]
            have HI := fun w => isInf_inf 9218868437227405312 (by omega) (by decide) w
            clear hinf HLE HR5
            go_wp2_with fail
            refine (hLD _).mono ?_
            rintro e w6 ⟨rfl, rfl⟩
            go_wp2_with fail
            refine (HI _).mono ?_
            rintro e w7 ⟨rfl, rfl⟩
            clear HI hLD
            go_wp2_with fail
            go_ret2
            exact ⟨t', (by rw [HFIN.out.1, HFIN.out.2]; rfl), HS4.out, HB4.out⟩
end Go.Proofs.YtgdgklhfakplhaaGreatDoor
