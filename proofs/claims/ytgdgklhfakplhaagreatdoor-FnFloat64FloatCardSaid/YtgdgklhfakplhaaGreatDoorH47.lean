/- Walks and lemmas for the laws of this seat. -/
import Derived.Test.YtgdgklhfakplhaaGreatDoorH46
namespace Go.Proofs.YtgdgklhfakplhaaGreatDoor
open Go.RowKit Go.Dig Go.Rnd
set_option maxRecDepth 100000
theorem signOf_any (neg : Bool) (vN vD : Value) (P : Nat) (w : World) (hN : Nt w vN P) :
    Calls Tryz.prog 14 #[.agg #[.bool neg, vN, vD]] w fun e' w' => e' = .returned (.int .i64 (if P = 0 then 0 else if neg then -1 else 1)) ∧ Below w.heap.size w w' := by
  obtain ⟨a, c, rfl, _⟩ := hN
  rcases Nat.eq_zero_or_pos P with h0 | h0
  · subst h0
    rw [dg_zero, if_pos rfl]
    go_enter Tryz.func14, Tryz.ntmps14
    go_wp2_with fail
    go_ret
    exact ⟨rfl, (Below.refl _ _).alloc (Nat.le_refl _) _⟩
  · have hl : 0 < (dg 65536 P).length := by
      rcases Nat.eq_zero_or_pos (dg 65536 P).length with h | h
      · have := (dg_nil_iff (b := 65536) (by omega)).1 (List.length_eq_zero_iff.1 h); omega
      · exact h
    have hne : (((dg 65536 P).length : Int) == 0) = false := by simp; intro h; rw [h] at hl; simp at hl
    rw [if_neg (by omega)]
    generalize (dg 65536 P).length = L at *
    cases neg
    · go_enter Tryz.func14, Tryz.ntmps14
      go_wp2_with fail
      go_ret
      exact ⟨rfl, (Below.refl _ _).alloc (Nat.le_refl _) _⟩
    · go_enter Tryz.func14, Tryz.ntmps14
      go_wp2_with fail
      go_ret
      exact ⟨rfl, (Below.refl _ _).alloc (Nat.le_refl _) _⟩
theorem left_le3 (P D : Nat) (U : Int) : left P D U ≤ 3 := by
  unfold left Go.Rnd.leftOf
  split
  · omega
  · split
    · omega
    · split <;> omega
set_option maxHeartbeats 4000000 in
theorem bits52 (neg : Bool) (vN vD : Value) (P D : Nat) (U : Int) (w : World) (hN : Nt w vN P) (hD : Nt w vD D) (hP0 : 0 < P) (hD0 : 0 < D) (hlN : (dg 65536 P).length ≤ 200) (hlD : (dg 65536 D).length ≤ 200)
    (hU1 : 53 < blen (uq P D (max ((blen P : Int) - blen D - 53) (-1074))) → U = max ((blen P : Int) - blen D - 53) (-1074) + 1) (hU2 : blen (uq P D (max ((blen P : Int) - blen D - 53) (-1074))) ≤ 53 → U = max ((blen P : Int) - blen D - 53) (-1074)) (hqU : uq P D U < 9007199254740992) (hnU : (-1074) < U → 4503599627370496 ≤ near P D U) :
    Calls Tryz.prog 15 #[.agg #[.bool neg, vN, vD], .int .i64 52, .int .i64 (-1074), .int .i64 2047] w fun e' w' => e' = .returned (.tuple #[.int .i64 ((min ((U - (-1074)).toNat * 4503599627370496 + near P D U) 9218868437227405312 : Nat) : Int), .bool (decide (left P D U = 0) && decide ((U - (-1074)).toNat * 4503599627370496 + near P D U < 9218868437227405312))]) ∧ Hid (Below w.heap.size w w') := by
  obtain ⟨RR, hRR⟩ : ∃ R : Nat, R = min ((U - (-1074)).toNat * 4503599627370496 + near P D U) 9218868437227405312 := ⟨_, rfl⟩
  obtain ⟨XX, hXX⟩ : ∃ X : Bool, X = (decide (left P D U = 0) && decide ((U - (-1074)).toNat * 4503599627370496 + near P D U < 9218868437227405312)) := ⟨_, rfl⟩
  rw [← hRR, ← hXX]
  have HRR := hid hRR
  have HXX := hid hXX
  clear hRR hXX
  have hba : blen P ≤ 3200 := blen_dg hlN
  have hbb : blen D ≤ 3200 := blen_dg hlD
  have HBP : ∀ wx, Nt wx vN P → Calls Tryz.prog 26 #[vN] wx fun e w' => e = .returned (.int .i64 (blen P)) ∧ w' = wx := fun wx h => len_any vN P wx h (by omega)
  have HBD : ∀ wx, Nt wx vD D → Calls Tryz.prog 26 #[vD] wx fun e w' => e = .returned (.int .i64 (blen D)) ∧ w' = wx := fun wx h => len_any vD D wx h (by omega)
  obtain ⟨aN, lN, cN, rfl⟩ : ∃ a l c, vN = .slice a l c := by obtain ⟨a, c, h, _⟩ := hN; exact ⟨a, _, c, h⟩
  obtain ⟨aD, lD, cD, rfl⟩ : ∃ a l c, vD = .slice a l c := by obtain ⟨a, c, h, _⟩ := hD; exact ⟨a, _, c, h⟩
  obtain ⟨a, ha⟩ : ∃ a, blen P = a := ⟨_, rfl⟩
  obtain ⟨b, hb⟩ : ∃ b, blen D = b := ⟨_, rfl⟩
  rw [ha] at hba hU1 hU2 HBP
  rw [hb] at hbb hU1 hU2 HBD
  obtain ⟨u0, hu0⟩ : ∃ u : Int, u = max ((a : Int) - b - 53) (-1074) := ⟨_, rfl⟩
  rw [← hu0] at hU1 hU2
  have hur : (-1074) ≤ u0 ∧ u0 ≤ 3200 := by omega
  have hUr : (-1074) ≤ U ∧ U ≤ 3201 := by
    rcases Nat.lt_or_ge 53 (blen (uq P D u0)) with g | g
    · have := hU1 g; omega
    · have := hU2 g; omega
  have hlq : (dg 65536 (uq P D u0)).length ≤ 100000 := by
    have h1 : uq P D u0 ≤ un P u0 := Nat.div_le_self _ _
    exact Nat.le_trans (dg_length_mono (by omega) h1) (shl_len hlN (by omega))
  have hn0 : blen (uq P D u0) ≤ 1600000 := blen_dg hlq
  have HUN := units_any neg (.slice aN lN cN) (.slice aD lD cD) P D u0
  have HUN2 := units_any neg (.slice aN lN cN) (.slice aD lD cD) P D (u0 + 1)
  have s1 : IntKind.i64.wrap ((a : Int) - (b : Int)) = (a : Int) - b := by rw [IntKind.wrap_i64]; omega
  have s2 : IntKind.i64.wrap ((a : Int) - (b : Int) - 1) = (a : Int) - b - 1 := by rw [IntKind.wrap_i64]; omega
  have s3 : IntKind.i64.wrap ((a : Int) - (b : Int) - 1 - 52) = (a : Int) - b - 1 - 52 := by rw [IntKind.wrap_i64]; omega
  have HU1 := hid hU1
  have HU2 := hid hU2
  have HQU := hid hqU
  have HNU := hid hnU
  have HP0 := hid hP0
  have HD0 := hid hD0
  have HLN := hid hlN
  have HLD := hid hlD
  have HLQ := hid hlq
  have HHU := hid hUr
  have HHBP := hid HBP
  have HHBD := hid HBD
  have HHUN := hid HUN
  have HHUN2 := hid HUN2
  have HN := hid hN
  have HD := hid hD
  have HN0 := hid hn0
  clear hU1 hU2 hqU hnU hP0 hD0 hlN hlD hlq hUr HBP HBD HUN HUN2 hN hD hn0 ha hb
  go_enter Tryz.func15, Tryz.ntmps15
  go_wp2_with fail
  have hB0 : Blk (w.alloc (.cells #[.bool neg, .slice aN lN cN, .slice aD lD cD] 31)) w.heap.size #[.bool neg, .slice aN lN cN, .slice aD lD cD] 31 := blk_new w _ 31
  have hb0 : Below w.heap.size w (w.alloc (.cells #[.bool neg, .slice aN lN cN, .slice aD lD cD] 31)) := (Below.refl _ _).alloc (Nat.le_refl _) _
  generalize w.alloc (.cells #[.bool neg, .slice aN lN cN, .slice aD lD cD] 31) = w0 at *
  have HN1 := hid (HN.out.below hb0 (Nat.le_refl _))
  have HD1 := hid (HD.out.below hb0 (Nat.le_refl _))
  have HB0 := hid hB0
  have HE0 := hid hb0
  have c0 := hB0.cell 0
  have c1 := hB0.cell 1
  have c2 := hB0.cell 2
  simp only [List.getElem?_toArray, List.getElem?_cons_zero, List.getElem?_cons_succ] at c0 c1 c2
  clear hB0 hb0 HN HD
  go_quiet (first | (go_at_call_of 26 aN; exact Calls.quiet_of_same (HHBP.out _ HN1.out)) | (go_at_call_of 26 aD; exact Calls.quiet_of_same (HHBD.out _ HD1.out)))
  clear s1 s2 s3
  have HN2 := hid (HN1.out.below (below_drewN' nq) (Nat.le_refl _))
  have HD2 := hid (HD1.out.below (below_drewN' nq) (Nat.le_refl _))
  have HB2 := hid (HB0.out.below (below_drewN' nq) HB0.out.lt)
  have HE2 := hid (below_next HE0.out (below_drewN' nq))
  have d0 := HB2.out.cell 0
  have d1 := HB2.out.cell 1
  have d2 := HB2.out.cell 2
  simp only [List.getElem?_toArray, List.getElem?_cons_zero, List.getElem?_cons_succ] at d0 d1 d2
  clear HN1 HD1 HB0 HE0 c0 c1 c2
  generalize w0.drewN nq = w1 at *
  go_upto_if 27 with fail
  go_cut [10] from 25 (fun v wx => v = .int .i64 u0 ∧ wx = w1)
  case first =>
    rcases Int.lt_or_le ((a : Int) - b - 1 - 52) (-1074) with g | g
    · have g1 : decide ((a : Int) - b - 1 - 52 < (-1074)) = true := decide_eq_true g
      have e : u0 = (-1074) := by omega
      have EU := hid e
      clear hu0 e
      go_wp2_with fail
      go_meet
      exact ⟨by rw [EU.out], rfl⟩
    · have g1 : decide ((a : Int) - b - 1 - 52 < (-1074)) = false := decide_eq_false (by omega)
      have e : u0 = (a : Int) - b - 1 - 52 := by omega
      have EU := hid e
      clear hu0 e
      go_wp2_with fail
      go_meet
      exact ⟨by rw [EU.out], rfl⟩
  case rest =>
    obtain ⟨rfl, rfl⟩ := hcut
    clear hu0
    have HUN := HHUN.out wc HN2.out HD2.out HD0.out (by omega) (by omega) (by have := HLN.out; omega) (by have := HLD.out; omega)
    go_wp2_with fail
    refine HUN.mono ?_
    rintro e w2 ⟨vq, rfl, hq, hb2⟩
    have HQ3 := hid hq
    have HN3 := hid (HN2.out.below hb2 (Nat.le_refl _))
    have HD3 := hid (HD2.out.below hb2 (Nat.le_refl _))
    have HB3 := hid (HB2.out.below hb2 HB2.out.lt)
    have HE3 := hid (below_next HE2.out hb2)
    have HLE := len_any vq (uq P D u0) w2 hq HLQ.out
    have HUN2 := HHUN2.out w2 HN3.out HD3.out HD0.out (by omega) (by omega) (by have := HLN.out; omega) (by have := HLD.out; omega)
    obtain ⟨aq, lq, cq, rfl⟩ : ∃ a l c, vq = .slice a l c := by obtain ⟨a, c, h, _⟩ := hq; exact ⟨a, _, c, h⟩
    obtain ⟨n0, hn0⟩ : ∃ n, blen (uq P D u0) = n := ⟨_, rfl⟩
    have HU1' : Hid (53 < n0 → U = u0 + 1) := hn0 ▸ HU1
    have HU2' : Hid (n0 ≤ 53 → U = u0) := hn0 ▸ HU2
    have hn0b : n0 ≤ 1600000 := hn0 ▸ HN0.out
    rw [hn0] at HLE
    clear HUN hq hb2 HN2 HD2 HB2 HE2 d0 d1 d2 hn0 HU1 HU2
    have d0 := HB3.out.cell 0
    have d1 := HB3.out.cell 1
    have d2 := HB3.out.cell 2
    simp only [List.getElem?_toArray, List.getElem?_cons_zero, List.getElem?_cons_succ] at d0 d1 d2
    go_wp2_with fail
    refine HLE.mono ?_
    rintro e w' ⟨rfl, rfl⟩
    clear HLE
    go_upto_if 39 with fail
    go_cut [10, 11, 12] from 35 (fun v u l wx => v = .int .i64 U ∧ l = .int .i64 ((left P D U : Nat) : Int) ∧ Nt wx u (uq P D U) ∧ Hid (Below w.heap.size w wx))
    case first =>
      rcases Nat.lt_or_ge 53 n0 with g | g
      · have g1 : decide ((53 : Int) < (n0 : Int)) = true := decide_eq_true (by omega)
        have EU := hid (HU1'.out g)
        go_wp2_with fail
        refine HUN2.mono ?_
        rintro e w3 ⟨vq2, rfl, hq, hb3⟩
        have HE4 := hid (below_next HE3.out hb3)
        have HQ4 := hid hq
        obtain ⟨aq2, lq2, cq2, rfl⟩ : ∃ a l c, vq2 = .slice a l c := by obtain ⟨a, c, h, _⟩ := hq; exact ⟨a, _, c, h⟩
        clear HUN2 hq hb3
        go_wp2_with fail
        go_meet
        exact ⟨by rw [EU.out], by rw [EU.out], by rw [EU.out]; exact HQ4.out, HE4⟩
      · have g1 : decide ((53 : Int) < (n0 : Int)) = false := decide_eq_false (by omega)
        have EU := hid (HU2'.out g)
        clear HUN2
        go_wp2_with fail
        go_meet
        exact ⟨by rw [EU.out], by rw [EU.out], by rw [EU.out]; exact HQ3.out, HE3⟩
    case rest =>
      obtain ⟨rfl, rfl, HQ, HEW⟩ := hcut
      obtain ⟨w4, e4⟩ : ∃ w4, w4 = wc := ⟨_, rfl⟩
      subst e4
      clear HUN2 HN3 HD3 HB3 HE3 HQ3 d0 d1 d2 HU1' HU2' hn0b HHUN HHUN2 HHBP HHBD HLQ HN0 HLN HLD
      have hl3 := left_le3 P D U
      obtain ⟨l, hl⟩ : ∃ l, left P D U = l := ⟨_, rfl⟩
      obtain ⟨q, hq⟩ : ∃ q, uq P D U = q := ⟨_, rfl⟩
      obtain ⟨od, hod⟩ : ∃ od : Bool, od = decide (q % 2 = 1) := ⟨_, rfl⟩
      obtain ⟨ru, hru⟩ : ∃ ru : Bool, ru = (decide (l = 3) || (decide (l = 2) && od)) := ⟨_, rfl⟩
      have HNR : Hid (near P D U = q + if ru then 1 else 0) := by
        refine hid ?_
        unfold near Go.Rnd.up
        rw [hl, hq, hru, hod]
      rw [hl] at hl3 ⊢
      rw [hq] at HQ
      have HQU' : Hid (q < 9007199254740992) := hq ▸ HQU
      have HL := hid hl
      have HRU := hid hru
      have HAS := has0_any _ q w4 HQ
      rw [← hod] at HAS
      have HHAS := hid HAS
      have HQ4 := hid HQ
      obtain ⟨a3, l3, c3, rfl⟩ : ∃ a l c, u11 = .slice a l c := by obtain ⟨a, c, h, _⟩ := HQ; exact ⟨a, _, c, h⟩
      clear hl hq hru hod HQU HQ HAS
      go_upto_region 8 with fail
      go_cut [57] from 48 (fun u wx => u = .bool ru ∧ ∃ k, wx = w4.drewN k)
      case first =>
        rcases (by omega : l = 0 ∨ l = 1 ∨ l = 2 ∨ l = 3) with rfl | rfl | rfl | rfl
        · go_wp2_with fail
          go_meet
          exact ⟨by rw [HRU.out]; rfl, 0, rfl⟩
        · go_wp2_with fail
          go_meet
          exact ⟨by rw [HRU.out]; rfl, 0, rfl⟩
        · go_wp2_with fail
          refine HHAS.out.mono ?_
          rintro e w5 ⟨rfl, k, rfl⟩
          go_wp2_with fail
          go_meet
          exact ⟨by rw [HRU.out]; cases od <;> rfl, k, rfl⟩
        · go_wp2_with fail
          go_meet
          exact ⟨by rw [HRU.out]; rfl, 0, rfl⟩
      case rest =>
        obtain ⟨rfl, k4, rfl⟩ := hcut
        have HQ5 : Hid (Nt (w4.drewN k4) (.slice a3 l3 c3) q) := hid (HQ4.out.below (below_drewN' (B := w4.heap.size) k4) (Nat.le_refl _))
        have HE5 := hid (below_next HEW.out (below_drewN' k4))
        clear HHAS HQ4 HEW HRU
        generalize w4.drewN k4 = w5 at *
        have hq0 := HQU'.out
        have hlq5 : (dg 65536 q).length ≤ 4 := dg_length_le (k := 4) (by omega) (by omega)
        go_upto_if 57 with fail
        go_cut [11] from 58 (fun u wx => Nt wx u (near P D U) ∧ Hid (Below w.heap.size w wx))
        case first =>
          cases ru
          · have HNR2 : Hid (near P D U = q) := hid (by have := HNR.out; simpa using this)
            clear HNR
            go_wp2_with fail
            go_meet
            rw [HNR2.out]
            exact ⟨HQ5.out, HE5⟩
          · have HNR2 : Hid (near P D U = q + 1) := hid (by have := HNR.out; simpa using this)
            clear HNR
            go_wp2_with fail
            refine (small_any 1 _ (by omega)).mono ?_
            rintro e w6 ⟨v6, rfl, h6, hb6⟩
            have HAD := add_any (.slice a3 l3 c3) v6 q 1 w6 (HQ5.out.below hb6 (Nat.le_refl _)) h6 (by omega) (Nat.le_trans (dg_length_le (k := 1) (by omega) (by omega)) (by omega))
            have HE6 := hid (below_next HE5.out hb6)
            obtain ⟨a6, l6, c6, rfl⟩ : ∃ a l c, v6 = .slice a l c := by obtain ⟨a, c, h, _⟩ := h6; exact ⟨a, _, c, h⟩
            clear h6 hb6
            go_wp2_with fail
            refine HAD.mono ?_
            rintro e w7 ⟨v7, rfl, h7, hb7⟩
            have HQ7 := hid h7
            have HE7 := hid (below_next HE6.out hb7)
            obtain ⟨a7, l7, c7, rfl⟩ : ∃ a l c, v7 = .slice a l c := by obtain ⟨a, c, h, _⟩ := h7; exact ⟨a, _, c, h⟩
            clear h7 hb7 HAD
            go_wp2_with fail
            go_meet
            rw [HNR2.out]
            exact ⟨HQ7.out, HE7⟩
        case rest =>
          obtain ⟨HQM, HEM⟩ := hcut
          obtain ⟨w6, e6⟩ : ∃ w6, w6 = wc := ⟨_, rfl⟩
          subst e6
          obtain ⟨m, hm⟩ : ∃ m, near P D U = m := ⟨_, rfl⟩
          have hmb : m ≤ 9007199254740992 := by
            have h := HNR.out
            rw [hm] at h
            cases ru <;> simp at h <;> omega
          have HMP : Hid ((-1074) < U → 4503599627370496 ≤ m) := hm ▸ HNU
          have HRM : Hid (RR = min ((U - (-1074)).toNat * 4503599627370496 + m) 9218868437227405312) := hm ▸ HRR
          have HXM : Hid (XX = (decide (left P D U = 0) && decide ((U - (-1074)).toNat * 4503599627370496 + m < 9218868437227405312))) := hm ▸ HXX
          have HXL : Hid (XX = (decide (l = 0) && decide ((U - (-1074)).toNat * 4503599627370496 + m < 9218868437227405312))) := HL.out ▸ HXM
          rw [hm] at HQM
          have hlm : (dg 65536 m).length ≤ 4 := dg_length_le (k := 4) (by omega) (by omega)
          obtain ⟨aM, cM, rfl, hM1, hM2, hM3⟩ := HQM
          obtain ⟨KK, hKK⟩ : ∃ KK, (dg 65536 m).length = KK := ⟨_, rfl⟩
          have hdiv0 : m / 65536 ^ KK = 0 := by
            rw [← hKK]; exact Nat.div_eq_of_lt (lt_pow_dg_length (b := 65536) (by omega) m)
          have HCE : Hid (0 < KK → ∃ b off, aM = some ⟨b, off, none⟩ ∧ ∀ i, i < KK → w6.cell? ⟨b, off + i, none⟩ = some (.int .i64 (m / 65536 ^ i % 65536 : Nat))) := by
            refine hid (fun h => ?_)
            rw [← hKK] at h
            obtain ⟨b, off, e, _, hc⟩ := hM3 h
            refine ⟨b, off, e, fun i hi => ?_⟩
            rw [← hKK] at hi
            have := hc i hi
            rwa [dg_getD (by omega)] at this
          rw [hKK] at hlm hM1 ⊢
          have HDZ := hid hdiv0
          clear hm hM3 hM2 hKK hdiv0 HNR HNU HRR HXX HXM HQU' hq0 HQ5 hlq5 HE5 HL
          go_wp2_with fail
          go_loopw [13, 14] (fun n i wr => ∃ j k : Nat, i = .int .i64 ((j : Int) - 1) ∧ j ≤ KK ∧ n = .int .i64 ((m / 65536 ^ j : Nat) : Int) ∧ wr = w6.drewN k) (fun _ i _ => (intOf i + 1).toNat)
          case atStart => exact ⟨KK, 0, rfl, Nat.le_refl _, by rw [HDZ.out]; rfl, rfl⟩
          case round =>
            obtain ⟨j, k, rfl, hj, rfl, rfl⟩ := hrel
            rcases j with _ | i
            · rw [show ((0 : Nat) : Int) - 1 = -1 by omega, Nat.pow_zero, Nat.div_one]
              have HEK := hid (below_next HEM.out (below_drewN' k))
              generalize w6.drewN k = w7 at *
              obtain ⟨t, ht⟩ : ∃ t, (U - (-1074)).toNat = t := ⟨_, rfl⟩
              obtain ⟨hUl, hUh⟩ := HHU.out
              have HT : Hid ((t : Int) = U - (-1074)) := hid (by omega)
              have HR1 : Hid (RR = min (t * 4503599627370496 + m) 9218868437227405312) := ht ▸ HRM
              have HX1 : Hid (XX = (decide (l = 0) && decide (t * 4503599627370496 + m < 9218868437227405312))) := ht ▸ HXL
              clear ht HRM HXL HCE HDZ HEM
              rcases Nat.lt_or_ge t 2046 with g | g
              · have c1 : U + 1074 < 2046 := by have := HT.out; omega
                go_wp2_with fail
                refine wp_region_quiet_lit (by kernel_rfl) (by kernel_rfl) ?_
                repeat (first | go_big_quiet_step (fail) | quiet_step (fail))
                refine wpQuiet_nil ?_
                intro _ hw'
                obtain ⟨nq, hw2⟩ := hw'
                subst hw2
                have HEQ := hid (below_next HEK.out (below_drewN' nq))
                generalize w7.drewN nq = w8 at *
                go_wp2_with fail
                · rename_i hc
                  have hT := HT.out
                  have e1 : RR = 9218868437227405312 := by rw [HR1.out]; rcases hc with hc | hc <;> omega
                  have e2 : XX = false := by
                    have h3 : decide (t * 4503599627370496 + m < 9218868437227405312) = false := decide_eq_false (by rcases hc with hc | hc <;> omega)
                    rw [HX1.out, h3, Bool.and_false]
                  clear HR1 HX1 hc
                  subst e1 e2
                  go_ret2
                  exact ⟨rfl, HEQ⟩
                · rename_i hc
                  have hT := HT.out
                  have e1 : (U + 1074) * 4503599627370496 + (m : Int) = (RR : Int) := by rw [HR1.out]; omega
                  have e2 : ((l : Int) == 0) = XX := by
                    have h3 : decide (t * 4503599627370496 + m < 9218868437227405312) = true := decide_eq_true (by omega)
                    rw [HX1.out, h3, Bool.and_true]
                    rcases Nat.eq_zero_or_pos l with h | h
                    · rw [h]; rfl
                    · have h4 : decide (l = 0) = false := decide_eq_false (by omega)
                      rw [h4]
                      simp
                      omega
                  clear HR1 HX1 hc
                  rw [e1, e2]
                  go_ret2
                  exact ⟨rfl, HEQ⟩
              · have c1 : ¬ U + 1074 < 2046 := by have := HT.out; omega
                go_wp2_with fail
                go_quiet (fail)
                rename_i nq
                have HEQ := hid (below_next HEK.out (below_drewN' nq))
                generalize w7.drewN nq = w8 at *
                go_wp2_with fail
                have hT := HT.out
                have hm0 := HMP.out (by omega)
                have e1 : RR = 9218868437227405312 := by rw [HR1.out]; omega
                have e2 : XX = false := by
                  have h3 : decide (t * 4503599627370496 + m < 9218868437227405312) = false := decide_eq_false (by omega)
                  rw [HX1.out, h3, Bool.and_false]
                clear HR1 HX1
                subst e1 e2
                go_ret2
                exact ⟨rfl, HEQ⟩
            · obtain ⟨b, off, rfl, hc⟩ := HCE.out (by omega)
              have hci := hc i (by omega)
              have hcj : ∀ n, (w6.drewN n).cell? ⟨b, off + i, none⟩ = w6.cell? ⟨b, off + i, none⟩ := fun n => rfl
              have hi1 : ((i + 1 : Nat) : Int) - 1 = (i : Int) := by omega
              have hn2 : m / 65536 ^ (i + 1) * 65536 + m / 65536 ^ i % 65536 = m / 65536 ^ i := by
                rw [Nat.pow_succ, ← Nat.div_div_eq_div_mul]; omega
              have hnm : m / 65536 ^ i ≤ m := Nat.div_le_self _ _
              obtain ⟨n2, hn2e⟩ : ∃ n2, m / 65536 ^ (i + 1) = n2 := ⟨_, rfl⟩
              obtain ⟨d2, hd2⟩ : ∃ d2, m / 65536 ^ i % 65536 = d2 := ⟨_, rfl⟩
              obtain ⟨nn, hnn⟩ : ∃ nn, m / 65536 ^ i = nn := ⟨_, rfl⟩
              rw [hn2e, hd2, hnn] at hn2
              rw [hd2] at hci
              rw [hnn] at hnm
              have HSUM := hid hn2
              have hn2b : n2 ≤ 9007199254740992 := by omega
              have hd2b : d2 < 65536 := by rw [← hd2]; exact Nat.mod_lt _ (by omega)
              rw [hn2e, hi1]
              have HNN := hid hnn
              clear hn2e hd2 hn2 hc hi1 hnn
              go_wp2_with fail
              have hnn2 := HSUM.out
              refine ⟨⟨i, k, rfl, by omega, ?_, rfl⟩, ?_⟩
              · have x1 : wrap64 ((n2 : Int) * 65536) = (n2 : Int) * 65536 := wrap64_of_le (by omega) (by omega)
                have x2 : wrap64 ((n2 : Int) * 65536 + (d2 : Int)) = (n2 : Int) * 65536 + (d2 : Int) := wrap64_of_le (by omega) (by omega)
                have x3 : (n2 : Int) * 65536 + (d2 : Int) = ((nn : Nat) : Int) := by omega
                rw [HNN.out, x1, x2, x3]
              · show ((i : Int) - 1 + 1).toNat < ((i : Int) + 1).toNat
                omega

end Go.Proofs.YtgdgklhfakplhaaGreatDoor
namespace Go.Proofs.YtgdgklhfakplhaaGreatDoor
open Go.RowKit Go.Dig Go.Rnd
set_option maxRecDepth 100000
/-- What is found at the unit is of 53 digits, and of just so many where the unit is not the least. -/
theorem unit_facts {P D : Nat} (hP : 0 < P) (hD : 0 < D) : uq P D (uni P D) < 9007199254740992 ∧ (-1074 < uni P D → 4503599627370496 ≤ near P D (uni P D)) := by
  obtain ⟨c0, c1⟩ := e1_place hP hD
  rw [show (2 : Nat) ^ 53 = 9007199254740992 by decide] at c0
  rw [show (2 : Nat) ^ (53 + 1) = 18014398509481984 by decide] at c1
  have hh := (uq_half (N := P) hD (e1 P D)).1
  have hu : uni P D = max (e1 P D + 1) (-1074) := rfl
  constructor
  · obtain ⟨s, hs⟩ : ∃ s : Nat, uni P D = e1 P D + 1 + (s : Int) := ⟨(uni P D - e1 P D - 1).toNat, by omega⟩
    have h2 := (uq_drop (N := P) hD (e1 P D + 1) s).1
    rw [hs, h2, hh]
    exact Nat.lt_of_le_of_lt (Nat.div_le_self _ _) (by omega)
  · intro h
    have e : uni P D = e1 P D + 1 := by omega
    have h2 : 4503599627370496 ≤ uq P D (e1 P D) / 2 := by omega
    rw [e]
    unfold near
    rw [hh]
    exact Nat.le_trans h2 (Nat.le_add_right _ _)
theorem res64_lt (P D : Nat) : res64 P D < 9223372036854775808 := by unfold res64; omega
end Go.Proofs.YtgdgklhfakplhaaGreatDoor
