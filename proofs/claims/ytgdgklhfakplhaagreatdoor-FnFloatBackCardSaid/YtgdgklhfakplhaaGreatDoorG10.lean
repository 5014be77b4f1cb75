/- Walks and lemmas for the laws of this seat. -/
import Derived.Test.YtgdgklhfakplhaaGreatDoorG09
namespace Go.Proofs.YtgdgklhfakplhaaGreatDoor
open Go.RowKit Go.Dig
set_option maxRecDepth 100000
theorem below_next {w wr w1 : World} (h : Below w.heap.size w wr) (h1 : Below wr.heap.size wr w1) : Below w.heap.size w w1 := h.trans (h1.mono h.size)
theorem blen_dg {m k : Nat} (h : (dg 65536 m).length ≤ k) : blen m ≤ 16 * k := by
  apply blen_le
  have h1 := lt_pow_dg_length (b := 65536) (by omega) m
  have e : (65536 : Nat) = 2 ^ 16 := rfl
  rw [Nat.pow_mul, ← e]
  exact Nat.lt_of_lt_of_le h1 (Nat.pow_le_pow_right (by omega) h)
set_option maxHeartbeats 1000000 in
theorem divmod_one (va vb : Value) (m n : Nat) (w : World) (hma : Nt w va m) (hmb : Nt w vb n) (hla : (dg 65536 m).length ≤ 100000) (hn : n ≠ 0) (hlb : (dg 65536 n).length = 1) :
    Calls Tryz.prog 57 #[va, vb] w fun e w' => ∃ v v', e = .returned (.tuple #[v, v']) ∧ Nt w' v (m / n) ∧ Nt w' v' (m % n) ∧ Below w.heap.size w w' := by
  have HB := hid hmb
  have hn1 : n < 65536 := by
    have := lt_pow_dg_length (b := 65536) (by omega) n
    rw [hlb] at this; omega
  obtain ⟨a2, cap2, rfl, h12, h22, h32⟩ := hmb
  obtain ⟨b, off, rfl, _, hb3⟩ := h32 (by omega)
  have hk := hb3 0 (by omega)
  have hd : (dg 65536 n).getD 0 0 = n := by
    rw [dg_getD (by omega), Nat.pow_zero, Nat.div_one]
    exact Nat.mod_eq_of_lt hn1
  rw [hd] at hk
  rw [hlb] at *
  simp only [Nat.add_zero] at hk
  go_enter Tryz.func57, Tryz.ntmps57
  go_wp2_with fail
  refine (byDigit_any va m n w hma (by omega) hn1 hla).mono ?_
  rintro e w1 ⟨v, rfl, hv, hb1⟩
  go_wp2_with fail
  refine (small_any (m % n) w1 (by have := Nat.mod_lt m (show n > 0 by omega); omega)).mono ?_
  rintro e w2 ⟨v2, rfl, hv2, hb2⟩
  go_wp2_with fail
  go_ret2
  exact ⟨_, _, rfl, hv.below hb2 (Nat.le_refl _), hv2, below_next hb1 hb2⟩
theorem divmod_start {m n : Nat} (hn : n ≠ 0) : m < n * 2 ^ ((blen m : Int) - (blen n : Int) + 1).toNat := by
  have h1 := blen_lt m
  have h2 : 2 ^ (blen n - 1) ≤ n := blen_ge (by have := blen_pos hn; omega)
  have h3 : 2 ^ blen m ≤ 2 ^ (blen n - 1) * 2 ^ ((blen m : Int) - (blen n : Int) + 1).toNat := by
    rw [← Nat.pow_add]
    exact Nat.pow_le_pow_right (by omega) (by have := blen_pos hn; omega)
  exact Nat.lt_of_lt_of_le h1 (Nat.le_trans h3 (Nat.mul_le_mul_right _ h2))
theorem divmod_end {m n Q r : Nat} (h : m = Q * n + r) (hr : r < n) : m / n = Q ∧ m % n = r := by
  rw [h, Nat.mul_comm]
  refine ⟨?_, ?_⟩
  · rw [Nat.mul_add_div (by omega), Nat.div_eq_of_lt hr, Nat.add_zero]
  · rw [Nat.mul_add_mod, Nat.mod_eq_of_lt hr]
theorem bit_len {m i k : Nat} (h : (i : Int) < blen m) (hl : (dg 65536 m).length ≤ k) : (dg 65536 (2 ^ i)).length ≤ k :=
  Nat.le_trans (dg_length_mono (by omega) (blen_ge (by omega))) hl
set_option maxHeartbeats 1000000 in
theorem divmod_big (va vb : Value) (m n : Nat) (w : World) (hma : Nt w va m) (hmb : Nt w vb n) (hla : (dg 65536 m).length ≤ 100000) (hlb' : (dg 65536 n).length ≤ 100000) (hlb : 1 < (dg 65536 n).length) :
    Calls Tryz.prog 57 #[va, vb] w fun e w' => ∃ v v', e = .returned (.tuple #[v, v']) ∧ Nt w' v (m / n) ∧ Nt w' v' (m % n) ∧ Below w.heap.size w w' := by
  have hbm : blen m ≤ 1600000 := blen_dg hla
  have hbn : blen n ≤ 1600000 := blen_dg hlb'
  have hn0 : n ≠ 0 := by intro h; rw [h, dg_zero] at hlb; simp at hlb
  have hbp := blen_pos hn0
  have HA := hid hma
  have HB := hid hmb
  obtain ⟨a2, cap2, eb⟩ := hmb.shape
  obtain ⟨a1, cap1, ea⟩ := hma.shape
  go_enter Tryz.func57, Tryz.ntmps57
  subst eb ea
  have hA2 : Nt (w.alloc (.cells #[] 3)) _ m := HA.out.below ((Below.refl _ _).alloc (Nat.le_refl _) _) (Nat.le_refl _)
  have hB2 : Nt (w.alloc (.cells #[] 3)) _ n := HB.out.below ((Below.refl _ _).alloc (Nat.le_refl _) _) (Nat.le_refl _)
  go_wp2_with fail
  refine (len_any _ m _ hA2 hla).mono ?_
  rintro e w' ⟨rfl, rfl⟩
  go_wp2_with fail
  refine (len_any _ n _ hB2 hlb').mono ?_
  rintro e w' ⟨rfl, rfl⟩
  go_wp2_with fail
  go_loopw [0, 8, 9] (fun x y z wr => ∃ (r Q : Nat) (yi : Int), z = .int .i64 yi ∧ yi < blen m ∧ -2000000 ≤ yi ∧ Hid (Nt wr x r) ∧ Hid (Nt wr y Q) ∧ Hid (m = Q * n + r) ∧ Hid (r < n * 2 ^ (yi + 1).toNat) ∧ Below w.heap.size w wr) (fun _ _ z _ => (intOf z + 1).toNat)
  case atStart =>
    refine ⟨m, 0, _, rfl, by omega, by omega, hid hA2, hid ⟨_, 0, by rw [dg_zero]; rfl, by rw [dg_zero]; simp, by omega, fun h => by rw [dg_zero] at h; simp at h⟩, hid (by omega), hid (divmod_start hn0), (Below.refl _ _).alloc (Nat.le_refl _) _⟩
  case round =>
    obtain ⟨r, Q, yi, rfl, hy1, hy2, hR, hQ, hm, hr, hb⟩ := hrel
    rcases Int.lt_or_le yi 0 with hyn | hyn
    · go_wp2_with fail
      go_ret2
      have e0 : (yi + 1).toNat = 0 := by omega
      have hr2 := hr.out
      rw [e0, Nat.pow_zero, Nat.mul_one] at hr2
      obtain ⟨e1, e2⟩ := divmod_end hm.out hr2
      rw [e1, e2]
      exact ⟨_, _, rfl, hQ, hR, hb⟩
    · obtain ⟨i, rfl⟩ : ∃ i : Nat, yi = i := ⟨yi.toNat, by omega⟩
      have hBr : Nt wr _ n := HB.out.below hb (Nat.le_refl _)
      go_wp2_with fail
      refine (shl_any _ n i wr hBr hlb' (by omega)).mono ?_
      rintro e w1 ⟨d, rfl, hd, hb1⟩
      obtain ⟨ad, cd, ed⟩ := hd.shape
      subst ed
      have hD := hid hd
      clear hd
      have hR1 : Hid (Nt w1 _ r) := hR.out.below hb1 (Nat.le_refl _)
      have hQ1 : Hid (Nt w1 _ Q) := hQ.out.below hb1 (Nat.le_refl _)
      have hb2 := below_next hb hb1
      clear hR hQ hBr hb hb1
      go_wp2_with fail
      refine (cmp_any _ _ _ _ w1 hD.out hR1.out).mono ?_
      rintro e w2 ⟨k, rfl, rfl⟩
      have hb3 := hb2.drewN k
      have hR2 : Hid (Nt (w1.drewN k) _ r) := hR1.out.below (below_drewN' k) (Nat.le_refl _)
      have hQ2 : Hid (Nt (w1.drewN k) _ Q) := hQ1.out.below (below_drewN' k) (Nat.le_refl _)
      have hD2 : Hid (Nt (w1.drewN k) _ (n * 2 ^ i)) := hD.out.below (below_drewN' k) (Nat.le_refl _)
      clear hb2 hR1 hQ1 hD
      generalize w1.drewN k = wq at *
      rcases Nat.lt_or_ge r (n * 2 ^ i) with hlt | hge
      · have hc : cmpI (n * 2 ^ i) r = 1 := by rw [cmpI, if_neg (by omega), if_neg (by omega)]
        rw [hc]
        go_wp2_with fail
        go_roundw
        case rel =>
          exact ⟨r, Q, (i : Int) - 1, by go_num, by omega, by omega, hR2, hQ2, hm, hid (by rw [show ((i : Int) - 1 + 1).toNat = i by omega]; exact hlt), hb3⟩
        case measure => simp [intOf]
      · have hc : ∃ z, cmpI (n * 2 ^ i) r = z ∧ z ≤ 0 := ⟨_, rfl, by rw [cmpI]; split <;> (try split) <;> omega⟩
        obtain ⟨z, hz, hz0⟩ := hc
        rw [hz]
        clear hz
        have hrm : r ≤ m := by have := hm.out; omega
        have hQm : Q ≤ m := by
          have := hm.out
          have := Nat.le_mul_of_pos_right Q (Nat.pos_of_ne_zero hn0)
          omega
        go_wp2_with fail
        refine (sub_any _ _ r (n * 2 ^ i) wq hR2.out hD2.out (Nat.le_trans (dg_length_mono (by omega) hrm) hla) hge).mono ?_
        rintro e w3 ⟨r', rfl, hr', hb4⟩
        obtain ⟨ar, cr, er⟩ := hr'.shape
        subst er
        have hR3 := hid hr'
        have hQ3 : Hid (Nt w3 _ Q) := hQ2.out.below hb4 (Nat.le_refl _)
        have hb5 := below_next hb3 hb4
        clear hr' hQ2 hR2 hD2 hb4 hb3
        go_wp2_with fail
        refine (bit_any i w3 (by omega)).mono ?_
        rintro e w4 ⟨bt, rfl, hbt, hb6⟩
        have hR4 : Hid (Nt w4 _ (r - n * 2 ^ i)) := hR3.out.below hb6 (Nat.le_refl _)
        have hQ4 : Hid (Nt w4 _ Q) := hQ3.out.below hb6 (Nat.le_refl _)
        have hb7 := below_next hb5 hb6
        have hB4 := hid hbt
        clear hbt hQ3 hR3 hb5 hb6
        go_wp2_with fail
        refine (add_any _ _ Q (2 ^ i) w4 hQ4.out hB4.out (Nat.le_trans (dg_length_mono (by omega) hQm) hla) (bit_len hy1 hla)).mono ?_
        rintro e w5 ⟨q', rfl, hq', hb8⟩
        obtain ⟨aq, cq, eq⟩ := hq'.shape
        subst eq
        have hR5 : Hid (Nt w5 _ (r - n * 2 ^ i)) := hR4.out.below hb8 (Nat.le_refl _)
        have hQ5 := hid hq'
        have hb9 := below_next hb7 hb8
        clear hR4 hQ4 hB4 hq' hb8 hb7
        go_wp2_with fail
        go_roundw
        case rel =>
          refine ⟨r - n * 2 ^ i, Q + 2 ^ i, (i : Int) - 1, by go_num, by omega, by omega, hR5, hQ5, hid ?_, hid ?_, hb9⟩
          · have := hm.out
            rw [Nat.add_mul, Nat.mul_comm (2 ^ i)]; omega
          · rw [show ((i : Int) - 1 + 1).toNat = i by omega]
            have := hr.out
            rw [show ((i : Int) + 1).toNat = i + 1 by omega, Nat.pow_succ, ← Nat.mul_assoc] at this
            omega
        case measure => simp [intOf]
theorem divmod_any (va vb : Value) (m n : Nat) (w : World) (hma : Nt w va m) (hmb : Nt w vb n) (hla : (dg 65536 m).length ≤ 100000) (hlb : (dg 65536 n).length ≤ 100000) (hn : n ≠ 0) :
    Calls Tryz.prog 57 #[va, vb] w fun e w' => ∃ v v', e = .returned (.tuple #[v, v']) ∧ Nt w' v (m / n) ∧ Nt w' v' (m % n) ∧ Below w.heap.size w w' := by
  rcases Nat.lt_trichotomy (dg 65536 n).length 1 with h | h | h
  · exact absurd ((dg_nil_iff (b := 65536) (by omega)).1 (List.eq_nil_of_length_eq_zero (by omega))) hn
  · exact divmod_one va vb m n w hma hmb hla hn h
  · exact divmod_big va vb m n w hma hmb hla hlb h
end Go.Proofs.YtgdgklhfakplhaaGreatDoor
namespace Go.Proofs.YtgdgklhfakplhaaGreatDoor
open Go.RowKit Go.Dig
set_option maxRecDepth 100000
theorem nt_unique {w : World} {v : Value} {m n : Nat} (h1 : Nt w v m) (h2 : Nt w v n) : m = n := by
  obtain ⟨a, cap, rfl, _, _, h13⟩ := h1
  obtain ⟨a2, cap2, e, _, _, h23⟩ := h2
  injection e with e1 e2 e3
  subst e1
  apply dg_inj (b := 65536) (by omega)
  apply List.ext_getElem e2
  intro i hi1 hi2
  obtain ⟨b, off, rfl, _, hc⟩ := h13 (by omega)
  obtain ⟨b2, off2, eb, _, hc2⟩ := h23 (by omega)
  injection eb with eb
  injection eb with eb1 eb2 eb3
  subst eb1 eb2
  have k1 := hc i hi1
  have k2 := hc2 i hi2
  rw [k1] at k2
  have k3 : ((dg 65536 m)[i] : Int) = ((dg 65536 n)[i] : Int) := by simpa [hi1, hi2] using k2
  omega
/-- The number that a slice reads as. -/
noncomputable def ntOf (w : World) (v : Value) : Nat := Classical.epsilon fun n => Nt w v n
theorem ntOf_eq {w : World} {v : Value} {n : Nat} (h : Nt w v n) : ntOf w v = n :=
  nt_unique (Classical.epsilon_spec (p := fun n => Nt w v n) ⟨n, h⟩) h
set_option maxHeartbeats 1000000 in
theorem gcd_any (va vb : Value) (m n : Nat) (w : World) (hma : Nt w va m) (hmb : Nt w vb n) (hla : (dg 65536 m).length ≤ 100000) (hlb : (dg 65536 n).length ≤ 100000) :
    Calls Tryz.prog 55 #[va, vb] w fun e w' => ∃ v, e = .returned v ∧ Nt w' v (Nat.gcd m n) ∧ Below w.heap.size w w' := by
  obtain ⟨a2, cap2, eb⟩ := hmb.shape
  obtain ⟨a1, cap1, ea⟩ := hma.shape
  subst eb ea
  have HA := hid hma
  have HB := hid hmb
  clear hma hmb
  go_enter Tryz.func55, Tryz.ntmps55
  go_wp2_with fail
  go_loopw [0, 1] (fun x y wr => ∃ (p q : Nat), Hid (Nt wr x p) ∧ Hid (Nt wr y q) ∧ Hid (Nat.gcd p q = Nat.gcd m n) ∧ (dg 65536 p).length ≤ 100000 ∧ (dg 65536 q).length ≤ 100000 ∧ Below w.heap.size w wr) (fun _ y wr => ntOf wr y)
  case atStart => exact ⟨m, n, HA, HB, hid rfl, hla, hlb, Below.refl _ _⟩
  case round =>
    obtain ⟨p, q, hp, hq, hg, hlp, hlq, hb⟩ := hrel
    obtain ⟨ap, cp, rfl⟩ := hp.out.shape
    obtain ⟨aq, cq, rfl⟩ := hq.out.shape
    rcases Nat.eq_zero_or_pos q with rfl | hq0
    · have e0 : (dg 65536 0).length = 0 := by rw [dg_zero]; rfl
      rw [e0] at *
      go_wp2_with fail
      go_ret
      refine ⟨_, rfl, ?_, hb⟩
      have := hg.out
      rw [Nat.gcd_zero_right] at this
      rw [← this]; exact hp.out
    · have hl0 : 0 < (dg 65536 q).length := by
        rcases Nat.eq_zero_or_pos (dg 65536 q).length with h | h
        · exact absurd ((dg_nil_iff (b := 65536) (by omega)).1 (List.eq_nil_of_length_eq_zero h)) (by omega)
        · exact h
      go_wp2_with fail
      refine (divmod_any _ _ p q wr hp.out hq.out hlp hlq (by omega)).mono ?_
      rintro e w1 ⟨v, v', rfl, hv, hv', hb1⟩
      obtain ⟨av, cv, rfl⟩ := hv.shape
      obtain ⟨av', cv', rfl⟩ := hv'.shape
      have hV := hid hv'
      have hq1 : Hid (Nt w1 _ q) := hq.out.below hb1 (Nat.le_refl _)
      have hb2 := below_next hb hb1
      have hlt := Nat.mod_lt p hq0
      have hM := hid (ntOf_eq hq.out)
      have hM2 := hid (ntOf_eq hv')
      clear hv hv' hp hq hb hb1
      go_wp2_with fail
      go_roundw
      case rel =>
        refine ⟨q, p % q, hq1, hV, hid ?_, hlq, Nat.le_trans (dg_length_mono (by omega) (Nat.le_of_lt hlt)) hlq, hb2⟩
        have := hg.out
        rw [← this, Nat.gcd_comm p q, Nat.gcd_rec q p, Nat.gcd_comm]
      case measure => rw [hM.out, hM2.out]; exact hlt
end Go.Proofs.YtgdgklhfakplhaaGreatDoor

namespace Go.Proofs.YtgdgklhfakplhaaGreatDoor
open Go.RowKit Go.Dig
set_option maxRecDepth 100000
theorem div_len {m k : Nat} (g : Nat) (h : (dg 65536 m).length ≤ k) : (dg 65536 (m / g)).length ≤ k := Nat.le_trans (dg_length_mono (by omega) (Nat.div_le_self _ _)) h
end Go.Proofs.YtgdgklhfakplhaaGreatDoor
