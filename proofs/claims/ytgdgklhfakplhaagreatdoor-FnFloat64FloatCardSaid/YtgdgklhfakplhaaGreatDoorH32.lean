/- Walks and lemmas for the laws of this seat. -/
import Derived.Test.YtgdgklhfakplhaaGreatDoorH30
import Derived.StillTailTactics
import Derived.Test.YtgdgklhfakplhaaGreatDoorH31
import Derived.Test.YtgdgklhfakplhaaGreatDoorH18
import Derived.Test.YtgdgklhfakplhaaGreatDoorH26
import Derived.Test.YtgdgklhfakplhaaGreatDoorH15
import Derived.Test.YtgdgklhfakplhaaGreatDoorH29
namespace Go.Proofs.YtgdgklhfakplhaaGreatDoor
open Go.RowKit Go.Dig Go.DivPl
set_option maxRecDepth 100000
set_option maxHeartbeats 4000000 in
theorem divLarge_any (K sp k m bu cu bv cv X Y : Nat) (vu vv : Value) (w : World) (hst : Stk w K sp none) (hthr : w.cell? ⟨1, 0, none⟩ = some (.int .i64 40)) (hK1 : 1 < K) (hKu : K ≤ bu) (hu : On w vu bu cu X) (hv : On w vv bv cv Y) (hne : bv ≠ bu)
    (hk : k < 38) (hlY : (dg 18446744073709551616 Y).length = k + 2) (hlX : (dg 18446744073709551616 X).length = m + (k + 2)) (hm2 : m < 900) (hcu : cu < 1000000) (_hcv : cv < 1000000) :
    Calls Tryz.prog 148 #[.slice none 0 0, .pointer (some ⟨sp, 0, none⟩), vu, vu, vv] w fun e w' => ∃ (bq cq br cr : Nat) (t' : Option (Nat × Nat × Nat)), e = .returned (.tuple #[.slice (some ⟨bq, 0, none⟩) (dg 18446744073709551616 (X / Y)).length cq, .slice (some ⟨br, 0, none⟩) (dg 18446744073709551616 (X % Y)).length cr]) ∧ Ds w' bq 0 (dg 18446744073709551616 (X / Y)) ∧ Stk w' K sp t' ∧ Below K w w' := by
  obtain ⟨rfl, hcu1, lu, hdu, hlu, htu⟩ := hu
  obtain ⟨rfl, hcv1, lv, hdv, hlv, htv⟩ := hv
  have hX : Ds w bu 0 (dg 18446744073709551616 X) := by rw [← htu]; exact hdu.take _
  have hY : Ds w bv 0 (dg 18446744073709551616 Y) := by rw [← htv]; exact hdv.take _
  rw [hlX] at hcu1 htu ⊢
  rw [hlY] at hcv1 htv ⊢
  have HSV := stk_save K sp none w hst
  have HNT := stk_nat0 K sp (k + 2) (by omega) (by omega) w hst
  obtain ⟨ht1, ht2, ht3, ht4⟩ := top_of (b := 18446744073709551616) (by omega) hlY
  have htop := hY.cell (i := k + 1) (by omega)
  have HTY := hid hlY
  have HTX := hid hlX
  obtain ⟨y, hy⟩ : ∃ y, (dg 18446744073709551616 Y).getD (k + 1) 0 = y := ⟨_, rfl⟩
  rw [hy, Nat.zero_add] at htop
  rw [hy] at ht1 ht2 ht3 ht4
  obtain ⟨s, hs, he, hn1, hn2⟩ := lz_bounds ht3 ht4
  have HNL := fun w => nlz_any y s ht4 hs he w
  clear ht1 ht2 he hlY hlX hdv htv
  go_enter_defers Tryz.func148, Tryz.ntmps148
  go_wp2_with fail
  refine HSV.mono ?_
  rintro e w' ⟨rfl, rfl⟩
  clear HSV
  go_wp2_with fail
  refine (HNL _).mono ?_
  rintro e w1 ⟨rfl, rfl⟩
  clear HNL htop
  rw [show ((k + 2 : Nat) : Int) = (k : Int) + 2 by omega] at HNT
  go_wp2_with fail
  refine HNT.mono ?_
  rintro e w2 ⟨bh, hl, ch, t1, rfl, hch, hh, hhl, hst1, hsf, hle2, hD, hO, hB1, hKb⟩
  have hu1 := hD bu 0 lu hdu
  have hY1 := hD bv 0 _ hY
  obtain ⟨hou1, huh⟩ := hO bu hdu.lt
  obtain ⟨hov1, hvh⟩ := hO bv hY.lt
  clear hD hO HNT hX hY hst hdu
  have HMK := make_own bu cu (m + (k + 2)) (m + 1 + (k + 2)) lu w2 hu1 hlu (by omega) (by omega)
  rw [show ((m + 1 + (k + 2) : Nat) : Int) = (m : Int) + ((k : Int) + 2) + 1 by omega] at HMK
  go_wp2_with fail
  refine HMK.mono ?_
  rintro e w3 ⟨b', c', L', rfl, hL', hLl, hkc, hcc, hbb, hB3⟩
  have hb1 : b' ≠ bh ∧ b' ≠ bv ∧ K ≤ b' ∧ Off t1 b' := by
    have := hst1.size
    have := hh.lt
    have := hY1.lt
    rcases hbb with ⟨rfl, _⟩ | rfl
    · exact ⟨huh, hne.symm, hKu, hou1⟩
    · exact ⟨by omega, by omega, by omega, hst1.off_new (Nat.le_refl _)⟩
  obtain ⟨hbh, hbv, hKb', hob⟩ := hb1
  have hX3 : Ds w3 bu 0 (dg 18446744073709551616 X) := by
    have := (hu1.take (m + (k + 2)))
    rw [htu] at this
    exact this.below hB3 hu1.lt
  have hY3 := hY1.below hB3 hY1.lt
  have hh3 := hh.below hB3 hh.lt
  have hst3 := hst1.below hB3
  have hB4 := hB1.trans (hB3.mono hst1.size)
  clear HMK hu1 hY1 hh hst1 hB1 hB3 htu hlu hou1 hov1 hKu
  have hthr3 : w3.cell? ⟨1, 0, none⟩ = some (.int .i64 40) := (hB4.cell (p := ⟨1, 0, none⟩) hK1).trans hthr
  have hS2 : (2 : Nat) ^ s ∣ 18446744073709551616 := by
    rw [show 18446744073709551616 = 2 ^ 64 from rfl]
    exact Nat.pow_dvd_pow 2 (by omega)
  have HS2 := hid hS2
  have hXlt : Hid (X < 18446744073709551616 ^ (m + (k + 2))) := by
    have h := lt_pow_dg_length (b := 18446744073709551616) (by omega) X
    rw [HTX.out] at h
    exact hid h
  clear hS2
  go_upto_if 40 with fail
  go_cut [15] from 39 (fun p wx => ∃ vv L2 : List Nat, p = .slice (some ⟨bh, 0, none⟩) (k + 2) ch ∧ Ds wx bh 0 vv ∧ vv.length = k + 2 ∧ Hid (∀ d ∈ vv, d < 18446744073709551616) ∧ Hid (val 18446744073709551616 vv = Y * 2 ^ s) ∧ 9223372036854775808 ≤ vv.getD (k + 1) 0 ∧
    Ds wx b' 0 L2 ∧ L2.length = c' ∧ Hid (∀ d ∈ L2.take (m + 1 + (k + 2)), d < 18446744073709551616) ∧ Hid (val 18446744073709551616 (L2.take (m + 1 + (k + 2))) = X * 2 ^ s) ∧ L2.getD (m + 1 + k + 1) 0 < vv.getD (k + 1) 0 ∧ Stk wx K sp t1 ∧ Below K w1 wx)
  case first =>
    have hdY : ∀ d ∈ dg 18446744073709551616 Y, d < 18446744073709551616 := dg_lt (by omega) Y
    have hdX : ∀ d ∈ dg 18446744073709551616 X, d < 18446744073709551616 := dg_lt (by omega) X
    rcases Nat.eq_zero_or_pos s with h0 | h0
    · subst h0
      have hcp1 := copy_ds w3 bh 0 (k + 2) ch bv 0 cv hl _ hh3 hY3 HTY.out.symm (by rw [hhl, HTY.out])
      obtain ⟨d1, f1⟩ := put_ds (ws := dg 18446744073709551616 Y) hh3 (by rw [hhl, HTY.out])
      rw [HTY.out] at f1
      have hX4 := hX3.fx f1 (.inl huh)
      have hL4 := hL'.fx f1 (.inl hbh)
      have hcp2 := copy_ds (w3.setCells bh 0 (cs .u64 (dg 18446744073709551616 Y))) b' 0 (m + (k + 2)) c' bu 0 cu (L'.take (m + (k + 2))) _ (hL4.take _) hX4 HTX.out.symm (by rw [List.length_take, HTX.out]; omega)
      obtain ⟨d2, f2⟩ := put_ds (ws := dg 18446744073709551616 X) (hL4.take (m + (k + 2))) (by rw [List.length_take, HTX.out]; omega)
      rw [HTX.out] at f2
      obtain ⟨L2, e1, e2, e3, e4, e5, e6⟩ := scaled_state (top := 0) hst3 hKb hKb' hbh hsf hob hh3 hL' hLl (show m + (k + 2) + 1 ≤ c' by omega) f1 d1 HTY.out f2 d2 HTX.out
      have cold := ((hL4.sub (i := m + (k + 2)) (by omega)).fx f2 (.inr (.inr (by omega)))).cell (i := 0) (by rw [List.length_drop]; omega)
      rw [Nat.zero_add, Nat.add_zero] at cold
      generalize (L'.drop (m + (k + 2))).getD 0 0 = old at cold
      have fold := d2.frozen (m + (k + 2))
      have hv1 := val_dg (b := 18446744073709551616) (by omega) Y
      have hv2 := val_dg (b := 18446744073709551616) (by omega) X
      obtain ⟨g1, g2, g3⟩ := scaled_fin (b := 18446744073709551616) (X := X) (S := 2 ^ 0) (yt := y) HTX.out e4 hdX (by omega) (by omega) (by rw [hv2, Nat.zero_mul, Nat.pow_zero, Nat.mul_one]; rfl)
      have G1 := hid g1
      have G2 := hid g2
      clear g1 g2 e4 hv2 hdX f1 f2 d1 d2 hX4 hL4 hX3 hY3 hh3 hst3 hL'
      go_wp2_with fail
      go_meet
      exact ⟨dg 18446744073709551616 Y, L2, rfl, e1, HTY.out, hid hdY, hid (by rw [hv1, Nat.pow_zero, Nat.mul_one]), by rw [hy]; omega, e2, e3, G1, G2, by rw [hy]; exact g3, e5, hB4.trans e6⟩
    · have hs0 : ((s : Int) == 0) = false := by simp; omega
      have hs0' : ¬ s = 0 := by omega
      have HL1 := lshvu bh 0 ch bv 0 cv s (k + 2) hl _ w3 hh3 hY3 hhl HTY.out (by omega) (by omega) (.inl hvh) hdY h0 (by omega)
      go_wp2_with fail
      refine HL1.mono ?_
      rintro e wA ⟨l1, c1, rfl, hl1, hval1, hdl1, hDl1, hF1⟩
      clear HL1
      have HL2 := lshvu b' 0 c' bu 0 cu s (m + (k + 2)) (L'.take (m + (k + 2))) _ wA ((hL'.fx hF1 (.inl hbh)).take _) (hX3.fx hF1 (.inl huh)) (by rw [List.length_take]; omega) HTX.out (by omega) (by omega) (.inr (Nat.le_refl _)) hdX h0 (by omega)
      go_wp2_with fail
      refine HL2.mono ?_
      rintro e wB ⟨l2, c2, rfl, hl2, hval2, hdl2, hDl2, hF2⟩
      obtain ⟨L2, e1, e2, e3, e4, e5, e6⟩ := scaled_state (top := c2) hst3 hKb hKb' hbh hsf hob hh3 hL' hLl (show m + (k + 2) + 1 ≤ c' by omega) hF1 hDl1 hl1 hF2 hDl2 hl2
      have cold := (((hL'.fx hF1 (.inl hbh)).sub (i := m + (k + 2)) (by omega)).fx hF2 (.inr (.inr (by omega)))).cell (i := 0) (by rw [List.length_drop]; omega)
      rw [Nat.zero_add, Nat.add_zero] at cold
      generalize (L'.drop (m + (k + 2))).getD 0 0 = old at cold
      have fold := hDl2.frozen (m + (k + 2))
      rw [val_dg (by omega)] at hval1 hval2
      obtain ⟨q1, q2⟩ := scale_top (b := 18446744073709551616) (by omega) HS2.out HTY.out (by rw [hy]; exact hn2) hval1 hl1 hdl1
      rw [hy] at q2
      have hc2 := scale_carry (b := 18446744073709551616) hXlt.out (Nat.two_pow_pos s) hval2
      have hp63 : 2 ^ s ≤ 9223372036854775808 := by
        rw [show 9223372036854775808 = 2 ^ 63 from rfl]
        exact Nat.pow_le_pow_right (by omega) hs
      obtain ⟨g1, g2, g3⟩ := scaled_fin (b := 18446744073709551616) (X := X) (S := 2 ^ s) (yt := l1.getD (k + 1) 0) hl2 e4 hdl2 (by omega) (by omega) hval2
      have G1 := hid g1
      have G2 := hid g2
      have G3 := hid q1
      have G4 := hid hdl1
      have hc2b : c2 < 18446744073709551616 := by omega
      clear HL2 g1 g2 q1 hdl1 hdl2 hval1 hval2 e4 hF1 hF2 hDl1 hDl2 hX3 hY3 hh3 hst3 hL' hdX hdY
      go_wp2_with fail
      go_meet
      exact ⟨l1, L2, rfl, e1, hl1, G4, G3, by omega, e2, e3, G1, G2, g3, e5, hB4.trans e6⟩
  case rest =>
    obtain ⟨vv, L2, rfl, hvv, hvl, HDV, HV, htop, hL2, hL2l, HDU, HU, hu0, hst4, hB5⟩ := hcut
    clear hX3 hY3 hh3 hst3 hB4 hthr3 hL' hLl hlv hhl
    go_wp2_with fail
    refine (alias_none b' _ c' wc).mono ?_
    rintro e w5 ⟨rfl, d5, rfl⟩
    replace hvv : Ds (wc.drewN d5) bh 0 vv := hvv
    replace hL2 : Ds (wc.drewN d5) b' 0 L2 := hL2
    replace hst4 : Stk (wc.drewN d5) K sp t1 := hst4.below (below_drewN' d5)
    replace hB5 : Below K w1 (wc.drewN d5) := hB5.trans (below_drewN' d5)
    generalize wc.drewN d5 = w5 at *
    have HMQ := make_new (m + 1) (by omega) (by omega) w5
    rw [show ((m + 1 : Nat) : Int) = (m : Int) + 1 by omega] at HMQ
    go_wp2_with fail
    refine HMQ.mono ?_
    rintro e w6 ⟨cq, rfl, hq1, hq2, hBq, hB6⟩
    clear HMQ
    have hQ := Ds.of_blk hBq
    have hbq1 : w5.heap.size ≠ b' := by have := hL2.lt; omega
    have hbq2 : bh ≠ w5.heap.size := by have := hvv.lt; omega
    have hbq3 : Off t1 w5.heap.size := hst4.off_new (Nat.le_refl _)
    have hbq4 : K ≤ w5.heap.size := hst4.size
    have hvv6 := hvv.below hB6 hvv.lt
    have hL6 := hL2.below hB6 hL2.lt
    have hst6 := hst4.below hB6
    have hB66 := hB5.trans (hB6.mono hst4.size)
    clear hvv hL2 hst4 hB5 hB6 hBq
    generalize w5.heap.size = bq at *
    have hthr6 : w6.cell? ⟨1, 0, none⟩ = some (.int .i64 40) := (hB66.cell (p := ⟨1, 0, none⟩) hK1).trans hthr
    have hk40 : decide ((k : Int) + 2 < 40) = true := decide_eq_true (by omega)
    have HDB := divBasic_any K sp bq cq b' c' bh ch k (m + 1) t1 (List.replicate (m + 1) 0) (L2.take (m + 1 + (k + 2))) vv w6 hst6 hbq4 hKb' (by have := hQ.take (m + 1); rwa [List.take_replicate, Nat.min_eq_left hq1] at this) (by simp) (hL6.take _) (by rw [List.length_take]; omega) hvv6 hvl hbq3 hob (by rw [Nat.zero_add] at hsf; exact hsf) hbq1 hbq2 hbh.symm hk (by omega) (by omega) hq1 (by omega) hkc (by omega) hch HDU.out HDV.out htop (by rw [getD_take (by omega)]; exact hu0) (by omega)
    clear hQ hvv6 hL6 hst6 hu0
    go_wp2_with fail
    refine HDB.mono ?_
    rintro e w7 ⟨rfl, q', u', t', hq', hu', hdq', hdu', heq, hlt, hQ7, hU7, hst7, htl, hoq7, hou7, hB7⟩
    rw [HU.out, HV.out] at heq
    rw [HV.out] at hlt
    obtain ⟨r1, r2, r3⟩ := scale_end (Nat.two_pow_pos s) heq hlt
    have eq1 : trim q' = dg 18446744073709551616 (X / Y) := by rw [trim_eq (by omega) hdq', r1]
    have HNQ := norm_ds bq 0 cq (m + 1) q' w7 hQ7 hq'.symm (by omega) hq1
    rw [eq1] at HNQ
    clear HDB heq hlt htl hoq7
    go_wp2_with fail
    refine HNQ.mono ?_
    rintro e w8 ⟨rfl, rfl, htr, htl2⟩
    have hQf : Ds w8 bq 0 (dg 18446744073709551616 (X / Y)) := by rw [htr]; exact hQ7.take _
    have HQF := hid hQf
    have HBF := hid (hB66.trans hB7)
    clear HNQ hQf htr htl2
    rcases Nat.eq_zero_or_pos s with h0 | h0
    · subst h0
      have eu : trim u' = dg 18446744073709551616 (X % Y) := by rw [trim_eq (by omega) hdu', r2, Nat.pow_zero, Nat.mul_one]
      have HNU := norm_ds b' 0 c' (m + 1 + (k + 2)) u' w8 hU7 hu'.symm (by omega) hkc
      rw [eu] at HNU
      go_wp2_with fail
      refine HNU.mono ?_
      rintro e w9 ⟨rfl, rfl, hx1, hx2⟩
      clear HNU hx1 hx2 eu
      go_wp2_with fail
      refine leaves_cons (f := 173) (args := #[.pointer (some ⟨sp, 0, none⟩), .int .i64 ((0 : Nat) : Int)]) (by simp) (by simp [go_sem, tlen]) ?_
      refine (stk_restore K sp 0 t' (Nat.zero_le _) .returning _ hst7).mono ?_
      rintro e u'' w3 ⟨rfl, rfl, t'', hs3, ht3, ho3, hd3, hb3⟩
      exact ⟨_, by simp [results, Tryz.results148, go_sem], bq, cq, b', c', t'', rfl, hd3 _ _ _ HQF.out, hs3, HBF.out.trans hb3⟩
    · have hs0 : ((s : Int) != 0) = true := by simp; omega
      have HRS := rshvu b' 0 c' c' s (m + 1 + (k + 2)) u' w8 hU7 hu' (by omega) (by omega) hdu' h0 (by omega)
      go_wp2_with fail
      refine HRS.mono ?_
      rintro e w9 ⟨l9, c9, rfl, hl9, hv9, hd9, hD9, hF9⟩
      rw [r3] at hv9
      have eu : trim l9 = dg 18446744073709551616 (X % Y) := by rw [trim_eq (by omega) hd9, hv9]
      have HNU := norm_ds b' 0 c' (m + 1 + (k + 2)) l9 w9 hD9 hl9.symm (by omega) hkc
      rw [eu] at HNU
      have hst9 : Stk w9 K sp t' := hst7.put (hou7.saf _) hU7 (by rw [hl9]; exact hF9) hD9
      have HQ9 := hid (HQF.out.fx hF9 (.inl hbq1))
      have HB9 := hid (HBF.out.trans (hF9.below hKb' hst7.size))
      clear HRS hD9 hF9 hU7 hQ7 hst7 hv9 hd9 hl9
      go_wp2_with fail
      refine HNU.mono ?_
      rintro e w10 ⟨rfl, rfl, hx1, hx2⟩
      clear HNU hx1 hx2 eu
      go_wp2_with fail
      refine leaves_cons (f := 173) (args := #[.pointer (some ⟨sp, 0, none⟩), .int .i64 ((0 : Nat) : Int)]) (by simp) (by simp [go_sem, tlen]) ?_
      refine (stk_restore K sp 0 t' (Nat.zero_le _) .returning _ hst9).mono ?_
      rintro e u'' w3 ⟨rfl, rfl, t'', hs3, ht3, ho3, hd3, hb3⟩
      exact ⟨_, by simp [results, Tryz.results148, go_sem], bq, cq, b', c', t'', rfl, hd3 _ _ _ HQ9.out, hs3, HB9.out.trans hb3⟩
end Go.Proofs.YtgdgklhfakplhaaGreatDoor
namespace Go.Proofs.YtgdgklhfakplhaaGreatDoor
open Go.RowKit Go.Dig
set_option maxRecDepth 100000
theorem Ds.nw {w : World} {b c n : Nat} (h : Ds w b 0 (dg 18446744073709551616 n)) (h1 : (dg 18446744073709551616 n).length ≤ c) (h2 : c ≤ 9223372036854775807) : Nw w (.slice (some ⟨b, 0, none⟩) (dg 18446744073709551616 n).length c) n := by
  obtain ⟨m, hm⟩ := h.shape
  exact ⟨_, c, rfl, h1, h2, fun _ => ⟨b, 0, rfl, ⟨m, hm⟩, fun i hi => h.cell hi⟩⟩
set_option maxHeartbeats 1000000 in
theorem divWVW_one (B cz b2 off2 c2 x y old : Nat) (w : World) (hB : w.cell? ⟨B, 0, none⟩ = some (.int .u64 old)) (hf : w.frozen? ⟨B, 0, none⟩ = false) (hx : x < 18446744073709551616) (hy0 : 0 < y) (hy : y < 18446744073709551616) (hc : w.cell? ⟨b2, off2, none⟩ = some (.int .u64 x)) :
    Calls Tryz.prog 172 #[.slice (some ⟨B, 0, none⟩) 1 cz, .int .u64 0, .slice (some ⟨b2, off2, none⟩) 1 c2, .int .u64 y] w fun e w' => e = .returned (.int .u64 ((x % y : Nat) : Int)) ∧ ∃ k, w' = (w.drewN k).setCell ⟨B, 0, none⟩ (.int .u64 ((x / y : Nat) : Int)) := by
  have HD := fun w => bitsDiv_any 0 x y hy0 hx hy w
  rw [Nat.zero_mul, Nat.zero_add] at HD
  generalize x / y = q at *
  generalize x % y = r at *
  go_enter Tryz.func172, Tryz.ntmps172
  go_wp2_with fail
  refine (HD _).mono ?_
  rintro e w1 ⟨rfl, k, rfl⟩
  have hB1 : (w.drewN k).cell? ⟨B, 0, none⟩ = some (.int .u64 old) := hB
  have hf1 : (w.drewN k).frozen? ⟨B, 0, none⟩ = false := hf
  have HK : Hid (∃ k', w.drewN k = w.drewN k') := hid ⟨k, rfl⟩
  clear hB hf hc HD
  generalize w.drewN k = w1 at *
  go_wp2_with fail
  go_ret
  obtain ⟨k', rfl⟩ := HK.out
  exact ⟨rfl, k', rfl⟩
set_option maxHeartbeats 1000000 in
/-- divWVW, whichever the length. -/
theorem divWVW_all (B cz b2 off2 c2 k y : Nat) (l xs : List Nat) (w : World) (hB : BlkN .u64 181 w B l) (hl : k ≤ l.length) (hk : xs.length = k) (hk2 : 0 < k) (hk3 : k < 1000) (hy0 : 0 < y) (hy : y < 18446744073709551616) (hb2 : b2 < B) (hxs : ∀ d ∈ xs, d < 18446744073709551616) (hc : ∀ i, i < k → w.cell? ⟨b2, off2 + i, none⟩ = some (.int .u64 (xs.getD i 0 : Nat))) :
    Calls Tryz.prog 172 #[.slice (some ⟨B, 0, none⟩) k cz, .int .u64 0, .slice (some ⟨b2, off2, none⟩) k c2, .int .u64 y] w fun e w' => ∃ r m, e = .returned (.int .u64 ((r : Nat) : Int)) ∧ Hid (r = val 18446744073709551616 xs % y) ∧ Hid (m.length = l.length) ∧ Hid (∀ d ∈ m.take k, d < 18446744073709551616) ∧ Hid (val 18446744073709551616 (m.take k) = val 18446744073709551616 xs / y) ∧ BlkN .u64 181 w' B m ∧ Below B w w' := by
  rcases Nat.lt_or_ge 1 k with h | h
  · exact divWVW_any B cz b2 off2 c2 k y l xs w hB hl hk h hk3 hy0 hy hb2 hxs hc
  · have ek : k = 1 := Nat.le_antisymm h hk2
    subst ek
    match xs, hk with
    | [x], _ =>
      have hx : x < 18446744073709551616 := hxs x (by simp)
      have hc0 := hc 0 (by omega)
      rw [Nat.add_zero, List.getD_cons_zero] at hc0
      have hB0 := hB.at (i := 0) (by omega)
      refine (divWVW_one B cz b2 off2 c2 x y _ w hB0 (Blk.frozen hB 0) hx hy0 hy hc0).mono ?_
      rintro e w' ⟨rfl, kk, rfl⟩
      have hv : val 18446744073709551616 [x] = x := by simp [val]
      refine ⟨x % y, l.set 0 (x / y), rfl, hid (by rw [hv]), hid (by simp), hid ?_, hid ?_, BlkN.put (show BlkN .u64 181 (w.drewN kk) B l from hB) 0 (x / y), Below.setCell (p := ⟨B, 0, none⟩) (below_drewN' kk) (Nat.le_refl B) _⟩
      · intro d hd
        match l, hl with
        | z :: l, _ =>
          simp at hd
          rw [hd]
          exact Nat.lt_of_le_of_lt (Nat.div_le_self _ _) hx
      · match l, hl with
        | z :: l, _ => simp [val]
set_option maxHeartbeats 1000000 in
/-- nat.divW of a number that is not 0: the quotient in a block of its own. -/
theorem divW_own (vx : Value) (n y : Nat) (w : World) (hx : Nw w vx n) (hn0 : 0 < n) (hl2 : (dg 18446744073709551616 n).length ≤ 900) (hy0 : 0 < y) (hy : y < 18446744073709551616) :
    Calls Tryz.prog 146 #[.slice none 0 0, vx, .int .u64 y] w fun e w' => ∃ (c r : Nat), e = .returned (.tuple #[.slice (some ⟨w.heap.size, 0, none⟩) (dg 18446744073709551616 (n / y)).length c, .int .u64 (r : Int)]) ∧ Hid (r = n % y) ∧ Ds w' w.heap.size 0 (dg 18446744073709551616 (n / y)) ∧ (dg 18446744073709551616 (n / y)).length ≤ c ∧ c < 2000 ∧ Below w.heap.size w w' := by
  have hl : 0 < (dg 18446744073709551616 n).length := by
    rcases Nat.eq_zero_or_pos (dg 18446744073709551616 n).length with h | h
    · have := (dg_nil_iff (b := 18446744073709551616) (by omega)).1 (List.length_eq_zero_iff.1 h); omega
    · exact h
  have hy1 : ((y : Int) == 0) = false := by simp; omega
  rcases Nat.lt_or_ge 1 y with h1 | h1
  · obtain ⟨ax, cx, rfl, hx1, hx2, hx3⟩ := hx
    obtain ⟨b2, off2, rfl, ⟨_, hsh⟩, hc⟩ := hx3 hl
    have hb2 : b2 < w.heap.size := shape_lt hsh
    have hval := val_dg (b := 18446744073709551616) (by omega) n
    have hdl := dg_lt (b := 18446744073709551616) (by omega) n
    have HC := hid hc
    clear hc hx3 hsh
    have hy2 : ((y : Int) == 1) = false := by simp; omega
    have hl0 : (((dg 18446744073709551616 n).length : Int) == 0) = false := by simp; intro h; rw [h] at hl; simp at hl
    have HM := fun w => make_new (dg 18446744073709551616 n).length hl (by omega) w
    obtain ⟨q, hq⟩ : ∃ q, n / y = q := ⟨_, rfl⟩
    rw [hq]
    have HQ := hid hq
    clear hq
    generalize hds : dg 18446744073709551616 n = ds at *
    go_enter Tryz.func146, Tryz.ntmps146
    go_wp2_with fail
    refine (HM _).mono ?_
    rintro e w1 ⟨cz, rfl, hcz1, hcz2, hBz, hB1⟩
    have HB1 := hid hB1
    have HBz := hid hBz
    clear HM hBz hB1
    go_wp2_with fail
    refine (divWVW_all w.heap.size _ b2 off2 cx ds.length y _ ds w1 HBz.out (by simp; omega) rfl hl (by omega) hy0 hy hb2 hdl (fun i hi => (HB1.out.cell (World.block_lt_of_cell? w _ (HC.out i hi))).trans (HC.out i hi))).mono ?_
    rintro e w2 ⟨r, m, rfl, hr, hml, hmd, hmv, hB2, hb⟩
    have HB2 := hid (HB1.out.trans hb)
    rw [hval] at hr hmv
    rw [HQ.out] at hmv
    have HRR := hid hr
    clear hr
    have hml2 : ds.length ≤ m.length := by rw [hml.out]; simp; omega
    have hD := (Ds.of_blk hB2).take ds.length
    have HN := norm_ds w.heap.size 0 cz ds.length (m.take ds.length) w2 hD (by rw [List.length_take]; omega) (by omega) hcz1
    rw [trim_eq (by omega) hmd.out, hmv.out] at HN
    clear hB2 hb hmv hmd
    go_wp2_with fail
    refine HN.mono ?_
    rintro e w3 ⟨rfl, rfl, ht1, ht2⟩
    have hDF : Ds w3 w.heap.size 0 (dg 18446744073709551616 q) := by rw [ht1]; exact hD.take _
    have HDF := hid hDF
    have HLE := hid (Nat.le_trans ht2 hcz1)
    clear HN hDF ht1 ht2 hD
    go_wp2_with fail
    go_ret2
    exact ⟨cz, r, rfl, HRR.out, HDF.out, HLE.out, by omega, HB2.out⟩
  · have ey : y = 1 := Nat.le_antisymm h1 hy0
    subst ey
    rw [Nat.div_one]
    have HN := hid (nset_own vx n w hx hn0 hl2)
    obtain ⟨ax, cx, rfl, hx1, hx2, hx3⟩ := hx
    have hl0 : (((dg 18446744073709551616 n).length : Int) == 0) = false := by simp; intro h; rw [h] at hl; simp at hl
    clear hx3
    go_enter Tryz.func146, Tryz.ntmps146
    go_wp2_with fail
    refine HN.out.mono ?_
    rintro e w1 ⟨v, c, rfl, hO, hc, hb⟩
    have HO := hid hO.ds
    obtain ⟨rfl, hcl, _⟩ := hO
    have HB := hid hb
    clear hb
    go_wp2_with fail
    go_ret2
    exact ⟨c, 0, rfl, hid (Nat.mod_one n).symm, HO.out, hcl, by omega, HB.out⟩
set_option maxHeartbeats 400000 in
/-- nat.setWord onto a store. -/
theorem setWord_own (b c j x : Nat) (l : List Nat) (w : World) (hb : Ds w b 0 l) (hl : l.length = c) (hc : 1 ≤ c) (hx : x < 18446744073709551616) :
    Calls Tryz.prog 121 #[.slice (some ⟨b, 0, none⟩) j c, .int .u64 x] w fun e w' => e = .returned (.slice (some ⟨b, 0, none⟩) (dg 18446744073709551616 x).length c) ∧ (w' = w ∨ w' = w.setCell ⟨b, 0, none⟩ (.int .u64 x)) := by
  have h0 := hb.cell (i := 0) (by omega)
  rw [Nat.add_zero] at h0
  have hf := hb.frozen 0
  generalize l.getD 0 0 = old at h0
  clear hb
  rcases Nat.eq_zero_or_pos x with h | h
  · subst h
    rw [dg_zero]
    go_enter Tryz.func121, Tryz.ntmps121
    go_wp2_with fail
    go_ret
    exact ⟨rfl, .inl rfl⟩
  · have hx0 : ((x : Int) == 0) = false := by simp; omega
    rw [dg_one h hx]
    have HM := make_reuse (some ⟨b, 0, none⟩) j c 1 hc w
    go_enter Tryz.func121, Tryz.ntmps121
    go_wp2_with fail
    refine HM.mono ?_
    rintro e w' ⟨rfl, rfl⟩
    go_wp2_with fail
    go_ret
    exact ⟨rfl, .inr rfl⟩
end Go.Proofs.YtgdgklhfakplhaaGreatDoor
namespace Go.Proofs.YtgdgklhfakplhaaGreatDoor
open Go.RowKit Go.Dig
set_option maxRecDepth 100000
set_option maxHeartbeats 1000000 in
/-- nat.cmp of two numbers of which the first is not the less. -/
theorem ncmp_ge (vx vy : Value) (m n : Nat) (w : World) (hx : Nw w vx m) (hy : Nw w vy n) (hle : n ≤ m) (hl9 : (dg 18446744073709551616 m).length ≤ 900) :
    Calls Tryz.prog 147 #[vx, vy] w fun e w' => ∃ r : Int, e = .returned (.int .i64 r) ∧ 0 ≤ r ∧ ∃ k, w' = w.drewN k := by
  by_cases hll : (dg 18446744073709551616 m).length ≠ (dg 18446744073709551616 n).length ∨ (dg 18446744073709551616 m).length = 0
  · refine (ncmp_len vx vy m n w hx hy hll).mono ?_
    rintro e w' ⟨rfl, rfl⟩
    have := dg_length_mono (b := 18446744073709551616) (by omega) hle
    refine ⟨_, rfl, ?_, 0, rfl⟩
    rw [if_neg (by omega)]
    split <;> omega
  · have hl1 : (dg 18446744073709551616 n).length = (dg 18446744073709551616 m).length := by
      rcases Nat.decEq (dg 18446744073709551616 m).length (dg 18446744073709551616 n).length with h | h
      · exact absurd (.inl h) hll
      · exact h.symm
    have hl0 : 0 < (dg 18446744073709551616 m).length := by
      rcases Nat.eq_zero_or_pos (dg 18446744073709551616 m).length with h | h
      · exact absurd (.inr h) hll
      · exact h
    obtain ⟨ax, cx, ex, h1, h2, h3⟩ := hx
    obtain ⟨ay, cy, ey, h4, h5, h6⟩ := hy
    obtain ⟨b, off, rfl, _, hc⟩ := h3 hl0
    obtain ⟨b', off', rfl, _, hc'⟩ := h6 (by omega)
    have HLE : Hid (∀ i, i < (dg 18446744073709551616 m).length → (∀ j, i + 1 ≤ j → j < (dg 18446744073709551616 m).length → (dg 18446744073709551616 m).getD j 0 = (dg 18446744073709551616 n).getD j 0) → ¬ (dg 18446744073709551616 m).getD i 0 < (dg 18446744073709551616 n).getD i 0) := by
      refine hid (fun i hi he hlt => ?_)
      have := val_lt_of_digit (b := 18446744073709551616) (by omega) hl1.symm (dg_lt (by omega) m) hi he hlt
      rw [val_dg (by omega), val_dg (by omega)] at this
      omega
    rw [hl1] at hc' ey
    have HC := hid hc
    have HC' := hid hc'
    clear hc hc' h3 h6 h1 h2 h4 h5 hll hle
    generalize dg 18446744073709551616 m = dm at *
    generalize dg 18446744073709551616 n = dn at *
    generalize hL : dm.length = L at *
    subst ex ey
    have hL0 : ((L : Int) == 0) = false := by simp; omega
    clear hL hl1
    go_enter Tryz.func147, Tryz.ntmps147
    go_wp2_with fail
    go_loopw [7] (fun v wr => ∃ i : Nat, v = .int .i64 i ∧ i < L ∧ Hid (∀ j, i + 1 ≤ j → j < L → dm.getD j 0 = dn.getD j 0) ∧ ∃ k, wr = w.drewN k) (fun v _ => (intOf v).toNat)
    case atStart => exact ⟨L - 1, by go_num, by omega, hid (fun j h1 h2 => by omega), 0, rfl⟩
    case round =>
      obtain ⟨i, rfl, hi, HE, k, rfl⟩ := hrel
      have ha : w.cell? ⟨b, off + i, none⟩ = some (.int .u64 (dm.getD i 0 : Nat)) := HC.out i hi
      have hb : w.cell? ⟨b', off' + i, none⟩ = some (.int .u64 (dn.getD i 0 : Nat)) := HC'.out i hi
      have hn := HLE.out i hi HE.out
      have HEQ : Hid (dm.getD i 0 = dn.getD i 0 → ∀ j, i ≤ j → j < L → dm.getD j 0 = dn.getD j 0) := by
        refine hid (fun h j h1 h2 => ?_)
        rcases Nat.eq_or_lt_of_le h1 with rfl | h'
        · exact h
        · exact HE.out j h' h2
      generalize dm.getD i 0 = x at *
      generalize dn.getD i 0 = y at *
      have c1 : decide ((x : Int) < (y : Int)) = false := decide_eq_false (by omega)
      have c1' : decide (x < y) = false := decide_eq_false hn
      rcases Nat.eq_zero_or_pos i with h0 | h0
      · subst h0
        rw [Nat.add_zero] at ha hb
        by_cases hg : y < x
        · go_wp2_with fail
          go_quiet (fail)
          go_wp2_with fail
          go_quiet (fail)
          go_wp2_with fail
          go_quiet (fail)
          go_wp2_with fail
          go_ret
          exact ⟨_, rfl, by omega, _, by simp only [World.drewN_drewN]; rfl⟩
        · go_wp2_with fail
          go_quiet (fail)
          go_wp2_with fail
          go_quiet (fail)
          go_wp2_with fail
          go_quiet (fail)
          go_wp2_with fail
          go_ret
          exact ⟨_, rfl, by omega, _, by simp only [World.drewN_drewN]; rfl⟩
      · have hi0 : decide (0 < (i : Int)) = true := decide_eq_true (by omega)
        have hi0' : decide (0 < i) = true := decide_eq_true h0
        by_cases hg : x = y
        · have HEQ2 := hid (HEQ.out hg)
          subst hg
          go_wp2_with fail
          go_quiet (fail)
          go_wp2_with fail
          exact ⟨⟨i - 1, by go_num, by omega, hid (fun j h1 h2 => HEQ2.out j (by omega) h2), _, rfl⟩, by simp [intOf]; omega⟩
        · have hg' : y < x := by omega
          have hne : ((x : Int) == (y : Int)) = false := by simp; omega
          go_wp2_with fail
          go_quiet (fail)
          go_wp2_with fail
          go_quiet (fail)
          go_wp2_with fail
          go_quiet (fail)
          go_wp2_with fail
          go_ret
          exact ⟨_, rfl, by omega, _, by simp only [World.drewN_drewN]; rfl⟩
end Go.Proofs.YtgdgklhfakplhaaGreatDoor
