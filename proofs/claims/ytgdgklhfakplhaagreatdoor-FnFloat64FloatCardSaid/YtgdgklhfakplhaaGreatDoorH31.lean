/- Walks and lemmas for the laws of this seat. -/
import Derived.Test.YtgdgklhfakplhaaGreatDoorH30
import Derived.Test.YtgdgklhfakplhaaGreatDoorH13
import Derived.Test.YtgdgklhfakplhaaGreatDoorH29
import Derived.StillTailTactics
namespace Go.Proofs.YtgdgklhfakplhaaGreatDoor
open Go.RowKit Go.Dig Go.DivPl
set_option maxRecDepth 100000
theorem drewN_drewN (w : World) (a b : Nat) : (w.drewN a).drewN b = w.drewN (a + b) := by
  simp [World.drewN, Nat.add_assoc]
theorem ww_next {B P1 P0 q y0 Pm Pn : Nat} (hP : P1 * B + P0 = q * y0) (hq : 0 < q) (h1 : Pm + 1 = P1) (h2 : Pn + y0 = P0 + B) : Pm * B + Pn = (q - 1) * y0 := by
  obtain ⟨k, rfl⟩ : ∃ k, q = k + 1 := ⟨q - 1, by omega⟩
  subst h1
  rw [Nat.add_mul, Nat.add_mul] at hP
  rw [Nat.add_sub_cancel]
  omega
theorem ww_next' {B P1 P0 q y0 : Nat} (hP : P1 * B + P0 = q * y0) (hq : 0 < q) (h2 : y0 ≤ P0) : P1 * B + (P0 - y0) = (q - 1) * y0 := by
  obtain ⟨k, rfl⟩ : ∃ k, q = k + 1 := ⟨q - 1, by omega⟩
  rw [Nat.add_mul] at hP
  rw [Nat.add_sub_cancel]
  omega
theorem ww_high {P1 P0 q y0 : Nat} (hP : P1 * 18446744073709551616 + P0 = q * y0) (hq : q < 18446744073709551616) (hy : y0 < 18446744073709551616) : P1 < 18446744073709551616 := by
  have h1 : q * y0 ≤ 18446744073709551615 * y0 := Nat.mul_le_mul_right y0 (by omega)
  omega
theorem ww_pos {P1 P0 q y0 : Nat} (hP : P1 * 18446744073709551616 + P0 = q * y0) (hq : 0 < q) (h : P0 < y0) : 0 < P1 := by
  have := Nat.le_mul_of_pos_left y0 hq
  omega
set_option maxHeartbeats 4000000 in
theorem divBasic_any (K sp bq cq bu cu bv cv k m : Nat) (t : Option (Nat × Nat × Nat)) (q u v : List Nat) (w : World)
    (hst : Stk w K sp t) (hKq : K ≤ bq) (hKu : K ≤ bu) (hq : Ds w bq 0 q) (hql : q.length = m) (hu : Ds w bu 0 u) (hul : u.length = m + (k + 2)) (hv : Ds w bv 0 v) (hvl : v.length = k + 2)
    (hoq : Off t bq) (hou : Off t bu) (hsv : Saf t bv (k + 2)) (hqu : bq ≠ bu) (hvq : bv ≠ bq) (hvu : bv ≠ bu)
    (hk2 : k < 38) (hm : 0 < m) (hm2 : m < 1000) (hcq : m ≤ cq) (hcq2 : cq < 1000000) (hcu : m + (k + 2) ≤ cu) (hcu2 : cu < 1000000) (_hcv : k + 2 ≤ cv)
    (hdu : ∀ d ∈ u, d < 18446744073709551616) (hdv : ∀ d ∈ v, d < 18446744073709551616) (htop : 9223372036854775808 ≤ v.getD (k + 1) 0) (hu0 : u.getD (m + k + 1) 0 < v.getD (k + 1) 0) (hlim : tlen t + k + 6 < 100) :
    Calls Tryz.prog 176 #[.slice (some ⟨bq, 0, none⟩) m cq, .pointer (some ⟨sp, 0, none⟩), .slice (some ⟨bu, 0, none⟩) (m + (k + 2)) cu, .slice (some ⟨bv, 0, none⟩) (k + 2) cv] w fun e w' => e = .returned (.tuple #[]) ∧ ∃ (q' u' : List Nat) (t' : Option (Nat × Nat × Nat)), q'.length = m ∧ u'.length = m + (k + 2) ∧ (∀ d ∈ q', d < 18446744073709551616) ∧ (∀ d ∈ u', d < 18446744073709551616) ∧
      val 18446744073709551616 u = val 18446744073709551616 u' + val 18446744073709551616 v * val 18446744073709551616 q' ∧ val 18446744073709551616 u' < val 18446744073709551616 v ∧ Ds w' bq 0 q' ∧ Ds w' bu 0 u' ∧ Stk w' K sp t' ∧ tlen t' = tlen t ∧ Off t' bq ∧ Off t' bu ∧ Below K w w' := by
  have HSV := stk_save K sp t w hst
  have HNT := stk_nat K sp (k + 3) t (by omega) (by omega) w hst (by omega)
  rw [show ((k + 3 : Nat) : Int) = (k : Int) + 2 + 1 by omega] at HNT
  go_enter_defers Tryz.func176, Tryz.ntmps176
  go_wp2_with fail
  refine HSV.mono ?_
  rintro e w' ⟨rfl, rfl⟩
  go_wp2_with fail
  refine HNT.mono ?_
  rintro e w1 ⟨bh, oh, hl, ch, t1, rfl, hch, hh, hhl, hst1, hsf, hle1, hle2, hD, hO, hB1, hKb⟩
  clear HSV HNT
  obtain ⟨hv1, hsv1, hvh⟩ := hD bv 0 v hv (by rw [Nat.zero_add, hvl]; exact hsv)
  rw [Nat.zero_add, hvl] at hvh
  have hu1 := (hD bu 0 u hu (hou.saf _)).1
  have hq1 := (hD bq 0 q hq (hoq.saf _)).1
  obtain ⟨hou1, huh⟩ := hO bu hu.lt hou
  obtain ⟨hoq1, hqh⟩ := hO bq hq.lt hoq
  clear hD hO hsv1 hsv hst hv hu hq hou hoq
  obtain ⟨y1, hy1⟩ : ∃ y1, v.getD (k + 1) 0 = y1 := ⟨_, rfl⟩
  obtain ⟨y0, hy0⟩ : ∃ y0, v.getD k 0 = y0 := ⟨_, rfl⟩
  rw [hy1] at htop hu0
  have hy1b : y1 < 18446744073709551616 := by rw [← hy1]; exact getD_lt (by omega) hdv _
  have hy0b : y0 < 18446744073709551616 := by rw [← hy0]; exact getD_lt (by omega) hdv _
  have hc1 := hv1.cell (i := k + 1) (by omega)
  rw [hy1, Nat.zero_add] at hc1
  have hbl : (64 : Int) - (Lib.bitLen y1 : Int) = ((0 : Nat) : Int) := by
    obtain ⟨s', h1, h2, h3, h4⟩ := lz_bounds (y := y1) (by omega) hy1b
    rcases Nat.eq_zero_or_pos s' with h | h
    · rw [h2, h]
    · exfalso
      have := Nat.mul_le_mul_left y1 (Nat.pow_le_pow_right (show 0 < 2 by omega) h)
      omega
  have HRC := fun w => recip_any y1 0 (by omega) hy1b (by omega) hbl (by omega) (by omega) w
  have HDV := hid hdv
  have HDU := hid hdu
  clear hdv hdu
  go_wp2_with fail
  refine (HRC _).mono ?_
  rintro e w2 ⟨rec, rfl, HR, nd, rfl⟩
  replace hv1 : Ds (w1.drewN nd) bv 0 v := hv1
  replace hu1 : Ds (w1.drewN nd) bu 0 u := hu1
  replace hq1 : Ds (w1.drewN nd) bq 0 q := hq1
  replace hh : Ds (w1.drewN nd) bh oh hl := hh
  replace hst1 : Stk (w1.drewN nd) K sp t1 := hst1.below (below_drewN' nd)
  replace hB1 : Below K w' (w1.drewN nd) := hB1.trans (below_drewN' nd)
  clear HRC hc1
  generalize w1.drewN nd = w2 at *
  obtain ⟨V, hV⟩ : ∃ V, val 18446744073709551616 v = V := ⟨_, rfl⟩
  have hVlo : Hid (18446744073709551616 ^ (k + 1) ≤ V) := by
    have h := val_lo (b := 18446744073709551616) hvl (by rw [hy1]; omega)
    rw [hV] at h
    exact hid h
  have hVhi : Hid (V ≤ 18446744073709551616 ^ (k + 2)) := by
    have h := val_hi (b := 18446744073709551616) (by omega) hvl HDV.out
    rw [hV] at h
    exact hid h
  have HVV := hid hV
  have HU0 := hid hu0
  have hV0 : 0 < V := Nat.lt_of_lt_of_le (Nat.pow_pos (by omega)) hVlo.out
  clear hV hu0
  go_wp2_with fail
  have hS0 : DivSt K sp bq bu bv bh oh k m t1 v w' w2 u q hl := { du := hu1, dq := hq1, dv := hv1, dh := hh, lu := hul, lq := hql, lv := hvl, lh := hhl, st := hst1, bl := hB1, qu := hqu, vq := hvq, vu := hvu, uh := huh, qh := hqh, vh := hvh, sf := hsf, ou := hou1, oq := hoq1, kq := hKq, ku := hKu, kh := hKb }
  clear hu1 hq1 hv1 hh hst1 hB1 hqu hvq hvu huh hqh hvh hsf hou1 hoq1 hKq hKu hKb
  go_loopw [13, 14] (fun p j' wr => ∃ (i : Nat) (uu qq h2 : List Nat), p = .int .u64 (uu.getD (i + k + 1) 0 : Nat) ∧ j' = .int .i64 ((i : Int) - 1) ∧ i ≤ m + 1 ∧ DivSt K sp bq bu bv bh oh k m t1 v w' wr uu qq h2 ∧
    Hid (val 18446744073709551616 u = val 18446744073709551616 uu + V * 18446744073709551616 ^ i * val 18446744073709551616 (qq.drop i)) ∧ Hid (val 18446744073709551616 (uu.drop i) < V) ∧ Hid (i = m + 1 → uu = u) ∧ Hid (∀ d ∈ uu, d < 18446744073709551616) ∧ Hid (∀ d ∈ qq.drop i, d < 18446744073709551616)) (fun _ j' _ => (intOf j' + 1).toNat)
  case atStart =>
    refine ⟨m + 1, u, q, hl, ?_, ?_, Nat.le_refl _, hS0, hid ?_, hid ?_, hid (fun _ => rfl), HDU, hid ?_⟩
    · rw [List.getD_eq_getElem?_getD, List.getElem?_eq_none (by omega)]; rfl
    · congr 1; omega
    · exact dv_start (by omega)
    · exact Nat.lt_of_lt_of_le (val_short (k := k + 1) (by omega) (by omega) HDU.out) hVlo.out
    · rw [List.drop_eq_nil_of_le (by omega)]; simp
  case round =>
    clear hS0 hql hul hhl
    obtain ⟨i, uu, qq, h2, rfl, rfl, hi, hS, HT, HR2, HE, HDU2, HDQ2⟩ := hrel
    rcases Nat.eq_zero_or_pos i with h0 | h0
    · subst h0
      go_wp2_with fail
      refine leaves_cons (f := 173) (args := #[.pointer (some ⟨sp, 0, none⟩), .int .i64 (tlen t)]) (by simp) (by simp [go_sem]) ?_
      refine (stk_restore K sp (tlen t) t1 hle1 .returning _ hS.st).mono ?_
      rintro e u' w3 ⟨rfl, rfl, t', hs3, ht3, ho3, hd3, hb3⟩
      refine ⟨.tuple #[], by simp [results, Tryz.results176, go_sem], rfl, qq, uu, t', hS.lq, hS.lu, HDQ2.out, HDU2.out, ?_, ?_, hd3 _ _ _ hS.dq, hd3 _ _ _ hS.du, hs3, ht3, ho3 _ hS.oq, ho3 _ hS.ou, hS.bl.trans hb3⟩
      · rw [HVV.out]
        exact dv_end HT.out
      · rw [HVV.out]
        exact HR2.out
    · obtain ⟨j, rfl⟩ : ∃ j, i = j + 1 := ⟨i - 1, by omega⟩
      obtain ⟨x2, hx2⟩ : ∃ x2, uu.getD (j + 1 + k + 1) 0 = x2 := ⟨_, rfl⟩
      rw [hx2, show ((j + 1 : Nat) : Int) - 1 = (j : Int) by omega]
      obtain ⟨x1, hx1⟩ : ∃ x1, uu.getD (j + k + 1) 0 = x1 := ⟨_, rfl⟩
      obtain ⟨x0, hx0⟩ : ∃ x0, uu.getD (j + k) 0 = x0 := ⟨_, rfl⟩
      have hx1b : x1 < 18446744073709551616 := by rw [← hx1]; exact getD_lt (by omega) HDU2.out _
      have hx0b : x0 < 18446744073709551616 := by rw [← hx0]; exact getD_lt (by omega) HDU2.out _
      have hx2b : x2 < 18446744073709551616 := by rw [← hx2]; exact getD_lt (by omega) HDU2.out _
      have HRF := hid (round_facts (b := 18446744073709551616) (by omega) hS.lu hi hvl HDU2.out HDV.out (by omega) hy1 hy0 hx2 hx1 hx0 HVV.out HR2.out)
      obtain ⟨qd, hqd⟩ : ∃ qd, qd = ((x2 * 18446744073709551616 + x1) * 18446744073709551616 + x0) / (y1 * 18446744073709551616 + y0) := ⟨_, rfl⟩
      rw [← hqd] at HRF
      have hx2le : x2 ≤ y1 := HRF.out.1
      have HQD := hid hqd
      clear hqd
      go_upto_if 51 with fail
      go_cut [15, 16, 17, 18, 19, 20] from 45 to 188 (fun p _ _ _ _ _ wx => ∃ qh : Nat, p = .int .u64 qh ∧ qh < 18446744073709551616 ∧ Hid (x2 = y1 → qh = 18446744073709551615) ∧ Hid (x2 < y1 → qh = qd) ∧ ∃ d, wx = wr.drewN d)
      case first =>
        rcases Nat.lt_or_ge x2 y1 with hlt | hge
        · have hlen := hS.lu
          have c1 := hS.du.cell (i := j + k + 1) (by omega)
          have c0 := hS.du.cell (i := j + k) (by omega)
          have ck := hS.dv.cell (i := k) (by omega)
          rw [Nat.zero_add, hx1, Nat.add_assoc] at c1
          rw [Nat.zero_add, hx0] at c0
          rw [Nat.zero_add, hy0] at ck
          have hne : ((x2 : Int) != (y1 : Int)) = true := by simp; omega
          have HDW := fun w => divWW_any x2 x1 y1 0 rec hlt hx1b hy1b (by omega) hbl (by omega) (by omega) HR.out.1 HR.out.2 w
          have hq0 := digit_lt (B := 18446744073709551616) hlt hx1b
          have HG0 : Hid (Guess 18446744073709551616 y1 y0 (x2 * 18446744073709551616 + x1) x0 _ _) := hid (guess_start (by omega) hx0b)
          obtain ⟨X, hX⟩ : ∃ X, X = x2 * 18446744073709551616 + x1 := ⟨_, rfl⟩
          rw [← hX] at hq0 HG0 HDW
          have HX := hid hX
          clear hX
          generalize X / y1 = q0 at *
          have hr0 : X % y1 < y1 := Nat.mod_lt _ (by omega)
          generalize X % y1 = r0 at *
          clear hx1 hx0 hS hlen HT HR2 HE HDQ2
          go_wp2_with fail
          refine (HDW _).mono ?_
          rintro e w3 ⟨rfl, d1, rfl⟩
          replace c0 : (wr.drewN d1).cell? ⟨bu, j + k, none⟩ = some (.int .u64 (x0 : Int)) := c0
          replace ck : (wr.drewN d1).cell? ⟨bv, k, none⟩ = some (.int .u64 (y0 : Int)) := ck
          have HW : Hid (∃ d, wr.drewN d1 = wr.drewN d) := hid ⟨_, rfl⟩
          clear c1 HDW
          generalize wr.drewN d1 = w3 at *
          have HMU := fun w => mulWW_any q0 y0 hq0 hy0b w
          have hp0 := Nat.mod_lt (q0 * y0) (show 18446744073709551616 > 0 by omega)
          have HP0 : Hid (q0 * y0 / 18446744073709551616 * 18446744073709551616 + q0 * y0 % 18446744073709551616 = q0 * y0) := by
            have := Nat.div_add_mod (q0 * y0) 18446744073709551616
            rw [Nat.mul_comm] at this
            exact this
          generalize q0 * y0 / 18446744073709551616 = p1 at *
          generalize q0 * y0 % 18446744073709551616 = p0 at *
          go_wp2_with fail
          refine (HMU _).mono ?_
          rintro e w4 ⟨rfl, d2, rfl⟩
          replace c0 : (w3.drewN d2).cell? ⟨bu, j + (k + 2) - 2, none⟩ = some (.int .u64 (x0 : Int)) := by
            rw [show j + (k + 2) - 2 = j + k by omega]; exact c0
          replace HW : Hid (∃ d, w3.drewN d2 = wr.drewN d) := by obtain ⟨d, rfl⟩ := HW.out; exact hid ⟨_, drewN_drewN _ _ _⟩
          clear HMU ck
          generalize w3.drewN d2 = w4 at *
          go_wp2_with fail
          clear c0
          obtain ⟨wo, rfl⟩ : ∃ wo : World, wo = wr := ⟨_, rfl⟩
          go_loopw [15, 16, 18, 19] (fun v15 v16 v18 v19 wx => ∃ q r P1 P0 : Nat, v15 = .int .u64 q ∧ v16 = .int .u64 r ∧ v18 = .int .u64 P1 ∧ v19 = .int .u64 P0 ∧ q < 18446744073709551616 ∧ r < 18446744073709551616 ∧ P0 < 18446744073709551616 ∧ Hid (P1 * 18446744073709551616 + P0 = q * y0) ∧ Hid (Guess 18446744073709551616 y1 y0 X x0 q r) ∧ Hid (∃ d, wx = wo.drewN d)) (fun v15 _ _ _ _ => (intOf v15).toNat)
          case atStart => exact ⟨q0, r0, p1, p0, rfl, rfl, rfl, rfl, hq0, by omega, hp0, HP0, HG0, HW⟩
          case round =>
            clear HP0 HG0 HW hq0 hr0 hp0
            obtain ⟨q, r, P1, P0, rfl, rfl, rfl, rfl, hq, hr, hP0, HP, HG, HWr⟩ := hrel
            have HGT := fun w => greater_any P1 P0 r x0 hP0 hx0b w
            by_cases hgt : r * 18446744073709551616 + x0 < P1 * 18446744073709551616 + P0
            · rw [decide_eq_true hgt] at HGT
              obtain ⟨hqp, G'⟩ := guess_step' HG.out (by have := HP.out; rw [Nat.mul_comm]; omega)
              have HG' := hid G'
              have wq : IntKind.u64.wrap ((q : Int) - 1) = ((q - 1 : Nat) : Int) := by rw [IntKind.wrap_u64]; omega
              clear G'
              by_cases hov : 18446744073709551616 ≤ r + y1
              · have w1 : IntKind.u64.wrap ((r : Int) + (y1 : Int)) = ((r + y1 - 18446744073709551616 : Nat) : Int) := by rw [IntKind.wrap_u64]; omega
                have HD := hid (guess_done HG'.out (guess_break' (by omega) hy0b hov))
                rw [HX.out] at HD
                obtain ⟨r', hr'⟩ : ∃ r', r' = r + y1 - 18446744073709551616 := ⟨_, rfl⟩
                rw [← hr'] at w1
                have c : decide ((r' : Int) < (y1 : Int)) = true := decide_eq_true (by omega)
                have c' : r' < y1 := by omega
                clear hr' hgt hov HG HG' HP
                go_wp2_with fail
                refine (HGT _).mono ?_
                rintro e w5 ⟨rfl, rfl⟩
                clear HGT
                go_wp2_with fail
                go_meet
                exact ⟨q - 1, rfl, by omega, hid (fun h => absurd h (by omega)), hid (fun _ => HD.out.trans HQD.out.symm), HWr.out⟩
              · have w1 : IntKind.u64.wrap ((r : Int) + (y1 : Int)) = ((r + y1 : Nat) : Int) := by rw [IntKind.wrap_u64]; omega
                have c : decide (((r + y1 : Nat) : Int) < (y1 : Int)) = false := decide_eq_false (by omega)
                have c' : ¬ r + y1 < y1 := by omega
                by_cases hb : P0 < y0
                · have cb : decide ((P0 : Int) < (y0 : Int)) = true := decide_eq_true (by omega)
                  have wp : IntKind.u64.wrap ((P1 : Int) - 1) = ((P1 - 1 : Nat) : Int) := by
                    have := ww_high HP.out hq hy0b
                    have := ww_pos HP.out hqp hb
                    rw [IntKind.wrap_u64]; omega
                  obtain ⟨Pn, hPn⟩ : ∃ Pn, Pn + y0 = P0 + 18446744073709551616 := ⟨P0 + 18446744073709551616 - y0, by omega⟩
                  obtain ⟨Pm, hPm⟩ : ∃ Pm, Pm + 1 = P1 := ⟨P1 - 1, by have := ww_pos HP.out hqp hb; omega⟩
                  rw [show P1 - 1 = Pm by omega] at wp
                  have w0 : IntKind.u64.wrap ((P0 : Int) - (y0 : Int)) = (Pn : Int) := by rw [IntKind.wrap_u64]; omega
                  have hPb : Pn < 18446744073709551616 := by omega
                  have HP' : Hid (Pm * 18446744073709551616 + Pn = (q - 1) * y0) := by
                    exact hid (ww_next HP.out hqp hPm hPn)
                  clear HP hgt HG
                  go_wp2_with fail
                  refine (HGT _).mono ?_
                  rintro e w5 ⟨rfl, rfl⟩
                  clear HGT
                  go_wp2_with fail
                  refine ⟨⟨q - 1, r + y1, Pm, Pn, rfl, rfl, rfl, rfl, by omega, by omega, hPb, HP', HG', HWr⟩, by simp [intOf]; omega⟩
                · have cb : decide ((P0 : Int) < (y0 : Int)) = false := decide_eq_false (by omega)
                  have w0 : IntKind.u64.wrap ((P0 : Int) - (y0 : Int)) = ((P0 - y0 : Nat) : Int) := by rw [IntKind.wrap_u64]; omega
                  have HP' : Hid (P1 * 18446744073709551616 + (P0 - y0) = (q - 1) * y0) := by
                    exact hid (ww_next' HP.out hqp (by omega))
                  clear HP hgt HG
                  go_wp2_with fail
                  refine (HGT _).mono ?_
                  rintro e w5 ⟨rfl, rfl⟩
                  clear HGT
                  go_wp2_with fail
                  refine ⟨⟨q - 1, r + y1, P1, P0 - y0, rfl, rfl, rfl, rfl, by omega, by omega, by omega, HP', HG', HWr⟩, by simp [intOf]; omega⟩
            · rw [decide_eq_false hgt] at HGT
              have HD := hid (guess_done HG.out (by have := HP.out; rw [Nat.mul_comm 18446744073709551616]; omega))
              rw [HX.out] at HD
              clear hgt HG HP
              go_wp2_with fail
              refine (HGT _).mono ?_
              rintro e w5 ⟨rfl, rfl⟩
              clear HGT
              go_wp2_with fail
              go_meet
              exact ⟨q, rfl, hq, hid (fun h => absurd h (by omega)), hid (fun _ => HD.out.trans HQD.out.symm), HWr.out⟩
        · obtain rfl : x2 = y1 := by omega
          clear HRF
          go_wp2_with fail
          go_meet
          exact ⟨18446744073709551615, rfl, by omega, hid (fun _ => rfl), hid (fun h => absurd h (by omega)), 0, rfl⟩
      case rest =>
        obtain ⟨qh, rfl, hqh, HQ1, HQ2, dd, rfl⟩ := hcut
        replace hS := hS.drewN dd
        generalize wr.drewN dd = wd at *
        have HM := mvww bh oh ch bv 0 cv qh 0 (h2.take (k + 2)) v wd (hS.dh.take (k + 2)) hS.dv (by rw [List.length_take, hS.lh, hvl]; omega) (by rcases hS.vh with g | g; exact .inl g; exact .inr (.inl (by rw [hvl]; omega))) (by omega) HDV.out hqh (by omega)
        rw [hvl] at HM
        go_wp2_with fail
        refine HM.mono ?_
        rintro e w3 ⟨l', cc, rfl, hl', hcc, hval, hdl, hDl, hFl⟩
        clear HM
        have hfr : w3.frozen? ⟨bh, oh + (k + 2), none⟩ = false := hDl.frozen _
        have hold := ((hS.dh.sub (i := k + 2) (by rw [hS.lh]; omega)).fx hFl (.inr (.inr (Nat.le_refl _)))).cell (i := 0) (by rw [List.length_drop, hS.lh]; omega)
        rw [Nat.add_zero] at hold
        generalize (h2.drop (k + 2)).getD 0 0 = old at hold
        obtain ⟨hT1, hF1⟩ := ds_tail (c := cc) hS.dh hS.lh hFl hDl hl'
        have hS1 := hS.hrow hF1 hT1 (by rw [List.length_append, hl']; rfl)
        have hct := hS1.dh.cell (i := k + 2) (by rw [List.length_append, hl']; simp)
        rw [show (l' ++ [cc]).getD (k + 2) 0 = cc by rw [List.getD_eq_getElem?_getD, List.getElem?_append_right (by omega), hl']; simp] at hct
        clear hT1 hF1 hDl hFl hS
        rcases Nat.lt_or_ge j m with hjm | hjm
        · have hq1 : decide ((m : Int) + ((k : Int) + 2) < (j : Int) + ((k : Int) + 3)) = false := decide_eq_false (by omega)
          go_wp2_with fail
          have s1 : IntKind.i64.wrap ((j : Int) + ((k : Int) + 3)) = (j : Int) + ((k : Int) + 3) := by rw [IntKind.wrap_i64]; omega
          have s2 : 0 ≤ (j : Int) + ((k : Int) + 3) := by omega
          have s3 : (j : Int) + ((k : Int) + 3) ≤ (cu : Int) := by omega
          have s4 : ((j : Int) + ((k : Int) + 3)).toNat = j + (k + 3) := by omega
          have s5 : j ≤ j + (k + 3) := by omega
          have s6 : ¬ cu = j := by omega
          have s7 : j + (k + 3) - j = k + 3 := by omega
          have s8 : (k : Int) + 3 ≤ (ch : Int) := by omega
          have s9 : 0 ≤ (k : Int) + 3 := by omega
          have s10 : ((k : Int) + 3).toNat = k + 3 := by omega
          go_still_tail 15, (by kernel_rfl)
          repeat (refine wpStill_step (fun K hK => ?_); simp [go_sem, s1, s2, s3, s4, s5, s6, s7, s8, s9, s10]; refine hK _ ?_; clear hK K)
          try refine wpStill_nil ?_
          change wpList _ _ _ _ _ (w3.setCell ⟨bh, oh + (k + 2), none⟩ (.int .u64 (cc : Int))).drew
          replace hS1 := hS1.drew
          clear hct hfr hold
          generalize (w3.setCell ⟨bh, oh + (k + 2), none⟩ (.int .u64 (cc : Int))).drew = w4 at *
          obtain ⟨Sv, hSv⟩ : ∃ Sv, Sv = val 18446744073709551616 ((uu.drop j).take (k + 3)) := ⟨_, rfl⟩
          have hF := HRF.out.2 hjm
          rw [← hSv] at hF
          have hg : Sv / V ≤ qh ∧ qh ≤ Sv / V + 1 := by
            rcases Nat.lt_or_ge x2 y1 with g | g
            · rw [HQ2.out g]; exact hF.2 g
            · have g' : x2 = y1 := by omega
              rw [HQ1.out g']; exact hF.1 g'
          have HSV := hid hSv
          have HG1 := hid hg.1
          have HG2 := hid hg.2
          have HVAL := hid hval
          have HDL := hid hdl
          clear hSv hF hg HRF HQ1 HQ2 hval hdl HQD
          have hlu := hS1.lu
          have hX : Ds w4 bu j ((uu.drop j).take (k + 3)) := by
            have := (hS1.du.sub (i := j) (by omega)).take (k + 3)
            rwa [Nat.zero_add] at this
          have hXl : ((uu.drop j).take (k + 3)).length = k + 3 := by rw [List.length_take, List.length_drop]; omega
          have HSB := subvv_in bu j (cu - j) (cu - j) bh oh ch ((uu.drop j).take (k + 3)) (l' ++ [cc]) w4 hX hS1.dh (by rw [hXl, hS1.lh]) (.inl hS1.uh.symm) (by omega) (fun d h => HDU2.out d (List.mem_of_mem_drop (List.mem_of_mem_take h))) (by
            intro d h
            rcases List.mem_append.1 h with h | h
            · exact HDL.out d h
            · rw [List.mem_singleton.1 h]; exact hcc)
          rw [hXl] at HSB
          clear hX
          go_wp2_with fail
          refine HSB.mono ?_
          rintro e w5 ⟨l2, c2, rfl, hl2, hc2, hv2, hd2, hD2, hF2⟩
          rw [← HSV.out] at hv2
          have HR := hid (round_sub (b := 18446744073709551616) (by omega) hV0 HG1.out HG2.out hl' (HVV.out ▸ HVAL.out) hl2 hd2 hv2 hc2)
          have HDl2 := hid hd2
          clear HSB hv2 HG1 HG2 HVAL hd2
          rcases Nat.eq_zero_or_pos c2 with hc0 | hc0
          · subst hc0
            obtain ⟨r1, r2⟩ := HR.out.1 rfl
            have hS2 := hS1.urow (n := k + 3) hF2 hD2 hl2 (by omega)
            have HEND := hid (round_end (b := 18446744073709551616) hlu hS1.lq hjm HDU2.out hV0 hVhi.out HR2.out HDl2.out (r2.trans (by rw [HSV.out])) (r1.trans (by rw [HSV.out])) hqh HDQ2.out HT.out)
            clear HR hF2 hD2 hS1 r1 r2 HDU2 HR2 HDl2 HDQ2 HT HE
            generalize uu.take j ++ l2 ++ uu.drop (j + (k + 3)) = u2 at *
            have cu1 := hS2.du.cell (i := j + k + 1) (by rw [hS2.lu]; omega)
            rw [Nat.zero_add, Nat.add_assoc] at cu1
            have cq1 := hS2.dq.cell (i := j) (by rw [hS2.lq]; exact hjm)
            rw [Nat.zero_add] at cq1
            have fq1 := hS2.dq.frozen j
            have hS3 := hS2.qset qh hjm
            have hjne : ((j : Int) == (m : Int)) = false := by simp; omega
            have hjne' : ¬ j = m := by omega
            clear hS2
            generalize qq.getD j 0 = oldq at cq1
            go_wp2_with fail
            refine ⟨⟨j, u2, qq.set j qh, l' ++ [cc], ?_, rfl, by omega, hS3, hid HEND.out.1, hid HEND.out.2.1, hid (fun h => absurd h (by omega)), hid HEND.out.2.2.1, hid HEND.out.2.2.2⟩, by simp [intOf]⟩
            rw [List.getD_eq_getElem?_getD, Nat.add_assoc]
          · obtain rfl : c2 = 1 := by omega
            obtain ⟨r1, r2⟩ := HR.out.2 rfl
            have HR1 := hid r1
            have HR2' := hid r2
            clear HR r1 r2
            have p1 : IntKind.i64.wrap ((j : Int) + ((k : Int) + 2)) = (j : Int) + ((k : Int) + 2) := by rw [IntKind.wrap_i64]; omega
            have p2 : 0 ≤ (j : Int) + ((k : Int) + 2) := by omega
            have p3 : (j : Int) + ((k : Int) + 2) ≤ (cu : Int) := by omega
            have p4 : ((j : Int) + ((k : Int) + 2)).toNat = j + (k + 2) := by omega
            have p5 : j ≤ j + (k + 2) := by omega
            have p7 : j + (k + 2) - j = k + 2 := by omega
            go_wp2_with fail
            go_still_tail 13, (by kernel_rfl)
            repeat (refine wpStill_step (fun K hK => ?_); simp [go_sem, p1, p2, p3, p4, p5, p7, s6]; refine hK _ ?_; clear hK K)
            try refine wpStill_nil ?_
            change wpList _ _ _ _ _ w5.drew
            replace hF2 : Fx bu j (k + 3) w4 w5.drew := hF2.drew
            replace hD2 : Ds w5.drew bu j l2 := hD2
            have hdv2 : Ds w5.drew bv 0 v := hS1.dv.fx hF2 (.inl hS1.vu)
            generalize w5.drew = w5' at *
            have HADD := addvv_in bu j (cu - j) (cu - j) bv 0 cv (l2.take (k + 2)) v w5' (hD2.take (k + 2)) hdv2 (by rw [List.length_take, hl2, hvl]; omega) (.inl hS1.vu) (by rw [List.length_take]; omega) (fun d h => HDl2.out d (List.mem_of_mem_take h)) HDV.out
            rw [show (l2.take (k + 2)).length = k + 2 by rw [List.length_take, hl2]; omega] at HADD
            go_wp2_with fail
            refine HADD.mono ?_
            rintro e w6 ⟨l3, c3, rfl, hl3, hc3, hv3, hd3, hD3, hF3⟩
            rw [HVV.out] at hv3
            obtain ⟨r3, r4⟩ := round_back (b := 18446744073709551616) (by omega) HR2'.out hVhi.out hV0 hl2 hl3 hd3 hv3
            obtain ⟨hT2, hFT⟩ := ds_tail (c := 0) hD2 hl2 hF3 hD3 hl3
            have co := ((hD2.sub (i := k + 2) (by omega)).fx hF3 (.inr (.inr (Nat.le_refl _)))).cell (i := 0) (by rw [List.length_drop]; omega)
            rw [Nat.add_zero, getD_drop, Nat.add_zero] at co
            have fo := hD3.frozen (j + (k + 2))
            have hS2 := hS1.urow (n := k + 3) (hF2.trans hFT) hT2 (by rw [List.length_append, hl3]; rfl) (by omega)
            change DivSt K sp bq bu bv bh oh k m t1 v w' (w6.setCell ⟨bu, j + (k + 2), none⟩ (.int .u64 0)) _ _ _ at hS2
            have hdl3 : ∀ d ∈ l3 ++ [0], d < 18446744073709551616 := by
              intro d h
              rcases List.mem_append.1 h with h | h
              · exact hd3 d h
              · rw [List.mem_singleton.1 h]; omega
            have HEND := hid (round_end (b := 18446744073709551616) (Q := qh - 1) hlu hS1.lq hjm HDU2.out hV0 hVhi.out HR2.out hdl3 (r3.trans (by rw [HSV.out])) ((show qh - 1 = Sv / V by rw [HR1.out]; rfl).trans (by rw [HSV.out])) (by omega) HDQ2.out HT.out)
            have hqp : 0 < qh := by rw [HR1.out]; exact Nat.succ_pos _
            have wq : IntKind.u64.wrap ((qh : Int) - 1) = ((qh - 1 : Nat) : Int) := by rw [IntKind.wrap_u64]; omega
            generalize l2.getD (k + 2) 0 = tt at *
            have wt : IntKind.u64.wrap ((tt : Int) + (c3 : Int)) = 0 := by rw [IntKind.wrap_u64]; omega
            clear HADD hv3 hd3 hD3 hF3 r3 r4 hT2 hFT hdl3 hS1 HR1 HR2' HDU2 HR2 HDl2 HDQ2 HT HE hF2 hD2 hdv2
            generalize uu.take j ++ (l3 ++ [0]) ++ uu.drop (j + (k + 3)) = u2 at *
            have cu1 := hS2.du.cell (i := j + k + 1) (by rw [hS2.lu]; omega)
            rw [Nat.zero_add, Nat.add_assoc] at cu1
            have cq1 := hS2.dq.cell (i := j) (by rw [hS2.lq]; exact hjm)
            rw [Nat.zero_add] at cq1
            have fq1 := hS2.dq.frozen j
            have hS3 := hS2.qset (qh - 1) hjm
            have hjne : ((j : Int) == (m : Int)) = false := by simp; omega
            have hjne' : ¬ j = m := by omega
            clear hS2
            generalize qq.getD j 0 = oldq at cq1
            go_wp2_with fail
            refine ⟨⟨j, u2, qq.set j (qh - 1), l' ++ [cc], ?_, rfl, by omega, hS3, hid HEND.out.1, hid HEND.out.2.1, hid (fun h => absurd h (by omega)), hid HEND.out.2.2.1, hid HEND.out.2.2.2⟩, by simp [intOf]⟩
            rw [List.getD_eq_getElem?_getD, Nat.add_assoc]
        · obtain rfl : j = m := by omega
          obtain rfl : uu = u := HE.out rfl
          have hlu := hS1.lu
          have e2 : x2 = 0 := by rw [← hx2, List.getD_eq_getElem?_getD, List.getElem?_eq_none (by omega)]; rfl
          have hx1y : x1 < y1 := by rw [← hx1]; exact HU0.out
          have hq0 : qh = 0 := by
            rw [HQ2.out (by omega), HQD.out, e2]
            exact first_digit hx1y hx0b
          subst hq0
          rw [HVV.out] at hval
          obtain ⟨v1, v2⟩ := first_prod (by omega) hval
          subst v2
          have HV1 := hid v1
          have HDL := hid hdl
          clear v1 hval hdl HQ1 HQ2 HQD HRF
          have hq1 : decide ((j : Int) + ((k : Int) + 2) < (j : Int) + ((k : Int) + 3)) = true := decide_eq_true (by omega)
          have p1 : IntKind.i64.wrap ((j : Int) + ((k : Int) + 2)) = (j : Int) + ((k : Int) + 2) := by rw [IntKind.wrap_i64]; omega
          have p2 : 0 ≤ (j : Int) + ((k : Int) + 2) := by omega
          have p3 : (j : Int) + ((k : Int) + 2) ≤ (cu : Int) := by omega
          have p4 : ((j : Int) + ((k : Int) + 2)).toNat = j + (k + 2) := by omega
          have p5 : j ≤ j + (k + 2) := by omega
          have p6 : ¬ cu = j := by omega
          have p7 : j + (k + 2) - j = k + 2 := by omega
          have p8 : (k : Int) + 2 ≤ (ch : Int) := by omega
          have p9 : 0 ≤ (k : Int) + 2 := by omega
          have p10 : ((k : Int) + 2).toNat = k + 2 := by omega
          have p0 : (k : Int) + 3 - 1 = (k : Int) + 2 := by omega
          go_wp2_with fail
          go_still_tail 15, (by kernel_rfl)
          repeat (refine wpStill_step (fun K hK => ?_); simp [go_sem, p0, p1, p2, p3, p4, p5, p6, p7, p8, p9, p10]; refine hK _ ?_; clear hK K)
          try refine wpStill_nil ?_
          change wpList _ _ _ _ _ (w3.setCell ⟨bh, oh + (k + 2), none⟩ (.int .u64 ((0 : Nat) : Int))).drew
          replace hS1 := hS1.drew
          clear hct hfr hold
          generalize (w3.setCell ⟨bh, oh + (k + 2), none⟩ (.int .u64 ((0 : Nat) : Int))).drew = w4 at *
          have hX : Ds w4 bu j (uu.drop j) := by
            have := hS1.du.sub (i := j) (by omega)
            rwa [Nat.zero_add] at this
          have hY : Ds w4 bh oh l' := by
            have := hS1.dh.take (k + 2)
            rwa [List.take_left' hl'] at this
          have hXl : (uu.drop j).length = k + 2 := by rw [List.length_drop]; omega
          have hdX : ∀ d ∈ uu.drop j, d < 18446744073709551616 := fun d h => HDU2.out d (List.mem_of_mem_drop h)
          have HSB := subvv_in bu j (cu - j) (cu - j) bh oh ch (uu.drop j) l' w4 hX hY (by rw [hXl, hl']) (.inl hS1.uh.symm) (by omega) hdX HDL.out
          rw [hXl] at HSB
          clear hX hY
          go_wp2_with fail
          refine HSB.mono ?_
          rintro e w5 ⟨l2, c2, rfl, hl2, hc2, hv2, hd2, hD2, hF2⟩
          obtain ⟨g1, g2⟩ := first_sub (by omega) HV1.out hv2 hl2 hXl hd2 hdX hc2
          subst g1
          have hS2 := hS1.urow (n := k + 2) hF2 hD2 hl2 (Nat.le_refl _)
          rw [g2, splice_same hlu] at hS2
          have HRS := hid (first_rest (b := 18446744073709551616) (by omega) hlu hvl HDU2.out (by rw [hy1]; exact HU0.out))
          rw [HVV.out] at HRS
          clear HSB hv2 hd2 hD2 hF2 hS1 g2 hdX HDL HV1 HR2 HT
          have cu1 := hS2.du.cell (i := j + k + 1) (by omega)
          rw [Nat.zero_add, Nat.add_assoc] at cu1
          go_wp2_with fail
          refine ⟨⟨j, uu, qq, l' ++ [0], ?_, rfl, by omega, hS2, hid (dv_start (Nat.le_of_eq hS2.lq)), HRS, hid (fun h => absurd h (by omega)), HDU2, hid (fun d h => absurd h (by rw [List.drop_eq_nil_of_le (Nat.le_of_eq hS2.lq)]; simp))⟩, by simp [intOf]⟩
          rw [List.getD_eq_getElem?_getD, Nat.add_assoc, List.getElem?_eq_getElem (by omega)]; rfl
end Go.Proofs.YtgdgklhfakplhaaGreatDoor
