/- Walks and lemmas for the laws of this seat. -/
import Derived.Test.YtgdgklhfakplhaaGreatDoorH25
import Derived.Test.YtgdgklhfakplhaaGreatDoorH20
import Derived.Test.YtgdgklhfakplhaaGreatDoorH14
namespace Go.Proofs.YtgdgklhfakplhaaGreatDoor
open Go.RowKit Go.Dig
set_option maxRecDepth 100000
theorem val_drop_cons {b : Nat} {l : List Nat} {j : Nat} (hj : j < l.length) : val b (l.drop j) = l.getD j 0 + b * val b (l.drop (j + 1)) := by
  rw [List.drop_eq_getElem_cons hj, List.getD_eq_getElem?_getD, List.getElem?_eq_getElem hj]
  rfl
theorem dv_step {m xs : List Nat} {j k y r : Nat} (hk : xs.length = k) (hm : k ≤ m.length) (hj : j < k) (hy : 0 < y) (hr : r = val 18446744073709551616 (xs.drop (j + 1)) % y) (hq : val 18446744073709551616 ((m.take k).drop (j + 1)) = val 18446744073709551616 (xs.drop (j + 1)) / y) :
    (r * 18446744073709551616 + xs.getD j 0) % y = val 18446744073709551616 (xs.drop j) % y ∧
    val 18446744073709551616 (((m.set j ((r * 18446744073709551616 + xs.getD j 0) / y)).take k).drop j) = val 18446744073709551616 (xs.drop j) / y := by
  have e1 := val_drop_cons (b := 18446744073709551616) (l := xs) (j := j) (by omega)
  have e2 := val_drop_cons (b := 18446744073709551616) (l := (m.set j ((r * 18446744073709551616 + xs.getD j 0) / y)).take k) (j := j) (by simp; omega)
  have e3 : ((m.set j ((r * 18446744073709551616 + xs.getD j 0) / y)).take k).drop (j + 1) = (m.take k).drop (j + 1) := by
    rw [List.drop_take, List.drop_take, List.drop_set_of_lt (by omega)]
  have e4 : ((m.set j ((r * 18446744073709551616 + xs.getD j 0) / y)).take k).getD j 0 = (r * 18446744073709551616 + xs.getD j 0) / y := by
    rw [List.getD_eq_getElem?_getD, List.getElem?_take_of_lt hj, List.getElem?_set_self (by omega)]
    rfl
  rw [e2, e3, e4, e1, hq]
  have hd := Nat.div_add_mod (val 18446744073709551616 (xs.drop (j + 1))) y
  rw [← hr] at hd
  generalize val 18446744073709551616 (xs.drop (j + 1)) = X at *
  generalize xs.getD j 0 = x at *
  have e5 : x + 18446744073709551616 * X = y * (18446744073709551616 * (X / y)) + (r * 18446744073709551616 + x) := by
    have : 18446744073709551616 * X = 18446744073709551616 * (y * (X / y) + r) := by rw [hd]
    rw [this, Nat.mul_add, Nat.mul_left_comm, Nat.mul_comm 18446744073709551616 r]
    omega
  rw [e5]
  constructor
  · rw [Nat.mul_add_mod]
  · rw [Nat.mul_add_div hy]
    omega
set_option maxHeartbeats 1000000 in
theorem divWVW_any (B cz b2 off2 c2 k y : Nat) (l xs : List Nat) (w : World) (hB : BlkN .u64 181 w B l) (hl : k ≤ l.length) (hk : xs.length = k) (hk2 : 1 < k) (hk3 : k < 1000) (hy0 : 0 < y) (hy : y < 18446744073709551616) (hb2 : b2 < B) (hxs : ∀ d ∈ xs, d < 18446744073709551616) (hc : ∀ i, i < k → w.cell? ⟨b2, off2 + i, none⟩ = some (.int .u64 (xs.getD i 0 : Nat))) :
    Calls Tryz.prog 172 #[.slice (some ⟨B, 0, none⟩) k cz, .int .u64 0, .slice (some ⟨b2, off2, none⟩) k c2, .int .u64 y] w fun e w' => ∃ r m, e = .returned (.int .u64 ((r : Nat) : Int)) ∧ Hid (r = val 18446744073709551616 xs % y) ∧ Hid (m.length = l.length) ∧ Hid (∀ d ∈ m.take k, d < 18446744073709551616) ∧ Hid (val 18446744073709551616 (m.take k) = val 18446744073709551616 xs / y) ∧ BlkN .u64 181 w' B m ∧ Below B w w' := by
  obtain ⟨s, hs, he, h1, h2⟩ := lz_bounds hy0 hy
  have HR := fun w => recip_any y s hy0 hy hs he h1 h2 w
  have hk1 : ((k : Int) == 1) = false := by simp; omega
  have HC := hid hc
  clear hc
  go_enter Tryz.func172, Tryz.ntmps172
  go_wp2_with fail
  refine (HR _).mono ?_
  rintro e w1 ⟨rec, rfl, hrec, nd, rfl⟩
  have HRC := hid hrec
  clear HR hrec
  go_wp2_with fail
  go_loopw [8, 12] (fun p q wr => ∃ (r j : Nat) (m : List Nat), p = .int .u64 r ∧ q = .int .i64 ((j : Int) - 1) ∧ j ≤ k ∧ r < y ∧ Hid (m.length = l.length) ∧ BlkN .u64 181 wr B m ∧ Hid (r = val 18446744073709551616 (xs.drop j) % y) ∧ Hid (val 18446744073709551616 ((m.take k).drop j) = val 18446744073709551616 (xs.drop j) / y) ∧ Hid (∀ i, j ≤ i → i < k → m.getD i 0 < 18446744073709551616) ∧ Below B w wr) (fun _ q _ => (intOf q + 1).toNat)
  case atStart =>
    refine ⟨0, k, l, rfl, rfl, Nat.le_refl _, hy0, hid rfl, hB, ?_, ?_, hid (fun i h1 h2 => absurd h1 (by omega)), below_drewN' _⟩
    · rw [← hk, List.drop_length]; exact hid (by simp [val])
    · refine hid ?_
      rw [List.drop_eq_nil_of_le (by rw [List.length_take]; exact Nat.min_le_left _ _), ← hk, List.drop_length]
      simp [val]
  case round =>
    clear hB
    obtain ⟨r, j, m, rfl, rfl, hj, hr, hml, hBm, hrv, hqv, hlow, hb⟩ := hrel
    rcases Nat.eq_zero_or_pos j with h0 | h0
    · subst h0
      go_wp2_with fail
      go_ret
      refine ⟨r, m, rfl, hrv, hml, ?_, hqv, hBm, hb⟩
      refine hid (fun d hd => ?_)
      obtain ⟨i, hi, rfl⟩ := List.getElem_of_mem hd
      simp only [List.length_take] at hi
      have := hlow.out i (by omega) (by omega)
      rw [List.getD_eq_getElem?_getD, List.getElem?_eq_getElem (by omega)] at this
      simpa using this
    · obtain ⟨i, rfl⟩ : ∃ i, j = i + 1 := ⟨j - 1, by omega⟩
      have hx0 := (hb.cell (p := ⟨b2, off2 + i, none⟩) hb2).trans (HC.out i (by omega))
      have hxw : xs.getD i 0 < 18446744073709551616 := getD_lt (by omega) hxs i
      have HS := hid (dv_step (m := m) (xs := xs) (j := i) (k := k) (y := y) (r := r) hk (by rw [hml.out]; exact hl) (by omega) hy0 hrv.out hqv.out)
      have HW := fun w => divWW_any r (xs.getD i 0) y s rec hr hxw hy hs he h1 h2 HRC.out.1 HRC.out.2 w
      have hqw : (r * 18446744073709551616 + xs.getD i 0) / y < 18446744073709551616 := Nat.div_lt_of_lt_mul (by
        have := Nat.mul_le_mul_right 18446744073709551616 (Nat.succ_le_of_lt hr)
        rw [Nat.succ_mul] at this
        omega)
      have hrw : (r * 18446744073709551616 + xs.getD i 0) % y < y := Nat.mod_lt _ hy0
      have hcell := hBm.at (i := i) (by rw [hml.out]; omega)
      have hfr := Blk.frozen hBm i
      generalize (r * 18446744073709551616 + xs.getD i 0) / y = q' at *
      generalize (r * 18446744073709551616 + xs.getD i 0) % y = r' at *
      generalize xs.getD i 0 = x at *
      go_wp2_with fail
      refine (HW _).mono ?_
      rintro e w2 ⟨rfl, nd2, rfl⟩
      have hb3 : Below B w (wr.drewN nd2) := hb.trans (below_drewN' nd2)
      have hBm3 : BlkN .u64 181 (wr.drewN nd2) B m := hBm.below (below_drewN' nd2) hBm.lt
      have hcell3 : (wr.drewN nd2).cell? ⟨B, i, none⟩ = some (.int .u64 (m.getD i 0 : Nat)) := hcell
      have hfr3 : (wr.drewN nd2).frozen? ⟨B, i, none⟩ = false := hfr
      clear hcell hfr hBm hb hx0 HW
      generalize wr.drewN nd2 = wd at *
      go_wp2_with fail
      go_roundw
      case rel =>
        refine ⟨r', i, m.set i q', rfl, by go_num, by omega, hrw, hid (by rw [List.length_set]; exact hml.out), ?_, hid HS.out.1, hid HS.out.2, ?_, ?_⟩
        · have := BlkN.put hBm3 i q'
          simpa using this
        · refine hid (fun i' hi1 hi2 => ?_)
          rcases Nat.lt_or_ge i i' with h | h
          · rw [set_far (by omega)]; exact hlow.out i' (by omega) hi2
          · obtain rfl : i' = i := by omega
            rw [List.getD_eq_getElem?_getD, List.getElem?_set_self (by rw [hml.out]; omega)]; exact hqw
        · exact hb3.setCell (Nat.le_refl _) _
      case measure => simp [intOf]
end Go.Proofs.YtgdgklhfakplhaaGreatDoor
namespace Go.Proofs.YtgdgklhfakplhaaGreatDoor
open Go.RowKit Go.Dig
set_option maxRecDepth 100000
set_option maxHeartbeats 1000000 in
/-- nat.divW onto nothing: a number of many words by one word. -/
theorem divW_any (vx : Value) (n y : Nat) (w : World) (hx : Nw w vx n) (hl : 1 < (dg 18446744073709551616 n).length) (hl2 : (dg 18446744073709551616 n).length ≤ 900) (hy0 : 0 < y) (hy : y < 18446744073709551616) :
    Calls Tryz.prog 146 #[.slice none 0 0, vx, .int .u64 y] w fun e w' => ∃ (v : Value) (r : Nat), e = .returned (.tuple #[v, .int .u64 (r : Int)]) ∧ Hid (r = n % y) ∧ Nw w' v (n / y) ∧ Below w.heap.size w w' := by
  have HX := hid hx
  obtain ⟨ax, cx, rfl, hx1, hx2, hx3⟩ := hx
  obtain ⟨b2, off2, rfl, ⟨_, hsh⟩, hc⟩ := hx3 (by omega)
  have hb2 : b2 < w.heap.size := shape_lt hsh
  have hval := val_dg (b := 18446744073709551616) (by omega) n
  have hdl := dg_lt (b := 18446744073709551616) (by omega) n
  have HC := hid hc
  clear hc hx3 hsh
  have hy1 : ((y : Int) == 0) = false := by simp; omega
  rcases Nat.lt_or_ge 1 y with h1 | h1
  · have hy2 : ((y : Int) == 1) = false := by simp; omega
    have hl0 : (((dg 18446744073709551616 n).length : Int) == 0) = false := by simp; intro h; rw [h] at hl; simp at hl
    have HM := fun w => natMake_any (dg 18446744073709551616 n).length hl (by omega) w
    generalize hds : dg 18446744073709551616 n = ds at *
    go_enter Tryz.func146, Tryz.ntmps146
    go_wp2_with fail
    refine (HM _).mono ?_
    rintro e w1 ⟨rfl, hw1⟩
    have hBz : BlkN .u64 181 w1 w.heap.size (List.replicate (ds.length + 4) 0) := by rw [hw1]; exact blk_new w _ 181
    have HB1 : Hid (Below w.heap.size w w1) := by rw [hw1]; exact (Below.refl _ _).alloc (Nat.le_refl _) _
    have HBz := hid hBz
    clear hw1 HM hBz
    go_wp2_with fail
    refine (divWVW_any w.heap.size _ b2 off2 cx ds.length y _ ds w1 HBz.out (by simp) rfl hl (by omega) hy0 hy hb2 hdl (fun i hi => (HB1.out.cell (World.block_lt_of_cell? w _ (HC.out i hi))).trans (HC.out i hi))).mono ?_
    rintro e w2 ⟨r, m, rfl, hr, hml, hmd, hmv, hB2, hb⟩
    have HB2 := hid (HB1.out.trans hb)
    rw [hval] at hr hmv
    have HRR := hid hr
    clear hr
    have hR := BlkN.rt hB2 (cap := ds.length + 4) (by rw [hml.out]; simp) (by omega)
    have hR2 := Rt.take (m := ds.length) hR (by rw [hml.out]; simp)
    have HRT := hid hR2
    clear hR hR2 hB2 hb
    go_wp2_with fail
    refine (norm_any _ _ _ HRT.out).mono ?_
    rintro e w3 ⟨v, rfl, hv, rfl⟩
    rw [trim_eq (by omega) hmd.out, hmv.out] at hv
    have HV := hid hv
    obtain ⟨av, cv, rfl⟩ := hv.shape
    clear hv
    go_wp2_with fail
    go_ret2
    exact ⟨_, r, rfl, HRR.out, HV.out, HB2.out⟩
  · obtain rfl : y = 1 := by omega
    rw [Nat.div_one]
    go_enter Tryz.func146, Tryz.ntmps146
    go_wp2_with fail
    refine (nset_any _ n w HX.out hl2).mono ?_
    rintro e w1 ⟨v, rfl, hv, _, hb⟩
    have HV := hid hv
    have HB := hid hb
    obtain ⟨av, cv, rfl⟩ := hv.shape
    clear hv hb
    go_wp2_with fail
    go_ret2
    exact ⟨_, 0, rfl, hid (Nat.mod_one n).symm, HV.out, HB.out⟩
set_option maxHeartbeats 1000000 in
/-- nat.div of a number of many words by one word, both stores new. -/
theorem div_word (vu vv : Value) (n y : Nat) (w : World) (hu : Nw w vu n) (hv : Nw w vv y) (hl : 1 < (dg 18446744073709551616 n).length) (hl2 : (dg 18446744073709551616 n).length ≤ 900) (hy0 : 0 < y) (hy : y < 18446744073709551616) :
    Calls Tryz.prog 111 #[.slice none 0 0, .pointer none, .slice none 0 0, vu, vv] w fun e w' => ∃ v v2, e = .returned (.tuple #[v, v2]) ∧ Nw w' v (n / y) ∧ Nw w' v2 (n % y) ∧ Below w.heap.size w w' := by
  have HU := hid hu
  obtain ⟨av, cv, ev, hv1, hv2, hv3⟩ := hv
  rw [dg_one hy0 hy] at ev hv1 hv3
  obtain ⟨bv, ov, rfl, _, hc⟩ := hv3 (by simp)
  have hk := hc 0 (by simp)
  simp only [List.getD_cons_zero, Nat.add_zero] at hk
  subst ev
  obtain ⟨au, cu, rfl⟩ := hu.shape
  clear hu hv3 hc hv1 hv2
  go_enter Tryz.func111, Tryz.ntmps111
  go_wp2_with fail
  refine (divW_any _ n y w HU.out hl hl2 hy0 hy).mono ?_
  rintro e w1 ⟨v, r, rfl, hr, hv, hb⟩
  have HR := hid hr
  have HV := hid hv
  have HB := hid hb
  have hrw : r < 18446744073709551616 := by rw [hr.out]; exact Nat.lt_trans (Nat.mod_lt _ hy0) hy
  obtain ⟨aq, cq, rfl⟩ := hv.shape
  clear hr hv hb hk
  go_wp2_with fail
  refine (setWord_wd r w1).mono ?_
  rintro e w2 ⟨v2, rfl, hv2, hb⟩
  have HV2 := hid (hv2.nw hrw)
  have HV1 := hid (HV.out.below hb (Nat.le_refl _))
  have HB2 := hid (below_next HB.out hb)
  obtain ⟨ar, cr, rfl⟩ := (hv2.nw hrw).shape
  clear hv2 hb
  go_wp2_with fail
  go_ret2
  refine ⟨_, _, rfl, HV1.out, ?_, HB2.out⟩
  have := HV2.out
  rw [HR.out.out] at this
  have e : (dg 18446744073709551616 r).length = (dg 18446744073709551616 (n % y)).length := by rw [HR.out.out]
  rw [e]
  exact this
end Go.Proofs.YtgdgklhfakplhaaGreatDoor
