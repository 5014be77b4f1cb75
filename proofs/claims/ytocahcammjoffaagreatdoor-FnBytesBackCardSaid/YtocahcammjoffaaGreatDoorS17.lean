/- Walks and lemmas for the laws of this seat. -/
import Derived.Test.YtocahcammjoffaaGreatDoorS16
import Derived.Deep.RegionHeld
namespace Go.Proofs.YtocahcammjoffaaGreatDoor
open Go.RowKit Go.Dig
set_option maxRecDepth 100000
/-- A fraction, told by its sign, its numerator and its denominator. -/
def Ra (w : World) (v : Value) (s : Bool) (n d : Nat) : Prop := ∃ v1 v2, v = .agg #[.bool s, v1, v2] ∧ Nt w v1 n ∧ Nt w v2 d
theorem Ra.below {w w' : World} {v : Value} {s : Bool} {n d B : Nat} (h : Ra w v s n d) (hb : Below B w w') (hB : w.heap.size ≤ B) : Ra w' v s n d := by
  obtain ⟨v1, v2, e, h1, h2⟩ := h
  exact ⟨v1, v2, e, h1.below hb hB, h2.below hb hB⟩
theorem mul_len {m n j k : Nat} (h1 : (dg 65536 m).length ≤ j) (h2 : (dg 65536 n).length ≤ k) : (dg 65536 (m * n)).length ≤ j + k := by
  apply dg_length_le (by omega)
  have e1 := Nat.lt_of_lt_of_le (lt_pow_dg_length (b := 65536) (by omega) m) (Nat.pow_le_pow_right (by omega) h1)
  have e2 := Nat.lt_of_lt_of_le (lt_pow_dg_length (b := 65536) (by omega) n) (Nat.pow_le_pow_right (by omega) h2)
  rw [Nat.pow_add]
  exact Nat.mul_lt_mul'' e1 e2
theorem add_len {m n k : Nat} (h1 : (dg 65536 m).length ≤ k) (h2 : (dg 65536 n).length ≤ k) : (dg 65536 (m + n)).length ≤ k + 1 := by
  apply dg_length_le (by omega)
  have e1 := Nat.lt_of_lt_of_le (lt_pow_dg_length (b := 65536) (by omega) m) (Nat.pow_le_pow_right (by omega) h1)
  have e2 := Nat.lt_of_lt_of_le (lt_pow_dg_length (b := 65536) (by omega) n) (Nat.pow_le_pow_right (by omega) h2)
  rw [Nat.pow_succ]; omega
theorem over_ra (neg : Bool) (va vb : Value) (m n : Nat) (w : World) (hma : Nt w va m) (hmb : Nt w vb n) (hla : (dg 65536 m).length ≤ 100000) (hlb : (dg 65536 n).length ≤ 100000) (hn : n ≠ 0) :
    Calls Tryz.prog 66 #[.bool neg, va, vb] w fun e w' => ∃ v, e = .returned v ∧ Ra w' v (decide (sgn neg m < 0)) (m / Nat.gcd m n) (n / Nat.gcd m n) ∧ Below w.heap.size w w' := by
  refine (over_any neg va vb m n w hma hmb hla hlb hn).mono ?_
  rintro e w' ⟨v1, v2, rfl, h1, h2, hb⟩
  refine ⟨_, rfl, ⟨v1, v2, ?_, h1, h2⟩, hb⟩
  have : (neg && decide (m ≠ 0)) = decide (sgn neg m < 0) := by
    cases neg
    · simp [sgn]
    · rw [Bool.true_and, sgn, if_pos rfl, decide_eq_decide]; omega
  rw [this]
theorem sgn_true (n : Nat) : sgn true n = -(n : Int) := rfl
theorem sgn_false (n : Nat) : sgn false n = (n : Int) := rfl
theorem over_bz (neg : Bool) (va vb : Value) (m n : Nat) (w : World) (hma : Nt w va m) (hmb : Nt w vb n) (hla : (dg 65536 m).length ≤ 100000) (hlb : (dg 65536 n).length ≤ 100000) (hn : n ≠ 0) :
    Calls Tryz.prog 66 #[.bool neg, va, vb] w fun e w' => ∃ bz v1 v2, e = .returned (.agg #[.bool bz, v1, v2]) ∧ Hid (bz = decide (sgn neg m < 0)) ∧ Nt w' v1 (m / Nat.gcd m n) ∧ Nt w' v2 (n / Nat.gcd m n) ∧ Below w.heap.size w w' := by
  refine (over_any neg va vb m n w hma hmb hla hlb hn).mono ?_
  rintro e w' ⟨v1, v2, rfl, h1, h2, hb⟩
  have : (neg && decide (m ≠ 0)) = decide (sgn neg m < 0) := by
    cases neg
    · simp [sgn]
    · rw [Bool.true_and, sgn, if_pos rfl, decide_eq_decide]; omega
  exact ⟨_, v1, v2, rfl, this, h1, h2, hb⟩
/-- Three structs of three cells stand at the start's end, the first two known, and all else of the start too. -/
def Tb (w : World) (x0 x1 x2 y0 y1 y2 : Value) (w' : World) : Prop :=
  Blk w' w.heap.size #[x0, x1, x2] 31 ∧ Blk w' (w.heap.size + 1) #[y0, y1, y2] 31 ∧ (∃ z0 z1 z2, Blk w' (w.heap.size + 1 + 1) #[z0, z1, z2] 31) ∧ Below w.heap.size w w'
/-- The cells of the two structs that a region reads; and that they stand. -/
def Sp (w : World) (x0 x1 x2 y0 y1 y2 : Value) (w' : World) : Prop :=
  w'.cell? ⟨w.heap.size, 1, none⟩ = some x1 ∧ w'.cell? ⟨w.heap.size, 2, none⟩ = some x2 ∧ w'.cell? ⟨w.heap.size + 1, 1, none⟩ = some y1 ∧ w'.cell? ⟨w.heap.size + 1, 2, none⟩ = some y2 ∧ Tb w x0 x1 x2 y0 y1 y2 w'
def Sz (w : World) (x0 x1 x2 y0 y1 y2 : Value) (w' : World) : Prop :=
  w'.cell? ⟨w.heap.size, 0, none⟩ = some x0 ∧ w'.cell? ⟨w.heap.size + 1, 0, none⟩ = some y0 ∧ Tb w x0 x1 x2 y0 y1 y2 w'
section
variable {w ww w1 : World} {x0 x1 x2 y0 y1 y2 : Value}
theorem sp_of (h : Tb w x0 x1 x2 y0 y1 y2 ww) : Sp w x0 x1 x2 y0 y1 y2 ww := ⟨h.1.cell 1, h.1.cell 2, h.2.1.cell 1, h.2.1.cell 2, h⟩
theorem sz_of (h : Tb w x0 x1 x2 y0 y1 y2 ww) : Sz w x0 x1 x2 y0 y1 y2 ww := ⟨h.1.cell 0, h.2.1.cell 0, h⟩
theorem tb_next (hb : Below ww.heap.size ww w1) (h : Tb w x0 x1 x2 y0 y1 y2 ww) : Tb w x0 x1 x2 y0 y1 y2 w1 := by
  obtain ⟨h1, h2, ⟨z0, z1, z2, h3⟩, h4⟩ := h
  exact ⟨h1.below hb h1.lt, h2.below hb h2.lt, ⟨z0, z1, z2, h3.below hb h3.lt⟩, below_next h4 hb⟩
theorem tb_drew (h : Tb w x0 x1 x2 y0 y1 y2 ww) : Tb w x0 x1 x2 y0 y1 y2 ww.drew := tb_next (below_drewN' 1) h
theorem blk_far {b b2 : Nat} {c : Array Value} {t : TypeId} (h : Blk ww b c t) (hne : b2 ≠ b) (i : Nat) (v : Value) : Blk (ww.setCell ⟨b2, i, none⟩ v) b c t := by
  unfold Blk at *
  simp only [World.setCell, Array.getElem?_modify, if_neg hne, h]
theorem tb_set3 (h : Tb w x0 x1 x2 y0 y1 y2 ww) (u0 u1 u2 : Value) :
    Tb w x0 x1 x2 y0 y1 y2 (((ww.setCell ⟨w.heap.size + 1 + 1, 0, none⟩ u0).setCell ⟨w.heap.size + 1 + 1, 1, none⟩ u1).setCell ⟨w.heap.size + 1 + 1, 2, none⟩ u2) := by
  obtain ⟨h1, h2, ⟨z0, z1, z2, h3⟩, h4⟩ := h
  refine ⟨blk_far (blk_far (blk_far h1 (by omega) _ _) (by omega) _ _) (by omega) _ _, blk_far (blk_far (blk_far h2 (by omega) _ _) (by omega) _ _) (by omega) _ _, ⟨u0, u1, u2, ?_⟩, below_set3 h4 (by omega) _ _ _⟩
  exact ((h3.set 0 u0).set 1 u1).set 2 u2
theorem sp_below (h : Sp w x0 x1 x2 y0 y1 y2 ww) : Below w.heap.size w ww := h.2.2.2.2.2.2.2
theorem sp_next (hb : Below ww.heap.size ww w1) (h : Sp w x0 x1 x2 y0 y1 y2 ww) : Sp w x0 x1 x2 y0 y1 y2 w1 := sp_of (tb_next hb h.2.2.2.2)
theorem sz_next (hb : Below ww.heap.size ww w1) (h : Sz w x0 x1 x2 y0 y1 y2 ww) : Sz w x0 x1 x2 y0 y1 y2 w1 := sz_of (tb_next hb h.2.2)
theorem sz_set3 (h : Sz w x0 x1 x2 y0 y1 y2 ww) (u0 u1 u2 : Value) :
    Sz w x0 x1 x2 y0 y1 y2 (((ww.setCell ⟨w.heap.size + 1 + 1, 0, none⟩ u0).setCell ⟨w.heap.size + 1 + 1, 1, none⟩ u1).setCell ⟨w.heap.size + 1 + 1, 2, none⟩ u2) := sz_of (tb_set3 h.2.2 u0 u1 u2)
end
theorem three_alloc (w : World) (x0 x1 x2 y0 y1 y2 z0 z1 z2 : Value) :
    Tb w x0 x1 x2 y0 y1 y2 (((w.alloc (.cells #[x0, x1, x2] 31)).alloc (.cells #[y0, y1, y2] 31)).alloc (.cells #[z0, z1, z2] 31)) := by
  refine ⟨((blk_new w _ 31).alloc _).alloc _, ?_, ⟨z0, z1, z2, ?_⟩, (((Below.refl _ _).alloc (Nat.le_refl _) _).alloc (by simp) _).alloc (by simp; omega) _⟩
  · have := (blk_new (w.alloc (.cells #[x0, x1, x2] 31)) #[y0, y1, y2] 31).alloc (.cells #[z0, z1, z2] 31)
    simpa using this
  · have := blk_new ((w.alloc (.cells #[x0, x1, x2] 31)).alloc (.cells #[y0, y1, y2] 31)) #[z0, z1, z2] 31
    simpa using this
set_option maxHeartbeats 4000000 in
theorem plus_any (va vb : Value) (s1 s2 : Bool) (n1 d1 n2 d2 : Nat) (w : World) (ha : Ra w va s1 n1 d1) (hb : Ra w vb s2 n2 d2)
    (h1 : (dg 65536 n1).length ≤ 20000) (h2 : (dg 65536 d1).length ≤ 20000) (h3 : (dg 65536 n2).length ≤ 20000) (h4 : (dg 65536 d2).length ≤ 20000) (h5 : d1 ≠ 0) (h6 : d2 ≠ 0) :
    Calls Tryz.prog 42 #[va, vb] w fun e w' => ∃ v, e = .returned v ∧ (∀ S : Int, S = sgn s1 (n1 * d2) + sgn s2 (n2 * d1) → Ra w' v (decide (S < 0)) (S.natAbs / Nat.gcd S.natAbs (d1 * d2)) (d1 * d2 / Nat.gcd S.natAbs (d1 * d2))) ∧ Below w.heap.size w w' := by
  obtain ⟨va1, va2, rfl, ha1, ha2⟩ := ha
  obtain ⟨vb1, vb2, rfl, hb1, hb2⟩ := hb
  obtain ⟨p1, c1, rfl⟩ := ha1.shape
  obtain ⟨p2, c2, rfl⟩ := ha2.shape
  obtain ⟨p3, c3, rfl⟩ := hb1.shape
  obtain ⟨p4, c4, rfl⟩ := hb2.shape
  have A1 := hid ha1
  have A2 := hid ha2
  have B1 := hid hb1
  have B2 := hid hb2
  clear ha1 ha2 hb1 hb2
  go_enter Tryz.func42, Tryz.ntmps42
  go_wp2_with fail
  have hsp := three_alloc w (.bool s1) (.slice p1 (dg 65536 n1).length c1) (.slice p2 (dg 65536 d1).length c2) (.bool s2) (.slice p3 (dg 65536 n2).length c3) (.slice p4 (dg 65536 d2).length c4) (.bool false) (.slice none 0 0) (.slice none 0 0)
  generalize ((w.alloc (.cells #[.bool s1, .slice p1 (dg 65536 n1).length c1, .slice p2 (dg 65536 d1).length c2] 31)).alloc (.cells #[.bool s2, .slice p3 (dg 65536 n2).length c3, .slice p4 (dg 65536 d2).length c4] 31)).alloc (.cells #[.bool false, .slice none 0 0, .slice none 0 0] 31) = w0 at *
  go_region_held (fun w' => w'.cell? ⟨w.heap.size, 1, none⟩ = some (.slice p1 (dg 65536 n1).length c1) ∧ w'.cell? ⟨w.heap.size, 2, none⟩ = some (.slice p2 (dg 65536 d1).length c2) ∧ w'.cell? ⟨w.heap.size + 1, 1, none⟩ = some (.slice p3 (dg 65536 n2).length c3) ∧ w'.cell? ⟨w.heap.size + 1, 2, none⟩ = some (.slice p4 (dg 65536 d2).length c4) ∧ Tb w (.bool s1) (.slice p1 (dg 65536 n1).length c1) (.slice p2 (dg 65536 d1).length c2) (.bool s2) (.slice p3 (dg 65536 n2).length c3) (.slice p4 (dg 65536 d2).length c4) w')
    (first | exact sp_of (tb_drew hsp) | exact sp_next (by assumption) (by assumption))
    (first | (go_at_call_of 80 p1; refine (mul_any _ _ (n1) (d2) _ ?_ ?_ (Nat.le_trans h1 (by omega)) (Nat.le_trans h4 (by omega))).mono ?_; exact A1.out.below (sp_below (by assumption)) (Nat.le_refl _); exact B2.out.below (sp_below (by assumption)) (Nat.le_refl _); rintro e w1 ⟨v1, rfl, hv1, hb1⟩; obtain ⟨q1, e1, rfl⟩ := hv1.shape; have HV1 := hid hv1; clear hv1)
           | (go_at_call_of 80 p3; refine (mul_any _ _ (n2) (d1) _ ?_ ?_ (Nat.le_trans h3 (by omega)) (Nat.le_trans h2 (by omega))).mono ?_; exact B1.out.below (sp_below (by assumption)) (Nat.le_refl _); exact A2.out.below (sp_below (by assumption)) (Nat.le_refl _); rintro e w2 ⟨v2, rfl, hv2, hb2⟩; obtain ⟨q2, e2, rfl⟩ := hv2.shape; have HV2 := hid hv2; clear hv2)
           | (go_at_call_of 80 p2; refine (mul_any _ _ (d1) (d2) _ ?_ ?_ (Nat.le_trans h2 (by omega)) (Nat.le_trans h4 (by omega))).mono ?_; exact A2.out.below (sp_below (by assumption)) (Nat.le_refl _); exact B2.out.below (sp_below (by assumption)) (Nat.le_refl _); rintro e w3 ⟨v3, rfl, hv3, hb3⟩; obtain ⟨q3, e3, rfl⟩ := hv3.shape; have HV3 := hid hv3; clear hv3))
  have hT := tb_next hb3 (tb_next hb2 (tb_next hb1 (tb_drew hsp)))
  have HX : Hid (Nt w3 _ (n1 * d2)) := (HV1.out.below hb2 (Nat.le_refl _)).below hb3 (Nat.le_refl _)
  have HY : Hid (Nt w3 _ (n2 * d1)) := HV2.out.below hb3 (Nat.le_refl _)
  have HD := HV3
  have hlx : (dg 65536 (n1 * d2)).length ≤ 40000 := mul_len h1 h4
  have hly : (dg 65536 (n2 * d1)).length ≤ 40000 := mul_len h3 h2
  have hld : (dg 65536 (d1 * d2)).length ≤ 100000 := Nat.le_trans (mul_len h2 h4) (by omega)
  have hd0 : d1 * d2 ≠ 0 := Nat.mul_ne_zero h5 h6
  clear hb1 hb2 hb3 HV1 HV2 HV3 hsp A1 A2 B1 B2 h1 h2 h3 h4 h5 h6
  have g0 := hT.1.cell 0
  have g1 := hT.2.1.cell 0
  simp only [List.getElem?_toArray, List.getElem?_cons_zero] at g0 g1
  generalize hxe : n1 * d2 = x at *
  generalize hye : n2 * d1 = y at *
  generalize hde : d1 * d2 = d at *
  have HXE := hid hxe
  have HYE := hid hye
  have HDE := hid hde
  clear hxe hye hde
  have hls := add_len hlx hly
  cases s1 <;> cases s2
  case false.false =>
    go_wp2_with fail
    go_region_held (fun w' => w'.cell? ⟨w.heap.size, 0, none⟩ = some (.bool false) ∧ w'.cell? ⟨w.heap.size + 1, 0, none⟩ = some (.bool false) ∧ Tb w (.bool false) (.slice p1 (dg 65536 n1).length c1) (.slice p2 (dg 65536 d1).length c2) (.bool false) (.slice p3 (dg 65536 n2).length c3) (.slice p4 (dg 65536 d2).length c4) w')
      (first | exact sz_of (tb_drew hT) | exact sz_next (by assumption) (by assumption) | exact sz_set3 (by assumption) _ _ _)
      (first | (go_at_call 82; refine (add_any _ _ x y _ ?_ ?_ (Nat.le_trans hlx (by omega)) (Nat.le_trans hly (by omega))).mono ?_; exact HX.out.below (below_drewN' 1) (Nat.le_refl _); exact HY.out.below (below_drewN' 1) (Nat.le_refl _); rintro e w6 ⟨v6, rfl, hv6, hb6⟩; obtain ⟨q6, e6, rfl⟩ := hv6.shape; have HV6 := hid hv6; clear hv6)
             | (go_at_call 66; refine (over_bz false _ _ (x + y) d _ ?_ ?_ (Nat.le_trans hls (by omega)) hld hd0).mono ?_; exact HV6.out; exact (HD.out.below (below_drewN' 1) (Nat.le_refl _)).below hb6 (Nat.le_refl _); rintro e w7 ⟨bz, v7, v8, rfl, HBZ, hv7, hv8, hb7⟩; obtain ⟨q7, e7, rfl⟩ := hv7.shape; obtain ⟨q8, e8, rfl⟩ := hv8.shape; have HV7 := hid hv7; have HV8 := hid hv8; clear hv7 hv8; have hT7 := hid (tb_next hb7 (tb_next hb6 (tb_drew hT))); obtain ⟨z0, z1, z2, hz⟩ := hT7.out.2.2.1; have HZ := hid hz; obtain ⟨r0, r1, r2, r3, r4, r5⟩ := hz.three; clear hz))
    go_wp2_with fail
    refine bodyPost_ret (v := .agg #[.bool bz, .slice q7 (dg 65536 ((x + y) / Nat.gcd (x + y) d)).length e7, .slice q8 (dg 65536 (d / Nat.gcd (x + y) d)).length e8]) (by simp [results, Tryz.results42, go_sem, r0, r1, r2]) rfl ⟨_, rfl, ?_, below_set3 hT7.out.2.2.2 (by omega) _ _ _⟩
    intro S hS
    rw [HXE.out, HYE.out] at hS
    have eZ := HBZ.out
    rw [sgn_false, sgn_false] at hS
    rw [sgn_false] at eZ
    have eS : S.natAbs = x + y := by omega
    have eN : bz = decide (S < 0) := by rw [eZ, decide_eq_decide]; omega
    rw [HDE.out, eS, ← eN]
    exact ⟨_, _, rfl, HV7.out.set3 HZ.out (by decide) _ _ _, HV8.out.set3 HZ.out (by decide) _ _ _⟩
  case true.true =>
    go_wp2_with fail
    go_region_held (fun w' => w'.cell? ⟨w.heap.size, 0, none⟩ = some (.bool true) ∧ w'.cell? ⟨w.heap.size + 1, 0, none⟩ = some (.bool true) ∧ Tb w (.bool true) (.slice p1 (dg 65536 n1).length c1) (.slice p2 (dg 65536 d1).length c2) (.bool true) (.slice p3 (dg 65536 n2).length c3) (.slice p4 (dg 65536 d2).length c4) w')
      (first | exact sz_of (tb_drew hT) | exact sz_next (by assumption) (by assumption) | exact sz_set3 (by assumption) _ _ _)
      (first | (go_at_call 82; refine (add_any _ _ x y _ ?_ ?_ (Nat.le_trans hlx (by omega)) (Nat.le_trans hly (by omega))).mono ?_; exact HX.out.below (below_drewN' 1) (Nat.le_refl _); exact HY.out.below (below_drewN' 1) (Nat.le_refl _); rintro e w6 ⟨v6, rfl, hv6, hb6⟩; obtain ⟨q6, e6, rfl⟩ := hv6.shape; have HV6 := hid hv6; clear hv6)
             | (go_at_call 66; refine (over_bz true _ _ (x + y) d _ ?_ ?_ (Nat.le_trans hls (by omega)) hld hd0).mono ?_; exact HV6.out; exact (HD.out.below (below_drewN' 1) (Nat.le_refl _)).below hb6 (Nat.le_refl _); rintro e w7 ⟨bz, v7, v8, rfl, HBZ, hv7, hv8, hb7⟩; obtain ⟨q7, e7, rfl⟩ := hv7.shape; obtain ⟨q8, e8, rfl⟩ := hv8.shape; have HV7 := hid hv7; have HV8 := hid hv8; clear hv7 hv8; have hT7 := hid (tb_next hb7 (tb_next hb6 (tb_drew hT))); obtain ⟨z0, z1, z2, hz⟩ := hT7.out.2.2.1; have HZ := hid hz; obtain ⟨r0, r1, r2, r3, r4, r5⟩ := hz.three; clear hz))
    go_wp2_with fail
    refine bodyPost_ret (v := .agg #[.bool bz, .slice q7 (dg 65536 ((x + y) / Nat.gcd (x + y) d)).length e7, .slice q8 (dg 65536 (d / Nat.gcd (x + y) d)).length e8]) (by simp [results, Tryz.results42, go_sem, r0, r1, r2]) rfl ⟨_, rfl, ?_, below_set3 hT7.out.2.2.2 (by omega) _ _ _⟩
    intro S hS
    rw [HXE.out, HYE.out] at hS
    have eZ := HBZ.out
    rw [sgn_true, sgn_true] at hS
    rw [sgn_true] at eZ
    have eS : S.natAbs = x + y := by omega
    have eN : bz = decide (S < 0) := by rw [eZ, decide_eq_decide]; omega
    rw [HDE.out, eS, ← eN]
    exact ⟨_, _, rfl, HV7.out.set3 HZ.out (by decide) _ _ _, HV8.out.set3 HZ.out (by decide) _ _ _⟩
  case false.true =>
    go_wp2_with fail
    refine (cmp_any _ _ _ _ w3 HX.out HY.out).mono ?_
    rintro e w4 ⟨k, rfl, rfl⟩
    have hT4 := tb_next (below_drewN' k) hT
    have HX4 : Hid (Nt (w3.drewN k) _ x) := HX.out.below (below_drewN' k) (Nat.le_refl _)
    have HY4 : Hid (Nt (w3.drewN k) _ y) := HY.out.below (below_drewN' k) (Nat.le_refl _)
    have HD4 : Hid (Nt (w3.drewN k) _ d) := HD.out.below (below_drewN' k) (Nat.le_refl _)
    clear hT HX HY HD g0 g1
    have hT := hT4
    have HX := HX4
    have HY := HY4
    have HD := HD4
    clear hT4 HX4 HY4 HD4
    generalize w3.drewN k = w5 at *
    have g0 := hT.1.cell 0
    have g1 := hT.2.1.cell 0
    simp only [List.getElem?_toArray, List.getElem?_cons_zero] at g0 g1
    rcases Nat.lt_or_ge x y with hlt | hge
    · have hc : cmpI x y = -1 := by rw [cmpI, if_pos hlt]
      rw [hc]
      go_wp2_with fail
      go_region_held (fun w' => w'.cell? ⟨w.heap.size, 0, none⟩ = some (.bool false) ∧ w'.cell? ⟨w.heap.size + 1, 0, none⟩ = some (.bool true) ∧ Tb w (.bool false) (.slice p1 (dg 65536 n1).length c1) (.slice p2 (dg 65536 d1).length c2) (.bool true) (.slice p3 (dg 65536 n2).length c3) (.slice p4 (dg 65536 d2).length c4) w')
        (first | exact sz_of (tb_drew hT) | exact sz_next (by assumption) (by assumption) | exact sz_set3 (by assumption) _ _ _)
        (first | (go_at_call 83; refine (sub_any _ _ y x _ ?_ ?_ (Nat.le_trans hly (by omega)) (Nat.le_of_lt hlt)).mono ?_; exact HY.out.below (below_drewN' 1) (Nat.le_refl _); exact HX.out.below (below_drewN' 1) (Nat.le_refl _); rintro e w6 ⟨v6, rfl, hv6, hb6⟩; obtain ⟨q6, e6, rfl⟩ := hv6.shape; have HV6 := hid hv6; clear hv6)
               | (go_at_call 66; refine (over_bz true _ _ (y - x) d _ ?_ ?_ (Nat.le_trans (dg_length_mono (by omega) (Nat.sub_le y x)) (Nat.le_trans hly (by omega))) hld hd0).mono ?_; exact HV6.out; exact (HD.out.below (below_drewN' 1) (Nat.le_refl _)).below hb6 (Nat.le_refl _); rintro e w7 ⟨bz, v7, v8, rfl, HBZ, hv7, hv8, hb7⟩; obtain ⟨q7, e7, rfl⟩ := hv7.shape; obtain ⟨q8, e8, rfl⟩ := hv8.shape; have HV7 := hid hv7; have HV8 := hid hv8; clear hv7 hv8; have hT7 := hid (tb_next hb7 (tb_next hb6 (tb_drew hT))); obtain ⟨z0, z1, z2, hz⟩ := hT7.out.2.2.1; have HZ := hid hz; obtain ⟨r0, r1, r2, r3, r4, r5⟩ := hz.three; clear hz))
      go_wp2_with fail
      refine bodyPost_ret (v := .agg #[.bool bz, .slice q7 (dg 65536 ((y - x) / Nat.gcd (y - x) d)).length e7, .slice q8 (dg 65536 (d / Nat.gcd (y - x) d)).length e8]) (by simp [results, Tryz.results42, go_sem, r0, r1, r2]) rfl ⟨_, rfl, ?_, below_set3 hT7.out.2.2.2 (by omega) _ _ _⟩
      intro S hS
      rw [HXE.out, HYE.out] at hS
      have eZ := HBZ.out
      rw [sgn_false, sgn_true] at hS
      rw [sgn_true] at eZ
      have eS : S.natAbs = y - x := by omega
      have eN : bz = decide (S < 0) := by rw [eZ, decide_eq_decide]; omega
      rw [HDE.out, eS, ← eN]
      exact ⟨_, _, rfl, HV7.out.set3 HZ.out (by decide) _ _ _, HV8.out.set3 HZ.out (by decide) _ _ _⟩
    · have hc : ∃ z, cmpI x y = z ∧ 0 ≤ z := ⟨_, rfl, by rw [cmpI, if_neg (by omega)]; split <;> omega⟩
      obtain ⟨z, hz, hz0⟩ := hc
      rw [hz]
      clear hz
      go_wp2_with fail
      go_region_held (fun w' => w'.cell? ⟨w.heap.size, 0, none⟩ = some (.bool false) ∧ w'.cell? ⟨w.heap.size + 1, 0, none⟩ = some (.bool true) ∧ Tb w (.bool false) (.slice p1 (dg 65536 n1).length c1) (.slice p2 (dg 65536 d1).length c2) (.bool true) (.slice p3 (dg 65536 n2).length c3) (.slice p4 (dg 65536 d2).length c4) w')
        (first | exact sz_of (tb_drew hT) | exact sz_next (by assumption) (by assumption) | exact sz_set3 (by assumption) _ _ _)
        (first | (go_at_call 83; refine (sub_any _ _ x y _ ?_ ?_ (Nat.le_trans hlx (by omega)) hge).mono ?_; exact HX.out.below (below_drewN' 1) (Nat.le_refl _); exact HY.out.below (below_drewN' 1) (Nat.le_refl _); rintro e w6 ⟨v6, rfl, hv6, hb6⟩; obtain ⟨q6, e6, rfl⟩ := hv6.shape; have HV6 := hid hv6; clear hv6)
               | (go_at_call 66; refine (over_bz false _ _ (x - y) d _ ?_ ?_ (Nat.le_trans (dg_length_mono (by omega) (Nat.sub_le x y)) (Nat.le_trans hlx (by omega))) hld hd0).mono ?_; exact HV6.out; exact (HD.out.below (below_drewN' 1) (Nat.le_refl _)).below hb6 (Nat.le_refl _); rintro e w7 ⟨bz, v7, v8, rfl, HBZ, hv7, hv8, hb7⟩; obtain ⟨q7, e7, rfl⟩ := hv7.shape; obtain ⟨q8, e8, rfl⟩ := hv8.shape; have HV7 := hid hv7; have HV8 := hid hv8; clear hv7 hv8; have hT7 := hid (tb_next hb7 (tb_next hb6 (tb_drew hT))); obtain ⟨z0, z1, z2, hz⟩ := hT7.out.2.2.1; have HZ := hid hz; obtain ⟨r0, r1, r2, r3, r4, r5⟩ := hz.three; clear hz))
      go_wp2_with fail
      refine bodyPost_ret (v := .agg #[.bool bz, .slice q7 (dg 65536 ((x - y) / Nat.gcd (x - y) d)).length e7, .slice q8 (dg 65536 (d / Nat.gcd (x - y) d)).length e8]) (by simp [results, Tryz.results42, go_sem, r0, r1, r2]) rfl ⟨_, rfl, ?_, below_set3 hT7.out.2.2.2 (by omega) _ _ _⟩
      intro S hS
      rw [HXE.out, HYE.out] at hS
      have eZ := HBZ.out
      rw [sgn_false, sgn_true] at hS
      rw [sgn_false] at eZ
      have eS : S.natAbs = x - y := by omega
      have eN : bz = decide (S < 0) := by rw [eZ, decide_eq_decide]; omega
      rw [HDE.out, eS, ← eN]
      exact ⟨_, _, rfl, HV7.out.set3 HZ.out (by decide) _ _ _, HV8.out.set3 HZ.out (by decide) _ _ _⟩
  case true.false =>
    go_wp2_with fail
    refine (cmp_any _ _ _ _ w3 HX.out HY.out).mono ?_
    rintro e w4 ⟨k, rfl, rfl⟩
    have hT4 := tb_next (below_drewN' k) hT
    have HX4 : Hid (Nt (w3.drewN k) _ x) := HX.out.below (below_drewN' k) (Nat.le_refl _)
    have HY4 : Hid (Nt (w3.drewN k) _ y) := HY.out.below (below_drewN' k) (Nat.le_refl _)
    have HD4 : Hid (Nt (w3.drewN k) _ d) := HD.out.below (below_drewN' k) (Nat.le_refl _)
    clear hT HX HY HD g0 g1
    have hT := hT4
    have HX := HX4
    have HY := HY4
    have HD := HD4
    clear hT4 HX4 HY4 HD4
    generalize w3.drewN k = w5 at *
    have g0 := hT.1.cell 0
    have g1 := hT.2.1.cell 0
    simp only [List.getElem?_toArray, List.getElem?_cons_zero] at g0 g1
    rcases Nat.lt_or_ge x y with hlt | hge
    · have hc : cmpI x y = -1 := by rw [cmpI, if_pos hlt]
      rw [hc]
      go_wp2_with fail
      go_region_held (fun w' => w'.cell? ⟨w.heap.size, 0, none⟩ = some (.bool true) ∧ w'.cell? ⟨w.heap.size + 1, 0, none⟩ = some (.bool false) ∧ Tb w (.bool true) (.slice p1 (dg 65536 n1).length c1) (.slice p2 (dg 65536 d1).length c2) (.bool false) (.slice p3 (dg 65536 n2).length c3) (.slice p4 (dg 65536 d2).length c4) w')
        (first | exact sz_of (tb_drew hT) | exact sz_next (by assumption) (by assumption) | exact sz_set3 (by assumption) _ _ _)
        (first | (go_at_call 83; refine (sub_any _ _ y x _ ?_ ?_ (Nat.le_trans hly (by omega)) (Nat.le_of_lt hlt)).mono ?_; exact HY.out.below (below_drewN' 1) (Nat.le_refl _); exact HX.out.below (below_drewN' 1) (Nat.le_refl _); rintro e w6 ⟨v6, rfl, hv6, hb6⟩; obtain ⟨q6, e6, rfl⟩ := hv6.shape; have HV6 := hid hv6; clear hv6)
               | (go_at_call 66; refine (over_bz false _ _ (y - x) d _ ?_ ?_ (Nat.le_trans (dg_length_mono (by omega) (Nat.sub_le y x)) (Nat.le_trans hly (by omega))) hld hd0).mono ?_; exact HV6.out; exact (HD.out.below (below_drewN' 1) (Nat.le_refl _)).below hb6 (Nat.le_refl _); rintro e w7 ⟨bz, v7, v8, rfl, HBZ, hv7, hv8, hb7⟩; obtain ⟨q7, e7, rfl⟩ := hv7.shape; obtain ⟨q8, e8, rfl⟩ := hv8.shape; have HV7 := hid hv7; have HV8 := hid hv8; clear hv7 hv8; have hT7 := hid (tb_next hb7 (tb_next hb6 (tb_drew hT))); obtain ⟨z0, z1, z2, hz⟩ := hT7.out.2.2.1; have HZ := hid hz; obtain ⟨r0, r1, r2, r3, r4, r5⟩ := hz.three; clear hz))
      go_wp2_with fail
      refine bodyPost_ret (v := .agg #[.bool bz, .slice q7 (dg 65536 ((y - x) / Nat.gcd (y - x) d)).length e7, .slice q8 (dg 65536 (d / Nat.gcd (y - x) d)).length e8]) (by simp [results, Tryz.results42, go_sem, r0, r1, r2]) rfl ⟨_, rfl, ?_, below_set3 hT7.out.2.2.2 (by omega) _ _ _⟩
      intro S hS
      rw [HXE.out, HYE.out] at hS
      have eZ := HBZ.out
      rw [sgn_true, sgn_false] at hS
      rw [sgn_false] at eZ
      have eS : S.natAbs = y - x := by omega
      have eN : bz = decide (S < 0) := by rw [eZ, decide_eq_decide]; omega
      rw [HDE.out, eS, ← eN]
      exact ⟨_, _, rfl, HV7.out.set3 HZ.out (by decide) _ _ _, HV8.out.set3 HZ.out (by decide) _ _ _⟩
    · have hc : ∃ z, cmpI x y = z ∧ 0 ≤ z := ⟨_, rfl, by rw [cmpI, if_neg (by omega)]; split <;> omega⟩
      obtain ⟨z, hz, hz0⟩ := hc
      rw [hz]
      clear hz
      go_wp2_with fail
      go_region_held (fun w' => w'.cell? ⟨w.heap.size, 0, none⟩ = some (.bool true) ∧ w'.cell? ⟨w.heap.size + 1, 0, none⟩ = some (.bool false) ∧ Tb w (.bool true) (.slice p1 (dg 65536 n1).length c1) (.slice p2 (dg 65536 d1).length c2) (.bool false) (.slice p3 (dg 65536 n2).length c3) (.slice p4 (dg 65536 d2).length c4) w')
        (first | exact sz_of (tb_drew hT) | exact sz_next (by assumption) (by assumption) | exact sz_set3 (by assumption) _ _ _)
        (first | (go_at_call 83; refine (sub_any _ _ x y _ ?_ ?_ (Nat.le_trans hlx (by omega)) hge).mono ?_; exact HX.out.below (below_drewN' 1) (Nat.le_refl _); exact HY.out.below (below_drewN' 1) (Nat.le_refl _); rintro e w6 ⟨v6, rfl, hv6, hb6⟩; obtain ⟨q6, e6, rfl⟩ := hv6.shape; have HV6 := hid hv6; clear hv6)
               | (go_at_call 66; refine (over_bz true _ _ (x - y) d _ ?_ ?_ (Nat.le_trans (dg_length_mono (by omega) (Nat.sub_le x y)) (Nat.le_trans hlx (by omega))) hld hd0).mono ?_; exact HV6.out; exact (HD.out.below (below_drewN' 1) (Nat.le_refl _)).below hb6 (Nat.le_refl _); rintro e w7 ⟨bz, v7, v8, rfl, HBZ, hv7, hv8, hb7⟩; obtain ⟨q7, e7, rfl⟩ := hv7.shape; obtain ⟨q8, e8, rfl⟩ := hv8.shape; have HV7 := hid hv7; have HV8 := hid hv8; clear hv7 hv8; have hT7 := hid (tb_next hb7 (tb_next hb6 (tb_drew hT))); obtain ⟨z0, z1, z2, hz⟩ := hT7.out.2.2.1; have HZ := hid hz; obtain ⟨r0, r1, r2, r3, r4, r5⟩ := hz.three; clear hz))
      go_wp2_with fail
      refine bodyPost_ret (v := .agg #[.bool bz, .slice q7 (dg 65536 ((x - y) / Nat.gcd (x - y) d)).length e7, .slice q8 (dg 65536 (d / Nat.gcd (x - y) d)).length e8]) (by simp [results, Tryz.results42, go_sem, r0, r1, r2]) rfl ⟨_, rfl, ?_, below_set3 hT7.out.2.2.2 (by omega) _ _ _⟩
      intro S hS
      rw [HXE.out, HYE.out] at hS
      have eZ := HBZ.out
      rw [sgn_true, sgn_false] at hS
      rw [sgn_true] at eZ
      have eS : S.natAbs = x - y := by omega
      have eN : bz = decide (S < 0) := by rw [eZ, decide_eq_decide]; omega
      rw [HDE.out, eS, ← eN]
      exact ⟨_, _, rfl, HV7.out.set3 HZ.out (by decide) _ _ _, HV8.out.set3 HZ.out (by decide) _ _ _⟩
end Go.Proofs.YtocahcammjoffaaGreatDoor
