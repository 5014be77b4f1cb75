/- Walks and lemmas for the laws of this seat. -/
import Derived.Test.YtocahcammjoffaaGreatDoorS17
namespace Go.Proofs.YtocahcammjoffaaGreatDoor
open Go.RowKit Go.Dig
set_option maxRecDepth 100000
abbrev Sx (w : World) (x0 x1 x2 y0 y1 y2 : Value) (w' : World) : Prop :=
  w'.cell? ⟨w.heap.size, 0, none⟩ = some x0 ∧ w'.cell? ⟨w.heap.size, 1, none⟩ = some x1 ∧ w'.cell? ⟨w.heap.size, 2, none⟩ = some x2 ∧ w'.cell? ⟨w.heap.size + 1, 0, none⟩ = some y0 ∧ w'.cell? ⟨w.heap.size + 1, 1, none⟩ = some y1 ∧ w'.cell? ⟨w.heap.size + 1, 2, none⟩ = some y2 ∧ Tb w x0 x1 x2 y0 y1 y2 w'
section
variable {w ww w1 : World} {x0 x1 x2 y0 y1 y2 : Value}
theorem sx_of (h : Tb w x0 x1 x2 y0 y1 y2 ww) : Sx w x0 x1 x2 y0 y1 y2 ww := ⟨h.1.cell 0, h.1.cell 1, h.1.cell 2, h.2.1.cell 0, h.2.1.cell 1, h.2.1.cell 2, h⟩
theorem sx_below (h : Sx w x0 x1 x2 y0 y1 y2 ww) : Below w.heap.size w ww := h.2.2.2.2.2.2.2.2.2
theorem sx_next (hb : Below ww.heap.size ww w1) (h : Sx w x0 x1 x2 y0 y1 y2 ww) : Sx w x0 x1 x2 y0 y1 y2 w1 := sx_of (tb_next hb h.2.2.2.2.2.2)
theorem sx_set3 (h : Sx w x0 x1 x2 y0 y1 y2 ww) (u0 u1 u2 : Value) :
    Sx w x0 x1 x2 y0 y1 y2 (((ww.setCell ⟨w.heap.size + 1 + 1, 0, none⟩ u0).setCell ⟨w.heap.size + 1 + 1, 1, none⟩ u1).setCell ⟨w.heap.size + 1 + 1, 2, none⟩ u2) := sx_of (tb_set3 h.2.2.2.2.2.2 u0 u1 u2)
end
set_option maxHeartbeats 1000000 in
theorem times_any (va vb : Value) (s1 s2 : Bool) (n1 d1 n2 d2 : Nat) (w : World) (ha : Ra w va s1 n1 d1) (hb : Ra w vb s2 n2 d2)
    (h1 : (dg 65536 n1).length ≤ 20000) (h2 : (dg 65536 d1).length ≤ 20000) (h3 : (dg 65536 n2).length ≤ 20000) (h4 : (dg 65536 d2).length ≤ 20000) (h5 : d1 ≠ 0) (h6 : d2 ≠ 0) :
    Calls Tryz.prog 40 #[va, vb] w fun e w' => ∃ v, e = .returned v ∧ Ra w' v (decide (sgn (s1 != s2) (n1 * n2) < 0)) (n1 * n2 / Nat.gcd (n1 * n2) (d1 * d2)) (d1 * d2 / Nat.gcd (n1 * n2) (d1 * d2)) ∧ Below w.heap.size w w' := by
  obtain ⟨va1, va2, rfl, ha1, ha2⟩ := ha
  obtain ⟨vb1, vb2, rfl, hb1, hb2⟩ := hb
  obtain ⟨p1, c1, rfl⟩ := ha1.shape
  obtain ⟨p2, c2, rfl⟩ := ha2.shape
  obtain ⟨p3, c3, rfl⟩ := hb1.shape
  obtain ⟨p4, c4, rfl⟩ := hb2.shape
  have A1 := hid ha1
  have A2 := hid ha2
  have B1 := hid hb1
  have B2 := hid hb2
  have hln : (dg 65536 (n1 * n2)).length ≤ 100000 := Nat.le_trans (mul_len h1 h3) (by omega)
  have hld : (dg 65536 (d1 * d2)).length ≤ 100000 := Nat.le_trans (mul_len h2 h4) (by omega)
  have hd0 : d1 * d2 ≠ 0 := Nat.mul_ne_zero h5 h6
  clear ha1 ha2 hb1 hb2
  go_enter Tryz.func40, Tryz.ntmps40
  go_wp2_with fail
  have hT := three_alloc w (.bool s1) (.slice p1 (dg 65536 n1).length c1) (.slice p2 (dg 65536 d1).length c2) (.bool s2) (.slice p3 (dg 65536 n2).length c3) (.slice p4 (dg 65536 d2).length c4) (.bool false) (.slice none 0 0) (.slice none 0 0)
  generalize ((w.alloc (.cells #[.bool s1, .slice p1 (dg 65536 n1).length c1, .slice p2 (dg 65536 d1).length c2] 31)).alloc (.cells #[.bool s2, .slice p3 (dg 65536 n2).length c3, .slice p4 (dg 65536 d2).length c4] 31)).alloc (.cells #[.bool false, .slice none 0 0, .slice none 0 0] 31) = w0 at *
  go_region_held (fun w' => w'.cell? ⟨w.heap.size, 0, none⟩ = some (.bool s1) ∧ w'.cell? ⟨w.heap.size, 1, none⟩ = some (.slice p1 (dg 65536 n1).length c1) ∧ w'.cell? ⟨w.heap.size, 2, none⟩ = some (.slice p2 (dg 65536 d1).length c2) ∧ w'.cell? ⟨w.heap.size + 1, 0, none⟩ = some (.bool s2) ∧ w'.cell? ⟨w.heap.size + 1, 1, none⟩ = some (.slice p3 (dg 65536 n2).length c3) ∧ w'.cell? ⟨w.heap.size + 1, 2, none⟩ = some (.slice p4 (dg 65536 d2).length c4) ∧ Tb w (.bool s1) (.slice p1 (dg 65536 n1).length c1) (.slice p2 (dg 65536 d1).length c2) (.bool s2) (.slice p3 (dg 65536 n2).length c3) (.slice p4 (dg 65536 d2).length c4) w')
    (first | with_reducible exact sx_of (tb_drew hT) | with_reducible exact sx_next (by assumption) (by assumption) | with_reducible exact sx_set3 (by assumption) _ _ _)
    (first | (go_at_call_of 80 p1; refine (mul_any _ _ (n1) (n2) _ ?_ ?_ (Nat.le_trans h1 (by omega)) (Nat.le_trans h3 (by omega))).mono ?_; exact A1.out.below (sx_below (by assumption)) (Nat.le_refl _); exact B1.out.below (sx_below (by assumption)) (Nat.le_refl _); rintro e w1 ⟨v1, rfl, hv1, hb1⟩; obtain ⟨q1, e1, rfl⟩ := hv1.shape; have HV1 := hid hv1; clear hv1)
           | (go_at_call_of 80 p2; refine (mul_any _ _ (d1) (d2) _ ?_ ?_ (Nat.le_trans h2 (by omega)) (Nat.le_trans h4 (by omega))).mono ?_; exact A2.out.below (sx_below (by assumption)) (Nat.le_refl _); exact B2.out.below (sx_below (by assumption)) (Nat.le_refl _); rintro e w2 ⟨v2, rfl, hv2, hb2⟩; obtain ⟨q2, e2, rfl⟩ := hv2.shape; have HV2 := hid hv2; clear hv2)
           | (go_at_call 66; refine (over_bz _ _ _ (n1 * n2) (d1 * d2) _ ?_ ?_ hln hld hd0).mono ?_; exact HV1.out.below hb2 (Nat.le_refl _); exact HV2.out; rintro e w7 ⟨bz, v7, v8, rfl, HBZ, hv7, hv8, hb7⟩; obtain ⟨q7, e7, rfl⟩ := hv7.shape; obtain ⟨q8, e8, rfl⟩ := hv8.shape; have HV7 := hid hv7; have HV8 := hid hv8; clear hv7 hv8; have hT7 := hid (tb_next hb7 (tb_next hb2 (tb_next hb1 (tb_drew hT)))); obtain ⟨z0, z1, z2, hz⟩ := hT7.out.2.2.1; have HZ := hid hz; obtain ⟨r0, r1, r2, r3, r4, r5⟩ := hz.three; clear hz))
  go_wp2_with fail
  refine bodyPost_ret (v := .agg #[.bool bz, .slice q7 (dg 65536 (n1 * n2 / Nat.gcd (n1 * n2) (d1 * d2))).length e7, .slice q8 (dg 65536 (d1 * d2 / Nat.gcd (n1 * n2) (d1 * d2))).length e8]) (by simp [results, Tryz.results40, go_sem, r0, r1, r2]) rfl ⟨_, rfl, ?_, below_set3 hT7.out.2.2.2 (by omega) _ _ _⟩
  have eZ : bz = decide (sgn (s1 != s2) (n1 * n2) < 0) := HBZ.out
  rw [← eZ]
  exact ⟨_, _, rfl, HV7.out.set3 HZ.out (by decide) _ _ _, HV8.out.set3 HZ.out (by decide) _ _ _⟩
end Go.Proofs.YtocahcammjoffaaGreatDoor
