/- Walks and lemmas for the laws of this seat. -/
import Derived.Test.YtocahcammjoffaaGreatDoorS16
import Derived.Deep.RegionHeld
namespace Go.Proofs.YtocahcammjoffaaGreatDoor
open Go.RowKit Go.Dig
set_option maxRecDepth 100000
/-- Four structs of three cells stand, the first two known, and all else of the start too. -/
def Qb (w : World) (b0 b1 b2 b3 : Nat) (x0 x1 x2 y0 y1 y2 : Value) (w' : World) : Prop :=
  Blk w' b0 #[x0, x1, x2] 31 ∧ Blk w' b1 #[y0, y1, y2] 31 ∧ (∃ z0 z1 z2, Blk w' b2 #[z0, z1, z2] 31) ∧ (∃ z0 z1 z2, Blk w' b3 #[z0, z1, z2] 31) ∧ Below w.heap.size w w' ∧
    w.heap.size ≤ b0 ∧ b0 < b1 ∧ b1 < b2 ∧ b2 < b3
/-- The cells that a region reads; and that the structs stand. -/
abbrev Sq (w : World) (b0 b1 b2 b3 : Nat) (x0 x1 x2 y0 y1 y2 : Value) (w' : World) : Prop :=
  w'.cell? ⟨b0, 0, none⟩ = some x0 ∧ w'.cell? ⟨b1, 0, none⟩ = some y0 ∧ Qb w b0 b1 b2 b3 x0 x1 x2 y0 y1 y2 w'
section
variable {w ww w1 : World} {b0 b1 b2 b3 : Nat} {x0 x1 x2 y0 y1 y2 : Value}
theorem sq_of (h : Qb w b0 b1 b2 b3 x0 x1 x2 y0 y1 y2 ww) : Sq w b0 b1 b2 b3 x0 x1 x2 y0 y1 y2 ww := ⟨h.1.cell 0, h.2.1.cell 0, h⟩
theorem qb_next (hb : Below ww.heap.size ww w1) (h : Qb w b0 b1 b2 b3 x0 x1 x2 y0 y1 y2 ww) : Qb w b0 b1 b2 b3 x0 x1 x2 y0 y1 y2 w1 := by
  obtain ⟨h1, h2, ⟨z0, z1, z2, h3⟩, ⟨u0, u1, u2, h5⟩, h4, hn⟩ := h
  exact ⟨h1.below hb h1.lt, h2.below hb h2.lt, ⟨z0, z1, z2, h3.below hb h3.lt⟩, ⟨u0, u1, u2, h5.below hb h5.lt⟩, below_next h4 hb, hn⟩
theorem qb_drew (h : Qb w b0 b1 b2 b3 x0 x1 x2 y0 y1 y2 ww) : Qb w b0 b1 b2 b3 x0 x1 x2 y0 y1 y2 ww.drew := qb_next (below_drewN' 1) h
theorem blk_far {b b2 : Nat} {c : Array Value} {t : TypeId} (h : Blk ww b c t) (hne : b2 ≠ b) (i : Nat) (v : Value) : Blk (ww.setCell ⟨b2, i, none⟩ v) b c t := by
  unfold Blk at *
  simp only [World.setCell, Array.getElem?_modify, if_neg hne, h]
theorem blk_far3 {b b2 : Nat} {c : Array Value} {t : TypeId} (h : Blk ww b c t) (hne : b2 ≠ b) (v0 v1 v2 : Value) : Blk (((ww.setCell ⟨b2, 0, none⟩ v0).setCell ⟨b2, 1, none⟩ v1).setCell ⟨b2, 2, none⟩ v2) b c t :=
  blk_far (blk_far (blk_far h hne _ _) hne _ _) hne _ _
theorem sq_set2 (h : Sq w b0 b1 b2 b3 x0 x1 x2 y0 y1 y2 ww) (a0 a1 a2 : Value) :
    Sq w b0 b1 b2 b3 x0 x1 x2 y0 y1 y2 (((ww.setCell ⟨b2, 0, none⟩ a0).setCell ⟨b2, 1, none⟩ a1).setCell ⟨b2, 2, none⟩ a2) := by
  obtain ⟨h1, h2, ⟨z0, z1, z2, h3⟩, ⟨u0, u1, u2, h5⟩, h4, n1, n2, n3, n4⟩ := h.2.2
  exact sq_of ⟨blk_far3 h1 (by omega) _ _ _, blk_far3 h2 (by omega) _ _ _, ⟨a0, a1, a2, ((h3.set 0 a0).set 1 a1).set 2 a2⟩, ⟨u0, u1, u2, blk_far3 h5 (by omega) _ _ _⟩, below_set3 h4 (by omega) _ _ _, n1, n2, n3, n4⟩
theorem sq_set3 (h : Sq w b0 b1 b2 b3 x0 x1 x2 y0 y1 y2 ww) (a0 a1 a2 : Value) :
    Sq w b0 b1 b2 b3 x0 x1 x2 y0 y1 y2 (((ww.setCell ⟨b3, 0, none⟩ a0).setCell ⟨b3, 1, none⟩ a1).setCell ⟨b3, 2, none⟩ a2) := by
  obtain ⟨h1, h2, ⟨z0, z1, z2, h3⟩, ⟨u0, u1, u2, h5⟩, h4, n1, n2, n3, n4⟩ := h.2.2
  exact sq_of ⟨blk_far3 h1 (by omega) _ _ _, blk_far3 h2 (by omega) _ _ _, ⟨z0, z1, z2, blk_far3 h3 (by omega) _ _ _⟩, ⟨a0, a1, a2, ((h5.set 0 a0).set 1 a1).set 2 a2⟩, below_set3 h4 (by omega) _ _ _, n1, n2, n3, n4⟩
theorem sq_next (hb : Below ww.heap.size ww w1) (h : Sq w b0 b1 b2 b3 x0 x1 x2 y0 y1 y2 ww) : Sq w b0 b1 b2 b3 x0 x1 x2 y0 y1 y2 w1 := sq_of (qb_next hb h.2.2)
end
theorem four_alloc (w : World) (x0 x1 x2 y0 y1 y2 z0 z1 z2 u0 u1 u2 : Value) :
    Qb w w.heap.size (w.heap.size + 1) (w.heap.size + 1 + 1) (w.heap.size + 1 + 1 + 1) x0 x1 x2 y0 y1 y2 ((((w.alloc (.cells #[x0, x1, x2] 31)).alloc (.cells #[y0, y1, y2] 31)).alloc (.cells #[z0, z1, z2] 31)).alloc (.cells #[u0, u1, u2] 31)) := by
  refine ⟨(((blk_new w _ 31).alloc _).alloc _).alloc _, ?_, ⟨z0, z1, z2, ?_⟩, ⟨u0, u1, u2, ?_⟩, ((((Below.refl _ _).alloc (Nat.le_refl _) _).alloc (by simp) _).alloc (by simp; omega) _).alloc (by simp; omega) _, Nat.le_refl _, by omega, by omega, by omega⟩
  · have := ((blk_new (w.alloc (.cells #[x0, x1, x2] 31)) #[y0, y1, y2] 31).alloc (.cells #[z0, z1, z2] 31)).alloc (.cells #[u0, u1, u2] 31)
    simpa using this
  · have := (blk_new ((w.alloc (.cells #[x0, x1, x2] 31)).alloc (.cells #[y0, y1, y2] 31)) #[z0, z1, z2] 31).alloc (.cells #[u0, u1, u2] 31)
    simpa using this
  · have := blk_new (((w.alloc (.cells #[x0, x1, x2] 31)).alloc (.cells #[y0, y1, y2] 31)).alloc (.cells #[z0, z1, z2] 31)) #[u0, u1, u2] 31
    simpa using this
theorem whole_bz (neg : Bool) (v : Value) (n : Nat) (w : World) (h : Nt w v n) :
    Calls Tryz.prog 34 #[.bool neg, v] w fun e w' => ∃ bz v1 v2, e = .returned (.agg #[.bool bz, v1, v2]) ∧ Hid (bz = decide (sgn neg n < 0)) ∧ Nt w' v1 n ∧ Nt w' v2 1 ∧ Below w.heap.size w w' := by
  refine (whole_any neg v n w h).mono ?_
  rintro e w' ⟨v1, v2, rfl, h1, h2, hb⟩
  have : (neg && decide (n ≠ 0)) = decide (sgn neg n < 0) := by
    cases neg
    · simp [sgn]
    · rw [Bool.true_and, sgn, if_pos rfl, decide_eq_decide]; omega
  exact ⟨_, v1, v2, rfl, this, h1, h2, hb⟩
set_option maxHeartbeats 1200000 in
theorem divided_any (s1 s2 : Bool) (va1 va2 vb1 vb2 : Value) (m n : Nat) (w : World) (ha : Nt w va1 m) (ha2 : Nt w va2 1) (hb : Nt w vb1 n) (hb2 : Nt w vb2 1) (hla : (dg 65536 m).length ≤ 100000) (hlb : (dg 65536 n).length ≤ 100000) (hn : n ≠ 0) :
    Calls Tryz.prog 41 #[.agg #[.bool s1, va1, va2], .agg #[.bool s2, vb1, vb2]] w fun e w' => ∃ u v q1 q2 r1 r2, e = .returned (.tuple #[u, v]) ∧ u = .agg #[.bool (decide (sgn (s1 != s2) (m / n) < 0)), q1, q2] ∧ v = .agg #[.bool (decide (sgn s1 (m % n) < 0)), r1, r2] ∧ Nt w' q1 (m / n) ∧ Nt w' q2 1 ∧ Nt w' r1 (m % n) ∧ Nt w' r2 1 ∧ Below w.heap.size w w' := by
  obtain ⟨p1, c1, rfl⟩ := ha.shape
  obtain ⟨p2, c2, rfl⟩ := ha2.shape
  obtain ⟨p3, c3, rfl⟩ := hb.shape
  obtain ⟨p4, c4, rfl⟩ := hb2.shape
  have A1 := hid ha
  have B1 := hid hb
  clear ha ha2 hb hb2
  go_enter Tryz.func41, Tryz.ntmps41
  go_wp2_with fail
  have hQ0 := four_alloc w (.bool s1) (.slice p1 (dg 65536 m).length c1) (.slice p2 (dg 65536 1).length c2) (.bool s2) (.slice p3 (dg 65536 n).length c3) (.slice p4 (dg 65536 1).length c4) (.bool false) (.slice none 0 0) (.slice none 0 0) (.bool false) (.slice none 0 0) (.slice none 0 0)
  generalize (((w.alloc (.cells #[.bool s1, .slice p1 (dg 65536 m).length c1, .slice p2 (dg 65536 1).length c2] 31)).alloc (.cells #[.bool s2, .slice p3 (dg 65536 n).length c3, .slice p4 (dg 65536 1).length c4] 31)).alloc (.cells #[.bool false, .slice none 0 0, .slice none 0 0] 31)).alloc (.cells #[.bool false, .slice none 0 0, .slice none 0 0] 31) = w0 at *
  generalize hg3 : w.heap.size + 1 + 1 + 1 = b3 at *
  generalize hg2 : w.heap.size + 1 + 1 = b2 at *
  generalize hg1 : w.heap.size + 1 = b1 at *
  have n23 : b2 ≠ b3 := by omega
  have n32 : b3 ≠ b2 := by omega
  have HG := hid (⟨hg1, hg2, hg3⟩ : _ ∧ _ ∧ _)
  clear hg1 hg2 hg3
  refine (divmod_any _ _ m n w0 (A1.out.below hQ0.2.2.2.2.1 (Nat.le_refl _)) (B1.out.below hQ0.2.2.2.2.1 (Nat.le_refl _)) hla hlb hn).mono ?_
  rintro e w1 ⟨v1, v2, rfl, hv1, hv2, hb1⟩
  obtain ⟨q1, e1, rfl⟩ := hv1.shape
  obtain ⟨q2, e2, rfl⟩ := hv2.shape
  have HQ := hid hv1
  have HR := hid hv2
  have hT := qb_next hb1 hQ0
  clear hv1 hv2 hb1 hQ0
  go_wp2_with fail
  go_region_held (fun w' => w'.cell? ⟨w.heap.size, 0, none⟩ = some (.bool s1) ∧ w'.cell? ⟨b1, 0, none⟩ = some (.bool s2) ∧ Qb w w.heap.size b1 b2 b3 (.bool s1) (.slice p1 (dg 65536 m).length c1) (.slice p2 (dg 65536 1).length c2) (.bool s2) (.slice p3 (dg 65536 n).length c3) (.slice p4 (dg 65536 1).length c4) w')
    (first | with_reducible exact sq_of (qb_drew hT) | with_reducible exact sq_next (by assumption) (by assumption) | with_reducible exact sq_set2 (by assumption) _ _ _ | with_reducible exact sq_set3 (by assumption) _ _ _)
    (first | (go_at_call_of 34 q1; refine (whole_bz _ _ (m / n) _ ?_).mono ?_; exact HQ.out.below (below_drewN' 1) (Nat.le_refl _); rintro e w2 ⟨z1, a1, a2, rfl, HZ1, ha1, ha2, hb2⟩; obtain ⟨g1, f1, rfl⟩ := ha1.shape; obtain ⟨g2, f2, rfl⟩ := ha2.shape; have HA1 := hid ha1; have HA2 := hid ha2; clear ha1 ha2)
           | (go_at_call_of 34 q2; refine (whole_bz _ _ (m % n) _ ?_).mono ?_; exact (HR.out.below (below_drewN' 1) (Nat.le_refl _)).below hb2 (Nat.le_refl _); rintro e w3 ⟨z2, a3, a4, rfl, HZ2, ha3, ha4, hb3⟩; obtain ⟨g3, f3, rfl⟩ := ha3.shape; obtain ⟨g4, f4, rfl⟩ := ha4.shape; have HA3 := hid ha3; have HA4 := hid ha4; clear ha3 ha4; have hT7 := hid (qb_next hb3 (qb_next hb2 (qb_drew hT))); obtain ⟨⟨t0, t1, t2, ht⟩, ⟨u0, u1, u2, hu⟩⟩ : _ ∧ _ := ⟨hT7.out.2.2.1, hT7.out.2.2.2.1⟩; have HT := hid ht; have HU := hid hu; obtain ⟨r0, r1, r2, r3, r4, r5⟩ := ht.three; obtain ⟨k0, k1, k2, k3, k4, k5⟩ := hu.three; clear ht hu))
  go_wp2_with fail
  have hU2 := blk_far3 HU.out n23 (.bool z1) (.slice g1 (dg 65536 (m / n)).length f1) (.slice g2 (dg 65536 1).length f2)
  refine bodyPost_ret (v := .tuple #[.agg #[.bool z1, .slice g1 (dg 65536 (m / n)).length f1, .slice g2 (dg 65536 1).length f2], .agg #[.bool z2, .slice g3 (dg 65536 (m % n)).length f3, .slice g4 (dg 65536 1).length f4]]) (by simp [results, Tryz.results41, go_sem, r0, r1, r2, k0, k1, k2]) rfl ⟨_, _, .slice g1 (dg 65536 (m / n)).length f1, .slice g2 (dg 65536 1).length f2, .slice g3 (dg 65536 (m % n)).length f3, .slice g4 (dg 65536 1).length f4, rfl, ?_, ?_, ?_, ?_, ?_, ?_, ?_⟩
  · rw [HZ1.out]; rfl
  · rw [HZ2.out]
  · exact ((HA1.out.below hb3 (Nat.le_refl _)).set3 HT.out (by decide) _ _ _).set3 hU2 (by decide) _ _ _
  · exact ((HA2.out.below hb3 (Nat.le_refl _)).set3 HT.out (by decide) _ _ _).set3 hU2 (by decide) _ _ _
  · exact (HA3.out.set3 HT.out (by decide) _ _ _).set3 hU2 (by decide) _ _ _
  · exact (HA4.out.set3 HT.out (by decide) _ _ _).set3 hU2 (by decide) _ _ _
  · have h7 := hT7.out.2.2.2.2
    exact below_set3 (below_set3 h7.1 (by omega) _ _ _) (by omega) _ _ _
end Go.Proofs.YtocahcammjoffaaGreatDoor
