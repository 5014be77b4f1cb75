/- Walks and lemmas for the laws of this seat. -/
import Derived.Test.YtocahcammjoffaaGreatDoorS20
namespace Go.Proofs.YtocahcammjoffaaGreatDoor
open Go.RowKit Go.Dig
set_option maxRecDepth 100000
set_option maxHeartbeats 1000000 in
theorem negated_any (va : Value) (s1 : Bool) (n1 d1 : Nat) (w : World) (ha : Ra w va s1 n1 d1) :
    Calls Tryz.prog 78 #[va] w fun e w' => ∃ v, e = .returned v ∧ Ra w' v (!s1 && decide (n1 ≠ 0)) n1 d1 ∧ Below w.heap.size w w' := by
  obtain ⟨va1, va2, rfl, ha1, ha2⟩ := ha
  obtain ⟨p1, c1, rfl⟩ := ha1.shape
  obtain ⟨p2, c2, rfl⟩ := ha2.shape
  have A1 := hid ha1
  have A2 := hid ha2
  clear ha1 ha2
  rw [← dg_len_pos]
  cases s1
  all_goals
    go_enter Tryz.func78, Tryz.ntmps78
    go_wp2_with fail
  · refine bodyPost_ret (v := .agg #[.bool (decide (0 < (dg 65536 n1).length)), .slice p1 (dg 65536 n1).length c1, .slice p2 (dg 65536 d1).length c2]) (by simp [results, Tryz.results78, go_sem]) rfl ⟨_, rfl, ⟨_, _, by rw [Bool.not_false, Bool.true_and], ?_, ?_⟩, ?_⟩
    · exact A1.out.below (((Below.refl _ _).alloc (Nat.le_refl _) _).alloc (by simp) _) (Nat.le_refl _)
    · exact A2.out.below (((Below.refl _ _).alloc (Nat.le_refl _) _).alloc (by simp) _) (Nat.le_refl _)
    · exact ((Below.refl _ _).alloc (Nat.le_refl _) _).alloc (by simp) _
  · refine bodyPost_ret (v := .agg #[.bool false, .slice p1 (dg 65536 n1).length c1, .slice p2 (dg 65536 d1).length c2]) (by simp [results, Tryz.results78, go_sem]) rfl ⟨_, rfl, ⟨_, _, by rw [Bool.not_true, Bool.false_and], ?_, ?_⟩, ?_⟩
    · exact A1.out.below (((Below.refl _ _).alloc (Nat.le_refl _) _).alloc (by simp) _) (Nat.le_refl _)
    · exact A2.out.below (((Below.refl _ _).alloc (Nat.le_refl _) _).alloc (by simp) _) (Nat.le_refl _)
    · exact ((Below.refl _ _).alloc (Nat.le_refl _) _).alloc (by simp) _
theorem negated_bz (va : Value) (s1 : Bool) (n1 d1 : Nat) (w : World) (ha : Ra w va s1 n1 d1) :
    Calls Tryz.prog 78 #[va] w fun e w' => ∃ bz v1 v2, e = .returned (.agg #[.bool bz, v1, v2]) ∧ Hid (bz = (!s1 && decide (n1 ≠ 0))) ∧ Nt w' v1 n1 ∧ Nt w' v2 d1 ∧ Below w.heap.size w w' :=
  (negated_any va s1 n1 d1 w ha).mono fun _ _ ⟨_, e, ⟨v1, v2, e2, h1, h2⟩, hb⟩ => ⟨_, v1, v2, by rw [e, e2], rfl, h1, h2, hb⟩
theorem plus_bz (va vb : Value) (s1 s2 : Bool) (n1 d1 n2 d2 : Nat) (w : World) (ha : Ra w va s1 n1 d1) (hb : Ra w vb s2 n2 d2)
    (h1 : (dg 65536 n1).length ≤ 20000) (h2 : (dg 65536 d1).length ≤ 20000) (h3 : (dg 65536 n2).length ≤ 20000) (h4 : (dg 65536 d2).length ≤ 20000) (h5 : d1 ≠ 0) (h6 : d2 ≠ 0) :
    Calls Tryz.prog 42 #[va, vb] w fun e w' => ∃ S bz v1 v2, e = .returned (.agg #[.bool bz, v1, v2]) ∧ Hid (S = sgn s1 (n1 * d2) + sgn s2 (n2 * d1)) ∧ Hid (bz = decide (S < 0)) ∧ Nt w' v1 (S.natAbs / Nat.gcd S.natAbs (d1 * d2)) ∧ Nt w' v2 (d1 * d2 / Nat.gcd S.natAbs (d1 * d2)) ∧ Below w.heap.size w w' :=
  (plus_any va vb s1 s2 n1 d1 n2 d2 w ha hb h1 h2 h3 h4 h5 h6).mono fun _ _ ⟨_, e, hS, hb⟩ =>
    let ⟨v1, v2, e2, k1, k2⟩ := hS _ rfl
    ⟨_, _, v1, v2, by rw [e, e2], rfl, rfl, k1, k2, hb⟩
set_option maxHeartbeats 1000000 in
theorem minus_any (va vb : Value) (s1 s2 : Bool) (n1 d1 n2 d2 : Nat) (w : World) (ha : Ra w va s1 n1 d1) (hb : Ra w vb s2 n2 d2)
    (h1 : (dg 65536 n1).length ≤ 20000) (h2 : (dg 65536 d1).length ≤ 20000) (h3 : (dg 65536 n2).length ≤ 20000) (h4 : (dg 65536 d2).length ≤ 20000) (h5 : d1 ≠ 0) (h6 : d2 ≠ 0) :
    Calls Tryz.prog 38 #[va, vb] w fun e w' => ∃ v, e = .returned v ∧ (∀ S : Int, S = sgn s1 (n1 * d2) - sgn s2 (n2 * d1) → Ra w' v (decide (S < 0)) (S.natAbs / Nat.gcd S.natAbs (d1 * d2)) (d1 * d2 / Nat.gcd S.natAbs (d1 * d2))) ∧ Below w.heap.size w w' := by
  have HA := hid ha
  have HB := hid hb
  obtain ⟨va1, va2, rfl, ha1, ha2⟩ := ha
  obtain ⟨vb1, vb2, rfl, hb1, hb2⟩ := hb
  obtain ⟨p1, c1, rfl⟩ := ha1.shape
  obtain ⟨p2, c2, rfl⟩ := ha2.shape
  obtain ⟨p3, c3, rfl⟩ := hb1.shape
  obtain ⟨p4, c4, rfl⟩ := hb2.shape
  clear ha1 ha2 hb1 hb2
  go_enter Tryz.func38, Tryz.ntmps38
  go_wp2_with fail
  have hT := three_alloc w (.bool s1) (.slice p1 (dg 65536 n1).length c1) (.slice p2 (dg 65536 d1).length c2) (.bool s2) (.slice p3 (dg 65536 n2).length c3) (.slice p4 (dg 65536 d2).length c4) (.bool false) (.slice none 0 0) (.slice none 0 0)
  generalize ((w.alloc (.cells #[.bool s1, .slice p1 (dg 65536 n1).length c1, .slice p2 (dg 65536 d1).length c2] 31)).alloc (.cells #[.bool s2, .slice p3 (dg 65536 n2).length c3, .slice p4 (dg 65536 d2).length c4] 31)).alloc (.cells #[.bool false, .slice none 0 0, .slice none 0 0] 31) = w0 at *
  go_region_held (fun w' => w'.cell? ⟨w.heap.size, 0, none⟩ = some (.bool s1) ∧ w'.cell? ⟨w.heap.size, 1, none⟩ = some (.slice p1 (dg 65536 n1).length c1) ∧ w'.cell? ⟨w.heap.size, 2, none⟩ = some (.slice p2 (dg 65536 d1).length c2) ∧ w'.cell? ⟨w.heap.size + 1, 0, none⟩ = some (.bool s2) ∧ w'.cell? ⟨w.heap.size + 1, 1, none⟩ = some (.slice p3 (dg 65536 n2).length c3) ∧ w'.cell? ⟨w.heap.size + 1, 2, none⟩ = some (.slice p4 (dg 65536 d2).length c4) ∧ Tb w (.bool s1) (.slice p1 (dg 65536 n1).length c1) (.slice p2 (dg 65536 d1).length c2) (.bool s2) (.slice p3 (dg 65536 n2).length c3) (.slice p4 (dg 65536 d2).length c4) w')
    (first | with_reducible exact sx_of (tb_drew hT) | with_reducible exact sx_next (by assumption) (by assumption) | with_reducible exact sx_set3 (by assumption) _ _ _)
    (first | (go_at_call 78; refine (negated_bz _ s2 n2 d2 _ ?_).mono ?_; exact HB.out.below (sx_below (by assumption)) (Nat.le_refl _); rintro e w6 ⟨bn, v5, v6, rfl, HBN, hv5, hv6, hb6⟩; obtain ⟨q5, e5, rfl⟩ := hv5.shape; obtain ⟨q6, e6, rfl⟩ := hv6.shape; have HV5 := hid hv5; have HV6 := hid hv6; clear hv5 hv6)
           | (go_at_call 42; refine (plus_bz _ _ s1 bn n1 d1 n2 d2 _ ?_ ?_ h1 h2 h3 h4 h5 h6).mono ?_; exact (HA.out.below (sx_below (sx_of (tb_drew hT))) (Nat.le_refl _)).below hb6 (Nat.le_refl _); exact ⟨_, _, rfl, HV5.out, HV6.out⟩; rintro e w7 ⟨S, bz, v7, v8, rfl, HS, HBZ, hv7, hv8, hb7⟩; obtain ⟨q7, e7, rfl⟩ := hv7.shape; obtain ⟨q8, e8, rfl⟩ := hv8.shape; have HV7 := hid hv7; have HV8 := hid hv8; clear hv7 hv8; have hT7 := hid (tb_next hb7 (tb_next hb6 (tb_drew hT))); obtain ⟨z0, z1, z2, hz⟩ := hT7.out.2.2.1; have HZ := hid hz; obtain ⟨r0, r1, r2, r3, r4, r5⟩ := hz.three; clear hz))
  go_wp2_with fail
  refine bodyPost_ret (v := .agg #[.bool bz, .slice q7 (dg 65536 (S.natAbs / Nat.gcd S.natAbs (d1 * d2))).length e7, .slice q8 (dg 65536 (d1 * d2 / Nat.gcd S.natAbs (d1 * d2))).length e8]) (by simp [results, Tryz.results38, go_sem, r0, r1, r2]) rfl ⟨_, rfl, ?_, below_set3 hT7.out.2.2.2 (by omega) _ _ _⟩
  intro S2 hS2
  have eN : sgn bn (n2 * d1) = - sgn s2 (n2 * d1) := by
    rw [HBN.out]
    rcases Nat.eq_zero_or_pos n2 with h | h
    · rw [h, Nat.zero_mul]; cases s2 <;> rfl
    · have e1 : decide (n2 ≠ 0) = true := decide_eq_true (by omega)
      rw [e1, Bool.and_true]
      cases s2
      · rw [Bool.not_false, sgn_true, sgn_false]
      · rw [Bool.not_true, sgn_true, sgn_false]; omega
  have eS : S2 = S := by rw [hS2, HS.out, eN]; omega
  subst eS
  have eZ := HBZ.out
  rw [← eZ]
  exact ⟨_, _, rfl, HV7.out.set3 HZ.out (by decide) _ _ _, HV8.out.set3 HZ.out (by decide) _ _ _⟩
end Go.Proofs.YtocahcammjoffaaGreatDoor
