/- Walks and lemmas for the laws of this seat. -/
import Derived.Test.YtocahcammjoffaaGreatDoorS15
namespace Go.Proofs.YtocahcammjoffaaGreatDoor
open Go.RowKit Go.Dig
set_option maxRecDepth 100000
theorem div_len {m k : Nat} (g : Nat) (h : (dg 65536 m).length ≤ k) : (dg 65536 (m / g)).length ≤ k := Nat.le_trans (dg_length_mono (by omega) (Nat.div_le_self _ _)) h
theorem over_core (neg : Bool) (va vb : Value) (m n : Nat) (w : World) (hma : Nt w va m) (hmb : Nt w vb n) (hla : (dg 65536 m).length ≤ 100000) (hlb : (dg 65536 n).length ≤ 100000) (hn : n ≠ 0) :
    Calls Tryz.prog 66 #[.bool neg, va, vb] w fun e w' => ∃ v1 v2, e = .returned (.agg #[.bool (neg && decide (0 < (dg 65536 m).length)), v1, v2]) ∧ Nt w' v1 (m / Nat.gcd m n) ∧ Nt w' v2 (n / Nat.gcd m n) ∧ Below w.heap.size w w' := by
  obtain ⟨a2, cap2, eb⟩ := hmb.shape
  obtain ⟨a1, cap1, ea⟩ := hma.shape
  subst eb ea
  have HA := hid hma
  have HB := hid hmb
  have hg0 : Nat.gcd m n ≠ 0 := fun h => hn (Nat.eq_zero_of_gcd_eq_zero_right h)
  have hgl : (dg 65536 (Nat.gcd m n)).length ≤ 100000 := Nat.le_trans (dg_length_mono (by omega) (Nat.gcd_le_right m (by omega))) hlb
  clear hma hmb
  cases neg
  all_goals
    go_enter Tryz.func66, Tryz.ntmps66
    go_wp2_with fail
    have hbA : Below w.heap.size w (w.alloc (.cells #[.bool false, .slice none 0 0, .slice none 0 0] 31)) := (Below.refl _ _).alloc (Nat.le_refl _) _
    have hB0 := blk_new w #[.bool false, .slice none 0 0, .slice none 0 0] 31
    generalize w.alloc (.cells #[.bool false, .slice none 0 0, .slice none 0 0] 31) = w0 at *
    have HA0 : Hid (Nt w0 _ m) := HA.out.below hbA (Nat.le_refl _)
    have HN0 : Hid (Nt w0 _ n) := HB.out.below hbA (Nat.le_refl _)
    refine (gcd_any _ _ m n w0 HA0.out HN0.out hla hlb).mono ?_
    rintro e w1 ⟨vg, rfl, hvg, hb1⟩
    obtain ⟨ag, cg, rfl⟩ := hvg.shape
    have HG := hid hvg
    have HA1 : Hid (Nt w1 _ m) := HA0.out.below hb1 (Nat.le_refl _)
    have HN1 : Hid (Nt w1 _ n) := HN0.out.below hb1 (Nat.le_refl _)
    have hB1 := hB0.below hb1 hB0.lt
    have hbB := below_next hbA hb1
    clear hvg HA0 HN0 hB0 hbA hb1
    go_wp2_with fail
    refine (divmod_any _ _ m _ w1 HA1.out HG.out hla hgl hg0).mono ?_
    rintro e w2 ⟨va1, va2, rfl, hva1, hva2, hb2⟩
    obtain ⟨b1, d1, rfl⟩ := hva1.shape
    obtain ⟨b2, d2, rfl⟩ := hva2.shape
    have HQ := hid hva1
    have HG2 : Hid (Nt w2 _ (Nat.gcd m n)) := HG.out.below hb2 (Nat.le_refl _)
    have HN2 : Hid (Nt w2 _ n) := HN1.out.below hb2 (Nat.le_refl _)
    have hB2 := hB1.below hb2 hB1.lt
    have hbC := below_next hbB hb2
    clear hva1 hva2 HA1 HG HN1 hB1 hbB hb2
    go_wp2_with fail
    refine (divmod_any _ _ n _ w2 HN2.out HG2.out hlb hgl hg0).mono ?_
    rintro e w3 ⟨vb1, vb2, rfl, hvb1, hvb2, hb3⟩
    obtain ⟨b3, d3, rfl⟩ := hvb1.shape
    obtain ⟨b4, d4, rfl⟩ := hvb2.shape
    have HD := hid hvb1
    have HQ3 : Hid (Nt w3 _ (m / Nat.gcd m n)) := HQ.out.below hb3 (Nat.le_refl _)
    have hB3 := hB2.below hb3 hB2.lt
    have hbD := below_next hbC hb3
    obtain ⟨q0, q1, q2, q3, q4, q5⟩ := hB3.three
    clear hvb1 hvb2 HQ HG2 HN2 hB2 hbC hb3
    go_wp2_with fail
  · refine bodyPost_ret (v := .agg #[.bool false, .slice b1 (dg 65536 (m / m.gcd n)).length d1, .slice b3 (dg 65536 (n / m.gcd n)).length d3]) (by simp [results, Tryz.results66, go_sem, q0, q1, q2]) rfl ⟨_, _, rfl, ?_, ?_, ?_⟩
    · exact HQ3.out.set3 hB3 (by decide) _ _ _
    · exact HD.out.set3 hB3 (by decide) _ _ _
    · exact below_set3 hbD (Nat.le_refl _) _ _ _
  · refine bodyPost_ret (v := .agg #[.bool (decide (0 < (dg 65536 m).length)), .slice b1 (dg 65536 (m / m.gcd n)).length d1, .slice b3 (dg 65536 (n / m.gcd n)).length d3]) (by simp [results, Tryz.results66, go_sem, q0, q1, q2]) rfl ⟨_, _, by rw [Bool.true_and], ?_, ?_, ?_⟩
    · exact HQ3.out.set3 hB3 (by decide) _ _ _
    · exact HD.out.set3 hB3 (by decide) _ _ _
    · exact below_set3 hbD (Nat.le_refl _) _ _ _
theorem over_any (neg : Bool) (va vb : Value) (m n : Nat) (w : World) (hma : Nt w va m) (hmb : Nt w vb n) (hla : (dg 65536 m).length ≤ 100000) (hlb : (dg 65536 n).length ≤ 100000) (hn : n ≠ 0) :
    Calls Tryz.prog 66 #[.bool neg, va, vb] w fun e w' => ∃ v1 v2, e = .returned (.agg #[.bool (neg && decide (m ≠ 0)), v1, v2]) ∧ Nt w' v1 (m / Nat.gcd m n) ∧ Nt w' v2 (n / Nat.gcd m n) ∧ Below w.heap.size w w' := by
  rw [← dg_len_pos]
  exact over_core neg va vb m n w hma hmb hla hlb hn
end Go.Proofs.YtocahcammjoffaaGreatDoor
