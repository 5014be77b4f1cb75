/- Walks and lemmas for the laws of this seat. -/
import Derived.Test.YtgdgklhfakplhaaGreatDoorH06
namespace Go.Proofs.YtgdgklhfakplhaaGreatDoor
open Go.RowKit Go.Dig
set_option maxRecDepth 100000
theorem nt_unique {w : World} {v : Value} {m n : Nat} (h1 : Nt w v m) (h2 : Nt w v n) : m = n := by
  obtain ⟨a, cap, rfl, _, _, h13⟩ := h1
  obtain ⟨a2, cap2, e, _, _, h23⟩ := h2
  injection e with e1 e2 e3
  subst e1
  apply dg_inj (b := 65536) (by omega)
  apply List.ext_getElem e2
  intro i hi1 hi2
  obtain ⟨b, off, rfl, _, hc⟩ := h13 (by omega)
  obtain ⟨b2, off2, eb, _, hc2⟩ := h23 (by omega)
  injection eb with eb
  injection eb with eb1 eb2 eb3
  subst eb1 eb2
  have k1 := hc i hi1
  have k2 := hc2 i hi2
  rw [k1] at k2
  have k3 : ((dg 65536 m)[i] : Int) = ((dg 65536 n)[i] : Int) := by simpa [hi1, hi2] using k2
  omega
/-- The number that a slice reads as. -/
noncomputable def ntOf (w : World) (v : Value) : Nat := Classical.epsilon fun n => Nt w v n
theorem ntOf_eq {w : World} {v : Value} {n : Nat} (h : Nt w v n) : ntOf w v = n :=
  nt_unique (Classical.epsilon_spec (p := fun n => Nt w v n) ⟨n, h⟩) h
set_option maxHeartbeats 1000000 in
theorem gcd_any (va vb : Value) (m n : Nat) (w : World) (hma : Nt w va m) (hmb : Nt w vb n) (hla : (dg 65536 m).length ≤ 100000) (hlb : (dg 65536 n).length ≤ 100000) :
    Calls Tryz.prog 55 #[va, vb] w fun e w' => ∃ v, e = .returned v ∧ Nt w' v (Nat.gcd m n) ∧ Below w.heap.size w w' := by
  obtain ⟨a2, cap2, eb⟩ := hmb.shape
  obtain ⟨a1, cap1, ea⟩ := hma.shape
  subst eb ea
  have HA := hid hma
  have HB := hid hmb
  clear hma hmb
  go_enter Tryz.func55, Tryz.ntmps55
  go_wp2_with fail
  go_loopw [0, 1] (fun x y wr => ∃ (p q : Nat), Hid (Nt wr x p) ∧ Hid (Nt wr y q) ∧ Hid (Nat.gcd p q = Nat.gcd m n) ∧ (dg 65536 p).length ≤ 100000 ∧ (dg 65536 q).length ≤ 100000 ∧ Below w.heap.size w wr) (fun _ y wr => ntOf wr y)
  case atStart => exact ⟨m, n, HA, HB, hid rfl, hla, hlb, Below.refl _ _⟩
  case round =>
    obtain ⟨p, q, hp, hq, hg, hlp, hlq, hb⟩ := hrel
    obtain ⟨ap, cp, rfl⟩ := hp.out.shape
    obtain ⟨aq, cq, rfl⟩ := hq.out.shape
    rcases Nat.eq_zero_or_pos q with rfl | hq0
    · have e0 : (dg 65536 0).length = 0 := by rw [dg_zero]; rfl
      rw [e0] at *
      go_wp2_with fail
      go_ret
      refine ⟨_, rfl, ?_, hb⟩
      have := hg.out
      rw [Nat.gcd_zero_right] at this
      rw [← this]; exact hp.out
    · have hl0 : 0 < (dg 65536 q).length := by
        rcases Nat.eq_zero_or_pos (dg 65536 q).length with h | h
        · exact absurd ((dg_nil_iff (b := 65536) (by omega)).1 (List.eq_nil_of_length_eq_zero h)) (by omega)
        · exact h
      go_wp2_with fail
      refine (divmod_any _ _ p q wr hp.out hq.out hlp hlq (by omega)).mono ?_
      rintro e w1 ⟨v, v', rfl, hv, hv', hb1⟩
      obtain ⟨av, cv, rfl⟩ := hv.shape
      obtain ⟨av', cv', rfl⟩ := hv'.shape
      have hV := hid hv'
      have hq1 : Hid (Nt w1 _ q) := hq.out.below hb1 (Nat.le_refl _)
      have hb2 := below_next hb hb1
      have hlt := Nat.mod_lt p hq0
      have hM := hid (ntOf_eq hq.out)
      have hM2 := hid (ntOf_eq hv')
      clear hv hv' hp hq hb hb1
      go_wp2_with fail
      go_roundw
      case rel =>
        refine ⟨q, p % q, hq1, hV, hid ?_, hlq, Nat.le_trans (dg_length_mono (by omega) (Nat.le_of_lt hlt)) hlq, hb2⟩
        have := hg.out
        rw [← this, Nat.gcd_comm p q, Nat.gcd_rec q p, Nat.gcd_comm]
      case measure => rw [hM.out, hM2.out]; exact hlt
end Go.Proofs.YtgdgklhfakplhaaGreatDoor
