/- Walks and lemmas for the laws of this seat. -/
import Derived.Test.YtocahcammjoffaaGreatDoorN10
import Derived.Deep.RegionHeld
namespace Go.Proofs.YtocahcammjoffaaGreatDoor
open Go.RowKit Go.Dig
set_option maxRecDepth 100000
set_option maxHeartbeats 1000000 in
theorem nsub_11 (vx vy : Value) (m n : Nat) (w : World) (hx : Nw w vx m) (hy : Nw w vy n) (hm : 0 < m) (hm1 : m < 18446744073709551616) (hn : 0 < n) (hn1 : n < 18446744073709551616) (hnm : n ≤ m) :
    Calls Tryz.prog 208 #[.slice none 0 0, vx, vy] w fun e w' => ∃ v, e = .returned v ∧ Nw w' v (m - n) ∧ Below w.heap.size w w' := by
  have HX := hid hx
  have HY := hid hy
  obtain ⟨ax, cx, ex⟩ := hx.shape
  obtain ⟨ay, cy, ey⟩ := hy.shape
  rw [dg_one hm hm1] at ex
  rw [dg_one hn hn1] at ey
  subst ex ey
  have hcx : 1 ≤ cx := by obtain ⟨_, c, e, h, _, _⟩ := hx; injection e with _ _ e3; rw [dg_one hm hm1] at h; rw [e3]; exact h
  have hcy : 1 ≤ cy := by obtain ⟨_, c, e, h, _, _⟩ := hy; injection e with _ _ e3; rw [dg_one hn hn1] at h; rw [e3]; exact h
  have hcx2 : cx ≤ 9223372036854775807 := by obtain ⟨_, c, e, _, h, _⟩ := hx; injection e with _ _ e3; rw [e3]; exact h
  have hcy2 : cy ≤ 9223372036854775807 := by obtain ⟨_, c, e, _, h, _⟩ := hy; injection e with _ _ e3; rw [e3]; exact h
  clear hx hy
  go_enter Tryz.func208, Tryz.ntmps208
  go_wp2_with fail
  refine (natMake_one w).mono ?_
  rintro e w1 ⟨rfl, hw1⟩
  have hBz : BlkN .u64 158 w1 w.heap.size ([0]) := by rw [hw1]; exact blk_new w _ 158
  have hb1 : Below w.heap.size w w1 := by rw [hw1]; exact (Below.refl _ _).alloc (Nat.le_refl _) _
  clear hw1
  go_wp2_with fail
  have hX1 : Hid (Rd .u64 w (.slice ax 1 cx) [m]) := by have := HX.out.rd; rw [dg_one hm hm1] at this; exact this
  have hY1 : Hid (Rd .u64 w (.slice ay 1 cy) [n]) := by have := HY.out.rd; rw [dg_one hn hn1] at this; exact this
  go_region_held (fun w' => Hid (Below w.heap.size w w')) (first | with_reducible assumption | exact hb1.trans (below_drewN' 1))
    (first | (go_at_call 263; refine (subVV_w w _ w.heap.size _ _ _ [m] [n] ([0]) (hb1.trans (below_drewN' 1)) (Nat.le_refl _) (hBz.below (below_drewN' 1) hBz.lt) hX1.out hY1.out rfl (by simp) (by simpa using hm1) (by simpa using hn1)).mono ?_; rintro e w2 ⟨l2, c, rfl, hl2, hc, hv, hrest, hlow, hB2, hb2⟩; have HV := hid hv; have HRE := hid hrest; have HLO := hid hlow; have HL2 := hid hl2; have hb3 : Hid (Below w.heap.size w w2) := hb2; clear hv hrest hlow hl2))
  all_goals
    have hval : l2.getD 0 0 = m - n ∧ c = 0 ∧ l2 = [m - n] := by
      have hl : l2.getD 0 0 < 18446744073709551616 := HLO.out 0 (by simp)
      match l2, HL2.out, HV.out, hl with
      | [a0], _, hval, hl =>
        have hl' : a0 < 18446744073709551616 := by simpa using hl
        have hval' : a0 + n = m + c * 18446744073709551616 := by simpa [val] using hval
        have : c = 0 := by omega
        subst this
        have e : a0 = m - n := by omega
        subst e
        exact ⟨rfl, rfl, rfl⟩
    obtain ⟨_, rfl, rfl⟩ := hval
    have hB3 := hid hB2
    clear hB2
    go_wp2_with fail
    have hRt : Rt 158 .u64 w2 (.slice (some ⟨w.heap.size, 0, none⟩) 1 1) [m - n] := hB3.out.rt (cap := 1) (by simp) (by omega)
    refine (norm_any _ _ w2 hRt).mono ?_
    rintro e w' ⟨v, rfl, hv, rfl⟩
    go_wp2_with fail
    go_ret
    refine ⟨_, rfl, ?_, hb3.out⟩
    rw [trim_eq (b := 18446744073709551616) (by omega) (by intro d hd; simp at hd; omega)] at hv
    have e : val 18446744073709551616 [m - n] = m - n := by simp [val]
    rw [e] at hv
    exact hv
set_option maxHeartbeats 400000 in
theorem nsub_00 (w : World) (vx vy : Value) (hx : Nw w vx 0) (hy : Nw w vy 0) :
    Calls Tryz.prog 208 #[.slice none 0 0, vx, vy] w fun e w' => ∃ v, e = .returned v ∧ Nw w' v 0 ∧ Below w.heap.size w w' := by
  obtain ⟨ax, cx, rfl⟩ := hx.shape
  obtain ⟨ay, cy, rfl⟩ := hy.shape
  rw [dg_zero, List.length_nil]
  clear hx hy
  go_enter Tryz.func208, Tryz.ntmps208
  go_wp2_with fail
  go_ret
  exact ⟨_, rfl, by show Rt 158 .u64 w (.slice none 0 0) (dg 18446744073709551616 0); rw [dg_zero]; exact Rt.nil _ _ _, Below.refl _ _⟩
set_option maxHeartbeats 400000 in
theorem nsub_10 (w : World) (vx vy : Value) (m : Nat) (hx : Nw w vx m) (hy : Nw w vy 0) (hm : 0 < m) (hm1 : m < 18446744073709551616) :
    Calls Tryz.prog 208 #[.slice none 0 0, vx, vy] w fun e w' => ∃ v, e = .returned v ∧ Nw w' v m ∧ Below w.heap.size w w' := by
  have HX := hid hx
  obtain ⟨ax, cx, ex⟩ := hx.shape
  obtain ⟨ay, cy, ey⟩ := hy.shape
  rw [dg_one hm hm1] at ex
  rw [dg_zero] at ey
  subst ex ey
  clear hx hy
  go_enter Tryz.func208, Tryz.ntmps208
  go_wp2_with fail
  refine (nset_one _ m w HX.out hm hm1).mono ?_
  rintro e w1 ⟨v, rfl, hv, hb⟩
  go_wp2_with fail
  go_ret
  exact ⟨_, rfl, hv, hb⟩
theorem nsub_small (w : World) (vx vy : Value) (m n : Nat) (hx : Nw w vx m) (hy : Nw w vy n) (hm1 : m < 18446744073709551616) (hnm : n ≤ m) :
    Calls Tryz.prog 208 #[.slice none 0 0, vx, vy] w fun e w' => ∃ v, e = .returned v ∧ Nw w' v (m - n) ∧ Below w.heap.size w w' := by
  rcases Nat.eq_zero_or_pos n with h' | h'
  · subst h'
    rw [Nat.sub_zero]
    rcases Nat.eq_zero_or_pos m with h | h
    · subst h; exact nsub_00 w vx vy hx hy
    · exact nsub_10 w vx vy m hx hy h hm1
  · exact nsub_11 vx vy m n w hx hy (by omega) hm1 h' (by omega) hnm
end Go.Proofs.YtocahcammjoffaaGreatDoor
