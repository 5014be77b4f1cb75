/- Walks and lemmas for the laws of this seat. -/
import Derived.Test.YtocahcammjoffaaGreatDoorN8
import Derived.Deep.RegionHeld
namespace Go.Proofs.YtocahcammjoffaaGreatDoor
open Go.RowKit Go.Dig
set_option maxRecDepth 100000
theorem dgw_lt (n : Nat) : ∀ d ∈ dg 18446744073709551616 n, d < 18446744073709551616 := dg_lt (by omega) n
set_option maxHeartbeats 400000 in
theorem addVV_wrap (p x y : Option Addr) (L1 L2 L3 c1 c2 c3 : Nat) (w : World) (R : Ending → World → Prop) (hR : Hid (∀ e w', R e w' → ∃ v, e = .returned v)) (h : Calls Tryz.prog 294 #[.slice p L1 c1, .slice x L2 c2, .slice y L3 c3] w R) :
    Calls Tryz.prog 262 #[.slice p L1 c1, .slice x L2 c2, .slice y L3 c3] w R := by
  go_enter Tryz.func262, Tryz.ntmps262
  go_wp2_with fail
  refine h.mono ?_
  intro e w' hq
  obtain ⟨v, rfl⟩ := hR.out e w' hq
  have HQ := hid hq
  clear hq
  go_wp2_with fail
  exact HQ
theorem addVV_w (w0 w : World) (b cap : Nat) (vx vy : Value) (xs ys l : List Nat) (hb : Below w0.heap.size w0 w) (hB : w0.heap.size ≤ b) (hl : BlkN .u64 158 w b l) (hx : Rd .u64 w0 vx xs) (hy : Rd .u64 w0 vy ys)
    (hxy : xs.length = ys.length) (hlen : xs.length ≤ l.length) (hdx : ∀ d ∈ xs, d < 18446744073709551616) (hdy : ∀ d ∈ ys, d < 18446744073709551616) :
    Calls Tryz.prog 262 #[.slice (some ⟨b, 0, none⟩) xs.length cap, vx, vy] w fun e w' => ∃ l' c, e = .returned (.int .u64 (c : Nat)) ∧ l'.length = l.length ∧ c ≤ 1 ∧ val 18446744073709551616 (l'.take xs.length) + c * 18446744073709551616 ^ xs.length = val 18446744073709551616 xs + val 18446744073709551616 ys ∧
      (∀ j, xs.length ≤ j → l'.getD j 0 = l.getD j 0) ∧ (∀ j, j < xs.length → l'.getD j 0 < 18446744073709551616) ∧ BlkN .u64 158 w' b l' ∧ Below w0.heap.size w0 w' := by
  obtain ⟨ax, cx, rfl⟩ := hx.shape
  obtain ⟨ay, cy, rfl⟩ := hy.shape
  exact addVV_wrap _ _ _ _ _ _ _ _ _ w _ (by rintro e w' ⟨l', c, h1, _⟩; exact ⟨_, h1⟩) (addVV_any w0 w b cap _ _ xs ys l hb hB hl hx hy hxy hlen hdx hdy)
set_option maxHeartbeats 400000 in
theorem subVV_wrap (p x y : Option Addr) (L1 L2 L3 c1 c2 c3 : Nat) (w : World) (R : Ending → World → Prop) (hR : Hid (∀ e w', R e w' → ∃ v, e = .returned v)) (h : Calls Tryz.prog 295 #[.slice p L1 c1, .slice x L2 c2, .slice y L3 c3] w R) :
    Calls Tryz.prog 263 #[.slice p L1 c1, .slice x L2 c2, .slice y L3 c3] w R := by
  go_enter Tryz.func263, Tryz.ntmps263
  go_wp2_with fail
  refine h.mono ?_
  intro e w' hq
  obtain ⟨v, rfl⟩ := hR.out e w' hq
  have HQ := hid hq
  clear hq
  go_wp2_with fail
  exact HQ
theorem subVV_w (w0 w : World) (b cap : Nat) (vx vy : Value) (xs ys l : List Nat) (hb : Below w0.heap.size w0 w) (hB : w0.heap.size ≤ b) (hl : BlkN .u64 158 w b l) (hx : Rd .u64 w0 vx xs) (hy : Rd .u64 w0 vy ys)
    (hxy : xs.length = ys.length) (hlen : xs.length ≤ l.length) (hdx : ∀ d ∈ xs, d < 18446744073709551616) (hdy : ∀ d ∈ ys, d < 18446744073709551616) :
    Calls Tryz.prog 263 #[.slice (some ⟨b, 0, none⟩) xs.length cap, vx, vy] w fun e w' => ∃ l' c, e = .returned (.int .u64 (c : Nat)) ∧ l'.length = l.length ∧ c ≤ 1 ∧ val 18446744073709551616 (l'.take xs.length) + val 18446744073709551616 ys = val 18446744073709551616 xs + c * 18446744073709551616 ^ xs.length ∧
      (∀ j, xs.length ≤ j → l'.getD j 0 = l.getD j 0) ∧ (∀ j, j < xs.length → l'.getD j 0 < 18446744073709551616) ∧ BlkN .u64 158 w' b l' ∧ Below w0.heap.size w0 w' := by
  obtain ⟨ax, cx, rfl⟩ := hx.shape
  obtain ⟨ay, cy, rfl⟩ := hy.shape
  exact subVV_wrap _ _ _ _ _ _ _ _ _ w _ (by rintro e w' ⟨l', c, h1, _⟩; exact ⟨_, h1⟩) (subVV_any w0 w b cap _ _ xs ys l hb hB hl hx hy hxy hlen hdx hdy)
set_option maxHeartbeats 1000000 in
theorem nadd_11 (vx vy : Value) (m n : Nat) (w : World) (hx : Nw w vx m) (hy : Nw w vy n) (hm : 0 < m) (hm1 : m < 18446744073709551616) (hn : 0 < n) (hn1 : n < 18446744073709551616) :
    Calls Tryz.prog 206 #[.slice none 0 0, vx, vy] w fun e w' => ∃ v, e = .returned v ∧ Nw w' v (m + n) ∧ Below w.heap.size w w' := by
  have HX := hid hx
  have HY := hid hy
  obtain ⟨ax, cx, ex⟩ := hx.shape
  obtain ⟨ay, cy, ey⟩ := hy.shape
  rw [dg_one hm hm1] at ex
  rw [dg_one hn hn1] at ey
  subst ex ey
  have hcx : 1 ≤ cx := by obtain ⟨_, c, e, h, _, _⟩ := hx; injection e with _ _ e3; rw [dg_one hm hm1] at h; rw [e3]; exact h
  have hcy : 1 ≤ cy := by obtain ⟨_, c, e, h, _, _⟩ := hy; injection e with _ _ e3; rw [dg_one hn hn1] at h; rw [e3]; exact h
  have hcx2 : cx ≤ 9223372036854775807 := by obtain ⟨_, c, e, _, h, _⟩ := hx; injection e with _ _ e3; rw [e3]; exact h
  have hcy2 : cy ≤ 9223372036854775807 := by obtain ⟨_, c, e, _, h, _⟩ := hy; injection e with _ _ e3; rw [e3]; exact h
  clear hx hy
  go_enter Tryz.func206, Tryz.ntmps206
  go_wp2_with fail
  refine (natMake_any 2 (by omega) (by omega) w).mono ?_
  rintro e w1 ⟨rfl, hw1⟩
  have hBz : BlkN .u64 158 w1 w.heap.size (List.replicate 6 0) := by rw [hw1]; exact blk_new w _ 158
  have hb1 : Below w.heap.size w w1 := by rw [hw1]; exact (Below.refl _ _).alloc (Nat.le_refl _) _
  clear hw1
  go_wp2_with fail
  have hX1 : Hid (Rd .u64 w (.slice ax 1 cx) [m]) := by have := HX.out.rd; rw [dg_one hm hm1] at this; exact this
  have hY1 : Hid (Rd .u64 w (.slice ay 1 cy) [n]) := by have := HY.out.rd; rw [dg_one hn hn1] at this; exact this
  go_region_held (fun w' => Hid (Below w.heap.size w w')) (first | with_reducible assumption | exact hb1.trans (below_drewN' 1))
    (first | (go_at_call 262; refine (addVV_w w _ w.heap.size _ _ _ [m] [n] (List.replicate 6 0) (hb1.trans (below_drewN' 1)) (Nat.le_refl _) (hBz.below (below_drewN' 1) hBz.lt) hX1.out hY1.out rfl (by simp) (by simpa using hm1) (by simpa using hn1)).mono ?_; rintro e w2 ⟨l2, c, rfl, hl2, hc, hv, hrest, hlow, hB2, hb2⟩; have HV := hid hv; have HRE := hid hrest; have HLO := hid hlow; have HL2 := hid hl2; have hb3 : Hid (Below w.heap.size w w2) := hb2; clear hv hrest hlow hl2))
  all_goals
    have e6 : (List.replicate 6 0).length = 6 := rfl
    rw [e6] at HL2
    have hBc := hB2.at (i := 1) (by rw [HL2.out]; omega)
    have hfr := Blk.frozen hB2 1
    have hz1 : l2.getD 1 0 = 0 := HRE.out 1 (Nat.le_refl _)
    rw [hz1] at hBc
    clear hz1
    have hB3 := hid hB2
    clear hB2
    go_wp2_with fail
    have hB4 : BlkN .u64 158 (w2.setCell ⟨w.heap.size, 1, none⟩ (.int .u64 (c : Int))) w.heap.size (l2.set 1 c) := hB3.out.put 1 c
    have hb4 : Below w.heap.size w (w2.setCell ⟨w.heap.size, 1, none⟩ (.int .u64 (c : Int))) := hb3.out.setCell (Nat.le_refl _) _
    generalize w2.setCell ⟨w.heap.size, 1, none⟩ (.int .u64 (c : Int)) = w3 at *
    have hsz : 6 = (l2.set 1 c).length := by rw [List.length_set]; exact HL2.out.symm
    have hRt : Rt 158 .u64 w3 (.slice (some ⟨w.heap.size, 0, none⟩) 6 6) (l2.set 1 c) := by
      have := hB4.rt (cap := 6) (by rw [← hsz]; omega) (by omega)
      rwa [← hsz] at this
    have hRt2 := hRt.take (m := 2) (by omega)
    refine (norm_any _ _ w3 hRt2).mono ?_
    rintro e w' ⟨v, rfl, hv, rfl⟩
    go_wp2_with fail
    go_ret
    refine ⟨_, rfl, ?_, hb4⟩
    have hv' : trim ((l2.set 1 c).take 2) = dg 18446744073709551616 (m + n) := by
      have hl : l2.getD 0 0 < 18446744073709551616 := HLO.out 0 (by simp)
      match l2, HL2.out, HV.out, hl with
      | a0 :: a1 :: l3, _, hval, hl =>
        have hl' : a0 < 18446744073709551616 := by simpa using hl
        have hval' : a0 + c * 18446744073709551616 = m + n := by simpa [val] using hval
        have e1 : ((a0 :: a1 :: l3).set 1 c).take 2 = [a0, c] := rfl
        rw [e1, trim_eq (b := 18446744073709551616) (by omega) (by intro d hd; simp at hd; omega)]
        congr 1
        simp [val]; omega
    rw [hv'] at hv
    exact hv
end Go.Proofs.YtocahcammjoffaaGreatDoor
