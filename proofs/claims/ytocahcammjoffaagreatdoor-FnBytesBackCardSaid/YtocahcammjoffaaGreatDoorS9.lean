/- Walks and lemmas for the laws of this seat. -/
import Derived.Test.YtocahcammjoffaaGreatDoorS8
namespace Go.Proofs.YtocahcammjoffaaGreatDoor
open Go.RowKit Go.Dig
set_option maxRecDepth 100000
/-- One more digit of a difference. -/
theorem sub_step {B : Nat} {ds : List Nat} {m n c i x y z c2 : Nat} (hl : ds.length = i) (h : val B ds + n % B ^ i = m % B ^ i + c * B ^ i) (hx : x = m / B ^ i % B) (hy : y = n / B ^ i % B) (hz : z + y + c = x + c2 * B) :
    val B (ds ++ [z]) + n % B ^ (i + 1) = m % B ^ (i + 1) + c2 * B ^ (i + 1) := by
  subst hl
  have e1 : m % B ^ (ds.length + 1) = m % B ^ ds.length + B ^ ds.length * x := by rw [hx, Nat.mod_pow_succ]
  have e2 : n % B ^ (ds.length + 1) = n % B ^ ds.length + B ^ ds.length * y := by rw [hy, Nat.mod_pow_succ]
  rw [val_append, e1, e2]
  show val B ds + B ^ ds.length * (z + B * 0) + _ = _
  have e3 : B ^ ds.length * (z + y + c) = B ^ ds.length * (x + c2 * B) := by rw [hz]
  have e4 : c2 * B ^ (ds.length + 1) = B ^ ds.length * (c2 * B) := by
    rw [Nat.pow_succ, Nat.mul_left_comm]
  rw [Nat.mul_add, Nat.mul_add, Nat.mul_add, Nat.mul_comm (B ^ ds.length) c] at e3
  rw [e4]
  simp only [Nat.mul_zero, Nat.add_zero]
  omega
set_option maxHeartbeats 1000000 in
theorem sub_any (va vb : Value) (m n : Nat) (w : World) (hma : Nt w va m) (hmb : Nt w vb n) (hla : (dg 65536 m).length ≤ 100000) (hnm : n ≤ m) :
    Calls Tryz.prog 83 #[va, vb] w fun e w' => ∃ v, e = .returned v ∧ Nt w' v (m - n) ∧ Below w.heap.size w w' := by
  have hlb : (dg 65536 n).length ≤ (dg 65536 m).length := dg_length_mono (by omega) hnm
  have HNM := hid hnm
  clear hnm
  obtain ⟨a, cap, rfl, h1, h2, h3⟩ := hma
  obtain ⟨a2, cap2, rfl, h12, h22, h32⟩ := hmb
  have HA := hid h3
  have HB := hid h32
  clear h3 h32
  go_enter Tryz.func83, Tryz.ntmps83
  go_wp2_with fail
  go_loopw [6, 5, 12] (fun x v y wr => ∃ (c i : Nat) (ds : List Nat), x = .int .i64 c ∧ y = .int .i64 i ∧ c ≤ 1 ∧ i ≤ (dg 65536 m).length ∧ wr.ownsRow w.heap.size 3 1 v ds.length (cs .i64 ds) ∧ Hid (ds.length = i) ∧ Hid (∀ d ∈ ds, d < 65536) ∧
    Hid (val 65536 ds + n % 65536 ^ i = m % 65536 ^ i + c * 65536 ^ i) ∧ Below w.heap.size w wr) (fun _ _ y _ => (dg 65536 m).length - (intOf y).toNat)
  case atStart => exact ⟨0, 0, [], rfl, rfl, by omega, Nat.zero_le _, own_empty w 3 (Nat.le_refl _), hid rfl, hid (by simp), hid (by simp [val, Nat.mod_one]), (Below.refl _ _).alloc (Nat.le_refl _) _⟩
  case round =>
    obtain ⟨c, i, ds, rfl, rfl, hc, hi, hown, hl, hds, hv, hb⟩ := hrel
    have hbs := hb.size
    have hlen : ds.length ≤ 100000 := by have := hl.out; omega
    have hi2 : i ≤ 100000 := by omega
    rcases Nat.lt_or_ge i (dg 65536 m).length with hka | hia
    · obtain ⟨b, off, rfl, _, hb3⟩ := HA.out (by omega)
      have hk := hb3 i hka
      clear hb3
      have hx := (hb.cell (World.block_lt_of_cell? w _ hk)).trans hk
      clear hk
      have hxd : (dg 65536 m).getD i 0 = m / 65536 ^ i % 65536 := dg_getD (by omega) m i
      generalize (dg 65536 m).getD i 0 = x at hx hxd
      have hx1 : x < 65536 := by rw [hxd]; exact Nat.mod_lt _ (by omega)
      have HX := hid hxd
      clear hxd
      rcases Nat.lt_or_ge i (dg 65536 n).length with hkb | hib
      · obtain ⟨b4, off4, rfl, _, hb4⟩ := HB.out (by omega)
        have hk4 := hb4 i hkb
        clear hb4
        have hy := (hb.cell (World.block_lt_of_cell? w _ hk4)).trans hk4
        clear hk4
        have hyd : (dg 65536 n).getD i 0 = n / 65536 ^ i % 65536 := dg_getD (by omega) n i
        generalize (dg 65536 n).getD i 0 = y at hy hyd
        have hy1 : y < 65536 := by rw [hyd]; exact Nat.mod_lt _ (by omega)
        have HY := hid hyd
        clear hyd
        rcases Nat.lt_or_ge x (c + y) with hneg | hneg
        · have HV := hid (sub_step (z := x + 65536 - (c + y)) (c2 := 1) hl.out hv.out HX.out HY.out (by omega))
          clear hv
          go_wp2_with (at_builtin; refine app1 rfl _ _ 29 3 rfl .i64 8 Tryz.underlying29 info3 (by decide) w.heap.size w u5 ds _ (x + 65536 - (c + y)) (by omega) rfl rfl hown hb (by omega) (by omega) ?_; intro v2 w2 hown2 hb2 _)
          go_roundw
          case rel => exact ⟨1, i + 1, ds ++ [x + 65536 - (c + y)], by simp, by go_num, by omega, by omega, hown2, hid (by simp; exact hl.out), hid (by intro d hd; rcases List.mem_append.1 hd with h | h; exact hds.out d h; simp at h; omega), hid HV.out, hb2⟩
          case measure => simp [intOf]; omega
        · have HV := hid (sub_step (z := x - (c + y)) (c2 := 0) hl.out hv.out HX.out HY.out (by omega))
          clear hv
          go_wp2_with (at_builtin; refine app1 rfl _ _ 29 3 rfl .i64 8 Tryz.underlying29 info3 (by decide) w.heap.size w u5 ds _ (x - (c + y)) (by omega) rfl rfl hown hb (by omega) (by omega) ?_; intro v2 w2 hown2 hb2 _)
          go_roundw
          case rel => exact ⟨0, i + 1, ds ++ [x - (c + y)], by simp, by go_num, by omega, by omega, hown2, hid (by simp; exact hl.out), hid (by intro d hd; rcases List.mem_append.1 hd with h | h; exact hds.out d h; simp at h; omega), hid HV.out, hb2⟩
          case measure => simp [intOf]; omega
      · have hkb : ¬ i < (dg 65536 n).length := by omega
        have HY := hid (digit_zero (b := 65536) (n := n) (i := i) (by omega) (by omega))
        rcases Nat.lt_or_ge x (c) with hneg | hneg
        · have HV := hid (sub_step (z := x + 65536 - (c)) (c2 := 1) hl.out hv.out HX.out HY.out (by omega))
          clear hv
          go_wp2_with (at_builtin; refine app1 rfl _ _ 29 3 rfl .i64 8 Tryz.underlying29 info3 (by decide) w.heap.size w u5 ds _ (x + 65536 - (c)) (by omega) rfl rfl hown hb (by omega) (by omega) ?_; intro v2 w2 hown2 hb2 _)
          go_roundw
          case rel => exact ⟨1, i + 1, ds ++ [x + 65536 - (c)], by simp, by go_num, by omega, by omega, hown2, hid (by simp; exact hl.out), hid (by intro d hd; rcases List.mem_append.1 hd with h | h; exact hds.out d h; simp at h; omega), hid HV.out, hb2⟩
          case measure => simp [intOf]; omega
        · have HV := hid (sub_step (z := x - (c)) (c2 := 0) hl.out hv.out HX.out HY.out (by omega))
          clear hv
          go_wp2_with (at_builtin; refine app1 rfl _ _ 29 3 rfl .i64 8 Tryz.underlying29 info3 (by decide) w.heap.size w u5 ds _ (x - (c)) (by omega) rfl rfl hown hb (by omega) (by omega) ?_; intro v2 w2 hown2 hb2 _)
          go_roundw
          case rel => exact ⟨0, i + 1, ds ++ [x - (c)], by simp, by go_num, by omega, by omega, hown2, hid (by simp; exact hl.out), hid (by intro d hd; rcases List.mem_append.1 hd with h | h; exact hds.out d h; simp at h; omega), hid HV.out, hb2⟩
          case measure => simp [intOf]; omega
    · obtain rfl : i = (dg 65536 m).length := by omega
      go_wp2_with fail
      refine (trim_any _ _ _ (own_rd hown)).mono ?_
      rintro e w' ⟨v', rfl, hv', rfl⟩
      go_wp2_with fail
      go_ret
      refine ⟨_, rfl, ?_, hb⟩
      have e2 : val 65536 ds = m - n := by
        have h1 := hv.out
        have h2 := HNM.out
        rw [mod_len (by omega) (Nat.le_refl _), mod_len (by omega) hlb] at h1
        have h3 := val_lt (b := 65536) (by omega) hds.out
        rw [hl.out] at h3
        rcases (by omega : c = 0 ∨ c = 1) with rfl | rfl
        · omega
        · omega
      rw [trim_eq (by omega) hds.out, e2] at hv'
      exact hv'
end Go.Proofs.YtocahcammjoffaaGreatDoor
