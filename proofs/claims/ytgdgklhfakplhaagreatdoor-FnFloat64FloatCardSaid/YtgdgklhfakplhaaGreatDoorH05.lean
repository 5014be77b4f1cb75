/- Walks and lemmas for the laws of this seat. -/
import Derived.Test.YtgdgklhfakplhaaGreatDoorH04
namespace Go.Proofs.YtgdgklhfakplhaaGreatDoor
open Go.RowKit Go.Dig
set_option maxRecDepth 100000
/-- One more digit of a sum. -/
theorem add_step {B : Nat} {ds : List Nat} {m n c i x y : Nat} (hl : ds.length = i) (h : val B ds + c * B ^ i = m % B ^ i + n % B ^ i) (hx : x = m / B ^ i % B) (hy : y = n / B ^ i % B) :
    val B (ds ++ [(c + x + y) % B]) + (c + x + y) / B * B ^ (i + 1) = m % B ^ (i + 1) + n % B ^ (i + 1) := by
  subst hl
  have e1 : m % B ^ (ds.length + 1) = m % B ^ ds.length + B ^ ds.length * x := by rw [hx, Nat.mod_pow_succ]
  have e2 : n % B ^ (ds.length + 1) = n % B ^ ds.length + B ^ ds.length * y := by rw [hy, Nat.mod_pow_succ]
  rw [val_append, e1, e2]
  show val B ds + B ^ ds.length * ((c + x + y) % B + B * 0) + _ = _
  have e3 := Nat.div_add_mod (c + x + y) B
  have e4 : B ^ ds.length * (c + x + y) = B ^ ds.length * (B * ((c + x + y) / B)) + B ^ ds.length * ((c + x + y) % B) := by rw [← Nat.mul_add, e3]
  have e5 : (c + x + y) / B * B ^ (ds.length + 1) = B ^ ds.length * (B * ((c + x + y) / B)) := by
    rw [Nat.pow_succ, Nat.mul_comm ((c + x + y) / B), Nat.mul_assoc]
  rw [Nat.mul_add, Nat.mul_add, Nat.mul_comm (B ^ ds.length) c] at e4
  rw [e5]
  simp only [Nat.mul_zero, Nat.add_zero]
  omega
theorem digit_zero {b n i : Nat} (hb : 2 ≤ b) (h : (dg b n).length ≤ i) : 0 = n / b ^ i % b := by
  rw [← dg_getD hb, List.getD_eq_getElem?_getD, List.getElem?_eq_none h]; rfl
theorem mod_len {b n i : Nat} (hb : 2 ≤ b) (h : (dg b n).length ≤ i) : n % b ^ i = n := Nat.mod_eq_of_lt (Nat.lt_of_lt_of_le (lt_pow_dg_length hb n) (Nat.pow_le_pow_right (by omega) h))
set_option maxHeartbeats 1000000 in
theorem add_any (va vb : Value) (m n : Nat) (w : World) (hma : Nt w va m) (hmb : Nt w vb n) (hla : (dg 65536 m).length ≤ 100000) (hlb : (dg 65536 n).length ≤ 100000) :
    Calls Tryz.prog 29 #[va, vb] w fun e w' => ∃ v, e = .returned v ∧ Nt w' v (m + n) ∧ Below w.heap.size w w' := by
  obtain ⟨a, cap, rfl, h1, h2, h3⟩ := hma
  obtain ⟨a2, cap2, rfl, h12, h22, h32⟩ := hmb
  have HA := hid h3
  have HB := hid h32
  clear h3 h32
  go_enter Tryz.func29, Tryz.ntmps29
  go_wp2_with fail
  go_loopw [6, 5, 7] (fun x v y wr => ∃ (c i : Nat) (ds : List Nat), x = .int .i64 c ∧ y = .int .i64 i ∧ c ≤ 1 ∧ (i ≤ (dg 65536 m).length ∨ i ≤ (dg 65536 n).length) ∧ wr.ownsRow w.heap.size 3 1 v ds.length (cs .i64 ds) ∧ Hid (ds.length = i) ∧ Hid (∀ d ∈ ds, d < 65536) ∧
    Hid (val 65536 ds + c * 65536 ^ i = m % 65536 ^ i + n % 65536 ^ i) ∧ Below w.heap.size w wr) (fun _ _ y _ => (dg 65536 m).length + (dg 65536 n).length - (intOf y).toNat)
  case atStart => exact ⟨0, 0, [], rfl, rfl, by omega, .inl (Nat.zero_le _), own_empty w 3 (Nat.le_refl _), hid rfl, hid (by simp), hid (by simp [val, Nat.mod_one]), (Below.refl _ _).alloc (Nat.le_refl _) _⟩
  case round =>
    obtain ⟨c, i, ds, rfl, rfl, hc, hi, hown, hl, hds, hv, hb⟩ := hrel
    have hbs := hb.size
    have hlen : ds.length ≤ 100000 := by have := hl.out; omega
    have hi2 : i ≤ 100000 := by omega
    rcases Nat.lt_or_ge i (dg 65536 m).length with hia | hia
    · rcases Nat.lt_or_ge i (dg 65536 n).length with hib | hib
      · clear hi
        have hka : i < (dg 65536 m).length := by omega
        obtain ⟨b, off, rfl, _, hb3⟩ := HA.out (by omega)
        have hk := hb3 i hka
        clear hb3
        have hx := (hb.cell (World.block_lt_of_cell? w _ hk)).trans hk
        clear hk
        have hxd : (dg 65536 m).getD i 0 = m / 65536 ^ i % 65536 := dg_getD (by omega) m i
        generalize (dg 65536 m).getD i 0 = x at hx hxd
        have hx1 : x < 65536 := by rw [hxd]; exact Nat.mod_lt _ (by omega)
        have HX := hid hxd
        clear hxd
        have hkb : i < (dg 65536 n).length := by omega
        obtain ⟨b4, off4, rfl, _, hb4⟩ := HB.out (by omega)
        have hk4 := hb4 i hkb
        clear hb4
        have hy := (hb.cell (World.block_lt_of_cell? w _ hk4)).trans hk4
        clear hk4
        have hyd : (dg 65536 n).getD i 0 = n / 65536 ^ i % 65536 := dg_getD (by omega) n i
        generalize (dg 65536 n).getD i 0 = y at hy hyd
        have hy1 : y < 65536 := by rw [hyd]; exact Nat.mod_lt _ (by omega)
        have HY := hid hyd
        clear hyd
        have HV := hid (add_step hl.out hv.out HX.out HY.out)
        clear hv
        go_wp2_with (at_builtin; refine app1 rfl _ _ 29 3 rfl .i64 8 Tryz.underlying29 info3 (by decide) w.heap.size w _ ds _ ((c + x + y) % 65536) (by simp) rfl rfl hown hb (by omega) (by omega) ?_; intro v2 w2 hown2 hb2 _)
        go_roundw
        case rel => exact ⟨(c + x + y) / 65536, i + 1, ds ++ [(c + x + y) % 65536], by simp, by go_num, by omega, by omega, hown2, hid (by simp; exact hl.out), hid (by intro d hd; rcases List.mem_append.1 hd with h | h; exact hds.out d h; simp at h; omega), hid (by simpa using HV.out), hb2⟩
        case measure => simp [intOf]; omega
      · clear hi
        have hka : i < (dg 65536 m).length := by omega
        obtain ⟨b, off, rfl, _, hb3⟩ := HA.out (by omega)
        have hk := hb3 i hka
        clear hb3
        have hx := (hb.cell (World.block_lt_of_cell? w _ hk)).trans hk
        clear hk
        have hxd : (dg 65536 m).getD i 0 = m / 65536 ^ i % 65536 := dg_getD (by omega) m i
        generalize (dg 65536 m).getD i 0 = x at hx hxd
        have hx1 : x < 65536 := by rw [hxd]; exact Nat.mod_lt _ (by omega)
        have HX := hid hxd
        clear hxd
        have hkb : ¬ i < (dg 65536 n).length := by omega
        have HY := hid (digit_zero (b := 65536) (n := n) (i := i) (by omega) (by omega))
        have HV := hid (add_step hl.out hv.out HX.out HY.out)
        clear hv
        go_wp2_with (at_builtin; refine app1 rfl _ _ 29 3 rfl .i64 8 Tryz.underlying29 info3 (by decide) w.heap.size w _ ds _ ((c + x) % 65536) (by simp) rfl rfl hown hb (by omega) (by omega) ?_; intro v2 w2 hown2 hb2 _)
        go_roundw
        case rel => exact ⟨(c + x) / 65536, i + 1, ds ++ [(c + x) % 65536], by simp, by go_num, by omega, by omega, hown2, hid (by simp; exact hl.out), hid (by intro d hd; rcases List.mem_append.1 hd with h | h; exact hds.out d h; simp at h; omega), hid (by simpa using HV.out), hb2⟩
        case measure => simp [intOf]; omega
    · rcases Nat.lt_or_ge i (dg 65536 n).length with hib | hib
      · clear hi
        have hka : ¬ i < (dg 65536 m).length := by omega
        have HX := hid (digit_zero (b := 65536) (n := m) (i := i) (by omega) (by omega))
        have hkb : i < (dg 65536 n).length := by omega
        obtain ⟨b4, off4, rfl, _, hb4⟩ := HB.out (by omega)
        have hk4 := hb4 i hkb
        clear hb4
        have hy := (hb.cell (World.block_lt_of_cell? w _ hk4)).trans hk4
        clear hk4
        have hyd : (dg 65536 n).getD i 0 = n / 65536 ^ i % 65536 := dg_getD (by omega) n i
        generalize (dg 65536 n).getD i 0 = y at hy hyd
        have hy1 : y < 65536 := by rw [hyd]; exact Nat.mod_lt _ (by omega)
        have HY := hid hyd
        clear hyd
        have HV := hid (add_step hl.out hv.out HX.out HY.out)
        clear hv
        go_wp2_with (at_builtin; refine app1 rfl _ _ 29 3 rfl .i64 8 Tryz.underlying29 info3 (by decide) w.heap.size w _ ds _ ((c + y) % 65536) (by simp) rfl rfl hown hb (by omega) (by omega) ?_; intro v2 w2 hown2 hb2 _)
        go_roundw
        case rel => exact ⟨(c + y) / 65536, i + 1, ds ++ [(c + y) % 65536], by simp, by go_num, by omega, by omega, hown2, hid (by simp; exact hl.out), hid (by intro d hd; rcases List.mem_append.1 hd with h | h; exact hds.out d h; simp at h; omega), hid (by simpa using HV.out), hb2⟩
        case measure => simp [intOf]; omega
      · have hka : ¬ i < (dg 65536 m).length := by omega
        have hkb : ¬ i < (dg 65536 n).length := by omega
        go_wp2_with (at_builtin; refine app1 rfl _ _ 29 3 rfl .i64 8 Tryz.underlying29 info3 (by decide) w.heap.size w u5 ds _ c (by simp) rfl rfl hown hb (by omega) (by omega) ?_; intro v2 w2 hown2 hb2 _)
        refine (trim_any _ _ _ (own_rd hown2)).mono ?_
        rintro e w' ⟨v', rfl, hv', rfl⟩
        go_wp2_with fail
        go_ret
        refine ⟨_, rfl, ?_, hb2⟩
        have e1 : ∀ d ∈ ds ++ [c], d < 65536 := by intro d hd; rcases List.mem_append.1 hd with h | h; exact hds.out d h; simp at h; omega
        have e2 : val 65536 (ds ++ [c]) = m + n := by
          rw [val_append, hl.out]
          have := hv.out
          rw [mod_len (by omega) hia, mod_len (by omega) hib, Nat.mul_comm c] at this
          simpa [val] using this
        rw [trim_eq (by omega) e1, e2] at hv'
        exact hv'
end Go.Proofs.YtgdgklhfakplhaaGreatDoor
namespace Go.Proofs.YtgdgklhfakplhaaGreatDoor
open Go.RowKit Go.Dig
set_option maxRecDepth 100000
/-- One more digit of a difference. -/
theorem sub_step {B : Nat} {ds : List Nat} {m n c i x y z c2 : Nat} (hl : ds.length = i) (h : val B ds + n % B ^ i = m % B ^ i + c * B ^ i) (hx : x = m / B ^ i % B) (hy : y = n / B ^ i % B) (hz : z + y + c = x + c2 * B) :
    val B (ds ++ [z]) + n % B ^ (i + 1) = m % B ^ (i + 1) + c2 * B ^ (i + 1) := by
  subst hl
  have e1 : m % B ^ (ds.length + 1) = m % B ^ ds.length + B ^ ds.length * x := by rw [hx, Nat.mod_pow_succ]
  have e2 : n % B ^ (ds.length + 1) = n % B ^ ds.length + B ^ ds.length * y := by rw [hy, Nat.mod_pow_succ]
  rw [val_append, e1, e2]
  show val B ds + B ^ ds.length * (z + B * 0) + _ = _
  have e3 : B ^ ds.length * (z + y + c) = B ^ ds.length * (x + c2 * B) := by rw [hz]
  have e4 : c2 * B ^ (ds.length + 1) = B ^ ds.length * (c2 * B) := by
    rw [Nat.pow_succ, Nat.mul_left_comm]
  rw [Nat.mul_add, Nat.mul_add, Nat.mul_add, Nat.mul_comm (B ^ ds.length) c] at e3
  rw [e4]
  simp only [Nat.mul_zero, Nat.add_zero]
  omega
set_option maxHeartbeats 1000000 in
theorem sub_any (va vb : Value) (m n : Nat) (w : World) (hma : Nt w va m) (hmb : Nt w vb n) (hla : (dg 65536 m).length ≤ 100000) (hnm : n ≤ m) :
    Calls Tryz.prog 102 #[va, vb] w fun e w' => ∃ v, e = .returned v ∧ Nt w' v (m - n) ∧ Below w.heap.size w w' := by
  have hlb : (dg 65536 n).length ≤ (dg 65536 m).length := dg_length_mono (by omega) hnm
  have HNM := hid hnm
  clear hnm
  obtain ⟨a, cap, rfl, h1, h2, h3⟩ := hma
  obtain ⟨a2, cap2, rfl, h12, h22, h32⟩ := hmb
  have HA := hid h3
  have HB := hid h32
  clear h3 h32
  go_enter Tryz.func102, Tryz.ntmps102
  go_wp2_with fail
  go_loopw [6, 5, 12] (fun x v y wr => ∃ (c i : Nat) (ds : List Nat), x = .int .i64 c ∧ y = .int .i64 i ∧ c ≤ 1 ∧ i ≤ (dg 65536 m).length ∧ wr.ownsRow w.heap.size 3 1 v ds.length (cs .i64 ds) ∧ Hid (ds.length = i) ∧ Hid (∀ d ∈ ds, d < 65536) ∧
    Hid (val 65536 ds + n % 65536 ^ i = m % 65536 ^ i + c * 65536 ^ i) ∧ Below w.heap.size w wr) (fun _ _ y _ => (dg 65536 m).length - (intOf y).toNat)
  case atStart => exact ⟨0, 0, [], rfl, rfl, by omega, Nat.zero_le _, own_empty w 3 (Nat.le_refl _), hid rfl, hid (by simp), hid (by simp [val, Nat.mod_one]), (Below.refl _ _).alloc (Nat.le_refl _) _⟩
  case round =>
    obtain ⟨c, i, ds, rfl, rfl, hc, hi, hown, hl, hds, hv, hb⟩ := hrel
    have hbs := hb.size
    have hlen : ds.length ≤ 100000 := by have := hl.out; omega
    have hi2 : i ≤ 100000 := by omega
    rcases Nat.lt_or_ge i (dg 65536 m).length with hka | hia
    · obtain ⟨b, off, rfl, _, hb3⟩ := HA.out (by omega)
      have hk := hb3 i hka
      clear hb3
      have hx := (hb.cell (World.block_lt_of_cell? w _ hk)).trans hk
      clear hk
      have hxd : (dg 65536 m).getD i 0 = m / 65536 ^ i % 65536 := dg_getD (by omega) m i
      generalize (dg 65536 m).getD i 0 = x at hx hxd
      have hx1 : x < 65536 := by rw [hxd]; exact Nat.mod_lt _ (by omega)
      have HX := hid hxd
      clear hxd
      rcases Nat.lt_or_ge i (dg 65536 n).length with hkb | hib
      · obtain ⟨b4, off4, rfl, _, hb4⟩ := HB.out (by omega)
        have hk4 := hb4 i hkb
        clear hb4
        have hy := (hb.cell (World.block_lt_of_cell? w _ hk4)).trans hk4
        clear hk4
        have hyd : (dg 65536 n).getD i 0 = n / 65536 ^ i % 65536 := dg_getD (by omega) n i
        generalize (dg 65536 n).getD i 0 = y at hy hyd
        have hy1 : y < 65536 := by rw [hyd]; exact Nat.mod_lt _ (by omega)
        have HY := hid hyd
        clear hyd
        rcases Nat.lt_or_ge x (c + y) with hneg | hneg
        · have HV := hid (sub_step (z := x + 65536 - (c + y)) (c2 := 1) hl.out hv.out HX.out HY.out (by omega))
          clear hv
          go_wp2_with (at_builtin; refine app1 rfl _ _ 29 3 rfl .i64 8 Tryz.underlying29 info3 (by decide) w.heap.size w u5 ds _ (x + 65536 - (c + y)) (by omega) rfl rfl hown hb (by omega) (by omega) ?_; intro v2 w2 hown2 hb2 _)
          go_roundw
          case rel => exact ⟨1, i + 1, ds ++ [x + 65536 - (c + y)], by simp, by go_num, by omega, by omega, hown2, hid (by simp; exact hl.out), hid (by intro d hd; rcases List.mem_append.1 hd with h | h; exact hds.out d h; simp at h; omega), hid HV.out, hb2⟩
          case measure => simp [intOf]; omega
        · have HV := hid (sub_step (z := x - (c + y)) (c2 := 0) hl.out hv.out HX.out HY.out (by omega))
          clear hv
          go_wp2_with (at_builtin; refine app1 rfl _ _ 29 3 rfl .i64 8 Tryz.underlying29 info3 (by decide) w.heap.size w u5 ds _ (x - (c + y)) (by omega) rfl rfl hown hb (by omega) (by omega) ?_; intro v2 w2 hown2 hb2 _)
          go_roundw
          case rel => exact ⟨0, i + 1, ds ++ [x - (c + y)], by simp, by go_num, by omega, by omega, hown2, hid (by simp; exact hl.out), hid (by intro d hd; rcases List.mem_append.1 hd with h | h; exact hds.out d h; simp at h; omega), hid HV.out, hb2⟩
          case measure => simp [intOf]; omega
      · have hkb : ¬ i < (dg 65536 n).length := by omega
        have HY := hid (digit_zero (b := 65536) (n := n) (i := i) (by omega) (by omega))
        rcases Nat.lt_or_ge x (c) with hneg | hneg
        · have HV := hid (sub_step (z := x + 65536 - (c)) (c2 := 1) hl.out hv.out HX.out HY.out (by omega))
          clear hv
          go_wp2_with (at_builtin; refine app1 rfl _ _ 29 3 rfl .i64 8 Tryz.underlying29 info3 (by decide) w.heap.size w u5 ds _ (x + 65536 - (c)) (by omega) rfl rfl hown hb (by omega) (by omega) ?_; intro v2 w2 hown2 hb2 _)
          go_roundw
          case rel => exact ⟨1, i + 1, ds ++ [x + 65536 - (c)], by simp, by go_num, by omega, by omega, hown2, hid (by simp; exact hl.out), hid (by intro d hd; rcases List.mem_append.1 hd with h | h; exact hds.out d h; simp at h; omega), hid HV.out, hb2⟩
          case measure => simp [intOf]; omega
        · have HV := hid (sub_step (z := x - (c)) (c2 := 0) hl.out hv.out HX.out HY.out (by omega))
          clear hv
          go_wp2_with (at_builtin; refine app1 rfl _ _ 29 3 rfl .i64 8 Tryz.underlying29 info3 (by decide) w.heap.size w u5 ds _ (x - (c)) (by omega) rfl rfl hown hb (by omega) (by omega) ?_; intro v2 w2 hown2 hb2 _)
          go_roundw
          case rel => exact ⟨0, i + 1, ds ++ [x - (c)], by simp, by go_num, by omega, by omega, hown2, hid (by simp; exact hl.out), hid (by intro d hd; rcases List.mem_append.1 hd with h | h; exact hds.out d h; simp at h; omega), hid HV.out, hb2⟩
          case measure => simp [intOf]; omega
    · obtain rfl : i = (dg 65536 m).length := by omega
      go_wp2_with fail
      refine (trim_any _ _ _ (own_rd hown)).mono ?_
      rintro e w' ⟨v', rfl, hv', rfl⟩
      go_wp2_with fail
      go_ret
      refine ⟨_, rfl, ?_, hb⟩
      have e2 : val 65536 ds = m - n := by
        have h1 := hv.out
        have h2 := HNM.out
        rw [mod_len (by omega) (Nat.le_refl _), mod_len (by omega) hlb] at h1
        have h3 := val_lt (b := 65536) (by omega) hds.out
        rw [hl.out] at h3
        rcases (by omega : c = 0 ∨ c = 1) with rfl | rfl
        · omega
        · omega
      rw [trim_eq (by omega) hds.out, e2] at hv'
      exact hv'
end Go.Proofs.YtgdgklhfakplhaaGreatDoor

namespace Go.Proofs.YtgdgklhfakplhaaGreatDoor
open Go.RowKit Go.Dig
set_option maxRecDepth 100000
theorem mul_step {B : Nat} {l : List Nat} {i k q x y old R n : Nat} (hlt : i + k < l.length) (ho : l.getD (i + k) 0 = old) (hy : y = n / B ^ k % B) (h : val B l + q * B ^ (i + k) = R + B ^ i * x * (n % B ^ k)) :
    val B (l.set (i + k) ((q + (old + x * y)) % B)) + (q + (old + x * y)) / B * B ^ (i + (k + 1)) = R + B ^ i * x * (n % B ^ (k + 1)) := by
  have hs := val_set B l (i + k) ((q + (old + x * y)) % B) hlt
  rw [ho] at hs
  have e2 : n % B ^ (k + 1) = n % B ^ k + B ^ k * y := by rw [hy, Nat.mod_pow_succ]
  have e3 := Nat.div_add_mod (q + (old + x * y)) B
  have e4 : (q + (old + x * y)) * B ^ (i + k) = (q + (old + x * y)) / B * B ^ (i + (k + 1)) + (q + (old + x * y)) % B * B ^ (i + k) := by
    have : (B * ((q + (old + x * y)) / B) + (q + (old + x * y)) % B) * B ^ (i + k) = (q + (old + x * y)) * B ^ (i + k) := by rw [e3]
    rw [Nat.add_mul] at this
    rw [← this, ← Nat.add_assoc i k 1, Nat.pow_succ, Nat.mul_comm B, Nat.mul_assoc, Nat.mul_comm B]
  have e5 : B ^ i * x * (B ^ k * y) = x * y * B ^ (i + k) := by
    rw [Nat.pow_add, Nat.mul_assoc, Nat.mul_left_comm x, ← Nat.mul_assoc, Nat.mul_comm (B ^ i * B ^ k)]
  rw [e2, Nat.mul_add, e5]
  rw [Nat.add_mul, Nat.add_mul] at e4
  omega
theorem mul_end {B : Nat} {l : List Nat} {i q x m n L : Nat} (hlt : i + L < l.length) (ho : l.getD (i + L) 0 = 0) (hx : x = m / B ^ i % B) (h : val B l + q * B ^ (i + L) = m % B ^ i * n + B ^ i * x * n) :
    val B (l.set (i + L) q) = m % B ^ (i + 1) * n := by
  have hs := val_set B l (i + L) q hlt
  rw [ho, Nat.zero_mul, Nat.add_zero] at hs
  rw [hs, h, Nat.mod_pow_succ, Nat.add_mul, ← hx]
theorem set_mem {l : List Nat} {B j d : Nat} (h : ∀ x ∈ l, x < B) (hd : d < B) : ∀ x ∈ l.set j d, x < B := by
  intro x hx
  rcases List.mem_or_eq_of_mem_set hx with h1 | h1
  · exact h x h1
  · omega
theorem set_far {l : List Nat} {j d i : Nat} (hne : j ≠ i) : (l.set j d).getD i 0 = l.getD i 0 := by
  rw [List.getD_eq_getElem?_getD, List.getElem?_set, if_neg hne, ← List.getD_eq_getElem?_getD]
end Go.Proofs.YtgdgklhfakplhaaGreatDoor
namespace Go.Proofs.YtgdgklhfakplhaaGreatDoor
open Go.RowKit Go.Dig
set_option maxRecDepth 100000
set_option maxHeartbeats 400000 in
theorem len_zero (v : Value) (w : World) (h : Nt w v 0) : Calls Tryz.prog 26 #[v] w fun e w' => e = .returned (.int .i64 0) ∧ w' = w := by
  have h' : Rt 3 .i64 w v [] := by have := h; unfold Nt at this; rwa [dg_zero] at this
  obtain ⟨a, cap, rfl, h1, h2, h3⟩ := h'
  clear h h3
  go_enter Tryz.func26, Tryz.ntmps26
  go_wp2_with fail
  go_ret
  exact ⟨rfl, rfl⟩
set_option maxHeartbeats 400000 in
theorem len_any (v : Value) (n : Nat) (w : World) (h : Nt w v n) (hl : (dg 65536 n).length ≤ 100000) : Calls Tryz.prog 26 #[v] w fun e w' => e = .returned (.int .i64 (blen n)) ∧ w' = w := by
  by_cases hn : n = 0
  · subst hn; rw [blen_zero]; exact len_zero v w h
  · obtain ⟨a, cap, rfl, h1, h2, h3⟩ := h
    have hp : 0 < (dg 65536 n).length := by rw [dg_pos (by omega) hn]; simp
    obtain ⟨b, off, rfl, _, hb3⟩ := h3 hp
    have hk := hb3 ((dg 65536 n).length - 1) (by omega)
    clear hb3 h3
    obtain ⟨t1, t2, t3⟩ := top_digit (b := 65536) (by omega) hn
    have hsh := blen_shift (n := n) (k := 16 * ((dg 65536 n).length - 1)) (by rw [Nat.pow_mul]; exact t2)
    rw [Nat.pow_mul] at hsh
    rw [t1] at hk
    have hsh2 : blen n = 16 * ((dg 65536 n).length - 1) + blen (n / 65536 ^ ((dg 65536 n).length - 1)) := hsh
    obtain ⟨L, hL⟩ : ∃ L, (dg 65536 n).length = L + 1 := ⟨(dg 65536 n).length - 1, by omega⟩
    rw [hL] at hk hsh2 t2 t3 h1 hl ⊢
    simp only [Nat.add_sub_cancel] at hk hsh2 t2 t3
    generalize n / 65536 ^ L = t at hk hsh2 t2 t3
    have hz0 : (((L : Int) + 1) == 0) = false := by simp; omega
    have HS := hid hsh2
    have HH := hid hL
    clear hsh hsh2 t1 hL hp
    go_enter Tryz.func26, Tryz.ntmps26
    go_wp2_with fail
    go_loop [3, 4] (fun x y => ∃ (c s : Nat), x = .int .i64 c ∧ y = .int .i64 s ∧ s < 65536 ∧ c ≤ 10000000 ∧ Hid (c + blen s = blen n)) (fun _ y => (intOf y).toNat)
    case atStart => exact ⟨16 * L, t, by simp, rfl, t3, by omega, HS.out.symm⟩
    case round =>
      obtain ⟨c, s, rfl, rfl, hs, hc, hcs⟩ := hrel
      rcases Nat.eq_zero_or_pos s with h0 | h0
      · subst h0
        go_wp2_with fail
        go_ret
        refine ⟨?_, rfl⟩
        have := hcs.out
        rw [blen_zero, Nat.add_zero] at this
        rw [this]; rfl
      · have hh := blen_half (n := s) (by omega)
        have hcs2 : c + 1 + blen (s / 2) = blen n := by rw [← hcs.out, hh]; omega
        have HC := hid hcs2
        have hb1 : c + 1 ≤ 10000000 := by
          have h2 := hcs.out
          have h3 := dg_length_le (b := 65536) (n := n) (k := L + 1) (by omega) (by rw [← HH.out]; exact lt_pow_dg_length (by omega) n)
          have h4 : blen n ≤ 16 * (L + 1) := blen_le (by rw [Nat.pow_mul, ← HH.out]; exact lt_pow_dg_length (by omega) n)
          omega
        clear hh hcs2
        go_wp2_with fail
        go_round
        case rel => exact ⟨c + 1, s / 2, by go_num, by simp, by omega, hb1, HC⟩
        case measure => simp [intOf]; omega
end Go.Proofs.YtgdgklhfakplhaaGreatDoor
namespace Go.Proofs.YtgdgklhfakplhaaGreatDoor
open Go.RowKit Go.Dig
set_option maxRecDepth 100000
theorem made_at (n i : Nat) (h : i < n) : (madeCells #[Value.int IntKind.i64 0] n)[i]? = some (.int .i64 0) := by
  rw [cs_zeros, cs_getElem? _ _ _ (by simpa using h), List.getD_eq_getElem?_getD, List.getElem?_replicate, if_pos h]; rfl
theorem pow16_lt (i : Nat) : 2 ^ (i % 16) < 65536 := by
  have := Nat.pow_lt_pow_right (a := 2) (by omega) (Nat.mod_lt i (show 16 > 0 by omega))
  omega
theorem pow_16 (i : Nat) : 2 ^ i = 65536 ^ (i / 16) * 2 ^ (i % 16) := by
  have e : (65536 : Nat) = 2 ^ 16 := rfl
  rw [e, ← Nat.pow_mul, ← Nat.pow_add]
  congr 1; omega
theorem dg_bit (i : Nat) : (List.replicate (i / 16 + 1) 0).set (i / 16) (2 ^ (i % 16)) = dg 65536 (2 ^ i) := by
  have e : (List.replicate (i / 16 + 1) 0).set (i / 16) (2 ^ (i % 16)) = List.replicate (i / 16) 0 ++ [2 ^ (i % 16)] := by
    rw [List.replicate_succ', List.set_append_right _ _ (by simp)]
    simp
  rw [e]
  have hc : Canon 65536 (List.replicate (i / 16) 0 ++ [2 ^ (i % 16)]) := by
    refine ⟨?_, ?_⟩
    · intro d hd
      rcases List.mem_append.1 hd with h | h
      · rw [List.eq_of_mem_replicate h]; omega
      · rw [List.mem_singleton.1 h]; exact pow16_lt i
    · intro h
      rw [List.getLast_concat]
      exact Nat.ne_of_gt (Nat.two_pow_pos _)
  have h1 := canon_eq (by omega) hc
  rw [h1, val_append, val_replicate, List.length_replicate]
  congr 1
  rw [pow_16 i, Nat.zero_add]
  simp [val]
set_option maxHeartbeats 400000 in
theorem bit_any (i : Nat) (w : World) (hi : i ≤ 2000000) :
    Calls Tryz.prog 103 #[.int .i64 i] w fun e w' => ∃ v, e = .returned v ∧ Nt w' v (2 ^ i) ∧ Below w.heap.size w w' := by
  have hmk := run_make_row' (P := Tryz.prog) 29 3 (.int .i64 0) 8 Tryz.underlying29 info3 rfl .i64 .i64 (i / 16 + 1) (by omega) (by omega)
  have ec : ((i / 16 + 1 : Nat) : Int) = (i : Int) / 16 + 1 := by omega
  rw [ec] at hmk
  clear ec
  have hcell := made_at (i / 16 + 1) (i / 16) (by omega)
  have hw : wrap64 (2 ^ (i % 16)) = ((2 ^ (i % 16) : Nat) : Int) := by
    have := pow16_lt i
    have e : ((2 ^ (i % 16) : Nat) : Int) = 2 ^ (i % 16) := by simp
    rw [← e]
    generalize 2 ^ (i % 16) = z at this
    unfold wrap64; omega
  go_enter Tryz.func103, Tryz.ntmps103
  go_wp2_with fail
  go_ret
  have ew : (cs .i64 (List.replicate (i / 16 + 1) 0)).toArray.setIfInBounds (i / 16) (.int .i64 ((2 ^ (i % 16) : Nat) : Int)) = (cs .i64 (dg 65536 (2 ^ i))).toArray := by
    rw [cs_set, dg_bit]
  have hp : (2 : Int) ^ (i % 16) = ((2 ^ (i % 16) : Nat) : Int) := by simp
  rw [hp, cs_zeros, ew]
  have hl : (dg 65536 (2 ^ i)).length = i / 16 + 1 := by rw [← dg_bit]; simp
  have h := BlkN.rt (k := .i64) (e := 3) (cap := (dg 65536 (2 ^ i)).length) (blk_new w (cs .i64 (dg 65536 (2 ^ i))).toArray 3) (Nat.le_refl _) (by omega)
  rw [hl] at h
  exact ⟨_, rfl, h, (Below.refl _ _).alloc (Nat.le_refl _) _⟩
end Go.Proofs.YtgdgklhfakplhaaGreatDoor
