/- Walks and lemmas for the laws of this seat. -/
import Derived.Test.YtgdgklhfakplhaaGreatDoorG04
import Derived.Test.YtgdgklhfakplhaaGreatDoorG02
namespace Go.Proofs.YtgdgklhfakplhaaGreatDoor
open Go.RowKit Go.Dig
set_option maxRecDepth 100000
/-- One more digit of a sum. -/
theorem add_step {B : Nat} {ds : List Nat} {m n c i x y : Nat} (hl : ds.length = i) (h : val B ds + c * B ^ i = m % B ^ i + n % B ^ i) (hx : x = m / B ^ i % B) (hy : y = n / B ^ i % B) :
    val B (ds ++ [(c + x + y) % B]) + (c + x + y) / B * B ^ (i + 1) = m % B ^ (i + 1) + n % B ^ (i + 1) := by
  subst hl
  have e1 : m % B ^ (ds.length + 1) = m % B ^ ds.length + B ^ ds.length * x := by rw [hx, Nat.mod_pow_succ]
  have e2 : n % B ^ (ds.length + 1) = n % B ^ ds.length + B ^ ds.length * y := by rw [hy, Nat.mod_pow_succ]
  rw [val_append, e1, e2]
  show val B ds + B ^ ds.length * ((c + x + y) % B + B * 0) + _ = _
  have e3 := Nat.div_add_mod (c + x + y) B
  have e4 : B ^ ds.length * (c + x + y) = B ^ ds.length * (B * ((c + x + y) / B)) + B ^ ds.length * ((c + x + y) % B) := by rw [← Nat.mul_add, e3]
  have e5 : (c + x + y) / B * B ^ (ds.length + 1) = B ^ ds.length * (B * ((c + x + y) / B)) := by
    rw [Nat.pow_succ, Nat.mul_comm ((c + x + y) / B), Nat.mul_assoc]
  rw [Nat.mul_add, Nat.mul_add, Nat.mul_comm (B ^ ds.length) c] at e4
  rw [e5]
  simp only [Nat.mul_zero, Nat.add_zero]
  omega
theorem digit_zero {b n i : Nat} (hb : 2 ≤ b) (h : (dg b n).length ≤ i) : 0 = n / b ^ i % b := by
  rw [← dg_getD hb, List.getD_eq_getElem?_getD, List.getElem?_eq_none h]; rfl
theorem mod_len {b n i : Nat} (hb : 2 ≤ b) (h : (dg b n).length ≤ i) : n % b ^ i = n := Nat.mod_eq_of_lt (Nat.lt_of_lt_of_le (lt_pow_dg_length hb n) (Nat.pow_le_pow_right (by omega) h))
set_option maxHeartbeats 1000000 in
theorem add_any (va vb : Value) (m n : Nat) (w : World) (hma : Nt w va m) (hmb : Nt w vb n) (hla : (dg 65536 m).length ≤ 100000) (hlb : (dg 65536 n).length ≤ 100000) :
    Calls Tryz.prog 29 #[va, vb] w fun e w' => ∃ v, e = .returned v ∧ Nt w' v (m + n) ∧ Below w.heap.size w w' := by
  obtain ⟨a, cap, rfl, h1, h2, h3⟩ := hma
  obtain ⟨a2, cap2, rfl, h12, h22, h32⟩ := hmb
  have HA := hid h3
  have HB := hid h32
  clear h3 h32
  go_enter Tryz.func29, Tryz.ntmps29
  go_wp2_with fail
  go_loopw [6, 5, 7] (fun x v y wr => ∃ (c i : Nat) (ds : List Nat), x = .int .i64 c ∧ y = .int .i64 i ∧ c ≤ 1 ∧ (i ≤ (dg 65536 m).length ∨ i ≤ (dg 65536 n).length) ∧ wr.ownsRow w.heap.size 3 1 v ds.length (cs .i64 ds) ∧ Hid (ds.length = i) ∧ Hid (∀ d ∈ ds, d < 65536) ∧
    Hid (val 65536 ds + c * 65536 ^ i = m % 65536 ^ i + n % 65536 ^ i) ∧ Below w.heap.size w wr) (fun _ _ y _ => (dg 65536 m).length + (dg 65536 n).length - (intOf y).toNat)
  case atStart => exact ⟨0, 0, [], rfl, rfl, by omega, .inl (Nat.zero_le _), own_empty w 3 (Nat.le_refl _), hid rfl, hid (by simp), hid (by simp [val, Nat.mod_one]), (Below.refl _ _).alloc (Nat.le_refl _) _⟩
  case round =>
    obtain ⟨c, i, ds, rfl, rfl, hc, hi, hown, hl, hds, hv, hb⟩ := hrel
    have hbs := hb.size
    have hlen : ds.length ≤ 100000 := by have := hl.out; omega
    have hi2 : i ≤ 100000 := by omega
    rcases Nat.lt_or_ge i (dg 65536 m).length with hia | hia
    · rcases Nat.lt_or_ge i (dg 65536 n).length with hib | hib
      · clear hi
        have hka : i < (dg 65536 m).length := by omega
        obtain ⟨b, off, rfl, _, hb3⟩ := HA.out (by omega)
        have hk := hb3 i hka
        clear hb3
        have hx := (hb.cell (World.block_lt_of_cell? w _ hk)).trans hk
        clear hk
        have hxd : (dg 65536 m).getD i 0 = m / 65536 ^ i % 65536 := dg_getD (by omega) m i
        generalize (dg 65536 m).getD i 0 = x at hx hxd
        have hx1 : x < 65536 := by rw [hxd]; exact Nat.mod_lt _ (by omega)
        have HX := hid hxd
        clear hxd
        have hkb : i < (dg 65536 n).length := by omega
        obtain ⟨b4, off4, rfl, _, hb4⟩ := HB.out (by omega)
        have hk4 := hb4 i hkb
        clear hb4
        have hy := (hb.cell (World.block_lt_of_cell? w _ hk4)).trans hk4
        clear hk4
        have hyd : (dg 65536 n).getD i 0 = n / 65536 ^ i % 65536 := dg_getD (by omega) n i
        generalize (dg 65536 n).getD i 0 = y at hy hyd
        have hy1 : y < 65536 := by rw [hyd]; exact Nat.mod_lt _ (by omega)
        have HY := hid hyd
        clear hyd
        have HV := hid (add_step hl.out hv.out HX.out HY.out)
        clear hv
        go_wp2_with (at_builtin; refine app1 rfl _ _ 29 3 rfl .i64 8 Tryz.underlying29 info3 (by decide) w.heap.size w _ ds _ ((c + x + y) % 65536) (by simp) rfl rfl hown hb (by omega) (by omega) ?_; intro v2 w2 hown2 hb2 _)
        go_roundw
        case rel => exact ⟨(c + x + y) / 65536, i + 1, ds ++ [(c + x + y) % 65536], by simp, by go_num, by omega, by omega, hown2, hid (by simp; exact hl.out), hid (by intro d hd; rcases List.mem_append.1 hd with h | h; exact hds.out d h; simp at h; omega), hid (by simpa using HV.out), hb2⟩
        case measure => simp [intOf]; omega
      · clear hi
        have hka : i < (dg 65536 m).length := by omega
        obtain ⟨b, off, rfl, _, hb3⟩ := HA.out (by omega)
        have hk := hb3 i hka
        clear hb3
        have hx := (hb.cell (World.block_lt_of_cell? w _ hk)).trans hk
        clear hk
        have hxd : (dg 65536 m).getD i 0 = m / 65536 ^ i % 65536 := dg_getD (by omega) m i
        generalize (dg 65536 m).getD i 0 = x at hx hxd
        have hx1 : x < 65536 := by rw [hxd]; exact Nat.mod_lt _ (by omega)
        have HX := hid hxd
        clear hxd
        have hkb : ¬ i < (dg 65536 n).length := by omega
        have HY := hid (digit_zero (b := 65536) (n := n) (i := i) (by omega) (by omega))
        have HV := hid (add_step hl.out hv.out HX.out HY.out)
        clear hv
        go_wp2_with (at_builtin; refine app1 rfl _ _ 29 3 rfl .i64 8 Tryz.underlying29 info3 (by decide) w.heap.size w _ ds _ ((c + x) % 65536) (by simp) rfl rfl hown hb (by omega) (by omega) ?_; intro v2 w2 hown2 hb2 _)
        go_roundw
        case rel => exact ⟨(c + x) / 65536, i + 1, ds ++ [(c + x) % 65536], by simp, by go_num, by omega, by omega, hown2, hid (by simp; exact hl.out), hid (by intro d hd; rcases List.mem_append.1 hd with h | h; exact hds.out d h; simp at h; omega), hid (by simpa using HV.out), hb2⟩
        case measure => simp [intOf]; omega
    · rcases Nat.lt_or_ge i (dg 65536 n).length with hib | hib
      · clear hi
        have hka : ¬ i < (dg 65536 m).length := by omega
        have HX := hid (digit_zero (b := 65536) (n := m) (i := i) (by omega) (by omega))
        have hkb : i < (dg 65536 n).length := by omega
        obtain ⟨b4, off4, rfl, _, hb4⟩ := HB.out (by omega)
        have hk4 := hb4 i hkb
        clear hb4
        have hy := (hb.cell (World.block_lt_of_cell? w _ hk4)).trans hk4
        clear hk4
        have hyd : (dg 65536 n).getD i 0 = n / 65536 ^ i % 65536 := dg_getD (by omega) n i
        generalize (dg 65536 n).getD i 0 = y at hy hyd
        have hy1 : y < 65536 := by rw [hyd]; exact Nat.mod_lt _ (by omega)
        have HY := hid hyd
        clear hyd
        have HV := hid (add_step hl.out hv.out HX.out HY.out)
        clear hv
        go_wp2_with (at_builtin; refine app1 rfl _ _ 29 3 rfl .i64 8 Tryz.underlying29 info3 (by decide) w.heap.size w _ ds _ ((c + y) % 65536) (by simp) rfl rfl hown hb (by omega) (by omega) ?_; intro v2 w2 hown2 hb2 _)
        go_roundw
        case rel => exact ⟨(c + y) / 65536, i + 1, ds ++ [(c + y) % 65536], by simp, by go_num, by omega, by omega, hown2, hid (by simp; exact hl.out), hid (by intro d hd; rcases List.mem_append.1 hd with h | h; exact hds.out d h; simp at h; omega), hid (by simpa using HV.out), hb2⟩
        case measure => simp [intOf]; omega
      · have hka : ¬ i < (dg 65536 m).length := by omega
        have hkb : ¬ i < (dg 65536 n).length := by omega
        go_wp2_with (at_builtin; refine app1 rfl _ _ 29 3 rfl .i64 8 Tryz.underlying29 info3 (by decide) w.heap.size w u5 ds _ c (by simp) rfl rfl hown hb (by omega) (by omega) ?_; intro v2 w2 hown2 hb2 _)
        refine (trim_any _ _ _ (own_rd hown2)).mono ?_
        rintro e w' ⟨v', rfl, hv', rfl⟩
        go_wp2_with fail
        go_ret
        refine ⟨_, rfl, ?_, hb2⟩
        have e1 : ∀ d ∈ ds ++ [c], d < 65536 := by intro d hd; rcases List.mem_append.1 hd with h | h; exact hds.out d h; simp at h; omega
        have e2 : val 65536 (ds ++ [c]) = m + n := by
          rw [val_append, hl.out]
          have := hv.out
          rw [mod_len (by omega) hia, mod_len (by omega) hib, Nat.mul_comm c] at this
          simpa [val] using this
        rw [trim_eq (by omega) e1, e2] at hv'
        exact hv'
end Go.Proofs.YtgdgklhfakplhaaGreatDoor
namespace Go.Proofs.YtgdgklhfakplhaaGreatDoor
open Go.RowKit Go.Dig
set_option maxRecDepth 100000
/-- One more digit of a difference. -/
theorem sub_step {B : Nat} {ds : List Nat} {m n c i x y z c2 : Nat} (hl : ds.length = i) (h : val B ds + n % B ^ i = m % B ^ i + c * B ^ i) (hx : x = m / B ^ i % B) (hy : y = n / B ^ i % B) (hz : z + y + c = x + c2 * B) :
    val B (ds ++ [z]) + n % B ^ (i + 1) = m % B ^ (i + 1) + c2 * B ^ (i + 1) := by
  subst hl
  have e1 : m % B ^ (ds.length + 1) = m % B ^ ds.length + B ^ ds.length * x := by rw [hx, Nat.mod_pow_succ]
  have e2 : n % B ^ (ds.length + 1) = n % B ^ ds.length + B ^ ds.length * y := by rw [hy, Nat.mod_pow_succ]
  rw [val_append, e1, e2]
  show val B ds + B ^ ds.length * (z + B * 0) + _ = _
  have e3 : B ^ ds.length * (z + y + c) = B ^ ds.length * (x + c2 * B) := by rw [hz]
  have e4 : c2 * B ^ (ds.length + 1) = B ^ ds.length * (c2 * B) := by
    rw [Nat.pow_succ, Nat.mul_left_comm]
  rw [Nat.mul_add, Nat.mul_add, Nat.mul_add, Nat.mul_comm (B ^ ds.length) c] at e3
  rw [e4]
  simp only [Nat.mul_zero, Nat.add_zero]
  omega
set_option maxHeartbeats 1000000 in
theorem sub_any (va vb : Value) (m n : Nat) (w : World) (hma : Nt w va m) (hmb : Nt w vb n) (hla : (dg 65536 m).length ≤ 100000) (hnm : n ≤ m) :
    Calls Tryz.prog 102 #[va, vb] w fun e w' => ∃ v, e = .returned v ∧ Nt w' v (m - n) ∧ Below w.heap.size w w' := by
  have hlb : (dg 65536 n).length ≤ (dg 65536 m).length := dg_length_mono (by omega) hnm
  have HNM := hid hnm
  clear hnm
  obtain ⟨a, cap, rfl, h1, h2, h3⟩ := hma
  obtain ⟨a2, cap2, rfl, h12, h22, h32⟩ := hmb
  have HA := hid h3
  have HB := hid h32
  clear h3 h32
  go_enter Tryz.func102, Tryz.ntmps102
  go_wp2_with fail
  go_loopw [6, 5, 12] (fun x v y wr => ∃ (c i : Nat) (ds : List Nat), x = .int .i64 c ∧ y = .int .i64 i ∧ c ≤ 1 ∧ i ≤ (dg 65536 m).length ∧ wr.ownsRow w.heap.size 3 1 v ds.length (cs .i64 ds) ∧ Hid (ds.length = i) ∧ Hid (∀ d ∈ ds, d < 65536) ∧
    Hid (val 65536 ds + n % 65536 ^ i = m % 65536 ^ i + c * 65536 ^ i) ∧ Below w.heap.size w wr) (fun _ _ y _ => (dg 65536 m).length - (intOf y).toNat)
  case atStart => exact ⟨0, 0, [], rfl, rfl, by omega, Nat.zero_le _, own_empty w 3 (Nat.le_refl _), hid rfl, hid (by simp), hid (by simp [val, Nat.mod_one]), (Below.refl _ _).alloc (Nat.le_refl _) _⟩
  case round =>
    obtain ⟨c, i, ds, rfl, rfl, hc, hi, hown, hl, hds, hv, hb⟩ := hrel
    have hbs := hb.size
    have hlen : ds.length ≤ 100000 := by have := hl.out; omega
    have hi2 : i ≤ 100000 := by omega
    rcases Nat.lt_or_ge i (dg 65536 m).length with hka | hia
    · obtain ⟨b, off, rfl, _, hb3⟩ := HA.out (by omega)
      have hk := hb3 i hka
      clear hb3
      have hx := (hb.cell (World.block_lt_of_cell? w _ hk)).trans hk
      clear hk
      have hxd : (dg 65536 m).getD i 0 = m / 65536 ^ i % 65536 := dg_getD (by omega) m i
      generalize (dg 65536 m).getD i 0 = x at hx hxd
      have hx1 : x < 65536 := by rw [hxd]; exact Nat.mod_lt _ (by omega)
      have HX := hid hxd
      clear hxd
      rcases Nat.lt_or_ge i (dg 65536 n).length with hkb | hib
      · obtain ⟨b4, off4, rfl, _, hb4⟩ := HB.out (by omega)
        have hk4 := hb4 i hkb
        clear hb4
        have hy := (hb.cell (World.block_lt_of_cell? w _ hk4)).trans hk4
        clear hk4
        have hyd : (dg 65536 n).getD i 0 = n / 65536 ^ i % 65536 := dg_getD (by omega) n i
        generalize (dg 65536 n).getD i 0 = y at hy hyd
        have hy1 : y < 65536 := by rw [hyd]; exact Nat.mod_lt _ (by omega)
        have HY := hid hyd
        clear hyd
        rcases Nat.lt_or_ge x (c + y) with hneg | hneg
        · have HV := hid (sub_step (z := x + 65536 - (c + y)) (c2 := 1) hl.out hv.out HX.out HY.out (by omega))
          clear hv
          go_wp2_with (at_builtin; refine app1 rfl _ _ 29 3 rfl .i64 8 Tryz.underlying29 info3 (by decide) w.heap.size w u5 ds _ (x + 65536 - (c + y)) (by omega) rfl rfl hown hb (by omega) (by omega) ?_; intro v2 w2 hown2 hb2 _)
          go_roundw
          case rel => exact ⟨1, i + 1, ds ++ [x + 65536 - (c + y)], by simp, by go_num, by omega, by omega, hown2, hid (by simp; exact hl.out), hid (by intro d hd; rcases List.mem_append.1 hd with h | h; exact hds.out d h; simp at h; omega), hid HV.out, hb2⟩
          case measure => simp [intOf]; omega
        · have HV := hid (sub_step (z := x - (c + y)) (c2 := 0) hl.out hv.out HX.out HY.out (by omega))
          clear hv
          go_wp2_with (at_builtin; refine app1 rfl _ _ 29 3 rfl .i64 8 Tryz.underlying29 info3 (by decide) w.heap.size w u5 ds _ (x - (c + y)) (by omega) rfl rfl hown hb (by omega) (by omega) ?_; intro v2 w2 hown2 hb2 _)
          go_roundw
          case rel => exact ⟨0, i + 1, ds ++ [x - (c + y)], by simp, by go_num, by omega, by omega, hown2, hid (by simp; exact hl.out), hid (by intro d hd; rcases List.mem_append.1 hd with h | h; exact hds.out d h; simp at h; omega), hid HV.out, hb2⟩
          case measure => simp [intOf]; omega
      · have hkb : ¬ i < (dg 65536 n).length := by omega
        have HY := hid (digit_zero (b := 65536) (n := n) (i := i) (by omega) (by omega))
        rcases Nat.lt_or_ge x (c) with hneg | hneg
        · have HV := hid (sub_step (z := x + 65536 - (c)) (c2 := 1) hl.out hv.out HX.out HY.out (by omega))
          clear hv
          go_wp2_with (at_builtin; refine app1 rfl _ _ 29 3 rfl .i64 8 Tryz.underlying29 info3 (by decide) w.heap.size w u5 ds _ (x + 65536 - (c)) (by omega) rfl rfl hown hb (by omega) (by omega) ?_; intro v2 w2 hown2 hb2 _)
          go_roundw
          case rel => exact ⟨1, i + 1, ds ++ [x + 65536 - (c)], by simp, by go_num, by omega, by omega, hown2, hid (by simp; exact hl.out), hid (by intro d hd; rcases List.mem_append.1 hd with h | h; exact hds.out d h; simp at h; omega), hid HV.out, hb2⟩
          case measure => simp [intOf]; omega
        · have HV := hid (sub_step (z := x - (c)) (c2 := 0) hl.out hv.out HX.out HY.out (by omega))
          clear hv
          go_wp2_with (at_builtin; refine app1 rfl _ _ 29 3 rfl .i64 8 Tryz.underlying29 info3 (by decide) w.heap.size w u5 ds _ (x - (c)) (by omega) rfl rfl hown hb (by omega) (by omega) ?_; intro v2 w2 hown2 hb2 _)
          go_roundw
          case rel => exact ⟨0, i + 1, ds ++ [x - (c)], by simp, by go_num, by omega, by omega, hown2, hid (by simp; exact hl.out), hid (by intro d hd; rcases List.mem_append.1 hd with h | h; exact hds.out d h; simp at h; omega), hid HV.out, hb2⟩
          case measure => simp [intOf]; omega
    · obtain rfl : i = (dg 65536 m).length := by omega
      go_wp2_with fail
      refine (trim_any _ _ _ (own_rd hown)).mono ?_
      rintro e w' ⟨v', rfl, hv', rfl⟩
      go_wp2_with fail
      go_ret
      refine ⟨_, rfl, ?_, hb⟩
      have e2 : val 65536 ds = m - n := by
        have h1 := hv.out
        have h2 := HNM.out
        rw [mod_len (by omega) (Nat.le_refl _), mod_len (by omega) hlb] at h1
        have h3 := val_lt (b := 65536) (by omega) hds.out
        rw [hl.out] at h3
        rcases (by omega : c = 0 ∨ c = 1) with rfl | rfl
        · omega
        · omega
      rw [trim_eq (by omega) hds.out, e2] at hv'
      exact hv'
end Go.Proofs.YtgdgklhfakplhaaGreatDoor

namespace Go.Proofs.YtgdgklhfakplhaaGreatDoor
open Go.RowKit Go.Dig
set_option maxRecDepth 100000
theorem mul_step {B : Nat} {l : List Nat} {i k q x y old R n : Nat} (hlt : i + k < l.length) (ho : l.getD (i + k) 0 = old) (hy : y = n / B ^ k % B) (h : val B l + q * B ^ (i + k) = R + B ^ i * x * (n % B ^ k)) :
    val B (l.set (i + k) ((q + (old + x * y)) % B)) + (q + (old + x * y)) / B * B ^ (i + (k + 1)) = R + B ^ i * x * (n % B ^ (k + 1)) := by
  have hs := val_set B l (i + k) ((q + (old + x * y)) % B) hlt
  rw [ho] at hs
  have e2 : n % B ^ (k + 1) = n % B ^ k + B ^ k * y := by rw [hy, Nat.mod_pow_succ]
  have e3 := Nat.div_add_mod (q + (old + x * y)) B
  have e4 : (q + (old + x * y)) * B ^ (i + k) = (q + (old + x * y)) / B * B ^ (i + (k + 1)) + (q + (old + x * y)) % B * B ^ (i + k) := by
    have : (B * ((q + (old + x * y)) / B) + (q + (old + x * y)) % B) * B ^ (i + k) = (q + (old + x * y)) * B ^ (i + k) := by rw [e3]
    rw [Nat.add_mul] at this
    rw [← this, ← Nat.add_assoc i k 1, Nat.pow_succ, Nat.mul_comm B, Nat.mul_assoc, Nat.mul_comm B]
  have e5 : B ^ i * x * (B ^ k * y) = x * y * B ^ (i + k) := by
    rw [Nat.pow_add, Nat.mul_assoc, Nat.mul_left_comm x, ← Nat.mul_assoc, Nat.mul_comm (B ^ i * B ^ k)]
  rw [e2, Nat.mul_add, e5]
  rw [Nat.add_mul, Nat.add_mul] at e4
  omega
theorem mul_end {B : Nat} {l : List Nat} {i q x m n L : Nat} (hlt : i + L < l.length) (ho : l.getD (i + L) 0 = 0) (hx : x = m / B ^ i % B) (h : val B l + q * B ^ (i + L) = m % B ^ i * n + B ^ i * x * n) :
    val B (l.set (i + L) q) = m % B ^ (i + 1) * n := by
  have hs := val_set B l (i + L) q hlt
  rw [ho, Nat.zero_mul, Nat.add_zero] at hs
  rw [hs, h, Nat.mod_pow_succ, Nat.add_mul, ← hx]
theorem set_mem {l : List Nat} {B j d : Nat} (h : ∀ x ∈ l, x < B) (hd : d < B) : ∀ x ∈ l.set j d, x < B := by
  intro x hx
  rcases List.mem_or_eq_of_mem_set hx with h1 | h1
  · exact h x h1
  · omega
theorem set_far {l : List Nat} {j d i : Nat} (hne : j ≠ i) : (l.set j d).getD i 0 = l.getD i 0 := by
  rw [List.getD_eq_getElem?_getD, List.getElem?_set, if_neg hne, ← List.getD_eq_getElem?_getD]
end Go.Proofs.YtgdgklhfakplhaaGreatDoor
namespace Go.Dig
theorem val_inj {b : Nat} (hb : 0 < b) : ∀ {l m : List Nat}, l.length = m.length → (∀ d ∈ l, d < b) → (∀ d ∈ m, d < b) → val b l = val b m → l = m
  | [], [], _, _, _, _ => rfl
  | d :: l, e :: m, hl, h1, h2, hv => by
    have hd := h1 d (by simp)
    have he := h2 e (by simp)
    simp only [val] at hv
    have e1 : d = e := by
      have := congrArg (· % b) hv
      simpa [Nat.add_mul_mod_self_left, Nat.mod_eq_of_lt hd, Nat.mod_eq_of_lt he] using this
    subst e1
    have e2 : val b l = val b m := Nat.eq_of_mul_eq_mul_left hb (Nat.add_left_cancel hv)
    rw [val_inj hb (by simpa using hl) (fun x hx => h1 x (List.mem_cons_of_mem _ hx)) (fun x hx => h2 x (List.mem_cons_of_mem _ hx)) e2]
theorem wb_pow (k : Nat) : (18446744073709551616 : Nat) ^ k = 65536 ^ (4 * k) := by
  rw [show (18446744073709551616 : Nat) = 65536 ^ 4 from rfl, ← Nat.pow_mul]
theorem dg_words_len (n : Nat) : (dg 18446744073709551616 n).length = ((dg 65536 n).length + 3) / 4 := by
  by_cases h : n = 0
  · subst h; rw [dg_zero, dg_zero]; rfl
  · have hL : 0 < (dg 65536 n).length := by
      rcases Nat.eq_zero_or_pos (dg 65536 n).length with h' | h'
      · exact absurd ((dg_nil_iff (b := 65536) (by omega)).1 (List.eq_nil_of_length_eq_zero h')) h
      · exact h'
    have h0 := pow_le_of_dg_length (b := 65536) (by omega) (n := n) (k := (dg 65536 n).length - 1) (by omega)
    have h1 := lt_pow_dg_length (b := 65536) (by omega) n
    generalize (dg 65536 n).length = L at *
    have := dg_length_eq (b := 18446744073709551616) (by omega) (n := n) (k := (L - 1) / 4)
      (by rw [wb_pow]; exact Nat.le_trans (Nat.pow_le_pow_right (by omega) (by omega)) h0)
      (by rw [wb_pow]; exact Nat.lt_of_lt_of_le h1 (Nat.pow_le_pow_right (by omega) (by omega)))
    rw [this]
    omega
/-- Where the making of words out of digits stands behind i digits. -/
structure WI (ds : List Nat) (i : Nat) (o : List Nat) : Prop where
  len : o.length = (i + 3) / 4
  lt : ∀ x ∈ o, x < 18446744073709551616
  eq : val 18446744073709551616 o = val 65536 (ds.take i)
theorem WI.zero (ds : List Nat) : WI ds 0 [] := ⟨rfl, by simp, by simp [val]⟩
/-- The word that the next digit goes into is there. -/
structure WJ (ds : List Nat) (q r : Nat) (o : List Nat) : Prop where
  len : o.length = q + 1
  lt : ∀ x ∈ o, x < 18446744073709551616
  eq : val 18446744073709551616 o = val 65536 (ds.take (4 * q + r))
theorem WI.open_ {ds o : List Nat} {q : Nat} (h : WI ds (4 * q) o) : WJ ds q 0 (o ++ [0]) := by
  have hl := h.len
  refine ⟨by rw [List.length_append, hl, List.length_singleton]; omega, ?_, ?_⟩
  · intro x hx
    rcases List.mem_append.1 hx with h' | h'
    · exact h.lt x h'
    · simp at h'; omega
  · rw [val_append, h.eq]
    simp [val]
theorem WI.held {ds o : List Nat} {q r : Nat} (h : WI ds (4 * q + r) o) (hr : 0 < r) (h3 : r ≤ 3) : WJ ds q r o := by
  have hl := h.len
  exact ⟨by omega, h.lt, h.eq⟩
theorem WJ.old {ds o : List Nat} {q r : Nat} (h : WJ ds q r o) (hd : ∀ d ∈ ds, d < 65536) : o.getD q 0 < 65536 ^ r := by
  have hs := val_split_at (b := 18446744073709551616) (l := o) (i := q) (by rw [h.len]; omega)
  rw [h.eq] at hs
  have hlt := val_lt (b := 65536) (by omega) (l := ds.take (4 * q + r)) (fun d hx => hd d (List.mem_of_mem_take hx))
  have hp : (65536 : Nat) ^ (ds.take (4 * q + r)).length ≤ 65536 ^ (4 * q + r) := Nat.pow_le_pow_right (by omega) (List.length_take_le _ _)
  have hlt2 := Nat.lt_of_lt_of_le hlt hp
  rw [Nat.pow_add, ← wb_pow] at hlt2
  rcases Nat.lt_or_ge (o.getD q 0) (65536 ^ r) with h' | h'
  · exact h'
  · have h1 : 18446744073709551616 ^ q * 65536 ^ r ≤ 18446744073709551616 ^ q * (o.getD q 0 + 18446744073709551616 * val 18446744073709551616 (o.drop (q + 1))) := Nat.mul_le_mul_left _ (by omega)
    omega
theorem WJ.step {ds o : List Nat} {q r d : Nat} (h : WJ ds q r o) (hd : ∀ d ∈ ds, d < 65536) (hi : 4 * q + r < ds.length) (hx : ds.getD (4 * q + r) 0 = d) (hr : r ≤ 3) :
    WI ds (4 * q + r + 1) (o.set q (o.getD q 0 + d * 65536 ^ r)) := by
  have hold := h.old hd
  have hdl : d < 65536 := by rw [← hx, List.getD_eq_getElem?_getD, List.getElem?_eq_getElem hi]; exact hd _ (List.getElem_mem hi)
  have hnew : o.getD q 0 + d * 65536 ^ r < 18446744073709551616 := by
    have h1 : d * 65536 ^ r ≤ 65535 * 65536 ^ r := Nat.mul_le_mul_right _ (by omega)
    have h2 : (65536 : Nat) ^ (r + 1) ≤ 65536 ^ 4 := Nat.pow_le_pow_right (by omega) (by omega)
    rw [Nat.pow_succ] at h2
    omega
  have hl := h.len
  refine ⟨by rw [List.length_set, hl]; omega, ?_, ?_⟩
  · intro x hx'
    rcases List.mem_or_eq_of_mem_set hx' with h' | h'
    · exact h.lt x h'
    · rw [h']; exact hnew
  · have hs := val_set 18446744073709551616 o q (o.getD q 0 + d * 65536 ^ r) (by omega)
    rw [h.eq, Nat.add_mul, Nat.mul_assoc, wb_pow, ← Nat.pow_add] at hs
    rw [List.take_add_one, List.getElem?_eq_getElem hi, Option.toList_some, val_append, List.length_take, Nat.min_eq_left (by omega)]
    have e : ds[4 * q + r] = d := by rw [← hx, List.getD_eq_getElem?_getD, List.getElem?_eq_getElem hi]; rfl
    rw [e]
    simp only [val, Nat.mul_zero, Nat.add_zero]
    rw [Nat.add_comm r (4 * q)] at hs
    rw [Nat.mul_comm (65536 ^ (4 * q + r)) d]
    omega
theorem WI.done {n : Nat} {o : List Nat} (h : WI (dg 65536 n) (dg 65536 n).length o) : o = dg 18446744073709551616 n := by
  have e := h.eq
  rw [List.take_length, val_dg (by omega)] at e
  exact val_inj (b := 18446744073709551616) (by omega) (by rw [h.len, dg_words_len]) h.lt (dg_lt (by omega) n) (by rw [e, val_dg (by omega)])
/-- A byte goes down: V words' worth is there, r of the word's lower part is there, y of it is left. -/
theorem down_step {m : List Nat} {i k j V r y : Nat} (hm : i < m.length) (hi : i = 8 * k + j) (hv : val 256 (m.take i) = V + 18446744073709551616 ^ k * r) :
    val 256 ((m.set i (y % 256)).take (i + 1)) = V + 18446744073709551616 ^ k * (r + 256 ^ j * (y % 256)) := by
  have e1 : (m.set i (y % 256)).take i = m.take i := by rw [List.take_set_of_le (by omega)]
  have e2 : (256 : Nat) ^ i = 18446744073709551616 ^ k * 256 ^ j := by
    rw [hi, Nat.pow_add, Nat.pow_mul]
  rw [List.take_add_one, e1, List.getElem?_set_self hm, Option.toList_some, val_append, List.length_take, Nat.min_eq_left (by omega), hv, e2]
  simp only [val, Nat.mul_zero, Nat.add_zero]
  rw [Nat.mul_add, Nat.mul_assoc, Nat.add_assoc]
theorem down_left {x y r j : Nat} (h : x = y * 256 ^ j + r) : x = y / 256 * 256 ^ (j + 1) + (r + 256 ^ j * (y % 256)) := by
  have hy := Nat.div_add_mod y 256
  have e : y * 256 ^ j = (256 * (y / 256)) * 256 ^ j + (y % 256) * 256 ^ j := by rw [← Nat.add_mul, hy]
  rw [h, e, Nat.pow_succ, Nat.mul_comm (256 ^ j) (y % 256), Nat.mul_comm 256 (y / 256), Nat.mul_assoc, Nat.mul_comm 256 (256 ^ j)]
  omega
end Go.Dig
