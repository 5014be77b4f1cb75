/- Walks and lemmas for the laws of this seat. -/
import Derived.Test.YtocahcammjoffaaGreatDoorS7
namespace Go.Proofs.YtocahcammjoffaaGreatDoor
open Go.RowKit Go.Dig
set_option maxRecDepth 100000
/-- One more digit of a sum. -/
theorem add_step {B : Nat} {ds : List Nat} {m n c i x y : Nat} (hl : ds.length = i) (h : val B ds + c * B ^ i = m % B ^ i + n % B ^ i) (hx : x = m / B ^ i % B) (hy : y = n / B ^ i % B) :
    val B (ds ++ [(c + x + y) % B]) + (c + x + y) / B * B ^ (i + 1) = m % B ^ (i + 1) + n % B ^ (i + 1) := by
  subst hl
  have e1 : m % B ^ (ds.length + 1) = m % B ^ ds.length + B ^ ds.length * x := by rw [hx, Nat.mod_pow_succ]
  have e2 : n % B ^ (ds.length + 1) = n % B ^ ds.length + B ^ ds.length * y := by rw [hy, Nat.mod_pow_succ]
  rw [val_append, e1, e2]
  show val B ds + B ^ ds.length * ((c + x + y) % B + B * 0) + _ = _
  have e3 := Nat.div_add_mod (c + x + y) B
  have e4 : B ^ ds.length * (c + x + y) = B ^ ds.length * (B * ((c + x + y) / B)) + B ^ ds.length * ((c + x + y) % B) := by rw [← Nat.mul_add, e3]
  have e5 : (c + x + y) / B * B ^ (ds.length + 1) = B ^ ds.length * (B * ((c + x + y) / B)) := by
    rw [Nat.pow_succ, Nat.mul_comm ((c + x + y) / B), Nat.mul_assoc]
  rw [Nat.mul_add, Nat.mul_add, Nat.mul_comm (B ^ ds.length) c] at e4
  rw [e5]
  simp only [Nat.mul_zero, Nat.add_zero]
  omega
theorem digit_zero {b n i : Nat} (hb : 2 ≤ b) (h : (dg b n).length ≤ i) : 0 = n / b ^ i % b := by
  rw [← dg_getD hb, List.getD_eq_getElem?_getD, List.getElem?_eq_none h]; rfl
theorem mod_len {b n i : Nat} (hb : 2 ≤ b) (h : (dg b n).length ≤ i) : n % b ^ i = n := Nat.mod_eq_of_lt (Nat.lt_of_lt_of_le (lt_pow_dg_length hb n) (Nat.pow_le_pow_right (by omega) h))
set_option maxHeartbeats 1000000 in
theorem add_any (va vb : Value) (m n : Nat) (w : World) (hma : Nt w va m) (hmb : Nt w vb n) (hla : (dg 65536 m).length ≤ 100000) (hlb : (dg 65536 n).length ≤ 100000) :
    Calls Tryz.prog 82 #[va, vb] w fun e w' => ∃ v, e = .returned v ∧ Nt w' v (m + n) ∧ Below w.heap.size w w' := by
  obtain ⟨a, cap, rfl, h1, h2, h3⟩ := hma
  obtain ⟨a2, cap2, rfl, h12, h22, h32⟩ := hmb
  have HA := hid h3
  have HB := hid h32
  clear h3 h32
  go_enter Tryz.func82, Tryz.ntmps82
  go_wp2_with fail
  go_loopw [6, 5, 7] (fun x v y wr => ∃ (c i : Nat) (ds : List Nat), x = .int .i64 c ∧ y = .int .i64 i ∧ c ≤ 1 ∧ (i ≤ (dg 65536 m).length ∨ i ≤ (dg 65536 n).length) ∧ wr.ownsRow w.heap.size 3 1 v ds.length (cs .i64 ds) ∧ Hid (ds.length = i) ∧ Hid (∀ d ∈ ds, d < 65536) ∧
    Hid (val 65536 ds + c * 65536 ^ i = m % 65536 ^ i + n % 65536 ^ i) ∧ Below w.heap.size w wr) (fun _ _ y _ => (dg 65536 m).length + (dg 65536 n).length - (intOf y).toNat)
  case atStart => exact ⟨0, 0, [], rfl, rfl, by omega, .inl (Nat.zero_le _), own_empty w 3 (Nat.le_refl _), hid rfl, hid (by simp), hid (by simp [val, Nat.mod_one]), (Below.refl _ _).alloc (Nat.le_refl _) _⟩
  case round =>
    obtain ⟨c, i, ds, rfl, rfl, hc, hi, hown, hl, hds, hv, hb⟩ := hrel
    have hbs := hb.size
    have hlen : ds.length ≤ 100000 := by have := hl.out; omega
    have hi2 : i ≤ 100000 := by omega
    rcases Nat.lt_or_ge i (dg 65536 m).length with hia | hia
    · rcases Nat.lt_or_ge i (dg 65536 n).length with hib | hib
      · clear hi
        have hka : i < (dg 65536 m).length := by omega
        obtain ⟨b, off, rfl, _, hb3⟩ := HA.out (by omega)
        have hk := hb3 i hka
        clear hb3
        have hx := (hb.cell (World.block_lt_of_cell? w _ hk)).trans hk
        clear hk
        have hxd : (dg 65536 m).getD i 0 = m / 65536 ^ i % 65536 := dg_getD (by omega) m i
        generalize (dg 65536 m).getD i 0 = x at hx hxd
        have hx1 : x < 65536 := by rw [hxd]; exact Nat.mod_lt _ (by omega)
        have HX := hid hxd
        clear hxd
        have hkb : i < (dg 65536 n).length := by omega
        obtain ⟨b4, off4, rfl, _, hb4⟩ := HB.out (by omega)
        have hk4 := hb4 i hkb
        clear hb4
        have hy := (hb.cell (World.block_lt_of_cell? w _ hk4)).trans hk4
        clear hk4
        have hyd : (dg 65536 n).getD i 0 = n / 65536 ^ i % 65536 := dg_getD (by omega) n i
        generalize (dg 65536 n).getD i 0 = y at hy hyd
        have hy1 : y < 65536 := by rw [hyd]; exact Nat.mod_lt _ (by omega)
        have HY := hid hyd
        clear hyd
        have HV := hid (add_step hl.out hv.out HX.out HY.out)
        clear hv
        go_wp2_with (at_builtin; refine app1 rfl _ _ 29 3 rfl .i64 8 Tryz.underlying29 info3 (by decide) w.heap.size w _ ds _ ((c + x + y) % 65536) (by simp) rfl rfl hown hb (by omega) (by omega) ?_; intro v2 w2 hown2 hb2 _)
        go_roundw
        case rel => exact ⟨(c + x + y) / 65536, i + 1, ds ++ [(c + x + y) % 65536], by simp, by go_num, by omega, by omega, hown2, hid (by simp; exact hl.out), hid (by intro d hd; rcases List.mem_append.1 hd with h | h; exact hds.out d h; simp at h; omega), hid (by simpa using HV.out), hb2⟩
        case measure => simp [intOf]; omega
      · clear hi
        have hka : i < (dg 65536 m).length := by omega
        obtain ⟨b, off, rfl, _, hb3⟩ := HA.out (by omega)
        have hk := hb3 i hka
        clear hb3
        have hx := (hb.cell (World.block_lt_of_cell? w _ hk)).trans hk
        clear hk
        have hxd : (dg 65536 m).getD i 0 = m / 65536 ^ i % 65536 := dg_getD (by omega) m i
        generalize (dg 65536 m).getD i 0 = x at hx hxd
        have hx1 : x < 65536 := by rw [hxd]; exact Nat.mod_lt _ (by omega)
        have HX := hid hxd
        clear hxd
        have hkb : ¬ i < (dg 65536 n).length := by omega
        have HY := hid (digit_zero (b := 65536) (n := n) (i := i) (by omega) (by omega))
        have HV := hid (add_step hl.out hv.out HX.out HY.out)
        clear hv
        go_wp2_with (at_builtin; refine app1 rfl _ _ 29 3 rfl .i64 8 Tryz.underlying29 info3 (by decide) w.heap.size w _ ds _ ((c + x) % 65536) (by simp) rfl rfl hown hb (by omega) (by omega) ?_; intro v2 w2 hown2 hb2 _)
        go_roundw
        case rel => exact ⟨(c + x) / 65536, i + 1, ds ++ [(c + x) % 65536], by simp, by go_num, by omega, by omega, hown2, hid (by simp; exact hl.out), hid (by intro d hd; rcases List.mem_append.1 hd with h | h; exact hds.out d h; simp at h; omega), hid (by simpa using HV.out), hb2⟩
        case measure => simp [intOf]; omega
    · rcases Nat.lt_or_ge i (dg 65536 n).length with hib | hib
      · clear hi
        have hka : ¬ i < (dg 65536 m).length := by omega
        have HX := hid (digit_zero (b := 65536) (n := m) (i := i) (by omega) (by omega))
        have hkb : i < (dg 65536 n).length := by omega
        obtain ⟨b4, off4, rfl, _, hb4⟩ := HB.out (by omega)
        have hk4 := hb4 i hkb
        clear hb4
        have hy := (hb.cell (World.block_lt_of_cell? w _ hk4)).trans hk4
        clear hk4
        have hyd : (dg 65536 n).getD i 0 = n / 65536 ^ i % 65536 := dg_getD (by omega) n i
        generalize (dg 65536 n).getD i 0 = y at hy hyd
        have hy1 : y < 65536 := by rw [hyd]; exact Nat.mod_lt _ (by omega)
        have HY := hid hyd
        clear hyd
        have HV := hid (add_step hl.out hv.out HX.out HY.out)
        clear hv
        go_wp2_with (at_builtin; refine app1 rfl _ _ 29 3 rfl .i64 8 Tryz.underlying29 info3 (by decide) w.heap.size w _ ds _ ((c + y) % 65536) (by simp) rfl rfl hown hb (by omega) (by omega) ?_; intro v2 w2 hown2 hb2 _)
        go_roundw
        case rel => exact ⟨(c + y) / 65536, i + 1, ds ++ [(c + y) % 65536], by simp, by go_num, by omega, by omega, hown2, hid (by simp; exact hl.out), hid (by intro d hd; rcases List.mem_append.1 hd with h | h; exact hds.out d h; simp at h; omega), hid (by simpa using HV.out), hb2⟩
        case measure => simp [intOf]; omega
      · have hka : ¬ i < (dg 65536 m).length := by omega
        have hkb : ¬ i < (dg 65536 n).length := by omega
        go_wp2_with (at_builtin; refine app1 rfl _ _ 29 3 rfl .i64 8 Tryz.underlying29 info3 (by decide) w.heap.size w u5 ds _ c (by simp) rfl rfl hown hb (by omega) (by omega) ?_; intro v2 w2 hown2 hb2 _)
        refine (trim_any _ _ _ (own_rd hown2)).mono ?_
        rintro e w' ⟨v', rfl, hv', rfl⟩
        go_wp2_with fail
        go_ret
        refine ⟨_, rfl, ?_, hb2⟩
        have e1 : ∀ d ∈ ds ++ [c], d < 65536 := by intro d hd; rcases List.mem_append.1 hd with h | h; exact hds.out d h; simp at h; omega
        have e2 : val 65536 (ds ++ [c]) = m + n := by
          rw [val_append, hl.out]
          have := hv.out
          rw [mod_len (by omega) hia, mod_len (by omega) hib, Nat.mul_comm c] at this
          simpa [val] using this
        rw [trim_eq (by omega) e1, e2] at hv'
        exact hv'
end Go.Proofs.YtocahcammjoffaaGreatDoor
