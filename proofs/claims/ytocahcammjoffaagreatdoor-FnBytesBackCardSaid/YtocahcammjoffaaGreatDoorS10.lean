/- Walks and lemmas for the laws of this seat. -/
import Derived.Test.YtocahcammjoffaaGreatDoorS9
namespace Go.Proofs.YtocahcammjoffaaGreatDoor
open Go.RowKit Go.Dig
set_option maxRecDepth 100000
theorem mul_step {B : Nat} {l : List Nat} {i k q x y old R n : Nat} (hlt : i + k < l.length) (ho : l.getD (i + k) 0 = old) (hy : y = n / B ^ k % B) (h : val B l + q * B ^ (i + k) = R + B ^ i * x * (n % B ^ k)) :
    val B (l.set (i + k) ((q + (old + x * y)) % B)) + (q + (old + x * y)) / B * B ^ (i + (k + 1)) = R + B ^ i * x * (n % B ^ (k + 1)) := by
  have hs := val_set B l (i + k) ((q + (old + x * y)) % B) hlt
  rw [ho] at hs
  have e2 : n % B ^ (k + 1) = n % B ^ k + B ^ k * y := by rw [hy, Nat.mod_pow_succ]
  have e3 := Nat.div_add_mod (q + (old + x * y)) B
  have e4 : (q + (old + x * y)) * B ^ (i + k) = (q + (old + x * y)) / B * B ^ (i + (k + 1)) + (q + (old + x * y)) % B * B ^ (i + k) := by
    have : (B * ((q + (old + x * y)) / B) + (q + (old + x * y)) % B) * B ^ (i + k) = (q + (old + x * y)) * B ^ (i + k) := by rw [e3]
    rw [Nat.add_mul] at this
    rw [← this, ← Nat.add_assoc i k 1, Nat.pow_succ, Nat.mul_comm B, Nat.mul_assoc, Nat.mul_comm B]
  have e5 : B ^ i * x * (B ^ k * y) = x * y * B ^ (i + k) := by
    rw [Nat.pow_add, Nat.mul_assoc, Nat.mul_left_comm x, ← Nat.mul_assoc, Nat.mul_comm (B ^ i * B ^ k)]
  rw [e2, Nat.mul_add, e5]
  rw [Nat.add_mul, Nat.add_mul] at e4
  omega
theorem mul_end {B : Nat} {l : List Nat} {i q x m n L : Nat} (hlt : i + L < l.length) (ho : l.getD (i + L) 0 = 0) (hx : x = m / B ^ i % B) (h : val B l + q * B ^ (i + L) = m % B ^ i * n + B ^ i * x * n) :
    val B (l.set (i + L) q) = m % B ^ (i + 1) * n := by
  have hs := val_set B l (i + L) q hlt
  rw [ho, Nat.zero_mul, Nat.add_zero] at hs
  rw [hs, h, Nat.mod_pow_succ, Nat.add_mul, ← hx]
theorem set_mem {l : List Nat} {B j d : Nat} (h : ∀ x ∈ l, x < B) (hd : d < B) : ∀ x ∈ l.set j d, x < B := by
  intro x hx
  rcases List.mem_or_eq_of_mem_set hx with h1 | h1
  · exact h x h1
  · omega
theorem set_far {l : List Nat} {j d i : Nat} (hne : j ≠ i) : (l.set j d).getD i 0 = l.getD i 0 := by
  rw [List.getD_eq_getElem?_getD, List.getElem?_set, if_neg hne, ← List.getD_eq_getElem?_getD]
set_option maxHeartbeats 1000000 in
theorem mul_any (va vb : Value) (m n : Nat) (w : World) (hma : Nt w va m) (hmb : Nt w vb n) (hla : (dg 65536 m).length ≤ 100000) (hlb : (dg 65536 n).length ≤ 100000) :
    Calls Tryz.prog 80 #[va, vb] w fun e w' => ∃ v, e = .returned v ∧ Nt w' v (m * n) ∧ Below w.heap.size w w' := by
  obtain ⟨a, cap, rfl, h1, h2, h3⟩ := hma
  obtain ⟨a2, cap2, rfl, h12, h22, h32⟩ := hmb
  have HA := hid h3
  have HB := hid h32
  clear h3 h32
  have hmk := run_make_row' (P := Tryz.prog) 29 3 (.int .i64 0) 8 Tryz.underlying29 info3 rfl .i64 .i64 ((dg 65536 m).length + (dg 65536 n).length) (by omega) (by omega)
  have ec : (((dg 65536 m).length + (dg 65536 n).length : Nat) : Int) = ((dg 65536 m).length : Int) + ((dg 65536 n).length : Int) := by omega
  rw [ec] at hmk
  clear ec
  go_enter Tryz.func80, Tryz.ntmps80
  go_wp2_with fail
  go_loopw [19] (fun y wr => ∃ (i : Nat) (l : List Nat), y = .int .i64 i ∧ i ≤ (dg 65536 m).length ∧ Hid (l.length = (dg 65536 m).length + (dg 65536 n).length) ∧ BlkN .i64 3 wr w.heap.size l ∧ Hid (∀ d ∈ l, d < 65536) ∧
    Hid (∀ j, i + (dg 65536 n).length ≤ j → l.getD j 0 = 0) ∧ Hid (val 65536 l = m % 65536 ^ i * n) ∧ Below w.heap.size w wr) (fun y _ => (dg 65536 m).length - (intOf y).toNat)
  case atStart =>
    refine ⟨0, List.replicate ((dg 65536 m).length + (dg 65536 n).length) 0, rfl, Nat.zero_le _, hid (by simp), blkN_made _ _ _ _, hid (by intro d hd; rw [List.eq_of_mem_replicate hd]; omega), hid ?_, hid ?_, (Below.refl _ _).alloc (Nat.le_refl _) _⟩
    · intro j _; simp [List.getElem?_replicate]; split <;> rfl
    · rw [val_replicate, Nat.pow_zero, Nat.mod_one, Nat.zero_mul]
  case round =>
    obtain ⟨i, l, rfl, hi, hll, hB, hdl, hz, hv, hb⟩ := hrel
    rcases Nat.lt_or_ge i (dg 65536 m).length with hka | hia
    · obtain ⟨b, off, rfl, _, hb3⟩ := HA.out (by omega)
      have hk := hb3 i hka
      clear hb3
      have hx := (hb.cell (World.block_lt_of_cell? w _ hk)).trans hk
      clear hk
      have hxd : (dg 65536 m).getD i 0 = m / 65536 ^ i % 65536 := dg_getD (by omega) m i
      generalize (dg 65536 m).getD i 0 = x at hx hxd
      have hx1 : x < 65536 := by rw [hxd]; exact Nat.mod_lt _ (by omega)
      have HX := hid hxd
      clear hxd
      go_wp2_with fail
      obtain ⟨wo, hwo⟩ : ∃ wo : World, wo = wr := ⟨_, rfl⟩
      subst hwo
      go_loopw [8, 26] (fun c y wr => ∃ (q k : Nat) (l : List Nat), c = .int .i64 q ∧ y = .int .i64 k ∧ k ≤ (dg 65536 n).length ∧ q < 65536 ∧ Hid (l.length = (dg 65536 m).length + (dg 65536 n).length) ∧ BlkN .i64 3 wr w.heap.size l ∧ Hid (∀ d ∈ l, d < 65536) ∧
        Hid (∀ j, i + (dg 65536 n).length ≤ j → l.getD j 0 = 0) ∧ Hid (val 65536 l + q * 65536 ^ (i + k) = m % 65536 ^ i * n + 65536 ^ i * x * (n % 65536 ^ k)) ∧ Below w.heap.size w wr) (fun _ y _ => (dg 65536 n).length - (intOf y).toNat)
      case atStart => exact ⟨0, 0, l, rfl, rfl, Nat.zero_le _, by omega, hll, hB, hdl, hz, hid (by simp [Nat.mod_one]; exact hv.out), hb⟩
      case round =>
        clear hll hB hdl hz hv hb hx
        obtain ⟨q, k, l, rfl, rfl, hk, hq, hll, hBl, hdl, hz, hv, hb⟩ := hrel
        rcases Nat.lt_or_ge k (dg 65536 n).length with hkb | hkb
        · obtain ⟨b4, off4, rfl, _, hb4⟩ := HB.out (by omega)
          have hk4 := hb4 k hkb
          clear hb4
          have hy := (hb.cell (World.block_lt_of_cell? w _ hk4)).trans hk4
          clear hk4
          have hyd : (dg 65536 n).getD k 0 = n / 65536 ^ k % 65536 := dg_getD (by omega) n k
          generalize (dg 65536 n).getD k 0 = y at hy hyd
          have hy1 : y < 65536 := by rw [hyd]; exact Nat.mod_lt _ (by omega)
          have HY := hid hyd
          clear hyd
          have hcell := hBl.at (i := i + k) (by rw [hll.out]; omega)
          have hfr := Blk.frozen hBl (i + k)
          have ho : l.getD (i + k) 0 < 65536 := getD_lt (by omega) hdl.out _
          generalize hold : l.getD (i + k) 0 = old at hcell ho
          have HO := hid hold
          clear hold
          have hxy : x * y ≤ 65535 * 65535 := Nat.mul_le_mul (by omega) (by omega)
          have hxy0 : (0 : Int) ≤ (x : Int) * (y : Int) := by rw [← Int.natCast_mul]; omega
          have hxy1 : (x : Int) * (y : Int) ≤ 4294836225 := by rw [← Int.natCast_mul]; omega
          go_wp2_with fail
          have HV := hid (mul_step (B := 65536) (l := l) (i := i) (k := k) (q := q) (x := x) (y := y) (n := n) (by rw [hll.out]; omega) HO.out HY.out hv.out)
          have ht : q + (old + x * y) < 65536 * 65536 := by omega
          go_roundw
          case rel =>
            refine ⟨(q + (old + x * y)) / 65536, k + 1, l.set (i + k) ((q + (old + x * y)) % 65536), by simp, by go_num, by omega, by omega, hid (by rw [List.length_set]; exact hll.out), ?_, hid (set_mem hdl.out (Nat.mod_lt _ (by omega))), hid ?_, hid HV.out, hb.setCell (Nat.le_refl _) _⟩
            · have := BlkN.put hBl (i + k) ((q + (old + x * y)) % 65536)
              simpa using this
            · intro j hj
              rw [set_far (by omega)]; exact hz.out j hj
          case measure => simp [intOf]; omega
        · obtain rfl : k = (dg 65536 n).length := by omega
          have hcell := hBl.at (i := i + (dg 65536 n).length) (by rw [hll.out]; omega)
          have hfr := Blk.frozen hBl (i + (dg 65536 n).length)
          have ho := hz.out (i + (dg 65536 n).length) (Nat.le_refl _)
          rw [ho] at hcell
          have HO := hid ho
          clear ho
          go_wp2_with fail
          have hv2 := hv.out
          rw [mod_len (by omega) (Nat.le_refl _)] at hv2
          have HV := hid (mul_end (B := 65536) (l := l) (i := i) (q := q) (x := x) (m := m) (n := n) (L := (dg 65536 n).length) (by rw [hll.out]; omega) HO.out HX.out hv2)
          clear hv2
          go_roundw
          case rel =>
            refine ⟨i + 1, l.set (i + (dg 65536 n).length) q, by go_num, by omega, hid (by rw [List.length_set]; exact hll.out), BlkN.put hBl _ q, hid (set_mem hdl.out hq), hid ?_, hid HV.out, hb.setCell (Nat.le_refl _) _⟩
            intro j hj
            rw [set_far (by omega)]; exact hz.out j (by omega)
          case measure => simp [intOf]; omega
    · obtain rfl : i = (dg 65536 m).length := by omega
      have hR2 := BlkN.rt hB (cap := l.length) (Nat.le_refl _) (by rw [hll.out]; omega)
      rw [hll.out] at hR2
      go_wp2_with fail
      refine (trim_any _ _ _ hR2).mono ?_
      rintro e w1 ⟨v', rfl, hv', rfl⟩
      go_wp2_with fail
      go_ret
      refine ⟨_, rfl, ?_, hb⟩
      have h1 := hv.out
      rw [mod_len (by omega) (Nat.le_refl _)] at h1
      rw [trim_eq (by omega) hdl.out, h1] at hv'
      exact hv'
end Go.Proofs.YtocahcammjoffaaGreatDoor
