/- Walks and lemmas for the laws of this seat. -/
import Derived.Test.YtocahcammjoffaaGreatDoorS12
namespace Go.Proofs.YtocahcammjoffaaGreatDoor
open Go.RowKit Go.Dig
set_option maxRecDepth 100000
theorem rep_getD (n j : Nat) : (List.replicate n 0).getD j 0 = 0 := by
  rw [List.getD_eq_getElem?_getD, List.getElem?_replicate]; split <;> rfl
theorem wrap64_of_le {z : Int} (h0 : -9223372036854775808 ≤ z) (h1 : z ≤ 9223372036854775807) : wrap64 z = z := by unfold wrap64; omega
theorem shl_fits {c x n : Nat} (hc : c < 2 ^ (n % 16)) : c + x * 2 ^ (n % 16) % 65536 < 65536 := by
  have e : (65536 : Nat) = 2 ^ (16 - n % 16) * 2 ^ (n % 16) := by
    rw [← Nat.pow_add]
    have : 16 - n % 16 + n % 16 = 16 := by have := Nat.mod_lt n (show 16 > 0 by omega); omega
    rw [this]
  generalize 2 ^ (n % 16) = p at *
  generalize 2 ^ (16 - n % 16) = r at *
  rw [e, Nat.mul_mod_mul_right]
  have h1 : x % r < r := Nat.mod_lt _ (by rcases Nat.eq_zero_or_pos r with h | h; (· rw [h] at e; omega); exact h)
  have h2 : (x % r + 1) * p ≤ r * p := Nat.mul_le_mul_right p h1
  rw [Nat.add_mul] at h2
  omega
theorem shl_step {B : Nat} {l : List Nat} {i q c t x m n s : Nat} (hj : q + i + 1 < l.length) (ho : l.getD (q + i) 0 = c) (hz : l.getD (q + i + 1) 0 = 0) (hx : x = m / B ^ i % B) (ht : t = x * 2 ^ s)
    (hn : 2 ^ n = B ^ q * 2 ^ s) (hv : val B l = m % B ^ i * 2 ^ n) :
    val B ((l.set (q + i) (c + t % B)).set (q + i + 1) (t / B)) = m % B ^ (i + 1) * 2 ^ n := by
  have h1 := val_set B l (q + i) (c + t % B) (by omega)
  have h2 := val_set B (l.set (q + i) (c + t % B)) (q + i + 1) (t / B) (by rw [List.length_set]; exact hj)
  have e2 : (l.set (q + i) (c + t % B)).getD (q + i + 1) 0 = 0 := by
    rw [List.getD_eq_getElem?_getD, List.getElem?_set, if_neg (by omega), ← List.getD_eq_getElem?_getD, hz]
  rw [e2, Nat.zero_mul, Nat.add_zero] at h2
  rw [ho, Nat.add_mul] at h1
  have e3 : t % B * B ^ (q + i) + t / B * B ^ (q + i + 1) = t * B ^ (q + i) := by
    rw [Nat.pow_succ, Nat.mul_comm (B ^ (q + i)) B, ← Nat.mul_assoc, ← Nat.add_mul, Nat.add_comm, Nat.mul_comm (t / B), Nat.div_add_mod]
  have e4 : t * B ^ (q + i) = B ^ i * x * 2 ^ n := by
    rw [ht, hn, Nat.pow_add]; ac_rfl
  rw [Nat.mod_pow_succ, Nat.add_mul, ← hx]
  omega
set_option maxHeartbeats 400000 in
theorem shl_zero (va : Value) (n : Nat) (w : World) (hma : Nt w va 0) : Calls Tryz.prog 67 #[va, .int .i64 n] w fun e w' => e = .returned va ∧ w' = w := by
  obtain ⟨a, cap, rfl, h1, h2, h3⟩ := hma
  simp only [dg_zero, List.length_nil] at *
  go_enter Tryz.func67, Tryz.ntmps67
  go_wp2_with fail
  go_ret
  exact ⟨rfl, rfl⟩
set_option maxHeartbeats 1000000 in
theorem shl_pos (va : Value) (m n : Nat) (w : World) (hma : Nt w va m) (hm : m ≠ 0) (hla : (dg 65536 m).length ≤ 100000) (hn : n ≤ 2000000) :
    Calls Tryz.prog 67 #[va, .int .i64 n] w fun e w' => ∃ v, e = .returned v ∧ Nt w' v (m * 2 ^ n) ∧ Below w.heap.size w w' := by
  obtain ⟨a, cap, rfl, h1, h2, h3⟩ := hma
  have HA := hid h3
  clear h3
  have hlp : 0 < (dg 65536 m).length := by
    rcases Nat.eq_zero_or_pos (dg 65536 m).length with h | h
    · exact absurd ((dg_nil_iff (b := 65536) (by omega)).1 (List.eq_nil_of_length_eq_zero h)) hm
    · exact h
  have hmk := run_make_row' (P := Tryz.prog) 29 3 (.int .i64 0) 8 Tryz.underlying29 info3 rfl .i64 .i64 (n / 16 + (dg 65536 m).length + 1) (by omega) (by omega)
  have ec : ((n / 16 + (dg 65536 m).length + 1 : Nat) : Int) = (n : Int) / 16 + ((dg 65536 m).length : Int) + 1 := by omega
  rw [ec] at hmk
  clear ec
  go_enter Tryz.func67, Tryz.ntmps67
  go_wp2_with fail
  go_loopw [21] (fun y wr => ∃ (i : Nat) (l : List Nat), y = .int .i64 i ∧ i ≤ (dg 65536 m).length ∧ Hid (l.length = n / 16 + (dg 65536 m).length + 1) ∧ BlkN .i64 3 wr w.heap.size l ∧ Hid (∀ d ∈ l, d < 65536) ∧
    l.getD (n / 16 + i) 0 < 2 ^ (n % 16) ∧ Hid (∀ j, n / 16 + i < j → l.getD j 0 = 0) ∧ Hid (val 65536 l = m % 65536 ^ i * 2 ^ n) ∧ Below w.heap.size w wr) (fun y _ => (dg 65536 m).length - (intOf y).toNat)
  case atStart =>
    refine ⟨0, List.replicate (n / 16 + (dg 65536 m).length + 1) 0, rfl, Nat.zero_le _, hid (by simp), blkN_made _ _ _ _, hid (by intro d hd; rw [List.eq_of_mem_replicate hd]; omega), ?_, hid ?_, hid ?_, (Below.refl _ _).alloc (Nat.le_refl _) _⟩
    · rw [rep_getD]; exact Nat.two_pow_pos _
    · intro j _; rw [rep_getD]
    · rw [val_replicate, Nat.pow_zero, Nat.mod_one, Nat.zero_mul]
  case round =>
    obtain ⟨i, l, rfl, hi, hll, hB, hdl, hc, hz, hv, hb⟩ := hrel
    rcases Nat.lt_or_ge i (dg 65536 m).length with hka | hia
    · obtain ⟨b, off, rfl, _, hb3⟩ := HA.out (by omega)
      have hk := hb3 i hka
      clear hb3
      have hx := (hb.cell (World.block_lt_of_cell? w _ hk)).trans hk
      clear hk
      have hxd : (dg 65536 m).getD i 0 = m / 65536 ^ i % 65536 := dg_getD (by omega) m i
      generalize (dg 65536 m).getD i 0 = x at hx hxd
      have hx1 : x < 65536 := by rw [hxd]; exact Nat.mod_lt _ (by omega)
      have HX := hid hxd
      clear hxd
      have hcell := hB.at (i := n / 16 + i) (by rw [hll.out]; omega)
      have hfr := Blk.frozen hB (n / 16 + i)
      have hcell2 := hB.at (i := n / 16 + i + 1) (by rw [hll.out]; omega)
      have hfr2 := Blk.frozen hB (n / 16 + i + 1)
      rw [hz.out _ (by omega)] at hcell2
      have hp0 := pow16_lt n
      have hp1 := Nat.two_pow_pos (n % 16)
      have hp2 : (2 : Int) ^ (n % 16) = ((2 ^ (n % 16) : Nat) : Int) := by simp
      generalize hold : l.getD (n / 16 + i) 0 = c at hcell hc
      have HO := hid hold
      clear hold
      obtain ⟨t, hte⟩ : ∃ t, t = x * 2 ^ (n % 16) := ⟨_, rfl⟩
      have ht1 : t ≤ 65535 * 65535 := by rw [hte]; exact Nat.mul_le_mul (by omega) (by omega)
      have ht2 : wrap64 ((x : Int) * 2 ^ (n % 16)) = (t : Int) := by
        rw [hp2, ← Int.natCast_mul, ← hte]
        exact wrap64_of_le (by omega) (by omega)
      have ht3 : c + t % 65536 < 65536 := by rw [hte]; exact shl_fits hc
      have ht4 : t / 65536 < 2 ^ (n % 16) := by rw [hte]; exact Nat.div_lt_of_lt_mul (Nat.mul_lt_mul_of_pos_right hx1 hp1)
      have HT := hid hte
      clear hte hp2
      go_wp2_with fail
      have HV := hid (shl_step (B := 65536) (l := l) (i := i) (q := n / 16) (c := c) (t := t) (x := x) (m := m) (n := n) (s := n % 16) (by rw [hll.out]; omega) HO.out (hz.out _ (by omega)) HX.out HT.out (pow_16 n) hv.out)
      go_roundw
      case rel =>
        refine ⟨i + 1, (l.set (n / 16 + i) (c + t % 65536)).set (n / 16 + i + 1) (t / 65536), by go_num, by omega, hid (by rw [List.length_set, List.length_set]; exact hll.out), ?_, hid (set_mem (set_mem hdl.out ht3) (by omega)), ?_, hid ?_, hid HV.out, (hb.setCell (Nat.le_refl _) _).setCell (Nat.le_refl _) _⟩
        · have := (BlkN.put hB (n / 16 + i) (c + t % 65536)).put (n / 16 + i + 1) (t / 65536)
          simpa using this
        · have e : n / 16 + (i + 1) = n / 16 + i + 1 := by omega
          rw [e, List.getD_eq_getElem?_getD, List.getElem?_set_self (by rw [List.length_set, hll.out]; omega)]
          exact ht4
        · intro j hj
          rw [set_far (by omega), set_far (by omega)]; exact hz.out j (by omega)
      case measure => simp [intOf]; omega
    · obtain rfl : i = (dg 65536 m).length := by omega
      have hR2 := BlkN.rt hB (cap := l.length) (Nat.le_refl _) (by rw [hll.out]; omega)
      rw [hll.out] at hR2
      go_wp2_with fail
      refine (trim_any _ _ _ hR2).mono ?_
      rintro e w1 ⟨v', rfl, hv', rfl⟩
      go_wp2_with fail
      go_ret
      refine ⟨_, rfl, ?_, hb⟩
      have h1 := hv.out
      rw [mod_len (by omega) (Nat.le_refl _)] at h1
      rw [trim_eq (by omega) hdl.out, h1] at hv'
      exact hv'
theorem shl_any (va : Value) (m n : Nat) (w : World) (hma : Nt w va m) (hla : (dg 65536 m).length ≤ 100000) (hn : n ≤ 2000000) :
    Calls Tryz.prog 67 #[va, .int .i64 n] w fun e w' => ∃ v, e = .returned v ∧ Nt w' v (m * 2 ^ n) ∧ Below w.heap.size w w' := by
  rcases Nat.eq_zero_or_pos m with rfl | h
  · refine (shl_zero va n w hma).mono ?_
    rintro e w' ⟨rfl, rfl⟩
    refine ⟨_, rfl, ?_, Below.refl _ _⟩
    rw [Nat.zero_mul]; exact hma
  · exact shl_pos va m n w hma (Nat.ne_of_gt h) hla hn
end Go.Proofs.YtocahcammjoffaaGreatDoor
