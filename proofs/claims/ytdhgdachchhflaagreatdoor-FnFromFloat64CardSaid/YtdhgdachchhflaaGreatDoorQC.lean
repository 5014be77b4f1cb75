/- The reference's division, greatest common divisor, signs. -/
import Derived.Test.YtdhgdachchhflaaGreatDoorQB
import Derived.Deep.RegionHeld
namespace Go.Proofs.YtdhgdachchhflaaGreatDoor
open Go.RowKit Go.Dig
set_option maxRecDepth 100000
set_option maxHeartbeats 400000 in
theorem len_zero (v : Value) (w : World) (h : Nt w v 0) : Calls Tryz.prog 58 #[v] w fun e w' => e = .returned (.int .i64 0) ∧ w' = w := by
  have h' : Rt 3 .i64 w v [] := by have := h; unfold Nt at this; rwa [dg_zero] at this
  obtain ⟨a, cap, rfl, h1, h2, h3⟩ := h'
  clear h h3
  go_enter Tryz.func58, Tryz.ntmps58
  go_wp2_with fail
  go_ret
  exact ⟨rfl, rfl⟩
set_option maxHeartbeats 400000 in
theorem len_any (v : Value) (n : Nat) (w : World) (h : Nt w v n) (hl : (dg 65536 n).length ≤ 100000) : Calls Tryz.prog 58 #[v] w fun e w' => e = .returned (.int .i64 (blen n)) ∧ w' = w := by
  by_cases hn : n = 0
  · subst hn; rw [blen_zero]; exact len_zero v w h
  · obtain ⟨a, cap, rfl, h1, h2, h3⟩ := h
    have hp : 0 < (dg 65536 n).length := by rw [dg_pos (by omega) hn]; simp
    obtain ⟨b, off, rfl, _, hb3⟩ := h3 hp
    have hk := hb3 ((dg 65536 n).length - 1) (by omega)
    clear hb3 h3
    obtain ⟨t1, t2, t3⟩ := top_digit (b := 65536) (by omega) hn
    have hsh := blen_shift (n := n) (k := 16 * ((dg 65536 n).length - 1)) (by rw [Nat.pow_mul]; exact t2)
    rw [Nat.pow_mul] at hsh
    rw [t1] at hk
    have hsh2 : blen n = 16 * ((dg 65536 n).length - 1) + blen (n / 65536 ^ ((dg 65536 n).length - 1)) := hsh
    obtain ⟨L, hL⟩ : ∃ L, (dg 65536 n).length = L + 1 := ⟨(dg 65536 n).length - 1, by omega⟩
    rw [hL] at hk hsh2 t2 t3 h1 hl ⊢
    simp only [Nat.add_sub_cancel] at hk hsh2 t2 t3
    generalize n / 65536 ^ L = t at hk hsh2 t2 t3
    have hz0 : (((L : Int) + 1) == 0) = false := by simp; omega
    have HS := hid hsh2
    have HH := hid hL
    clear hsh hsh2 t1 hL hp
    go_enter Tryz.func58, Tryz.ntmps58
    go_wp2_with fail
    go_loop [3, 4] (fun x y => ∃ (c s : Nat), x = .int .i64 c ∧ y = .int .i64 s ∧ s < 65536 ∧ c ≤ 10000000 ∧ Hid (c + blen s = blen n)) (fun _ y => (intOf y).toNat)
    case atStart => exact ⟨16 * L, t, by simp, rfl, t3, by omega, HS.out.symm⟩
    case round =>
      obtain ⟨c, s, rfl, rfl, hs, hc, hcs⟩ := hrel
      rcases Nat.eq_zero_or_pos s with h0 | h0
      · subst h0
        go_wp2_with fail
        go_ret
        refine ⟨?_, rfl⟩
        have := hcs.out
        rw [blen_zero, Nat.add_zero] at this
        rw [this]; rfl
      · have hh := blen_half (n := s) (by omega)
        have hcs2 : c + 1 + blen (s / 2) = blen n := by rw [← hcs.out, hh]; omega
        have HC := hid hcs2
        have hb1 : c + 1 ≤ 10000000 := by
          have h2 := hcs.out
          have h3 := dg_length_le (b := 65536) (n := n) (k := L + 1) (by omega) (by rw [← HH.out]; exact lt_pow_dg_length (by omega) n)
          have h4 : blen n ≤ 16 * (L + 1) := blen_le (by rw [Nat.pow_mul, ← HH.out]; exact lt_pow_dg_length (by omega) n)
          omega
        clear hh hcs2
        go_wp2_with fail
        go_round
        case rel => exact ⟨c + 1, s / 2, by go_num, by simp, by omega, hb1, HC⟩
        case measure => simp [intOf]; omega
end Go.Proofs.YtdhgdachchhflaaGreatDoor
namespace Go.Proofs.YtdhgdachchhflaaGreatDoor
open Go.RowKit Go.Dig
set_option maxRecDepth 100000
theorem made_at (n i : Nat) (h : i < n) : (madeCells #[Value.int IntKind.i64 0] n)[i]? = some (.int .i64 0) := by
  rw [cs_zeros, cs_getElem? _ _ _ (by simpa using h), List.getD_eq_getElem?_getD, List.getElem?_replicate, if_pos h]; rfl
theorem pow16_lt (i : Nat) : 2 ^ (i % 16) < 65536 := by
  have := Nat.pow_lt_pow_right (a := 2) (by omega) (Nat.mod_lt i (show 16 > 0 by omega))
  omega
theorem pow_16 (i : Nat) : 2 ^ i = 65536 ^ (i / 16) * 2 ^ (i % 16) := by
  have e : (65536 : Nat) = 2 ^ 16 := rfl
  rw [e, ← Nat.pow_mul, ← Nat.pow_add]
  congr 1; omega
theorem dg_bit (i : Nat) : (List.replicate (i / 16 + 1) 0).set (i / 16) (2 ^ (i % 16)) = dg 65536 (2 ^ i) := by
  have e : (List.replicate (i / 16 + 1) 0).set (i / 16) (2 ^ (i % 16)) = List.replicate (i / 16) 0 ++ [2 ^ (i % 16)] := by
    rw [List.replicate_succ', List.set_append_right _ _ (by simp)]
    simp
  rw [e]
  have hc : Canon 65536 (List.replicate (i / 16) 0 ++ [2 ^ (i % 16)]) := by
    refine ⟨?_, ?_⟩
    · intro d hd
      rcases List.mem_append.1 hd with h | h
      · rw [List.eq_of_mem_replicate h]; omega
      · rw [List.mem_singleton.1 h]; exact pow16_lt i
    · intro h
      rw [List.getLast_concat]
      exact Nat.ne_of_gt (Nat.two_pow_pos _)
  have h1 := canon_eq (by omega) hc
  rw [h1, val_append, val_replicate, List.length_replicate]
  congr 1
  rw [pow_16 i, Nat.zero_add]
  simp [val]
set_option maxHeartbeats 400000 in
theorem bit_any (i : Nat) (w : World) (hi : i ≤ 2000000) :
    Calls Tryz.prog 15 #[.int .i64 i] w fun e w' => ∃ v, e = .returned v ∧ Nt w' v (2 ^ i) ∧ Below w.heap.size w w' := by
  have hmk := run_make_row' (P := Tryz.prog) 32 3 (.int .i64 0) 8 Tryz.underlying32 info3 rfl .i64 .i64 (i / 16 + 1) (by omega) (by omega)
  have ec : ((i / 16 + 1 : Nat) : Int) = (i : Int) / 16 + 1 := by omega
  rw [ec] at hmk
  clear ec
  have hcell := made_at (i / 16 + 1) (i / 16) (by omega)
  have hw : wrap64 (2 ^ (i % 16)) = ((2 ^ (i % 16) : Nat) : Int) := by
    have := pow16_lt i
    have e : ((2 ^ (i % 16) : Nat) : Int) = 2 ^ (i % 16) := by simp
    rw [← e]
    generalize 2 ^ (i % 16) = z at this
    unfold wrap64; omega
  go_enter Tryz.func15, Tryz.ntmps15
  go_wp2_with fail
  go_ret
  have ew : (cs .i64 (List.replicate (i / 16 + 1) 0)).toArray.setIfInBounds (i / 16) (.int .i64 ((2 ^ (i % 16) : Nat) : Int)) = (cs .i64 (dg 65536 (2 ^ i))).toArray := by
    rw [cs_set, dg_bit]
  have hp : (2 : Int) ^ (i % 16) = ((2 ^ (i % 16) : Nat) : Int) := by simp
  rw [hp, cs_zeros, ew]
  have hl : (dg 65536 (2 ^ i)).length = i / 16 + 1 := by rw [← dg_bit]; simp
  have h := BlkN.rt (k := .i64) (e := 3) (cap := (dg 65536 (2 ^ i)).length) (blk_new w (cs .i64 (dg 65536 (2 ^ i))).toArray 3) (Nat.le_refl _) (by omega)
  rw [hl] at h
  exact ⟨_, rfl, h, (Below.refl _ _).alloc (Nat.le_refl _) _⟩
end Go.Proofs.YtdhgdachchhflaaGreatDoor
namespace Go.Proofs.YtdhgdachchhflaaGreatDoor
open Go.RowKit Go.Dig
set_option maxRecDepth 100000
theorem rep_getD (n j : Nat) : (List.replicate n 0).getD j 0 = 0 := by
  rw [List.getD_eq_getElem?_getD, List.getElem?_replicate]; split <;> rfl
theorem wrap64_of_le {z : Int} (h0 : -9223372036854775808 ≤ z) (h1 : z ≤ 9223372036854775807) : wrap64 z = z := by unfold wrap64; omega
theorem shl_fits {c x n : Nat} (hc : c < 2 ^ (n % 16)) : c + x * 2 ^ (n % 16) % 65536 < 65536 := by
  have e : (65536 : Nat) = 2 ^ (16 - n % 16) * 2 ^ (n % 16) := by
    rw [← Nat.pow_add]
    have : 16 - n % 16 + n % 16 = 16 := by have := Nat.mod_lt n (show 16 > 0 by omega); omega
    rw [this]
  generalize 2 ^ (n % 16) = p at *
  generalize 2 ^ (16 - n % 16) = r at *
  rw [e, Nat.mul_mod_mul_right]
  have h1 : x % r < r := Nat.mod_lt _ (by rcases Nat.eq_zero_or_pos r with h | h; (· rw [h] at e; omega); exact h)
  have h2 : (x % r + 1) * p ≤ r * p := Nat.mul_le_mul_right p h1
  rw [Nat.add_mul] at h2
  omega
theorem shl_step {B : Nat} {l : List Nat} {i q c t x m n s : Nat} (hj : q + i + 1 < l.length) (ho : l.getD (q + i) 0 = c) (hz : l.getD (q + i + 1) 0 = 0) (hx : x = m / B ^ i % B) (ht : t = x * 2 ^ s)
    (hn : 2 ^ n = B ^ q * 2 ^ s) (hv : val B l = m % B ^ i * 2 ^ n) :
    val B ((l.set (q + i) (c + t % B)).set (q + i + 1) (t / B)) = m % B ^ (i + 1) * 2 ^ n := by
  have h1 := val_set B l (q + i) (c + t % B) (by omega)
  have h2 := val_set B (l.set (q + i) (c + t % B)) (q + i + 1) (t / B) (by rw [List.length_set]; exact hj)
  have e2 : (l.set (q + i) (c + t % B)).getD (q + i + 1) 0 = 0 := by
    rw [List.getD_eq_getElem?_getD, List.getElem?_set, if_neg (by omega), ← List.getD_eq_getElem?_getD, hz]
  rw [e2, Nat.zero_mul, Nat.add_zero] at h2
  rw [ho, Nat.add_mul] at h1
  have e3 : t % B * B ^ (q + i) + t / B * B ^ (q + i + 1) = t * B ^ (q + i) := by
    rw [Nat.pow_succ, Nat.mul_comm (B ^ (q + i)) B, ← Nat.mul_assoc, ← Nat.add_mul, Nat.add_comm, Nat.mul_comm (t / B), Nat.div_add_mod]
  have e4 : t * B ^ (q + i) = B ^ i * x * 2 ^ n := by
    rw [ht, hn, Nat.pow_add]; ac_rfl
  rw [Nat.mod_pow_succ, Nat.add_mul, ← hx]
  omega
set_option maxHeartbeats 400000 in
theorem shl_zero (va : Value) (n : Nat) (w : World) (hma : Nt w va 0) : Calls Tryz.prog 13 #[va, .int .i64 n] w fun e w' => e = .returned va ∧ w' = w := by
  obtain ⟨a, cap, rfl, h1, h2, h3⟩ := hma
  simp only [dg_zero, List.length_nil] at *
  go_enter Tryz.func13, Tryz.ntmps13
  go_wp2_with fail
  go_ret
  exact ⟨rfl, rfl⟩
set_option maxHeartbeats 1000000 in
theorem shl_pos (va : Value) (m n : Nat) (w : World) (hma : Nt w va m) (hm : m ≠ 0) (hla : (dg 65536 m).length ≤ 100000) (hn : n ≤ 2000000) :
    Calls Tryz.prog 13 #[va, .int .i64 n] w fun e w' => ∃ v, e = .returned v ∧ Nt w' v (m * 2 ^ n) ∧ Below w.heap.size w w' := by
  obtain ⟨a, cap, rfl, h1, h2, h3⟩ := hma
  have HA := hid h3
  clear h3
  have hlp : 0 < (dg 65536 m).length := by
    rcases Nat.eq_zero_or_pos (dg 65536 m).length with h | h
    · exact absurd ((dg_nil_iff (b := 65536) (by omega)).1 (List.eq_nil_of_length_eq_zero h)) hm
    · exact h
  have hmk := run_make_row' (P := Tryz.prog) 32 3 (.int .i64 0) 8 Tryz.underlying32 info3 rfl .i64 .i64 (n / 16 + (dg 65536 m).length + 1) (by omega) (by omega)
  have ec : ((n / 16 + (dg 65536 m).length + 1 : Nat) : Int) = (n : Int) / 16 + ((dg 65536 m).length : Int) + 1 := by omega
  rw [ec] at hmk
  clear ec
  go_enter Tryz.func13, Tryz.ntmps13
  go_wp2_with fail
  go_loopw [21] (fun y wr => ∃ (i : Nat) (l : List Nat), y = .int .i64 i ∧ i ≤ (dg 65536 m).length ∧ Hid (l.length = n / 16 + (dg 65536 m).length + 1) ∧ BlkN .i64 3 wr w.heap.size l ∧ Hid (∀ d ∈ l, d < 65536) ∧
    l.getD (n / 16 + i) 0 < 2 ^ (n % 16) ∧ Hid (∀ j, n / 16 + i < j → l.getD j 0 = 0) ∧ Hid (val 65536 l = m % 65536 ^ i * 2 ^ n) ∧ Below w.heap.size w wr) (fun y _ => (dg 65536 m).length - (intOf y).toNat)
  case atStart =>
    refine ⟨0, List.replicate (n / 16 + (dg 65536 m).length + 1) 0, rfl, Nat.zero_le _, hid (by simp), blkN_made _ _ _ _, hid (by intro d hd; rw [List.eq_of_mem_replicate hd]; omega), ?_, hid ?_, hid ?_, (Below.refl _ _).alloc (Nat.le_refl _) _⟩
    · rw [rep_getD]; exact Nat.two_pow_pos _
    · intro j _; rw [rep_getD]
    · rw [val_replicate, Nat.pow_zero, Nat.mod_one, Nat.zero_mul]
  case round =>
    obtain ⟨i, l, rfl, hi, hll, hB, hdl, hc, hz, hv, hb⟩ := hrel
    rcases Nat.lt_or_ge i (dg 65536 m).length with hka | hia
    · obtain ⟨b, off, rfl, _, hb3⟩ := HA.out (by omega)
      have hk := hb3 i hka
      clear hb3
      have hx := (hb.cell (World.block_lt_of_cell? w _ hk)).trans hk
      clear hk
      have hxd : (dg 65536 m).getD i 0 = m / 65536 ^ i % 65536 := dg_getD (by omega) m i
      generalize (dg 65536 m).getD i 0 = x at hx hxd
      have hx1 : x < 65536 := by rw [hxd]; exact Nat.mod_lt _ (by omega)
      have HX := hid hxd
      clear hxd
      have hcell := hB.at (i := n / 16 + i) (by rw [hll.out]; omega)
      have hfr := Blk.frozen hB (n / 16 + i)
      have hcell2 := hB.at (i := n / 16 + i + 1) (by rw [hll.out]; omega)
      have hfr2 := Blk.frozen hB (n / 16 + i + 1)
      rw [hz.out _ (by omega)] at hcell2
      have hp0 := pow16_lt n
      have hp1 := Nat.two_pow_pos (n % 16)
      have hp2 : (2 : Int) ^ (n % 16) = ((2 ^ (n % 16) : Nat) : Int) := by simp
      generalize hold : l.getD (n / 16 + i) 0 = c at hcell hc
      have HO := hid hold
      clear hold
      obtain ⟨t, hte⟩ : ∃ t, t = x * 2 ^ (n % 16) := ⟨_, rfl⟩
      have ht1 : t ≤ 65535 * 65535 := by rw [hte]; exact Nat.mul_le_mul (by omega) (by omega)
      have ht2 : wrap64 ((x : Int) * 2 ^ (n % 16)) = (t : Int) := by
        rw [hp2, ← Int.natCast_mul, ← hte]
        exact wrap64_of_le (by omega) (by omega)
      have ht3 : c + t % 65536 < 65536 := by rw [hte]; exact shl_fits hc
      have ht4 : t / 65536 < 2 ^ (n % 16) := by rw [hte]; exact Nat.div_lt_of_lt_mul (Nat.mul_lt_mul_of_pos_right hx1 hp1)
      have HT := hid hte
      clear hte hp2
      go_wp2_with fail
      have HV := hid (shl_step (B := 65536) (l := l) (i := i) (q := n / 16) (c := c) (t := t) (x := x) (m := m) (n := n) (s := n % 16) (by rw [hll.out]; omega) HO.out (hz.out _ (by omega)) HX.out HT.out (pow_16 n) hv.out)
      go_roundw
      case rel =>
        refine ⟨i + 1, (l.set (n / 16 + i) (c + t % 65536)).set (n / 16 + i + 1) (t / 65536), by go_num, by omega, hid (by rw [List.length_set, List.length_set]; exact hll.out), ?_, hid (set_mem (set_mem hdl.out ht3) (by omega)), ?_, hid ?_, hid HV.out, (hb.setCell (Nat.le_refl _) _).setCell (Nat.le_refl _) _⟩
        · have := (BlkN.put hB (n / 16 + i) (c + t % 65536)).put (n / 16 + i + 1) (t / 65536)
          simpa using this
        · have e : n / 16 + (i + 1) = n / 16 + i + 1 := by omega
          rw [e, List.getD_eq_getElem?_getD, List.getElem?_set_self (by rw [List.length_set, hll.out]; omega)]
          exact ht4
        · intro j hj
          rw [set_far (by omega), set_far (by omega)]; exact hz.out j (by omega)
      case measure => simp [intOf]; omega
    · obtain rfl : i = (dg 65536 m).length := by omega
      have hR2 := BlkN.rt hB (cap := l.length) (Nat.le_refl _) (by rw [hll.out]; omega)
      rw [hll.out] at hR2
      go_wp2_with fail
      refine (trim_any _ _ _ hR2).mono ?_
      rintro e w1 ⟨v', rfl, hv', rfl⟩
      go_wp2_with fail
      go_ret
      refine ⟨_, rfl, ?_, hb⟩
      have h1 := hv.out
      rw [mod_len (by omega) (Nat.le_refl _)] at h1
      rw [trim_eq (by omega) hdl.out, h1] at hv'
      exact hv'
theorem shl_any (va : Value) (m n : Nat) (w : World) (hma : Nt w va m) (hla : (dg 65536 m).length ≤ 100000) (hn : n ≤ 2000000) :
    Calls Tryz.prog 13 #[va, .int .i64 n] w fun e w' => ∃ v, e = .returned v ∧ Nt w' v (m * 2 ^ n) ∧ Below w.heap.size w w' := by
  rcases Nat.eq_zero_or_pos m with rfl | h
  · refine (shl_zero va n w hma).mono ?_
    rintro e w' ⟨rfl, rfl⟩
    refine ⟨_, rfl, ?_, Below.refl _ _⟩
    rw [Nat.zero_mul]; exact hma
  · exact shl_pos va m n w hma (Nat.ne_of_gt h) hla hn
end Go.Proofs.YtdhgdachchhflaaGreatDoor
namespace Go.Proofs.YtdhgdachchhflaaGreatDoor
open Go.RowKit Go.Dig
set_option maxRecDepth 100000
theorem below_next {w wr w1 : World} (h : Below w.heap.size w wr) (h1 : Below wr.heap.size wr w1) : Below w.heap.size w w1 := h.trans (h1.mono h.size)
theorem blen_dg {m k : Nat} (h : (dg 65536 m).length ≤ k) : blen m ≤ 16 * k := by
  apply blen_le
  have h1 := lt_pow_dg_length (b := 65536) (by omega) m
  have e : (65536 : Nat) = 2 ^ 16 := rfl
  rw [Nat.pow_mul, ← e]
  exact Nat.lt_of_lt_of_le h1 (Nat.pow_le_pow_right (by omega) h)
set_option maxHeartbeats 1000000 in
theorem divmod_one (va vb : Value) (m n : Nat) (w : World) (hma : Nt w va m) (hmb : Nt w vb n) (hla : (dg 65536 m).length ≤ 100000) (hn : n ≠ 0) (hlb : (dg 65536 n).length = 1) :
    Calls Tryz.prog 32 #[va, vb] w fun e w' => ∃ v v', e = .returned (.tuple #[v, v']) ∧ Nt w' v (m / n) ∧ Nt w' v' (m % n) ∧ Below w.heap.size w w' := by
  have HB := hid hmb
  have hn1 : n < 65536 := by
    have := lt_pow_dg_length (b := 65536) (by omega) n
    rw [hlb] at this; omega
  obtain ⟨a2, cap2, rfl, h12, h22, h32⟩ := hmb
  obtain ⟨b, off, rfl, _, hb3⟩ := h32 (by omega)
  have hk := hb3 0 (by omega)
  have hd : (dg 65536 n).getD 0 0 = n := by
    rw [dg_getD (by omega), Nat.pow_zero, Nat.div_one]
    exact Nat.mod_eq_of_lt hn1
  rw [hd] at hk
  rw [hlb] at *
  simp only [Nat.add_zero] at hk
  go_enter Tryz.func32, Tryz.ntmps32
  go_wp2_with fail
  refine (byDigit_any va m n w hma (by omega) hn1 hla).mono ?_
  rintro e w1 ⟨v, rfl, hv, hb1⟩
  go_wp2_with fail
  refine (small_any (m % n) w1 (by have := Nat.mod_lt m (show n > 0 by omega); omega)).mono ?_
  rintro e w2 ⟨v2, rfl, hv2, hb2⟩
  go_wp2_with fail
  go_ret2
  exact ⟨_, _, rfl, hv.below hb2 (Nat.le_refl _), hv2, below_next hb1 hb2⟩
theorem divmod_start {m n : Nat} (hn : n ≠ 0) : m < n * 2 ^ ((blen m : Int) - (blen n : Int) + 1).toNat := by
  have h1 := blen_lt m
  have h2 : 2 ^ (blen n - 1) ≤ n := blen_ge (by have := blen_pos hn; omega)
  have h3 : 2 ^ blen m ≤ 2 ^ (blen n - 1) * 2 ^ ((blen m : Int) - (blen n : Int) + 1).toNat := by
    rw [← Nat.pow_add]
    exact Nat.pow_le_pow_right (by omega) (by have := blen_pos hn; omega)
  exact Nat.lt_of_lt_of_le h1 (Nat.le_trans h3 (Nat.mul_le_mul_right _ h2))
theorem divmod_end {m n Q r : Nat} (h : m = Q * n + r) (hr : r < n) : m / n = Q ∧ m % n = r := by
  rw [h, Nat.mul_comm]
  refine ⟨?_, ?_⟩
  · rw [Nat.mul_add_div (by omega), Nat.div_eq_of_lt hr, Nat.add_zero]
  · rw [Nat.mul_add_mod, Nat.mod_eq_of_lt hr]
theorem bit_len {m i k : Nat} (h : (i : Int) < blen m) (hl : (dg 65536 m).length ≤ k) : (dg 65536 (2 ^ i)).length ≤ k :=
  Nat.le_trans (dg_length_mono (by omega) (blen_ge (by omega))) hl
set_option maxHeartbeats 1000000 in
theorem divmod_big (va vb : Value) (m n : Nat) (w : World) (hma : Nt w va m) (hmb : Nt w vb n) (hla : (dg 65536 m).length ≤ 100000) (hlb' : (dg 65536 n).length ≤ 100000) (hlb : 1 < (dg 65536 n).length) :
    Calls Tryz.prog 32 #[va, vb] w fun e w' => ∃ v v', e = .returned (.tuple #[v, v']) ∧ Nt w' v (m / n) ∧ Nt w' v' (m % n) ∧ Below w.heap.size w w' := by
  have hbm : blen m ≤ 1600000 := blen_dg hla
  have hbn : blen n ≤ 1600000 := blen_dg hlb'
  have hn0 : n ≠ 0 := by intro h; rw [h, dg_zero] at hlb; simp at hlb
  have hbp := blen_pos hn0
  have HA := hid hma
  have HB := hid hmb
  obtain ⟨a2, cap2, eb⟩ := hmb.shape
  obtain ⟨a1, cap1, ea⟩ := hma.shape
  go_enter Tryz.func32, Tryz.ntmps32
  subst eb ea
  have hA2 : Nt (w.alloc (.cells #[] 3)) _ m := HA.out.below ((Below.refl _ _).alloc (Nat.le_refl _) _) (Nat.le_refl _)
  have hB2 : Nt (w.alloc (.cells #[] 3)) _ n := HB.out.below ((Below.refl _ _).alloc (Nat.le_refl _) _) (Nat.le_refl _)
  go_wp2_with fail
  refine (len_any _ m _ hA2 hla).mono ?_
  rintro e w' ⟨rfl, rfl⟩
  go_wp2_with fail
  refine (len_any _ n _ hB2 hlb').mono ?_
  rintro e w' ⟨rfl, rfl⟩
  go_wp2_with fail
  go_loopw [0, 8, 9] (fun x y z wr => ∃ (r Q : Nat) (yi : Int), z = .int .i64 yi ∧ yi < blen m ∧ -2000000 ≤ yi ∧ Hid (Nt wr x r) ∧ Hid (Nt wr y Q) ∧ Hid (m = Q * n + r) ∧ Hid (r < n * 2 ^ (yi + 1).toNat) ∧ Below w.heap.size w wr) (fun _ _ z _ => (intOf z + 1).toNat)
  case atStart =>
    refine ⟨m, 0, _, rfl, by omega, by omega, hid hA2, hid ⟨_, 0, by rw [dg_zero]; rfl, by rw [dg_zero]; simp, by omega, fun h => by rw [dg_zero] at h; simp at h⟩, hid (by omega), hid (divmod_start hn0), (Below.refl _ _).alloc (Nat.le_refl _) _⟩
  case round =>
    obtain ⟨r, Q, yi, rfl, hy1, hy2, hR, hQ, hm, hr, hb⟩ := hrel
    rcases Int.lt_or_le yi 0 with hyn | hyn
    · go_wp2_with fail
      go_ret2
      have e0 : (yi + 1).toNat = 0 := by omega
      have hr2 := hr.out
      rw [e0, Nat.pow_zero, Nat.mul_one] at hr2
      obtain ⟨e1, e2⟩ := divmod_end hm.out hr2
      rw [e1, e2]
      exact ⟨_, _, rfl, hQ, hR, hb⟩
    · obtain ⟨i, rfl⟩ : ∃ i : Nat, yi = i := ⟨yi.toNat, by omega⟩
      have hBr : Nt wr _ n := HB.out.below hb (Nat.le_refl _)
      go_wp2_with fail
      refine (shl_any _ n i wr hBr hlb' (by omega)).mono ?_
      rintro e w1 ⟨d, rfl, hd, hb1⟩
      obtain ⟨ad, cd, ed⟩ := hd.shape
      subst ed
      have hD := hid hd
      clear hd
      have hR1 : Hid (Nt w1 _ r) := hR.out.below hb1 (Nat.le_refl _)
      have hQ1 : Hid (Nt w1 _ Q) := hQ.out.below hb1 (Nat.le_refl _)
      have hb2 := below_next hb hb1
      clear hR hQ hBr hb hb1
      go_wp2_with fail
      refine (cmp_any _ _ _ _ w1 hD.out hR1.out).mono ?_
      rintro e w2 ⟨k, rfl, rfl⟩
      have hb3 := hb2.drewN k
      have hR2 : Hid (Nt (w1.drewN k) _ r) := hR1.out.below (below_drewN' k) (Nat.le_refl _)
      have hQ2 : Hid (Nt (w1.drewN k) _ Q) := hQ1.out.below (below_drewN' k) (Nat.le_refl _)
      have hD2 : Hid (Nt (w1.drewN k) _ (n * 2 ^ i)) := hD.out.below (below_drewN' k) (Nat.le_refl _)
      clear hb2 hR1 hQ1 hD
      generalize w1.drewN k = wq at *
      rcases Nat.lt_or_ge r (n * 2 ^ i) with hlt | hge
      · have hc : cmpI (n * 2 ^ i) r = 1 := by rw [cmpI, if_neg (by omega), if_neg (by omega)]
        rw [hc]
        go_wp2_with fail
        go_roundw
        case rel =>
          exact ⟨r, Q, (i : Int) - 1, by go_num, by omega, by omega, hR2, hQ2, hm, hid (by rw [show ((i : Int) - 1 + 1).toNat = i by omega]; exact hlt), hb3⟩
        case measure => simp [intOf]
      · have hc : ∃ z, cmpI (n * 2 ^ i) r = z ∧ z ≤ 0 := ⟨_, rfl, by rw [cmpI]; split <;> (try split) <;> omega⟩
        obtain ⟨z, hz, hz0⟩ := hc
        rw [hz]
        clear hz
        have hrm : r ≤ m := by have := hm.out; omega
        have hQm : Q ≤ m := by
          have := hm.out
          have := Nat.le_mul_of_pos_right Q (Nat.pos_of_ne_zero hn0)
          omega
        go_wp2_with fail
        refine (sub_any _ _ r (n * 2 ^ i) wq hR2.out hD2.out (Nat.le_trans (dg_length_mono (by omega) hrm) hla) hge).mono ?_
        rintro e w3 ⟨r', rfl, hr', hb4⟩
        obtain ⟨ar, cr, er⟩ := hr'.shape
        subst er
        have hR3 := hid hr'
        have hQ3 : Hid (Nt w3 _ Q) := hQ2.out.below hb4 (Nat.le_refl _)
        have hb5 := below_next hb3 hb4
        clear hr' hQ2 hR2 hD2 hb4 hb3
        go_wp2_with fail
        refine (bit_any i w3 (by omega)).mono ?_
        rintro e w4 ⟨bt, rfl, hbt, hb6⟩
        have hR4 : Hid (Nt w4 _ (r - n * 2 ^ i)) := hR3.out.below hb6 (Nat.le_refl _)
        have hQ4 : Hid (Nt w4 _ Q) := hQ3.out.below hb6 (Nat.le_refl _)
        have hb7 := below_next hb5 hb6
        have hB4 := hid hbt
        clear hbt hQ3 hR3 hb5 hb6
        go_wp2_with fail
        refine (add_any _ _ Q (2 ^ i) w4 hQ4.out hB4.out (Nat.le_trans (dg_length_mono (by omega) hQm) hla) (bit_len hy1 hla)).mono ?_
        rintro e w5 ⟨q', rfl, hq', hb8⟩
        obtain ⟨aq, cq, eq⟩ := hq'.shape
        subst eq
        have hR5 : Hid (Nt w5 _ (r - n * 2 ^ i)) := hR4.out.below hb8 (Nat.le_refl _)
        have hQ5 := hid hq'
        have hb9 := below_next hb7 hb8
        clear hR4 hQ4 hB4 hq' hb8 hb7
        go_wp2_with fail
        go_roundw
        case rel =>
          refine ⟨r - n * 2 ^ i, Q + 2 ^ i, (i : Int) - 1, by go_num, by omega, by omega, hR5, hQ5, hid ?_, hid ?_, hb9⟩
          · have := hm.out
            rw [Nat.add_mul, Nat.mul_comm (2 ^ i)]; omega
          · rw [show ((i : Int) - 1 + 1).toNat = i by omega]
            have := hr.out
            rw [show ((i : Int) + 1).toNat = i + 1 by omega, Nat.pow_succ, ← Nat.mul_assoc] at this
            omega
        case measure => simp [intOf]
theorem divmod_any (va vb : Value) (m n : Nat) (w : World) (hma : Nt w va m) (hmb : Nt w vb n) (hla : (dg 65536 m).length ≤ 100000) (hlb : (dg 65536 n).length ≤ 100000) (hn : n ≠ 0) :
    Calls Tryz.prog 32 #[va, vb] w fun e w' => ∃ v v', e = .returned (.tuple #[v, v']) ∧ Nt w' v (m / n) ∧ Nt w' v' (m % n) ∧ Below w.heap.size w w' := by
  rcases Nat.lt_trichotomy (dg 65536 n).length 1 with h | h | h
  · exact absurd ((dg_nil_iff (b := 65536) (by omega)).1 (List.eq_nil_of_length_eq_zero (by omega))) hn
  · exact divmod_one va vb m n w hma hmb hla hn h
  · exact divmod_big va vb m n w hma hmb hla hlb h
end Go.Proofs.YtdhgdachchhflaaGreatDoor
namespace Go.Proofs.YtdhgdachchhflaaGreatDoor
open Go.RowKit Go.Dig
set_option maxRecDepth 100000
theorem nt_unique {w : World} {v : Value} {m n : Nat} (h1 : Nt w v m) (h2 : Nt w v n) : m = n := by
  obtain ⟨a, cap, rfl, _, _, h13⟩ := h1
  obtain ⟨a2, cap2, e, _, _, h23⟩ := h2
  injection e with e1 e2 e3
  subst e1
  apply dg_inj (b := 65536) (by omega)
  apply List.ext_getElem e2
  intro i hi1 hi2
  obtain ⟨b, off, rfl, _, hc⟩ := h13 (by omega)
  obtain ⟨b2, off2, eb, _, hc2⟩ := h23 (by omega)
  injection eb with eb
  injection eb with eb1 eb2 eb3
  subst eb1 eb2
  have k1 := hc i hi1
  have k2 := hc2 i hi2
  rw [k1] at k2
  have k3 : ((dg 65536 m)[i] : Int) = ((dg 65536 n)[i] : Int) := by simpa [hi1, hi2] using k2
  omega
/-- The number that a slice reads as. -/
noncomputable def ntOf (w : World) (v : Value) : Nat := Classical.epsilon fun n => Nt w v n
theorem ntOf_eq {w : World} {v : Value} {n : Nat} (h : Nt w v n) : ntOf w v = n :=
  nt_unique (Classical.epsilon_spec (p := fun n => Nt w v n) ⟨n, h⟩) h
set_option maxHeartbeats 1000000 in
theorem gcd_any (va vb : Value) (m n : Nat) (w : World) (hma : Nt w va m) (hmb : Nt w vb n) (hla : (dg 65536 m).length ≤ 100000) (hlb : (dg 65536 n).length ≤ 100000) :
    Calls Tryz.prog 31 #[va, vb] w fun e w' => ∃ v, e = .returned v ∧ Nt w' v (Nat.gcd m n) ∧ Below w.heap.size w w' := by
  obtain ⟨a2, cap2, eb⟩ := hmb.shape
  obtain ⟨a1, cap1, ea⟩ := hma.shape
  subst eb ea
  have HA := hid hma
  have HB := hid hmb
  clear hma hmb
  go_enter Tryz.func31, Tryz.ntmps31
  go_wp2_with fail
  go_loopw [0, 1] (fun x y wr => ∃ (p q : Nat), Hid (Nt wr x p) ∧ Hid (Nt wr y q) ∧ Hid (Nat.gcd p q = Nat.gcd m n) ∧ (dg 65536 p).length ≤ 100000 ∧ (dg 65536 q).length ≤ 100000 ∧ Below w.heap.size w wr) (fun _ y wr => ntOf wr y)
  case atStart => exact ⟨m, n, HA, HB, hid rfl, hla, hlb, Below.refl _ _⟩
  case round =>
    obtain ⟨p, q, hp, hq, hg, hlp, hlq, hb⟩ := hrel
    obtain ⟨ap, cp, rfl⟩ := hp.out.shape
    obtain ⟨aq, cq, rfl⟩ := hq.out.shape
    rcases Nat.eq_zero_or_pos q with rfl | hq0
    · have e0 : (dg 65536 0).length = 0 := by rw [dg_zero]; rfl
      rw [e0] at *
      go_wp2_with fail
      go_ret
      refine ⟨_, rfl, ?_, hb⟩
      have := hg.out
      rw [Nat.gcd_zero_right] at this
      rw [← this]; exact hp.out
    · have hl0 : 0 < (dg 65536 q).length := by
        rcases Nat.eq_zero_or_pos (dg 65536 q).length with h | h
        · exact absurd ((dg_nil_iff (b := 65536) (by omega)).1 (List.eq_nil_of_length_eq_zero h)) (by omega)
        · exact h
      go_wp2_with fail
      refine (divmod_any _ _ p q wr hp.out hq.out hlp hlq (by omega)).mono ?_
      rintro e w1 ⟨v, v', rfl, hv, hv', hb1⟩
      obtain ⟨av, cv, rfl⟩ := hv.shape
      obtain ⟨av', cv', rfl⟩ := hv'.shape
      have hV := hid hv'
      have hq1 : Hid (Nt w1 _ q) := hq.out.below hb1 (Nat.le_refl _)
      have hb2 := below_next hb hb1
      have hlt := Nat.mod_lt p hq0
      have hM := hid (ntOf_eq hq.out)
      have hM2 := hid (ntOf_eq hv')
      clear hv hv' hp hq hb hb1
      go_wp2_with fail
      go_roundw
      case rel =>
        refine ⟨q, p % q, hq1, hV, hid ?_, hlq, Nat.le_trans (dg_length_mono (by omega) (Nat.le_of_lt hlt)) hlq, hb2⟩
        have := hg.out
        rw [← this, Nat.gcd_comm p q, Nat.gcd_rec q p, Nat.gcd_comm]
      case measure => rw [hM.out, hM2.out]; exact hlt
end Go.Proofs.YtdhgdachchhflaaGreatDoor
namespace Go.Proofs.YtdhgdachchhflaaGreatDoor
open Go.RowKit Go.Dig
set_option maxRecDepth 100000
theorem div_len {m k : Nat} (g : Nat) (h : (dg 65536 m).length ≤ k) : (dg 65536 (m / g)).length ≤ k := Nat.le_trans (dg_length_mono (by omega) (Nat.div_le_self _ _)) h
theorem over_core (neg : Bool) (va vb : Value) (m n : Nat) (w : World) (hma : Nt w va m) (hmb : Nt w vb n) (hla : (dg 65536 m).length ≤ 100000) (hlb : (dg 65536 n).length ≤ 100000) (hn : n ≠ 0) :
    Calls Tryz.prog 12 #[.bool neg, va, vb] w fun e w' => ∃ v1 v2, e = .returned (.agg #[.bool (neg && decide (0 < (dg 65536 m).length)), v1, v2]) ∧ Nt w' v1 (m / Nat.gcd m n) ∧ Nt w' v2 (n / Nat.gcd m n) ∧ Below w.heap.size w w' := by
  obtain ⟨a2, cap2, eb⟩ := hmb.shape
  obtain ⟨a1, cap1, ea⟩ := hma.shape
  subst eb ea
  have HA := hid hma
  have HB := hid hmb
  have hg0 : Nat.gcd m n ≠ 0 := fun h => hn (Nat.eq_zero_of_gcd_eq_zero_right h)
  have hgl : (dg 65536 (Nat.gcd m n)).length ≤ 100000 := Nat.le_trans (dg_length_mono (by omega) (Nat.gcd_le_right m (by omega))) hlb
  clear hma hmb
  cases neg
  all_goals
    go_enter Tryz.func12, Tryz.ntmps12
    go_wp2_with fail
    have hbA : Below w.heap.size w (w.alloc (.cells #[.bool false, .slice none 0 0, .slice none 0 0] 34)) := (Below.refl _ _).alloc (Nat.le_refl _) _
    have hB0 := blk_new w #[.bool false, .slice none 0 0, .slice none 0 0] 34
    generalize w.alloc (.cells #[.bool false, .slice none 0 0, .slice none 0 0] 34) = w0 at *
    have HA0 : Hid (Nt w0 _ m) := HA.out.below hbA (Nat.le_refl _)
    have HN0 : Hid (Nt w0 _ n) := HB.out.below hbA (Nat.le_refl _)
    refine (gcd_any _ _ m n w0 HA0.out HN0.out hla hlb).mono ?_
    rintro e w1 ⟨vg, rfl, hvg, hb1⟩
    obtain ⟨ag, cg, rfl⟩ := hvg.shape
    have HG := hid hvg
    have HA1 : Hid (Nt w1 _ m) := HA0.out.below hb1 (Nat.le_refl _)
    have HN1 : Hid (Nt w1 _ n) := HN0.out.below hb1 (Nat.le_refl _)
    have hB1 := hB0.below hb1 hB0.lt
    have hbB := below_next hbA hb1
    clear hvg HA0 HN0 hB0 hbA hb1
    go_wp2_with fail
    refine (divmod_any _ _ m _ w1 HA1.out HG.out hla hgl hg0).mono ?_
    rintro e w2 ⟨va1, va2, rfl, hva1, hva2, hb2⟩
    obtain ⟨b1, d1, rfl⟩ := hva1.shape
    obtain ⟨b2, d2, rfl⟩ := hva2.shape
    have HQ := hid hva1
    have HG2 : Hid (Nt w2 _ (Nat.gcd m n)) := HG.out.below hb2 (Nat.le_refl _)
    have HN2 : Hid (Nt w2 _ n) := HN1.out.below hb2 (Nat.le_refl _)
    have hB2 := hB1.below hb2 hB1.lt
    have hbC := below_next hbB hb2
    clear hva1 hva2 HA1 HG HN1 hB1 hbB hb2
    go_wp2_with fail
    refine (divmod_any _ _ n _ w2 HN2.out HG2.out hlb hgl hg0).mono ?_
    rintro e w3 ⟨vb1, vb2, rfl, hvb1, hvb2, hb3⟩
    obtain ⟨b3, d3, rfl⟩ := hvb1.shape
    obtain ⟨b4, d4, rfl⟩ := hvb2.shape
    have HD := hid hvb1
    have HQ3 : Hid (Nt w3 _ (m / Nat.gcd m n)) := HQ.out.below hb3 (Nat.le_refl _)
    have hB3 := hB2.below hb3 hB2.lt
    have hbD := below_next hbC hb3
    obtain ⟨q0, q1, q2, q3, q4, q5⟩ := hB3.three
    clear hvb1 hvb2 HQ HG2 HN2 hB2 hbC hb3
    go_wp2_with fail
  · refine bodyPost_ret (v := .agg #[.bool false, .slice b1 (dg 65536 (m / m.gcd n)).length d1, .slice b3 (dg 65536 (n / m.gcd n)).length d3]) (by simp [results, Tryz.results12, go_sem, q0, q1, q2]) rfl ⟨_, _, rfl, ?_, ?_, ?_⟩
    · exact HQ3.out.set3 hB3 (by decide) _ _ _
    · exact HD.out.set3 hB3 (by decide) _ _ _
    · exact below_set3 hbD (Nat.le_refl _) _ _ _
  · refine bodyPost_ret (v := .agg #[.bool (decide (0 < (dg 65536 m).length)), .slice b1 (dg 65536 (m / m.gcd n)).length d1, .slice b3 (dg 65536 (n / m.gcd n)).length d3]) (by simp [results, Tryz.results12, go_sem, q0, q1, q2]) rfl ⟨_, _, by rw [Bool.true_and], ?_, ?_, ?_⟩
    · exact HQ3.out.set3 hB3 (by decide) _ _ _
    · exact HD.out.set3 hB3 (by decide) _ _ _
    · exact below_set3 hbD (Nat.le_refl _) _ _ _
theorem over_any (neg : Bool) (va vb : Value) (m n : Nat) (w : World) (hma : Nt w va m) (hmb : Nt w vb n) (hla : (dg 65536 m).length ≤ 100000) (hlb : (dg 65536 n).length ≤ 100000) (hn : n ≠ 0) :
    Calls Tryz.prog 12 #[.bool neg, va, vb] w fun e w' => ∃ v1 v2, e = .returned (.agg #[.bool (neg && decide (m ≠ 0)), v1, v2]) ∧ Nt w' v1 (m / Nat.gcd m n) ∧ Nt w' v2 (n / Nat.gcd m n) ∧ Below w.heap.size w w' := by
  rw [← dg_len_pos]
  exact over_core neg va vb m n w hma hmb hla hlb hn
end Go.Proofs.YtdhgdachchhflaaGreatDoor

namespace Go.Proofs.YtdhgdachchhflaaGreatDoor
open Go.RowKit Go.Dig
set_option maxRecDepth 100000
/-- A fraction, told by its sign, its numerator and its denominator. -/
def Ra (w : World) (v : Value) (s : Bool) (n d : Nat) : Prop := ∃ v1 v2, v = .agg #[.bool s, v1, v2] ∧ Nt w v1 n ∧ Nt w v2 d
theorem Ra.below {w w' : World} {v : Value} {s : Bool} {n d B : Nat} (h : Ra w v s n d) (hb : Below B w w') (hB : w.heap.size ≤ B) : Ra w' v s n d := by
  obtain ⟨v1, v2, e, h1, h2⟩ := h
  exact ⟨v1, v2, e, h1.below hb hB, h2.below hb hB⟩
theorem mul_len {m n j k : Nat} (h1 : (dg 65536 m).length ≤ j) (h2 : (dg 65536 n).length ≤ k) : (dg 65536 (m * n)).length ≤ j + k := by
  apply dg_length_le (by omega)
  have e1 := Nat.lt_of_lt_of_le (lt_pow_dg_length (b := 65536) (by omega) m) (Nat.pow_le_pow_right (by omega) h1)
  have e2 := Nat.lt_of_lt_of_le (lt_pow_dg_length (b := 65536) (by omega) n) (Nat.pow_le_pow_right (by omega) h2)
  rw [Nat.pow_add]
  exact Nat.mul_lt_mul'' e1 e2
theorem add_len {m n k : Nat} (h1 : (dg 65536 m).length ≤ k) (h2 : (dg 65536 n).length ≤ k) : (dg 65536 (m + n)).length ≤ k + 1 := by
  apply dg_length_le (by omega)
  have e1 := Nat.lt_of_lt_of_le (lt_pow_dg_length (b := 65536) (by omega) m) (Nat.pow_le_pow_right (by omega) h1)
  have e2 := Nat.lt_of_lt_of_le (lt_pow_dg_length (b := 65536) (by omega) n) (Nat.pow_le_pow_right (by omega) h2)
  rw [Nat.pow_succ]; omega
theorem over_ra (neg : Bool) (va vb : Value) (m n : Nat) (w : World) (hma : Nt w va m) (hmb : Nt w vb n) (hla : (dg 65536 m).length ≤ 100000) (hlb : (dg 65536 n).length ≤ 100000) (hn : n ≠ 0) :
    Calls Tryz.prog 12 #[.bool neg, va, vb] w fun e w' => ∃ v, e = .returned v ∧ Ra w' v (decide (sgn neg m < 0)) (m / Nat.gcd m n) (n / Nat.gcd m n) ∧ Below w.heap.size w w' := by
  refine (over_any neg va vb m n w hma hmb hla hlb hn).mono ?_
  rintro e w' ⟨v1, v2, rfl, h1, h2, hb⟩
  refine ⟨_, rfl, ⟨v1, v2, ?_, h1, h2⟩, hb⟩
  have : (neg && decide (m ≠ 0)) = decide (sgn neg m < 0) := by
    cases neg
    · simp [sgn]
    · rw [Bool.true_and, sgn, if_pos rfl, decide_eq_decide]; omega
  rw [this]
theorem sgn_true (n : Nat) : sgn true n = -(n : Int) := rfl
theorem sgn_false (n : Nat) : sgn false n = (n : Int) := rfl
theorem over_bz (neg : Bool) (va vb : Value) (m n : Nat) (w : World) (hma : Nt w va m) (hmb : Nt w vb n) (hla : (dg 65536 m).length ≤ 100000) (hlb : (dg 65536 n).length ≤ 100000) (hn : n ≠ 0) :
    Calls Tryz.prog 12 #[.bool neg, va, vb] w fun e w' => ∃ bz v1 v2, e = .returned (.agg #[.bool bz, v1, v2]) ∧ Hid (bz = decide (sgn neg m < 0)) ∧ Nt w' v1 (m / Nat.gcd m n) ∧ Nt w' v2 (n / Nat.gcd m n) ∧ Below w.heap.size w w' := by
  refine (over_any neg va vb m n w hma hmb hla hlb hn).mono ?_
  rintro e w' ⟨v1, v2, rfl, h1, h2, hb⟩
  have : (neg && decide (m ≠ 0)) = decide (sgn neg m < 0) := by
    cases neg
    · simp [sgn]
    · rw [Bool.true_and, sgn, if_pos rfl, decide_eq_decide]; omega
  exact ⟨_, v1, v2, rfl, this, h1, h2, hb⟩
/-- Three structs of three cells stand at the start's end, the first two known, and all else of the start too. -/
def Tb (w : World) (x0 x1 x2 y0 y1 y2 : Value) (w' : World) : Prop :=
  Blk w' w.heap.size #[x0, x1, x2] 34 ∧ Blk w' (w.heap.size + 1) #[y0, y1, y2] 34 ∧ (∃ z0 z1 z2, Blk w' (w.heap.size + 1 + 1) #[z0, z1, z2] 34) ∧ Below w.heap.size w w'
/-- The cells of the two structs that a region reads; and that they stand. -/
def Sp (w : World) (x0 x1 x2 y0 y1 y2 : Value) (w' : World) : Prop :=
  w'.cell? ⟨w.heap.size, 1, none⟩ = some x1 ∧ w'.cell? ⟨w.heap.size, 2, none⟩ = some x2 ∧ w'.cell? ⟨w.heap.size + 1, 1, none⟩ = some y1 ∧ w'.cell? ⟨w.heap.size + 1, 2, none⟩ = some y2 ∧ Tb w x0 x1 x2 y0 y1 y2 w'
def Sz (w : World) (x0 x1 x2 y0 y1 y2 : Value) (w' : World) : Prop :=
  w'.cell? ⟨w.heap.size, 0, none⟩ = some x0 ∧ w'.cell? ⟨w.heap.size + 1, 0, none⟩ = some y0 ∧ Tb w x0 x1 x2 y0 y1 y2 w'
section
variable {w ww w1 : World} {x0 x1 x2 y0 y1 y2 : Value}
theorem sp_of (h : Tb w x0 x1 x2 y0 y1 y2 ww) : Sp w x0 x1 x2 y0 y1 y2 ww := ⟨h.1.cell 1, h.1.cell 2, h.2.1.cell 1, h.2.1.cell 2, h⟩
theorem sz_of (h : Tb w x0 x1 x2 y0 y1 y2 ww) : Sz w x0 x1 x2 y0 y1 y2 ww := ⟨h.1.cell 0, h.2.1.cell 0, h⟩
theorem tb_next (hb : Below ww.heap.size ww w1) (h : Tb w x0 x1 x2 y0 y1 y2 ww) : Tb w x0 x1 x2 y0 y1 y2 w1 := by
  obtain ⟨h1, h2, ⟨z0, z1, z2, h3⟩, h4⟩ := h
  exact ⟨h1.below hb h1.lt, h2.below hb h2.lt, ⟨z0, z1, z2, h3.below hb h3.lt⟩, below_next h4 hb⟩
theorem tb_drew (h : Tb w x0 x1 x2 y0 y1 y2 ww) : Tb w x0 x1 x2 y0 y1 y2 ww.drew := tb_next (below_drewN' 1) h
theorem blk_far {b b2 : Nat} {c : Array Value} {t : TypeId} (h : Blk ww b c t) (hne : b2 ≠ b) (i : Nat) (v : Value) : Blk (ww.setCell ⟨b2, i, none⟩ v) b c t := by
  unfold Blk at *
  simp only [World.setCell, Array.getElem?_modify, if_neg hne, h]
theorem tb_set3 (h : Tb w x0 x1 x2 y0 y1 y2 ww) (u0 u1 u2 : Value) :
    Tb w x0 x1 x2 y0 y1 y2 (((ww.setCell ⟨w.heap.size + 1 + 1, 0, none⟩ u0).setCell ⟨w.heap.size + 1 + 1, 1, none⟩ u1).setCell ⟨w.heap.size + 1 + 1, 2, none⟩ u2) := by
  obtain ⟨h1, h2, ⟨z0, z1, z2, h3⟩, h4⟩ := h
  refine ⟨blk_far (blk_far (blk_far h1 (by omega) _ _) (by omega) _ _) (by omega) _ _, blk_far (blk_far (blk_far h2 (by omega) _ _) (by omega) _ _) (by omega) _ _, ⟨u0, u1, u2, ?_⟩, below_set3 h4 (by omega) _ _ _⟩
  exact ((h3.set 0 u0).set 1 u1).set 2 u2
theorem sp_below (h : Sp w x0 x1 x2 y0 y1 y2 ww) : Below w.heap.size w ww := h.2.2.2.2.2.2.2
theorem sp_next (hb : Below ww.heap.size ww w1) (h : Sp w x0 x1 x2 y0 y1 y2 ww) : Sp w x0 x1 x2 y0 y1 y2 w1 := sp_of (tb_next hb h.2.2.2.2)
theorem sz_next (hb : Below ww.heap.size ww w1) (h : Sz w x0 x1 x2 y0 y1 y2 ww) : Sz w x0 x1 x2 y0 y1 y2 w1 := sz_of (tb_next hb h.2.2)
theorem sz_set3 (h : Sz w x0 x1 x2 y0 y1 y2 ww) (u0 u1 u2 : Value) :
    Sz w x0 x1 x2 y0 y1 y2 (((ww.setCell ⟨w.heap.size + 1 + 1, 0, none⟩ u0).setCell ⟨w.heap.size + 1 + 1, 1, none⟩ u1).setCell ⟨w.heap.size + 1 + 1, 2, none⟩ u2) := sz_of (tb_set3 h.2.2 u0 u1 u2)
end
theorem three_alloc (w : World) (x0 x1 x2 y0 y1 y2 z0 z1 z2 : Value) :
    Tb w x0 x1 x2 y0 y1 y2 (((w.alloc (.cells #[x0, x1, x2] 34)).alloc (.cells #[y0, y1, y2] 34)).alloc (.cells #[z0, z1, z2] 34)) := by
  refine ⟨((blk_new w _ 34).alloc _).alloc _, ?_, ⟨z0, z1, z2, ?_⟩, (((Below.refl _ _).alloc (Nat.le_refl _) _).alloc (by simp) _).alloc (by simp; omega) _⟩
  · have := (blk_new (w.alloc (.cells #[x0, x1, x2] 34)) #[y0, y1, y2] 34).alloc (.cells #[z0, z1, z2] 34)
    simpa using this
  · have := blk_new ((w.alloc (.cells #[x0, x1, x2] 34)).alloc (.cells #[y0, y1, y2] 34)) #[z0, z1, z2] 34
    simpa using this
end Go.Proofs.YtdhgdachchhflaaGreatDoor

namespace Go.Proofs.YtdhgdachchhflaaGreatDoor
open Go.RowKit Go.Dig
set_option maxRecDepth 100000
abbrev Sx (w : World) (x0 x1 x2 y0 y1 y2 : Value) (w' : World) : Prop :=
  w'.cell? ⟨w.heap.size, 0, none⟩ = some x0 ∧ w'.cell? ⟨w.heap.size, 1, none⟩ = some x1 ∧ w'.cell? ⟨w.heap.size, 2, none⟩ = some x2 ∧ w'.cell? ⟨w.heap.size + 1, 0, none⟩ = some y0 ∧ w'.cell? ⟨w.heap.size + 1, 1, none⟩ = some y1 ∧ w'.cell? ⟨w.heap.size + 1, 2, none⟩ = some y2 ∧ Tb w x0 x1 x2 y0 y1 y2 w'
section
variable {w ww w1 : World} {x0 x1 x2 y0 y1 y2 : Value}
theorem sx_of (h : Tb w x0 x1 x2 y0 y1 y2 ww) : Sx w x0 x1 x2 y0 y1 y2 ww := ⟨h.1.cell 0, h.1.cell 1, h.1.cell 2, h.2.1.cell 0, h.2.1.cell 1, h.2.1.cell 2, h⟩
theorem sx_below (h : Sx w x0 x1 x2 y0 y1 y2 ww) : Below w.heap.size w ww := h.2.2.2.2.2.2.2.2.2
theorem sx_next (hb : Below ww.heap.size ww w1) (h : Sx w x0 x1 x2 y0 y1 y2 ww) : Sx w x0 x1 x2 y0 y1 y2 w1 := sx_of (tb_next hb h.2.2.2.2.2.2)
theorem sx_set3 (h : Sx w x0 x1 x2 y0 y1 y2 ww) (u0 u1 u2 : Value) :
    Sx w x0 x1 x2 y0 y1 y2 (((ww.setCell ⟨w.heap.size + 1 + 1, 0, none⟩ u0).setCell ⟨w.heap.size + 1 + 1, 1, none⟩ u1).setCell ⟨w.heap.size + 1 + 1, 2, none⟩ u2) := sx_of (tb_set3 h.2.2.2.2.2.2 u0 u1 u2)
end
end Go.Proofs.YtdhgdachchhflaaGreatDoor
namespace Go.Proofs.YtdhgdachchhflaaGreatDoor
open Go.RowKit Go.Dig
set_option maxRecDepth 100000
theorem sgn_abs (S : Int) : sgn (decide (S < 0)) S.natAbs = S := by
  rcases Int.lt_or_le S 0 with h | h
  · rw [decide_eq_true h, sgn_true]; omega
  · rw [decide_eq_false (by omega), sgn_false]; omega
theorem sum_abs (a b : Int) : sgn (decide (a < 0)) (a.natAbs * 1) + sgn (decide (b < 0)) (b.natAbs * 1) = a + b := by
  rw [Nat.mul_one, Nat.mul_one, sgn_abs, sgn_abs]
theorem dif_abs (a b : Int) : sgn (decide (a < 0)) (a.natAbs * 1) - sgn (decide (b < 0)) (b.natAbs * 1) = a - b := by
  rw [Nat.mul_one, Nat.mul_one, sgn_abs, sgn_abs]
theorem sgn_mul (s t : Bool) (m n : Nat) : sgn (s != t) (m * n) = sgn s m * sgn t n := by
  cases s <;> cases t
  · show sgn false (m * n) = sgn false m * sgn false n
    rw [sgn_false, sgn_false, sgn_false, Int.natCast_mul]
  · show sgn true (m * n) = sgn false m * sgn true n
    rw [sgn_true, sgn_true, sgn_false, Int.natCast_mul, Int.mul_neg]
  · show sgn true (m * n) = sgn true m * sgn false n
    rw [sgn_true, sgn_true, sgn_false, Int.natCast_mul, Int.neg_mul]
  · show sgn false (m * n) = sgn true m * sgn true n
    rw [sgn_true, sgn_true, sgn_false, Int.natCast_mul, Int.neg_mul_neg]
theorem prod_abs (a b : Int) : sgn (decide (a < 0) != decide (b < 0)) (a.natAbs * b.natAbs) = a * b := by
  rw [sgn_mul, sgn_abs, sgn_abs]
theorem abs_len (S : Int) (h : S.natAbs < 65536 ^ 9) : (dg 65536 S.natAbs).length ≤ 100000 := Nat.le_trans (dg_length_le (by omega) h) (by omega)
theorem sum_bound {a b : Int} (l0 : -9223372036854775808 ≤ a) (u0 : a ≤ 9223372036854775807) (l1 : -9223372036854775808 ≤ b) (u1 : b ≤ 9223372036854775807) : (a + b).natAbs < 65536 ^ 9 := by
  have : (65536 : Nat) ^ 9 > 36893488147419103232 := by decide
  omega
theorem dif_bound {a b : Int} (l0 : -9223372036854775808 ≤ a) (u0 : a ≤ 9223372036854775807) (l1 : -9223372036854775808 ≤ b) (u1 : b ≤ 9223372036854775807) : (a - b).natAbs < 65536 ^ 9 := by
  have : (65536 : Nat) ^ 9 > 36893488147419103232 := by decide
  omega
theorem prod_bound {a b : Int} (l0 : -9223372036854775808 ≤ a) (u0 : a ≤ 9223372036854775807) (l1 : -9223372036854775808 ≤ b) (u1 : b ≤ 9223372036854775807) : (a * b).natAbs < 65536 ^ 9 := by
  rw [Int.natAbs_mul]
  calc a.natAbs * b.natAbs ≤ 9223372036854775808 * 9223372036854775808 := Nat.mul_le_mul (by omega) (by omega)
    _ < _ := by decide
end Go.Proofs.YtdhgdachchhflaaGreatDoor
namespace Go.Proofs.YtdhgdachchhflaaGreatDoor
open Go.RowKit Go.Dig
set_option maxRecDepth 100000
theorem sgn_add (s : Bool) (m n : Nat) : sgn s (m + n) = sgn s m + sgn s n := by cases s <;> simp [sgn] <;> omega
theorem sgn_sub_ge (s : Bool) {m n : Nat} (h : n ≤ m) : sgn s (m - n) = sgn s m + sgn (!s) n := by cases s <;> simp [sgn] <;> omega
theorem sgn_sub_lt (s : Bool) {m n : Nat} (h : m < n) : sgn (!s) (n - m) = sgn s m + sgn (!s) n := by cases s <;> simp [sgn] <;> omega
theorem sgn_neg (s : Bool) (n : Nat) : sgn (!s) n = - sgn s n := by cases s <;> simp [sgn]
theorem sgn_nil (s : Bool) {k : Nat} (h : k = 0) : sgn false k = sgn s k := by subst h; cases s <;> rfl
/-- The magnitude of z is stored; its sign is still that of 0. -/
def Zh (w : World) (bz : Nat) (v : Value) (k : Nat) (w' : World) : Prop := Blk w' bz #[.bool false, v] 86 ∧ Nw w' v k ∧ Below bz w w'
theorem zh_of {w w1 : World} {bz k : Nat} {v : Value} (hz : Blk w bz #[.bool false, .slice none 0 0] 86) (hb : Below w.heap.size w w1) (hv : Nw w1 v k) : Zh w bz v k (w1.setCell ⟨bz, 1, none⟩ v) := by
  have hB := hz.below hb hz.lt
  refine ⟨by simpa using hB.set 1 v, hv.set (p := ⟨bz, 1, none⟩) v hB.shape (by decide), ?_⟩
  exact (hb.mono (Nat.le_of_lt hz.lt)).setCell (p := ⟨bz, 1, none⟩) (Nat.le_refl _) v
theorem Zh.cells {w w' : World} {bz k : Nat} {v : Value} (h : Zh w bz v k w') : w'.cell? ⟨bz, 0, none⟩ = some (.bool false) ∧ w'.cell? ⟨bz, 1, none⟩ = some v ∧ w'.frozen? ⟨bz, 0, none⟩ = false :=
  ⟨h.1.cell 0, h.1.cell 1, h.1.frozen 0⟩
/-- How the end of Add and Sub is read. -/
def Zd (w : World) (bz : Nat) (S : Int) (e : Ending) (w' : World) : Prop := e = .returned (.pointer (some ⟨bz, 0, none⟩)) ∧ (∃ s k, sgn s k = S ∧ Iv w' bz s k) ∧ Below bz w w'
theorem Zh.done {w w' : World} {bz k : Nat} {v : Value} {S : Int} (h : Zh w bz v k w') (s : Bool) (hS : sgn s k = S) : Zd w bz S (.returned (.pointer (some ⟨bz, 0, none⟩))) (w'.setCell ⟨bz, 0, none⟩ (.bool s)) := by
  refine ⟨rfl, ⟨s, k, hS, v, by simpa using h.1.set 0 (.bool s), h.2.1.set (p := ⟨bz, 0, none⟩) _ h.1.shape (by decide)⟩, ?_⟩
  exact h.2.2.setCell (p := ⟨bz, 0, none⟩) (Nat.le_refl _) _
theorem nw_shape {w : World} {v : Value} {k : Nat} (h : Nw w v k) : ∃ a L c, v = .slice a L c ∧ Hid (L = (dg 18446744073709551616 k).length) := by
  obtain ⟨a, c, rfl⟩ := h.shape
  exact ⟨a, _, c, rfl, rfl⟩
theorem ncmp_b (vx vy : Value) (m n : Nat) (w : World) (hx : Nw w vx m) (hy : Nw w vy n) (hm1 : m < 18446744073709551616) (hn1 : n < 18446744073709551616) :
    Calls Tryz.prog 100 #[vx, vy] w fun e w' => e = .returned (.int .i64 (cmpI m n)) ∧ Below w.heap.size w w' :=
  (ncmp_small vx vy m n w hx hy hm1 hn1).mono fun _ _ ⟨h, k, hk⟩ => ⟨h, by rw [hk]; exact below_drewN' k⟩
theorem len_pos {k : Nat} (h : k ≠ 0) : 0 < (dg 18446744073709551616 k).length := by
  rcases Nat.eq_zero_or_pos (dg 18446744073709551616 k).length with h' | h'
  · exact absurd ((dg_nil_iff (b := 18446744073709551616) (by omega)).1 (List.eq_nil_of_length_eq_zero h')) h
  · exact h'

end Go.Proofs.YtdhgdachchhflaaGreatDoor

namespace Go.Proofs.YtdhgdachchhflaaGreatDoor
open Go.RowKit Go.Dig
set_option maxRecDepth 100000
theorem iv_same {w w' : World} {bz k : Nat} {v : Value} (h : Zh w bz v k w') : Iv (w'.setCell ⟨bz, 0, none⟩ (.bool false)) bz false k :=
  ⟨v, by simpa using h.1.set 0 (.bool false), h.2.1.set (p := ⟨bz, 0, none⟩) _ h.1.shape (by decide)⟩
end Go.Proofs.YtdhgdachchhflaaGreatDoor
