/- Walks and lemmas for the laws of this seat. -/
import Derived.Test.YtgdgklhfakplhaaGreatDoorH05
import Derived.Test.YtgdgklhfakplhaaGreatDoorH03
import Derived.Conc.MuLone
import Derived.KernelRfl
import Derived.WalkSpells
namespace Go.Proofs.YtgdgklhfakplhaaGreatDoor
open Go.RowKit Go.Dig
set_option maxRecDepth 100000
theorem rep_getD (n j : Nat) : (List.replicate n 0).getD j 0 = 0 := by
  rw [List.getD_eq_getElem?_getD, List.getElem?_replicate]; split <;> rfl
theorem wrap64_of_le {z : Int} (h0 : -9223372036854775808 ≤ z) (h1 : z ≤ 9223372036854775807) : wrap64 z = z := by unfold wrap64; omega
theorem shl_fits {c x n : Nat} (hc : c < 2 ^ (n % 16)) : c + x * 2 ^ (n % 16) % 65536 < 65536 := by
  have e : (65536 : Nat) = 2 ^ (16 - n % 16) * 2 ^ (n % 16) := by
    rw [← Nat.pow_add]
    have : 16 - n % 16 + n % 16 = 16 := by have := Nat.mod_lt n (show 16 > 0 by omega); omega
    rw [this]
  generalize 2 ^ (n % 16) = p at *
  generalize 2 ^ (16 - n % 16) = r at *
  rw [e, Nat.mul_mod_mul_right]
  have h1 : x % r < r := Nat.mod_lt _ (by rcases Nat.eq_zero_or_pos r with h | h; (· rw [h] at e; omega); exact h)
  have h2 : (x % r + 1) * p ≤ r * p := Nat.mul_le_mul_right p h1
  rw [Nat.add_mul] at h2
  omega
theorem shl_step {B : Nat} {l : List Nat} {i q c t x m n s : Nat} (hj : q + i + 1 < l.length) (ho : l.getD (q + i) 0 = c) (hz : l.getD (q + i + 1) 0 = 0) (hx : x = m / B ^ i % B) (ht : t = x * 2 ^ s)
    (hn : 2 ^ n = B ^ q * 2 ^ s) (hv : val B l = m % B ^ i * 2 ^ n) :
    val B ((l.set (q + i) (c + t % B)).set (q + i + 1) (t / B)) = m % B ^ (i + 1) * 2 ^ n := by
  have h1 := val_set B l (q + i) (c + t % B) (by omega)
  have h2 := val_set B (l.set (q + i) (c + t % B)) (q + i + 1) (t / B) (by rw [List.length_set]; exact hj)
  have e2 : (l.set (q + i) (c + t % B)).getD (q + i + 1) 0 = 0 := by
    rw [List.getD_eq_getElem?_getD, List.getElem?_set, if_neg (by omega), ← List.getD_eq_getElem?_getD, hz]
  rw [e2, Nat.zero_mul, Nat.add_zero] at h2
  rw [ho, Nat.add_mul] at h1
  have e3 : t % B * B ^ (q + i) + t / B * B ^ (q + i + 1) = t * B ^ (q + i) := by
    rw [Nat.pow_succ, Nat.mul_comm (B ^ (q + i)) B, ← Nat.mul_assoc, ← Nat.add_mul, Nat.add_comm, Nat.mul_comm (t / B), Nat.div_add_mod]
  have e4 : t * B ^ (q + i) = B ^ i * x * 2 ^ n := by
    rw [ht, hn, Nat.pow_add]; ac_rfl
  rw [Nat.mod_pow_succ, Nat.add_mul, ← hx]
  omega
set_option maxHeartbeats 400000 in
theorem shl_zero (va : Value) (n : Nat) (w : World) (hma : Nt w va 0) : Calls Tryz.prog 56 #[va, .int .i64 n] w fun e w' => e = .returned va ∧ w' = w := by
  obtain ⟨a, cap, rfl, h1, h2, h3⟩ := hma
  simp only [dg_zero, List.length_nil] at *
  go_enter Tryz.func56, Tryz.ntmps56
  go_wp2_with fail
  go_ret
  exact ⟨rfl, rfl⟩
set_option maxHeartbeats 1000000 in
theorem shl_pos (va : Value) (m n : Nat) (w : World) (hma : Nt w va m) (hm : m ≠ 0) (hla : (dg 65536 m).length ≤ 100000) (hn : n ≤ 2000000) :
    Calls Tryz.prog 56 #[va, .int .i64 n] w fun e w' => ∃ v, e = .returned v ∧ Nt w' v (m * 2 ^ n) ∧ Below w.heap.size w w' := by
  obtain ⟨a, cap, rfl, h1, h2, h3⟩ := hma
  have HA := hid h3
  clear h3
  have hlp : 0 < (dg 65536 m).length := by
    rcases Nat.eq_zero_or_pos (dg 65536 m).length with h | h
    · exact absurd ((dg_nil_iff (b := 65536) (by omega)).1 (List.eq_nil_of_length_eq_zero h)) hm
    · exact h
  have hmk := run_make_row' (P := Tryz.prog) 29 3 (.int .i64 0) 8 Tryz.underlying29 info3 rfl .i64 .i64 (n / 16 + (dg 65536 m).length + 1) (by omega) (by omega)
  have ec : ((n / 16 + (dg 65536 m).length + 1 : Nat) : Int) = (n : Int) / 16 + ((dg 65536 m).length : Int) + 1 := by omega
  rw [ec] at hmk
  clear ec
  go_enter Tryz.func56, Tryz.ntmps56
  go_wp2_with fail
  go_loopw [21] (fun y wr => ∃ (i : Nat) (l : List Nat), y = .int .i64 i ∧ i ≤ (dg 65536 m).length ∧ Hid (l.length = n / 16 + (dg 65536 m).length + 1) ∧ BlkN .i64 3 wr w.heap.size l ∧ Hid (∀ d ∈ l, d < 65536) ∧
    l.getD (n / 16 + i) 0 < 2 ^ (n % 16) ∧ Hid (∀ j, n / 16 + i < j → l.getD j 0 = 0) ∧ Hid (val 65536 l = m % 65536 ^ i * 2 ^ n) ∧ Below w.heap.size w wr) (fun y _ => (dg 65536 m).length - (intOf y).toNat)
  case atStart =>
    refine ⟨0, List.replicate (n / 16 + (dg 65536 m).length + 1) 0, rfl, Nat.zero_le _, hid (by simp), blkN_made _ _ _ _, hid (by intro d hd; rw [List.eq_of_mem_replicate hd]; omega), ?_, hid ?_, hid ?_, (Below.refl _ _).alloc (Nat.le_refl _) _⟩
    · rw [rep_getD]; exact Nat.two_pow_pos _
    · intro j _; rw [rep_getD]
    · rw [val_replicate, Nat.pow_zero, Nat.mod_one, Nat.zero_mul]
  case round =>
    obtain ⟨i, l, rfl, hi, hll, hB, hdl, hc, hz, hv, hb⟩ := hrel
    rcases Nat.lt_or_ge i (dg 65536 m).length with hka | hia
    · obtain ⟨b, off, rfl, _, hb3⟩ := HA.out (by omega)
      have hk := hb3 i hka
      clear hb3
      have hx := (hb.cell (World.block_lt_of_cell? w _ hk)).trans hk
      clear hk
      have hxd : (dg 65536 m).getD i 0 = m / 65536 ^ i % 65536 := dg_getD (by omega) m i
      generalize (dg 65536 m).getD i 0 = x at hx hxd
      have hx1 : x < 65536 := by rw [hxd]; exact Nat.mod_lt _ (by omega)
      have HX := hid hxd
      clear hxd
      have hcell := hB.at (i := n / 16 + i) (by rw [hll.out]; omega)
      have hfr := Blk.frozen hB (n / 16 + i)
      have hcell2 := hB.at (i := n / 16 + i + 1) (by rw [hll.out]; omega)
      have hfr2 := Blk.frozen hB (n / 16 + i + 1)
      rw [hz.out _ (by omega)] at hcell2
      have hp0 := pow16_lt n
      have hp1 := Nat.two_pow_pos (n % 16)
      have hp2 : (2 : Int) ^ (n % 16) = ((2 ^ (n % 16) : Nat) : Int) := by simp
      generalize hold : l.getD (n / 16 + i) 0 = c at hcell hc
      have HO := hid hold
      clear hold
      obtain ⟨t, hte⟩ : ∃ t, t = x * 2 ^ (n % 16) := ⟨_, rfl⟩
      have ht1 : t ≤ 65535 * 65535 := by rw [hte]; exact Nat.mul_le_mul (by omega) (by omega)
      have ht2 : wrap64 ((x : Int) * 2 ^ (n % 16)) = (t : Int) := by
        rw [hp2, ← Int.natCast_mul, ← hte]
        exact wrap64_of_le (by omega) (by omega)
      have ht3 : c + t % 65536 < 65536 := by rw [hte]; exact shl_fits hc
      have ht4 : t / 65536 < 2 ^ (n % 16) := by rw [hte]; exact Nat.div_lt_of_lt_mul (Nat.mul_lt_mul_of_pos_right hx1 hp1)
      have HT := hid hte
      clear hte hp2
      go_wp2_with fail
      have HV := hid (shl_step (B := 65536) (l := l) (i := i) (q := n / 16) (c := c) (t := t) (x := x) (m := m) (n := n) (s := n % 16) (by rw [hll.out]; omega) HO.out (hz.out _ (by omega)) HX.out HT.out (pow_16 n) hv.out)
      go_roundw
      case rel =>
        refine ⟨i + 1, (l.set (n / 16 + i) (c + t % 65536)).set (n / 16 + i + 1) (t / 65536), by go_num, by omega, hid (by rw [List.length_set, List.length_set]; exact hll.out), ?_, hid (set_mem (set_mem hdl.out ht3) (by omega)), ?_, hid ?_, hid HV.out, (hb.setCell (Nat.le_refl _) _).setCell (Nat.le_refl _) _⟩
        · have := (BlkN.put hB (n / 16 + i) (c + t % 65536)).put (n / 16 + i + 1) (t / 65536)
          simpa using this
        · have e : n / 16 + (i + 1) = n / 16 + i + 1 := by omega
          rw [e, List.getD_eq_getElem?_getD, List.getElem?_set_self (by rw [List.length_set, hll.out]; omega)]
          exact ht4
        · intro j hj
          rw [set_far (by omega), set_far (by omega)]; exact hz.out j (by omega)
      case measure => simp [intOf]; omega
    · obtain rfl : i = (dg 65536 m).length := by omega
      have hR2 := BlkN.rt hB (cap := l.length) (Nat.le_refl _) (by rw [hll.out]; omega)
      rw [hll.out] at hR2
      go_wp2_with fail
      refine (trim_any _ _ _ hR2).mono ?_
      rintro e w1 ⟨v', rfl, hv', rfl⟩
      go_wp2_with fail
      go_ret
      refine ⟨_, rfl, ?_, hb⟩
      have h1 := hv.out
      rw [mod_len (by omega) (Nat.le_refl _)] at h1
      rw [trim_eq (by omega) hdl.out, h1] at hv'
      exact hv'
theorem shl_any (va : Value) (m n : Nat) (w : World) (hma : Nt w va m) (hla : (dg 65536 m).length ≤ 100000) (hn : n ≤ 2000000) :
    Calls Tryz.prog 56 #[va, .int .i64 n] w fun e w' => ∃ v, e = .returned v ∧ Nt w' v (m * 2 ^ n) ∧ Below w.heap.size w w' := by
  rcases Nat.eq_zero_or_pos m with rfl | h
  · refine (shl_zero va n w hma).mono ?_
    rintro e w' ⟨rfl, rfl⟩
    refine ⟨_, rfl, ?_, Below.refl _ _⟩
    rw [Nat.zero_mul]; exact hma
  · exact shl_pos va m n w hma (Nat.ne_of_gt h) hla hn
end Go.Proofs.YtgdgklhfakplhaaGreatDoor
namespace Go.Proofs.YtgdgklhfakplhaaGreatDoor
open Go.RowKit Go.Dig
set_option maxRecDepth 100000
theorem below_next {w wr w1 : World} (h : Below w.heap.size w wr) (h1 : Below wr.heap.size wr w1) : Below w.heap.size w w1 := h.trans (h1.mono h.size)
theorem blen_dg {m k : Nat} (h : (dg 65536 m).length ≤ k) : blen m ≤ 16 * k := by
  apply blen_le
  have h1 := lt_pow_dg_length (b := 65536) (by omega) m
  have e : (65536 : Nat) = 2 ^ 16 := rfl
  rw [Nat.pow_mul, ← e]
  exact Nat.lt_of_lt_of_le h1 (Nat.pow_le_pow_right (by omega) h)
set_option maxHeartbeats 1000000 in
theorem divmod_one (va vb : Value) (m n : Nat) (w : World) (hma : Nt w va m) (hmb : Nt w vb n) (hla : (dg 65536 m).length ≤ 100000) (hn : n ≠ 0) (hlb : (dg 65536 n).length = 1) :
    Calls Tryz.prog 57 #[va, vb] w fun e w' => ∃ v v', e = .returned (.tuple #[v, v']) ∧ Nt w' v (m / n) ∧ Nt w' v' (m % n) ∧ Below w.heap.size w w' := by
  have HB := hid hmb
  have hn1 : n < 65536 := by
    have := lt_pow_dg_length (b := 65536) (by omega) n
    rw [hlb] at this; omega
  obtain ⟨a2, cap2, rfl, h12, h22, h32⟩ := hmb
  obtain ⟨b, off, rfl, _, hb3⟩ := h32 (by omega)
  have hk := hb3 0 (by omega)
  have hd : (dg 65536 n).getD 0 0 = n := by
    rw [dg_getD (by omega), Nat.pow_zero, Nat.div_one]
    exact Nat.mod_eq_of_lt hn1
  rw [hd] at hk
  rw [hlb] at *
  simp only [Nat.add_zero] at hk
  go_enter Tryz.func57, Tryz.ntmps57
  go_wp2_with fail
  refine (byDigit_any va m n w hma (by omega) hn1 hla).mono ?_
  rintro e w1 ⟨v, rfl, hv, hb1⟩
  go_wp2_with fail
  refine (small_any (m % n) w1 (by have := Nat.mod_lt m (show n > 0 by omega); omega)).mono ?_
  rintro e w2 ⟨v2, rfl, hv2, hb2⟩
  go_wp2_with fail
  go_ret2
  exact ⟨_, _, rfl, hv.below hb2 (Nat.le_refl _), hv2, below_next hb1 hb2⟩
theorem divmod_start {m n : Nat} (hn : n ≠ 0) : m < n * 2 ^ ((blen m : Int) - (blen n : Int) + 1).toNat := by
  have h1 := blen_lt m
  have h2 : 2 ^ (blen n - 1) ≤ n := blen_ge (by have := blen_pos hn; omega)
  have h3 : 2 ^ blen m ≤ 2 ^ (blen n - 1) * 2 ^ ((blen m : Int) - (blen n : Int) + 1).toNat := by
    rw [← Nat.pow_add]
    exact Nat.pow_le_pow_right (by omega) (by have := blen_pos hn; omega)
  exact Nat.lt_of_lt_of_le h1 (Nat.le_trans h3 (Nat.mul_le_mul_right _ h2))
theorem divmod_end {m n Q r : Nat} (h : m = Q * n + r) (hr : r < n) : m / n = Q ∧ m % n = r := by
  rw [h, Nat.mul_comm]
  refine ⟨?_, ?_⟩
  · rw [Nat.mul_add_div (by omega), Nat.div_eq_of_lt hr, Nat.add_zero]
  · rw [Nat.mul_add_mod, Nat.mod_eq_of_lt hr]
theorem bit_len {m i k : Nat} (h : (i : Int) < blen m) (hl : (dg 65536 m).length ≤ k) : (dg 65536 (2 ^ i)).length ≤ k :=
  Nat.le_trans (dg_length_mono (by omega) (blen_ge (by omega))) hl
set_option maxHeartbeats 1000000 in
theorem divmod_big (va vb : Value) (m n : Nat) (w : World) (hma : Nt w va m) (hmb : Nt w vb n) (hla : (dg 65536 m).length ≤ 100000) (hlb' : (dg 65536 n).length ≤ 100000) (hlb : 1 < (dg 65536 n).length) :
    Calls Tryz.prog 57 #[va, vb] w fun e w' => ∃ v v', e = .returned (.tuple #[v, v']) ∧ Nt w' v (m / n) ∧ Nt w' v' (m % n) ∧ Below w.heap.size w w' := by
  have hbm : blen m ≤ 1600000 := blen_dg hla
  have hbn : blen n ≤ 1600000 := blen_dg hlb'
  have hn0 : n ≠ 0 := by intro h; rw [h, dg_zero] at hlb; simp at hlb
  have hbp := blen_pos hn0
  have HA := hid hma
  have HB := hid hmb
  obtain ⟨a2, cap2, eb⟩ := hmb.shape
  obtain ⟨a1, cap1, ea⟩ := hma.shape
  go_enter Tryz.func57, Tryz.ntmps57
  subst eb ea
  have hA2 : Nt (w.alloc (.cells #[] 3)) _ m := HA.out.below ((Below.refl _ _).alloc (Nat.le_refl _) _) (Nat.le_refl _)
  have hB2 : Nt (w.alloc (.cells #[] 3)) _ n := HB.out.below ((Below.refl _ _).alloc (Nat.le_refl _) _) (Nat.le_refl _)
  go_wp2_with fail
  refine (len_any _ m _ hA2 hla).mono ?_
  rintro e w' ⟨rfl, rfl⟩
  go_wp2_with fail
  refine (len_any _ n _ hB2 hlb').mono ?_
  rintro e w' ⟨rfl, rfl⟩
  go_wp2_with fail
  go_loopw [0, 8, 9] (fun x y z wr => ∃ (r Q : Nat) (yi : Int), z = .int .i64 yi ∧ yi < blen m ∧ -2000000 ≤ yi ∧ Hid (Nt wr x r) ∧ Hid (Nt wr y Q) ∧ Hid (m = Q * n + r) ∧ Hid (r < n * 2 ^ (yi + 1).toNat) ∧ Below w.heap.size w wr) (fun _ _ z _ => (intOf z + 1).toNat)
  case atStart =>
    refine ⟨m, 0, _, rfl, by omega, by omega, hid hA2, hid ⟨_, 0, by rw [dg_zero]; rfl, by rw [dg_zero]; simp, by omega, fun h => by rw [dg_zero] at h; simp at h⟩, hid (by omega), hid (divmod_start hn0), (Below.refl _ _).alloc (Nat.le_refl _) _⟩
  case round =>
    obtain ⟨r, Q, yi, rfl, hy1, hy2, hR, hQ, hm, hr, hb⟩ := hrel
    rcases Int.lt_or_le yi 0 with hyn | hyn
    · go_wp2_with fail
      go_ret2
      have e0 : (yi + 1).toNat = 0 := by omega
      have hr2 := hr.out
      rw [e0, Nat.pow_zero, Nat.mul_one] at hr2
      obtain ⟨e1, e2⟩ := divmod_end hm.out hr2
      rw [e1, e2]
      exact ⟨_, _, rfl, hQ, hR, hb⟩
    · obtain ⟨i, rfl⟩ : ∃ i : Nat, yi = i := ⟨yi.toNat, by omega⟩
      have hBr : Nt wr _ n := HB.out.below hb (Nat.le_refl _)
      go_wp2_with fail
      refine (shl_any _ n i wr hBr hlb' (by omega)).mono ?_
      rintro e w1 ⟨d, rfl, hd, hb1⟩
      obtain ⟨ad, cd, ed⟩ := hd.shape
      subst ed
      have hD := hid hd
      clear hd
      have hR1 : Hid (Nt w1 _ r) := hR.out.below hb1 (Nat.le_refl _)
      have hQ1 : Hid (Nt w1 _ Q) := hQ.out.below hb1 (Nat.le_refl _)
      have hb2 := below_next hb hb1
      clear hR hQ hBr hb hb1
      go_wp2_with fail
      refine (cmp_any _ _ _ _ w1 hD.out hR1.out).mono ?_
      rintro e w2 ⟨k, rfl, rfl⟩
      have hb3 := hb2.drewN k
      have hR2 : Hid (Nt (w1.drewN k) _ r) := hR1.out.below (below_drewN' k) (Nat.le_refl _)
      have hQ2 : Hid (Nt (w1.drewN k) _ Q) := hQ1.out.below (below_drewN' k) (Nat.le_refl _)
      have hD2 : Hid (Nt (w1.drewN k) _ (n * 2 ^ i)) := hD.out.below (below_drewN' k) (Nat.le_refl _)
      clear hb2 hR1 hQ1 hD
      generalize w1.drewN k = wq at *
      rcases Nat.lt_or_ge r (n * 2 ^ i) with hlt | hge
      · have hc : cmpI (n * 2 ^ i) r = 1 := by rw [cmpI, if_neg (by omega), if_neg (by omega)]
        rw [hc]
        go_wp2_with fail
        go_roundw
        case rel =>
          exact ⟨r, Q, (i : Int) - 1, by go_num, by omega, by omega, hR2, hQ2, hm, hid (by rw [show ((i : Int) - 1 + 1).toNat = i by omega]; exact hlt), hb3⟩
        case measure => simp [intOf]
      · have hc : ∃ z, cmpI (n * 2 ^ i) r = z ∧ z ≤ 0 := ⟨_, rfl, by rw [cmpI]; split <;> (try split) <;> omega⟩
        obtain ⟨z, hz, hz0⟩ := hc
        rw [hz]
        clear hz
        have hrm : r ≤ m := by have := hm.out; omega
        have hQm : Q ≤ m := by
          have := hm.out
          have := Nat.le_mul_of_pos_right Q (Nat.pos_of_ne_zero hn0)
          omega
        go_wp2_with fail
        refine (sub_any _ _ r (n * 2 ^ i) wq hR2.out hD2.out (Nat.le_trans (dg_length_mono (by omega) hrm) hla) hge).mono ?_
        rintro e w3 ⟨r', rfl, hr', hb4⟩
        obtain ⟨ar, cr, er⟩ := hr'.shape
        subst er
        have hR3 := hid hr'
        have hQ3 : Hid (Nt w3 _ Q) := hQ2.out.below hb4 (Nat.le_refl _)
        have hb5 := below_next hb3 hb4
        clear hr' hQ2 hR2 hD2 hb4 hb3
        go_wp2_with fail
        refine (bit_any i w3 (by omega)).mono ?_
        rintro e w4 ⟨bt, rfl, hbt, hb6⟩
        have hR4 : Hid (Nt w4 _ (r - n * 2 ^ i)) := hR3.out.below hb6 (Nat.le_refl _)
        have hQ4 : Hid (Nt w4 _ Q) := hQ3.out.below hb6 (Nat.le_refl _)
        have hb7 := below_next hb5 hb6
        have hB4 := hid hbt
        clear hbt hQ3 hR3 hb5 hb6
        go_wp2_with fail
        refine (add_any _ _ Q (2 ^ i) w4 hQ4.out hB4.out (Nat.le_trans (dg_length_mono (by omega) hQm) hla) (bit_len hy1 hla)).mono ?_
        rintro e w5 ⟨q', rfl, hq', hb8⟩
        obtain ⟨aq, cq, eq⟩ := hq'.shape
        subst eq
        have hR5 : Hid (Nt w5 _ (r - n * 2 ^ i)) := hR4.out.below hb8 (Nat.le_refl _)
        have hQ5 := hid hq'
        have hb9 := below_next hb7 hb8
        clear hR4 hQ4 hB4 hq' hb8 hb7
        go_wp2_with fail
        go_roundw
        case rel =>
          refine ⟨r - n * 2 ^ i, Q + 2 ^ i, (i : Int) - 1, by go_num, by omega, by omega, hR5, hQ5, hid ?_, hid ?_, hb9⟩
          · have := hm.out
            rw [Nat.add_mul, Nat.mul_comm (2 ^ i)]; omega
          · rw [show ((i : Int) - 1 + 1).toNat = i by omega]
            have := hr.out
            rw [show ((i : Int) + 1).toNat = i + 1 by omega, Nat.pow_succ, ← Nat.mul_assoc] at this
            omega
        case measure => simp [intOf]
theorem divmod_any (va vb : Value) (m n : Nat) (w : World) (hma : Nt w va m) (hmb : Nt w vb n) (hla : (dg 65536 m).length ≤ 100000) (hlb : (dg 65536 n).length ≤ 100000) (hn : n ≠ 0) :
    Calls Tryz.prog 57 #[va, vb] w fun e w' => ∃ v v', e = .returned (.tuple #[v, v']) ∧ Nt w' v (m / n) ∧ Nt w' v' (m % n) ∧ Below w.heap.size w w' := by
  rcases Nat.lt_trichotomy (dg 65536 n).length 1 with h | h | h
  · exact absurd ((dg_nil_iff (b := 65536) (by omega)).1 (List.eq_nil_of_length_eq_zero (by omega))) hn
  · exact divmod_one va vb m n w hma hmb hla hn h
  · exact divmod_big va vb m n w hma hmb hla hlb h
end Go.Proofs.YtgdgklhfakplhaaGreatDoor
namespace Go.Proofs.YtgdgklhfakplhaaGreatDoor
open Go.RowKit Go.MuLone
set_option maxRecDepth 100000
abbrev muLink : Go.Conc.Locks.MuLink := { lock := 125, unlock := 126, ilock := 153, iunlock := 154, lockSlow := 184, unlockSlow := 187, disable := 180, enable := 182, acquire := 183, relMerge := 185, cas32 := 181, add32 := 186, tMutex := 144, tIMutex := 142, tPMutex := 213, tPIMutex := 239, tPI32 := 241, tUP := 243, tNoCopy := 140, tU32 := 38 }
theorem muLib : Go.Conc.Locks.MuLib Tryz.prog muLink :=
  ⟨Tryz.func125, Tryz.func126, Tryz.func153, Tryz.func154, Tryz.func180, Tryz.func182, Tryz.func183, Tryz.func185, Tryz.func181, Tryz.func186, Tryz.underlying142, Tryz.runUnderlying142, Tryz.sizeOf142, Tryz.isAgg142, Tryz.zeroValue142, Tryz.underlying144, Tryz.runUnderlying144, Tryz.sizeOf144, Tryz.isAgg144, Tryz.zeroValue144, Tryz.underlying213, Tryz.runUnderlying213, Tryz.sizeOf213, Tryz.isAgg213, Tryz.zeroValue213, Tryz.underlying239, Tryz.runUnderlying239, Tryz.sizeOf239, Tryz.isAgg239, Tryz.zeroValue239, Tryz.underlying241, Tryz.runUnderlying241, Tryz.sizeOf241, Tryz.isAgg241, Tryz.zeroValue241, Tryz.underlying243, Tryz.runUnderlying243, Tryz.sizeOf243, Tryz.isAgg243, Tryz.zeroValue243, Tryz.underlying140, Tryz.runUnderlying140, Tryz.sizeOf140, Tryz.isAgg140, Tryz.zeroValue140, Tryz.underlying21, Tryz.runUnderlying21, Tryz.sizeOf21, Tryz.isAgg21, Tryz.zeroValue21, (by kernel_rfl)⟩
end Go.Proofs.YtgdgklhfakplhaaGreatDoor
namespace Go.Proofs.YtgdgklhfakplhaaGreatDoor
open Go.RowKit Go.MuLone
set_option maxRecDepth 100000
theorem world_heap {w w' : World} (h : w'.heap = w.heap) (h1 : w'.tape = w.tape) (h2 : w'.drawn = w.drawn) (h3 : w'.os = w.os) (h4 : w'.output = w.output) : w' = w := by
  cases w; cases w'; simp_all
/-- A cell is turned and turned back. -/
theorem setCell_back {w : World} {b : Nat} {c : Array Value} {e : TypeId} (h : Blk w b c e) (i : Nat) (u v : Value) (hi : c[i]? = some v) : (w.setCell ⟨b, i, none⟩ u).setCell ⟨b, i, none⟩ v = w := by
  refine world_heap ?_ rfl rfl rfl rfl
  apply Array.ext_getElem?
  intro k
  by_cases hk : k = b
  · subst hk
    have h2 := (h.set i u).set i v
    unfold Blk at h2 h
    rw [h2, h]
    congr 2
    apply Array.ext_getElem?
    intro j
    simp only [Array.getElem?_setIfInBounds, Array.size_setIfInBounds]
    by_cases hj : i = j
    · subst hj
      obtain ⟨hlt, hv⟩ := Array.getElem?_eq_some_iff.1 hi
      simp [hlt, hv]
    · simp [hj]
  · rw [heap_setCell_other _ _ _ _ hk, heap_setCell_other _ _ _ _ hk]
/-- A text of the package constant that stands by itself. -/
abbrev Sv (w : World) (b : Nat) (s : ByteArray) : Prop := Blk w b #[.int .i32 0, .int .u32 0, .string s, .pointer none, .pointer none] 146
set_option maxHeartbeats 400000 in
theorem string_one (b : Nat) (s : ByteArray) (w : World) (h : Sv w b s) : Calls Tryz.prog 83 #[.pointer (some ⟨b, 0, none⟩)] w fun e w' => e = .returned (.string s) ∧ w' = w := by
  have hB1 := h.set 0 (.int .i32 1)
  simp only [List.setIfInBounds_toArray, List.set_cons_zero] at hB1
  have HE : Hid ((w.setCell ⟨b, 0, none⟩ (.int .i32 1)).setCell ⟨b, 0, none⟩ (.int .i32 0) = w) := setCell_back h 0 _ _ rfl
  go_enter_defers Tryz.func83, Tryz.ntmps83
  go_wp2_with fail
  refine (lock_free muLib ⟨b, 0, none⟩ _ (h.cell 0) (h.frozen 0)).mono ?_
  rintro e w1 ⟨rfl, rfl⟩
  clear h
  generalize w.setCell ⟨b, 0, none⟩ (.int .i32 1) = w1 at *
  have h0 := hB1.cell 0
  have h2 := hB1.cell 2
  have h3 := hB1.cell 3
  simp only [List.getElem?_toArray, List.getElem?_cons_zero, List.getElem?_cons_succ] at h0 h2 h3
  have f0 := hB1.frozen 0
  clear hB1
  go_wp2_with fail
  refine leaves_cons (f := 126) (args := #[.pointer (some ⟨b, 0, none⟩)]) (by simp) (by simp [go_sem]) ?_
  refine (unlock_deferred muLib ⟨b, 0, none⟩ .returning _ h0 f0).mono ?_
  rintro e u' w2 ⟨rfl, rfl, rfl⟩
  exact ⟨_, results_tmp rfl _ _ _, rfl, HE.out⟩
end Go.Proofs.YtgdgklhfakplhaaGreatDoor

namespace Go.Proofs.YtgdgklhfakplhaaGreatDoor
open Go.RowKit
set_option maxRecDepth 100000
set_option maxHeartbeats 400000 in
theorem boolVal (b : Bool) (w : World) : Calls Tryz.prog 40 #[.iface 138 (.bool b)] w fun e w' => e = .returned (.bool b) ∧ w = w' := by
  have h1 := ta_165_165
  go_enter Tryz.func40, Tryz.ntmps40
  go_wp2
  go_ret
  exact ⟨rfl, rfl⟩
end Go.Proofs.YtgdgklhfakplhaaGreatDoor

namespace Go.Proofs.YtgdgklhfakplhaaGreatDoor
open Go.RowKit Go.MuLone
set_option maxRecDepth 100000
theorem empty_of {s : ByteArray} (h : s.toList.isEmpty = true) : s = ByteArray.mk #[] := by
  rw [ByteArray.toList_eq, List.isEmpty_iff] at h
  exact ByteArray.ext (Array.toList_inj.1 h)
set_option maxHeartbeats 400000 in
theorem stringVal_one (b : Nat) (s : ByteArray) (w : World) (h : Sv w b s) : Calls Tryz.prog 41 #[.iface 139 (.pointer (some ⟨b, 0, none⟩))] w fun e w' => e = .returned (.string s) ∧ w = w' := by
  have h1 := ta_180_180
  go_enter Tryz.func41, Tryz.ntmps41
  go_wp2_with fail
  refine (string_one b s w h).mono ?_
  rintro e w1 ⟨rfl, rfl⟩
  go_wp2_with fail
  go_ret
  exact ⟨rfl, rfl⟩
set_option maxHeartbeats 400000 in
theorem kind_str (v : Value) (w : World) : Calls Tryz.prog 290 #[v] w fun e w' => e = .returned (.int .i64 2) ∧ w = w' := by
  go_enter Tryz.func290, Tryz.ntmps290
  go_wp2_with fail
  go_ret
  exact ⟨rfl, rfl⟩
end Go.Proofs.YtgdgklhfakplhaaGreatDoor
namespace Go.Proofs.YtgdgklhfakplhaaGreatDoor
open Go.RowKit Go.MuLone
set_option maxRecDepth 100000
set_option maxHeartbeats 400000 in
theorem told_str (b : Nat) (s : ByteArray) (w : World) (h : Sv w b s) : Calls Tryz.prog 21 #[.iface 139 (.pointer (some ⟨b, 0, none⟩))] w fun e w' => e = .returned (.agg #[.int .i64 2, .bool false, .string s, .bool false, .slice none 0 0, .slice none 0 0, .bool false, .slice none 0 0, .slice none 0 0]) ∧ Below w.heap.size w w' := by
  have H := hid h
  clear h
  go_enter Tryz.func21, Tryz.ntmps21
  go_wp2_with (first | (go_at_call 290; refine (kind_str _ _).mono ?_; rintro e w' ⟨rfl, rfl⟩))
  refine (stringVal_one b s _ ((H.out.alloc _).alloc _)).mono ?_
  rintro e w1 ⟨rfl, rfl⟩
  go_wp2_with fail
  refine bodyPost_ret (v := .agg #[.int .i64 2, .bool false, .string s, .bool false, .slice none 0 0, .slice none 0 0, .bool false, .slice none 0 0, .slice none 0 0]) (by simp [results, Tryz.results21, go_sem]) rfl ⟨rfl, ?_⟩
  exact ((Below.refl _ _).alloc (Nat.le_refl _) _).alloc (by simp) _
set_option maxHeartbeats 400000 in
theorem kind_bool (v : Value) (w : World) : Calls Tryz.prog 286 #[v] w fun e w' => e = .returned (.int .i64 1) ∧ w = w' := by
  go_enter Tryz.func286, Tryz.ntmps286
  go_wp2_with fail
  go_ret
  exact ⟨rfl, rfl⟩
set_option maxHeartbeats 400000 in
theorem told_bool (t : Bool) (w : World) : Calls Tryz.prog 21 #[.iface 138 (.bool t)] w fun e w' => e = .returned (.agg #[.int .i64 1, .bool t, .string (ByteArray.mk #[]), .bool false, .slice none 0 0, .slice none 0 0, .bool false, .slice none 0 0, .slice none 0 0]) ∧ Below w.heap.size w w' := by
  have h1 := ta_165_165
  go_enter Tryz.func21, Tryz.ntmps21
  go_wp2_with (first | (go_at_call 286; refine (kind_bool _ _).mono ?_; rintro e w' ⟨rfl, rfl⟩))
  refine (boolVal t _).mono ?_
  rintro e w1 ⟨rfl, rfl⟩
  go_wp2_with fail
  refine bodyPost_ret (v := .agg #[.int .i64 1, .bool t, .string (ByteArray.mk #[]), .bool false, .slice none 0 0, .slice none 0 0, .bool false, .slice none 0 0, .slice none 0 0]) (by simp [results, Tryz.results21, go_sem]) rfl ⟨rfl, ?_⟩
  exact ((Below.refl _ _).alloc (Nat.le_refl _) _).alloc (by simp) _
end Go.Proofs.YtgdgklhfakplhaaGreatDoor

namespace Go.Proofs.YtgdgklhfakplhaaGreatDoor
open Go.RowKit
set_option maxRecDepth 100000
end Go.Proofs.YtgdgklhfakplhaaGreatDoor

namespace Go.Proofs.YtgdgklhfakplhaaGreatDoor
open Go.RowKit
set_option maxRecDepth 100000
end Go.Proofs.YtgdgklhfakplhaaGreatDoor

namespace Go.Proofs.YtgdgklhfakplhaaGreatDoor
open Go.RowKit
set_option maxRecDepth 100000
end Go.Proofs.YtgdgklhfakplhaaGreatDoor

namespace Go.Proofs.YtgdgklhfakplhaaGreatDoor
open Go.RowKit
set_option maxRecDepth 100000
theorem below_over {w w1 : World} {o : Obj} (h : Below (w.alloc o).heap.size (w.alloc o) w1) : Below w.heap.size w w1 :=
  ((Below.refl w.heap.size w).alloc (Nat.le_refl _) o).trans (h.mono (by rw [World.alloc]; simp))
end Go.Proofs.YtgdgklhfakplhaaGreatDoor

namespace Go.Proofs.YtgdgklhfakplhaaGreatDoor
open Go.RowKit Go.MuLone
set_option maxRecDepth 100000
theorem Blk.nine {w : World} {b : Nat} {x0 x1 x2 x3 x4 x5 x6 x7 x8 : Value} {e : TypeId} (h : Blk w b #[x0, x1, x2, x3, x4, x5, x6, x7, x8] e) :
    w.cell? ⟨b, 0, none⟩ = some x0 ∧ w.cell? ⟨b, 1, none⟩ = some x1 ∧ w.cell? ⟨b, 2, none⟩ = some x2 ∧ w.cell? ⟨b, 3, none⟩ = some x3 ∧ w.cell? ⟨b, 4, none⟩ = some x4 ∧ w.cell? ⟨b, 5, none⟩ = some x5 ∧ w.cell? ⟨b, 6, none⟩ = some x6 ∧ w.cell? ⟨b, 7, none⟩ = some x7 ∧ w.cell? ⟨b, 8, none⟩ = some x8 ∧ w.frozen? ⟨b, 0, none⟩ = false ∧ w.frozen? ⟨b, 1, none⟩ = false ∧ w.frozen? ⟨b, 2, none⟩ = false ∧ w.frozen? ⟨b, 3, none⟩ = false ∧ w.frozen? ⟨b, 4, none⟩ = false ∧ w.frozen? ⟨b, 5, none⟩ = false ∧ w.frozen? ⟨b, 6, none⟩ = false ∧ w.frozen? ⟨b, 7, none⟩ = false ∧ w.frozen? ⟨b, 8, none⟩ = false :=
  ⟨h.cell 0, h.cell 1, h.cell 2, h.cell 3, h.cell 4, h.cell 5, h.cell 6, h.cell 7, h.cell 8, h.frozen 0, h.frozen 1, h.frozen 2, h.frozen 3, h.frozen 4, h.frozen 5, h.frozen 6, h.frozen 7, h.frozen 8⟩
theorem below_set9 {B : Nat} {w w1 : World} (h : Below B w w1) {b : Nat} (hB : B ≤ b) (x0 x1 x2 x3 x4 x5 x6 x7 x8 : Value) :
    Below B w (((((((((w1.setCell ⟨b, 0, none⟩ x0).setCell ⟨b, 1, none⟩ x1).setCell ⟨b, 2, none⟩ x2).setCell ⟨b, 3, none⟩ x3).setCell ⟨b, 4, none⟩ x4).setCell ⟨b, 5, none⟩ x5).setCell ⟨b, 6, none⟩ x6).setCell ⟨b, 7, none⟩ x7).setCell ⟨b, 8, none⟩ x8) :=
  ((((((((h.setCell (p := ⟨b, 0, none⟩) hB x0).setCell (p := ⟨b, 1, none⟩) hB x1).setCell (p := ⟨b, 2, none⟩) hB x2).setCell (p := ⟨b, 3, none⟩) hB x3).setCell (p := ⟨b, 4, none⟩) hB x4).setCell (p := ⟨b, 5, none⟩) hB x5).setCell (p := ⟨b, 6, none⟩) hB x6).setCell (p := ⟨b, 7, none⟩) hB x7).setCell (p := ⟨b, 8, none⟩) hB x8
/-- A value told, as it lies in a variable. -/
abbrev zeroV : Array Value := #[.int .i64 0, .bool false, .string (ByteArray.mk #[]), .bool false, .slice none 0 0, .slice none 0 0, .bool false, .slice none 0 0, .slice none 0 0]
end Go.Proofs.YtgdgklhfakplhaaGreatDoor
