/- Walks and lemmas for the laws of this seat. -/
import Derived.Test.YtgdgklhfakplhaaGreatDoorG08
import Derived.Deep.RegionHeld
import Derived.Test.YtgdgklhfakplhaaGreatDoorG05
namespace Go.Proofs.YtgdgklhfakplhaaGreatDoor
open Go.RowKit Go.Dig
set_option maxRecDepth 100000
set_option maxHeartbeats 1000000 in
theorem nsub_11 (vx vy : Value) (m n : Nat) (w : World) (hx : Nw w vx m) (hy : Nw w vy n) (hm : 0 < m) (hm1 : m < 18446744073709551616) (hn : 0 < n) (hn1 : n < 18446744073709551616) (hnm : n ≤ m) :
    Calls Tryz.prog 193 #[.slice none 0 0, vx, vy] w fun e w' => ∃ v, e = .returned v ∧ Nw w' v (m - n) ∧ Below w.heap.size w w' := by
  have HX := hid hx
  have HY := hid hy
  obtain ⟨ax, cx, ex⟩ := hx.shape
  obtain ⟨ay, cy, ey⟩ := hy.shape
  rw [dg_one hm hm1] at ex
  rw [dg_one hn hn1] at ey
  subst ex ey
  have hcx : 1 ≤ cx := by obtain ⟨_, c, e, h, _, _⟩ := hx; injection e with _ _ e3; rw [dg_one hm hm1] at h; rw [e3]; exact h
  have hcy : 1 ≤ cy := by obtain ⟨_, c, e, h, _, _⟩ := hy; injection e with _ _ e3; rw [dg_one hn hn1] at h; rw [e3]; exact h
  have hcx2 : cx ≤ 9223372036854775807 := by obtain ⟨_, c, e, _, h, _⟩ := hx; injection e with _ _ e3; rw [e3]; exact h
  have hcy2 : cy ≤ 9223372036854775807 := by obtain ⟨_, c, e, _, h, _⟩ := hy; injection e with _ _ e3; rw [e3]; exact h
  clear hx hy
  go_enter Tryz.func193, Tryz.ntmps193
  go_wp2_with fail
  refine (natMake_one w).mono ?_
  rintro e w1 ⟨rfl, hw1⟩
  have hBz : BlkN .u64 181 w1 w.heap.size ([0]) := by rw [hw1]; exact blk_new w _ 181
  have hb1 : Below w.heap.size w w1 := by rw [hw1]; exact (Below.refl _ _).alloc (Nat.le_refl _) _
  clear hw1
  go_wp2_with fail
  have hX1 : Hid (Rd .u64 w (.slice ax 1 cx) [m]) := by have := HX.out.rd; rw [dg_one hm hm1] at this; exact this
  have hY1 : Hid (Rd .u64 w (.slice ay 1 cy) [n]) := by have := HY.out.rd; rw [dg_one hn hn1] at this; exact this
  go_region_held (fun w' => Hid (Below w.heap.size w w')) (first | with_reducible assumption | exact hb1.trans (below_drewN' 1))
    (first | (go_at_call 207; refine (subVV_w w _ w.heap.size _ _ _ [m] [n] ([0]) (hb1.trans (below_drewN' 1)) (Nat.le_refl _) (hBz.below (below_drewN' 1) hBz.lt) hX1.out hY1.out rfl (by simp) (by simpa using hm1) (by simpa using hn1)).mono ?_; rintro e w2 ⟨l2, c, rfl, hl2, hc, hv, hrest, hlow, hB2, hb2⟩; have HV := hid hv; have HRE := hid hrest; have HLO := hid hlow; have HL2 := hid hl2; have hb3 : Hid (Below w.heap.size w w2) := hb2; clear hv hrest hlow hl2))
  all_goals
    have hval : l2.getD 0 0 = m - n ∧ c = 0 ∧ l2 = [m - n] := by
      have hl : l2.getD 0 0 < 18446744073709551616 := HLO.out 0 (by simp)
      match l2, HL2.out, HV.out, hl with
      | [a0], _, hval, hl =>
        have hl' : a0 < 18446744073709551616 := by simpa using hl
        have hval' : a0 + n = m + c * 18446744073709551616 := by simpa [val] using hval
        have : c = 0 := by omega
        subst this
        have e : a0 = m - n := by omega
        subst e
        exact ⟨rfl, rfl, rfl⟩
    obtain ⟨_, rfl, rfl⟩ := hval
    have hB3 := hid hB2
    clear hB2
    go_wp2_with fail
    have hRt : Rt 181 .u64 w2 (.slice (some ⟨w.heap.size, 0, none⟩) 1 1) [m - n] := hB3.out.rt (cap := 1) (by simp) (by omega)
    refine (norm_any _ _ w2 hRt).mono ?_
    rintro e w' ⟨v, rfl, hv, rfl⟩
    go_wp2_with fail
    go_ret
    refine ⟨_, rfl, ?_, hb3.out⟩
    rw [trim_eq (b := 18446744073709551616) (by omega) (by intro d hd; simp at hd; omega)] at hv
    have e : val 18446744073709551616 [m - n] = m - n := by simp [val]
    rw [e] at hv
    exact hv
set_option maxHeartbeats 400000 in
theorem nsub_00 (w : World) (vx vy : Value) (hx : Nw w vx 0) (hy : Nw w vy 0) :
    Calls Tryz.prog 193 #[.slice none 0 0, vx, vy] w fun e w' => ∃ v, e = .returned v ∧ Nw w' v 0 ∧ Below w.heap.size w w' := by
  obtain ⟨ax, cx, rfl⟩ := hx.shape
  obtain ⟨ay, cy, rfl⟩ := hy.shape
  rw [dg_zero, List.length_nil]
  clear hx hy
  go_enter Tryz.func193, Tryz.ntmps193
  go_wp2_with fail
  go_ret
  exact ⟨_, rfl, by show Rt 181 .u64 w (.slice none 0 0) (dg 18446744073709551616 0); rw [dg_zero]; exact Rt.nil _ _ _, Below.refl _ _⟩
set_option maxHeartbeats 400000 in
theorem nsub_10 (w : World) (vx vy : Value) (m : Nat) (hx : Nw w vx m) (hy : Nw w vy 0) (hm : 0 < m) (hm1 : m < 18446744073709551616) :
    Calls Tryz.prog 193 #[.slice none 0 0, vx, vy] w fun e w' => ∃ v, e = .returned v ∧ Nw w' v m ∧ Below w.heap.size w w' := by
  have HX := hid hx
  obtain ⟨ax, cx, ex⟩ := hx.shape
  obtain ⟨ay, cy, ey⟩ := hy.shape
  rw [dg_one hm hm1] at ex
  rw [dg_zero] at ey
  subst ex ey
  clear hx hy
  go_enter Tryz.func193, Tryz.ntmps193
  go_wp2_with fail
  refine (nset_one _ m w HX.out hm hm1).mono ?_
  rintro e w1 ⟨v, rfl, hv, hb⟩
  go_wp2_with fail
  go_ret
  exact ⟨_, rfl, hv, hb⟩
theorem nsub_small (w : World) (vx vy : Value) (m n : Nat) (hx : Nw w vx m) (hy : Nw w vy n) (hm1 : m < 18446744073709551616) (hnm : n ≤ m) :
    Calls Tryz.prog 193 #[.slice none 0 0, vx, vy] w fun e w' => ∃ v, e = .returned v ∧ Nw w' v (m - n) ∧ Below w.heap.size w w' := by
  rcases Nat.eq_zero_or_pos n with h' | h'
  · subst h'
    rw [Nat.sub_zero]
    rcases Nat.eq_zero_or_pos m with h | h
    · subst h; exact nsub_00 w vx vy hx hy
    · exact nsub_10 w vx vy m hx hy h hm1
  · exact nsub_11 vx vy m n w hx hy (by omega) hm1 h' (by omega) hnm
end Go.Proofs.YtgdgklhfakplhaaGreatDoor
namespace Go.Proofs.YtgdgklhfakplhaaGreatDoor
open Go.RowKit Go.Dig
set_option maxRecDepth 100000
set_option maxHeartbeats 400000 in
theorem ncmp_11 (vx vy : Value) (m n : Nat) (w : World) (hx : Nw w vx m) (hy : Nw w vy n) (hm : 0 < m) (hm1 : m < 18446744073709551616) (hn : 0 < n) (hn1 : n < 18446744073709551616) :
    Calls Tryz.prog 147 #[vx, vy] w fun e w' => e = .returned (.int .i64 (cmpI m n)) ∧ ∃ k, w' = w.drewN k := by
  obtain ⟨ax, cx, ex, h1, h2, h3⟩ := hx
  obtain ⟨ay, cy, ey, h4, h5, h6⟩ := hy
  rw [dg_one hm hm1] at ex h3
  rw [dg_one hn hn1] at ey h6
  subst ex ey
  obtain ⟨b, off, rfl, _, hc⟩ := h3 (by simp)
  have hk := hc 0 (by simp)
  obtain ⟨b', off', rfl, _, hc'⟩ := h6 (by simp)
  have hk' := hc' 0 (by simp)
  simp only [List.getD_cons_zero, Nat.add_zero] at hk hk'
  clear h3 hc h6 hc' h1 h2 h4 h5
  go_enter Tryz.func147, Tryz.ntmps147
  go_wp2_with fail
  go_loopw [7] (fun v wr => v = .int .i64 0 ∧ wr = w) (fun _ _ => 0)
  case atStart => exact ⟨rfl, rfl⟩
  case round =>
    obtain ⟨rfl, rfl⟩ := hrel
    rcases Nat.lt_trichotomy m n with h | h | h
    · have e : cmpI m n = -1 := by rw [cmpI, if_pos h]
      have E := hid e
      clear e
      go_wp2_with fail
      go_quiet (fail)
      go_wp2_with fail
      go_quiet (fail)
      go_wp2_with fail
      go_ret
      rw [E.out]
      exact ⟨rfl, _, by simp only [World.drewN_drewN]; rfl⟩
    · subst h
      have E : Hid (cmpI m m = 0) := by rw [cmpI, if_neg (by omega), if_pos rfl]; exact rfl
      go_wp2_with fail
      go_quiet (fail)
      go_wp2_with fail
      go_quiet (fail)
      go_wp2_with fail
      go_quiet (fail)
      go_wp2_with fail
      go_ret
      rw [E.out]
      exact ⟨rfl, _, by simp only [World.drewN_drewN]; rfl⟩
    · have hn2 : ¬ m < n := by omega
      have E : Hid (cmpI m n = 1) := by rw [cmpI, if_neg (by omega), if_neg (by omega)]; exact rfl
      go_wp2_with fail
      go_quiet (fail)
      go_wp2_with fail
      go_quiet (fail)
      go_wp2_with fail
      go_quiet (fail)
      go_wp2_with fail
      go_ret
      rw [E.out]
      exact ⟨rfl, _, by simp only [World.drewN_drewN]; rfl⟩
set_option maxHeartbeats 400000 in
theorem ncmp_len (vx vy : Value) (m n : Nat) (w : World) (hx : Nw w vx m) (hy : Nw w vy n) (hl : (dg 18446744073709551616 m).length ≠ (dg 18446744073709551616 n).length ∨ (dg 18446744073709551616 m).length = 0) :
    Calls Tryz.prog 147 #[vx, vy] w fun e w' => e = .returned (.int .i64 (if (dg 18446744073709551616 m).length < (dg 18446744073709551616 n).length then -1 else if (dg 18446744073709551616 n).length < (dg 18446744073709551616 m).length then 1 else 0)) ∧ w' = w := by
  obtain ⟨ax, cx, rfl⟩ := hx.shape
  obtain ⟨ay, cy, rfl⟩ := hy.shape
  clear hx hy
  generalize (dg 18446744073709551616 m).length = p at *
  generalize (dg 18446744073709551616 n).length = q at *
  rcases Nat.lt_trichotomy p q with h | h | h
  · have hne : p ≠ q := by omega
    rw [if_pos h]
    go_enter Tryz.func147, Tryz.ntmps147
    go_wp2_with fail
    go_ret
    exact ⟨rfl, rfl⟩
  · subst h
    obtain rfl : p = 0 := by omega
    rw [if_neg (by omega), if_neg (by omega)]
    go_enter Tryz.func147, Tryz.ntmps147
    go_wp2_with fail
    go_ret
    exact ⟨rfl, rfl⟩
  · have hne : p ≠ q := by omega
    rw [if_neg (by omega), if_pos h]
    go_enter Tryz.func147, Tryz.ntmps147
    go_wp2_with fail
    go_ret
    exact ⟨rfl, rfl⟩
theorem ncmp_small (vx vy : Value) (m n : Nat) (w : World) (hx : Nw w vx m) (hy : Nw w vy n) (hm1 : m < 18446744073709551616) (hn1 : n < 18446744073709551616) :
    Calls Tryz.prog 147 #[vx, vy] w fun e w' => e = .returned (.int .i64 (cmpI m n)) ∧ ∃ k, w' = w.drewN k := by
  rcases Nat.eq_zero_or_pos m with h | h <;> rcases Nat.eq_zero_or_pos n with h' | h'
  · subst h h'
    refine (ncmp_len vx vy 0 0 w hx hy (.inr (by rw [dg_zero]; rfl))).mono ?_
    rintro e w' ⟨rfl, rfl⟩
    exact ⟨by rw [dg_zero]; rfl, 0, rfl⟩
  · subst h
    refine (ncmp_len vx vy 0 n w hx hy (.inr (by rw [dg_zero]; rfl))).mono ?_
    rintro e w' ⟨rfl, rfl⟩
    refine ⟨?_, 0, rfl⟩
    have e : cmpI 0 n = -1 := by rw [cmpI, if_pos h']
    rw [dg_zero, dg_one h' hn1, e]; rfl
  · subst h'
    refine (ncmp_len vx vy m 0 w hx hy (.inl (by rw [dg_zero, dg_one h hm1]; simp))).mono ?_
    rintro e w' ⟨rfl, rfl⟩
    refine ⟨?_, 0, rfl⟩
    have e : cmpI m 0 = 1 := by rw [cmpI, if_neg (by omega), if_neg (by omega)]
    rw [dg_zero, dg_one h hm1, e]; rfl
  · exact ncmp_11 vx vy m n w hx hy h hm1 h' hn1
end Go.Proofs.YtgdgklhfakplhaaGreatDoor
namespace Go.Proofs.YtgdgklhfakplhaaGreatDoor
open Go.RowKit Go.Dig
set_option maxRecDepth 100000
set_option maxHeartbeats 400000 in
theorem len_zero (v : Value) (w : World) (h : Nt w v 0) : Calls Tryz.prog 26 #[v] w fun e w' => e = .returned (.int .i64 0) ∧ w' = w := by
  have h' : Rt 3 .i64 w v [] := by have := h; unfold Nt at this; rwa [dg_zero] at this
  obtain ⟨a, cap, rfl, h1, h2, h3⟩ := h'
  clear h h3
  go_enter Tryz.func26, Tryz.ntmps26
  go_wp2_with fail
  go_ret
  exact ⟨rfl, rfl⟩
set_option maxHeartbeats 400000 in
theorem len_any (v : Value) (n : Nat) (w : World) (h : Nt w v n) (hl : (dg 65536 n).length ≤ 100000) : Calls Tryz.prog 26 #[v] w fun e w' => e = .returned (.int .i64 (blen n)) ∧ w' = w := by
  by_cases hn : n = 0
  · subst hn; rw [blen_zero]; exact len_zero v w h
  · obtain ⟨a, cap, rfl, h1, h2, h3⟩ := h
    have hp : 0 < (dg 65536 n).length := by rw [dg_pos (by omega) hn]; simp
    obtain ⟨b, off, rfl, _, hb3⟩ := h3 hp
    have hk := hb3 ((dg 65536 n).length - 1) (by omega)
    clear hb3 h3
    obtain ⟨t1, t2, t3⟩ := top_digit (b := 65536) (by omega) hn
    have hsh := blen_shift (n := n) (k := 16 * ((dg 65536 n).length - 1)) (by rw [Nat.pow_mul]; exact t2)
    rw [Nat.pow_mul] at hsh
    rw [t1] at hk
    have hsh2 : blen n = 16 * ((dg 65536 n).length - 1) + blen (n / 65536 ^ ((dg 65536 n).length - 1)) := hsh
    obtain ⟨L, hL⟩ : ∃ L, (dg 65536 n).length = L + 1 := ⟨(dg 65536 n).length - 1, by omega⟩
    rw [hL] at hk hsh2 t2 t3 h1 hl ⊢
    simp only [Nat.add_sub_cancel] at hk hsh2 t2 t3
    generalize n / 65536 ^ L = t at hk hsh2 t2 t3
    have hz0 : (((L : Int) + 1) == 0) = false := by simp; omega
    have HS := hid hsh2
    have HH := hid hL
    clear hsh hsh2 t1 hL hp
    go_enter Tryz.func26, Tryz.ntmps26
    go_wp2_with fail
    go_loop [3, 4] (fun x y => ∃ (c s : Nat), x = .int .i64 c ∧ y = .int .i64 s ∧ s < 65536 ∧ c ≤ 10000000 ∧ Hid (c + blen s = blen n)) (fun _ y => (intOf y).toNat)
    case atStart => exact ⟨16 * L, t, by simp, rfl, t3, by omega, HS.out.symm⟩
    case round =>
      obtain ⟨c, s, rfl, rfl, hs, hc, hcs⟩ := hrel
      rcases Nat.eq_zero_or_pos s with h0 | h0
      · subst h0
        go_wp2_with fail
        go_ret
        refine ⟨?_, rfl⟩
        have := hcs.out
        rw [blen_zero, Nat.add_zero] at this
        rw [this]; rfl
      · have hh := blen_half (n := s) (by omega)
        have hcs2 : c + 1 + blen (s / 2) = blen n := by rw [← hcs.out, hh]; omega
        have HC := hid hcs2
        have hb1 : c + 1 ≤ 10000000 := by
          have h2 := hcs.out
          have h3 := dg_length_le (b := 65536) (n := n) (k := L + 1) (by omega) (by rw [← HH.out]; exact lt_pow_dg_length (by omega) n)
          have h4 : blen n ≤ 16 * (L + 1) := blen_le (by rw [Nat.pow_mul, ← HH.out]; exact lt_pow_dg_length (by omega) n)
          omega
        clear hh hcs2
        go_wp2_with fail
        go_round
        case rel => exact ⟨c + 1, s / 2, by go_num, by simp, by omega, hb1, HC⟩
        case measure => simp [intOf]; omega
end Go.Proofs.YtgdgklhfakplhaaGreatDoor
namespace Go.Proofs.YtgdgklhfakplhaaGreatDoor
open Go.RowKit Go.Dig
set_option maxRecDepth 100000
theorem made_at (n i : Nat) (h : i < n) : (madeCells #[Value.int IntKind.i64 0] n)[i]? = some (.int .i64 0) := by
  rw [cs_zeros, cs_getElem? _ _ _ (by simpa using h), List.getD_eq_getElem?_getD, List.getElem?_replicate, if_pos h]; rfl
theorem pow16_lt (i : Nat) : 2 ^ (i % 16) < 65536 := by
  have := Nat.pow_lt_pow_right (a := 2) (by omega) (Nat.mod_lt i (show 16 > 0 by omega))
  omega
theorem pow_16 (i : Nat) : 2 ^ i = 65536 ^ (i / 16) * 2 ^ (i % 16) := by
  have e : (65536 : Nat) = 2 ^ 16 := rfl
  rw [e, ← Nat.pow_mul, ← Nat.pow_add]
  congr 1; omega
theorem dg_bit (i : Nat) : (List.replicate (i / 16 + 1) 0).set (i / 16) (2 ^ (i % 16)) = dg 65536 (2 ^ i) := by
  have e : (List.replicate (i / 16 + 1) 0).set (i / 16) (2 ^ (i % 16)) = List.replicate (i / 16) 0 ++ [2 ^ (i % 16)] := by
    rw [List.replicate_succ', List.set_append_right _ _ (by simp)]
    simp
  rw [e]
  have hc : Canon 65536 (List.replicate (i / 16) 0 ++ [2 ^ (i % 16)]) := by
    refine ⟨?_, ?_⟩
    · intro d hd
      rcases List.mem_append.1 hd with h | h
      · rw [List.eq_of_mem_replicate h]; omega
      · rw [List.mem_singleton.1 h]; exact pow16_lt i
    · intro h
      rw [List.getLast_concat]
      exact Nat.ne_of_gt (Nat.two_pow_pos _)
  have h1 := canon_eq (by omega) hc
  rw [h1, val_append, val_replicate, List.length_replicate]
  congr 1
  rw [pow_16 i, Nat.zero_add]
  simp [val]
set_option maxHeartbeats 400000 in
theorem bit_any (i : Nat) (w : World) (hi : i ≤ 2000000) :
    Calls Tryz.prog 103 #[.int .i64 i] w fun e w' => ∃ v, e = .returned v ∧ Nt w' v (2 ^ i) ∧ Below w.heap.size w w' := by
  have hmk := run_make_row' (P := Tryz.prog) 29 3 (.int .i64 0) 8 Tryz.underlying29 info3 rfl .i64 .i64 (i / 16 + 1) (by omega) (by omega)
  have ec : ((i / 16 + 1 : Nat) : Int) = (i : Int) / 16 + 1 := by omega
  rw [ec] at hmk
  clear ec
  have hcell := made_at (i / 16 + 1) (i / 16) (by omega)
  have hw : wrap64 (2 ^ (i % 16)) = ((2 ^ (i % 16) : Nat) : Int) := by
    have := pow16_lt i
    have e : ((2 ^ (i % 16) : Nat) : Int) = 2 ^ (i % 16) := by simp
    rw [← e]
    generalize 2 ^ (i % 16) = z at this
    unfold wrap64; omega
  go_enter Tryz.func103, Tryz.ntmps103
  go_wp2_with fail
  go_ret
  have ew : (cs .i64 (List.replicate (i / 16 + 1) 0)).toArray.setIfInBounds (i / 16) (.int .i64 ((2 ^ (i % 16) : Nat) : Int)) = (cs .i64 (dg 65536 (2 ^ i))).toArray := by
    rw [cs_set, dg_bit]
  have hp : (2 : Int) ^ (i % 16) = ((2 ^ (i % 16) : Nat) : Int) := by simp
  rw [hp, cs_zeros, ew]
  have hl : (dg 65536 (2 ^ i)).length = i / 16 + 1 := by rw [← dg_bit]; simp
  have h := BlkN.rt (k := .i64) (e := 3) (cap := (dg 65536 (2 ^ i)).length) (blk_new w (cs .i64 (dg 65536 (2 ^ i))).toArray 3) (Nat.le_refl _) (by omega)
  rw [hl] at h
  exact ⟨_, rfl, h, (Below.refl _ _).alloc (Nat.le_refl _) _⟩
end Go.Proofs.YtgdgklhfakplhaaGreatDoor
namespace Go.Proofs.YtgdgklhfakplhaaGreatDoor
open Go.RowKit Go.Dig
set_option maxRecDepth 100000
theorem rep_getD (n j : Nat) : (List.replicate n 0).getD j 0 = 0 := by
  rw [List.getD_eq_getElem?_getD, List.getElem?_replicate]; split <;> rfl
theorem wrap64_of_le {z : Int} (h0 : -9223372036854775808 ≤ z) (h1 : z ≤ 9223372036854775807) : wrap64 z = z := by unfold wrap64; omega
theorem shl_fits {c x n : Nat} (hc : c < 2 ^ (n % 16)) : c + x * 2 ^ (n % 16) % 65536 < 65536 := by
  have e : (65536 : Nat) = 2 ^ (16 - n % 16) * 2 ^ (n % 16) := by
    rw [← Nat.pow_add]
    have : 16 - n % 16 + n % 16 = 16 := by have := Nat.mod_lt n (show 16 > 0 by omega); omega
    rw [this]
  generalize 2 ^ (n % 16) = p at *
  generalize 2 ^ (16 - n % 16) = r at *
  rw [e, Nat.mul_mod_mul_right]
  have h1 : x % r < r := Nat.mod_lt _ (by rcases Nat.eq_zero_or_pos r with h | h; (· rw [h] at e; omega); exact h)
  have h2 : (x % r + 1) * p ≤ r * p := Nat.mul_le_mul_right p h1
  rw [Nat.add_mul] at h2
  omega
theorem shl_step {B : Nat} {l : List Nat} {i q c t x m n s : Nat} (hj : q + i + 1 < l.length) (ho : l.getD (q + i) 0 = c) (hz : l.getD (q + i + 1) 0 = 0) (hx : x = m / B ^ i % B) (ht : t = x * 2 ^ s)
    (hn : 2 ^ n = B ^ q * 2 ^ s) (hv : val B l = m % B ^ i * 2 ^ n) :
    val B ((l.set (q + i) (c + t % B)).set (q + i + 1) (t / B)) = m % B ^ (i + 1) * 2 ^ n := by
  have h1 := val_set B l (q + i) (c + t % B) (by omega)
  have h2 := val_set B (l.set (q + i) (c + t % B)) (q + i + 1) (t / B) (by rw [List.length_set]; exact hj)
  have e2 : (l.set (q + i) (c + t % B)).getD (q + i + 1) 0 = 0 := by
    rw [List.getD_eq_getElem?_getD, List.getElem?_set, if_neg (by omega), ← List.getD_eq_getElem?_getD, hz]
  rw [e2, Nat.zero_mul, Nat.add_zero] at h2
  rw [ho, Nat.add_mul] at h1
  have e3 : t % B * B ^ (q + i) + t / B * B ^ (q + i + 1) = t * B ^ (q + i) := by
    rw [Nat.pow_succ, Nat.mul_comm (B ^ (q + i)) B, ← Nat.mul_assoc, ← Nat.add_mul, Nat.add_comm, Nat.mul_comm (t / B), Nat.div_add_mod]
  have e4 : t * B ^ (q + i) = B ^ i * x * 2 ^ n := by
    rw [ht, hn, Nat.pow_add]; ac_rfl
  rw [Nat.mod_pow_succ, Nat.add_mul, ← hx]
  omega
set_option maxHeartbeats 400000 in
theorem shl_zero (va : Value) (n : Nat) (w : World) (hma : Nt w va 0) : Calls Tryz.prog 56 #[va, .int .i64 n] w fun e w' => e = .returned va ∧ w' = w := by
  obtain ⟨a, cap, rfl, h1, h2, h3⟩ := hma
  simp only [dg_zero, List.length_nil] at *
  go_enter Tryz.func56, Tryz.ntmps56
  go_wp2_with fail
  go_ret
  exact ⟨rfl, rfl⟩
set_option maxHeartbeats 1000000 in
theorem shl_pos (va : Value) (m n : Nat) (w : World) (hma : Nt w va m) (hm : m ≠ 0) (hla : (dg 65536 m).length ≤ 100000) (hn : n ≤ 2000000) :
    Calls Tryz.prog 56 #[va, .int .i64 n] w fun e w' => ∃ v, e = .returned v ∧ Nt w' v (m * 2 ^ n) ∧ Below w.heap.size w w' := by
  obtain ⟨a, cap, rfl, h1, h2, h3⟩ := hma
  have HA := hid h3
  clear h3
  have hlp : 0 < (dg 65536 m).length := by
    rcases Nat.eq_zero_or_pos (dg 65536 m).length with h | h
    · exact absurd ((dg_nil_iff (b := 65536) (by omega)).1 (List.eq_nil_of_length_eq_zero h)) hm
    · exact h
  have hmk := run_make_row' (P := Tryz.prog) 29 3 (.int .i64 0) 8 Tryz.underlying29 info3 rfl .i64 .i64 (n / 16 + (dg 65536 m).length + 1) (by omega) (by omega)
  have ec : ((n / 16 + (dg 65536 m).length + 1 : Nat) : Int) = (n : Int) / 16 + ((dg 65536 m).length : Int) + 1 := by omega
  rw [ec] at hmk
  clear ec
  go_enter Tryz.func56, Tryz.ntmps56
  go_wp2_with fail
  go_loopw [21] (fun y wr => ∃ (i : Nat) (l : List Nat), y = .int .i64 i ∧ i ≤ (dg 65536 m).length ∧ Hid (l.length = n / 16 + (dg 65536 m).length + 1) ∧ BlkN .i64 3 wr w.heap.size l ∧ Hid (∀ d ∈ l, d < 65536) ∧
    l.getD (n / 16 + i) 0 < 2 ^ (n % 16) ∧ Hid (∀ j, n / 16 + i < j → l.getD j 0 = 0) ∧ Hid (val 65536 l = m % 65536 ^ i * 2 ^ n) ∧ Below w.heap.size w wr) (fun y _ => (dg 65536 m).length - (intOf y).toNat)
  case atStart =>
    refine ⟨0, List.replicate (n / 16 + (dg 65536 m).length + 1) 0, rfl, Nat.zero_le _, hid (by simp), blkN_made _ _ _ _, hid (by intro d hd; rw [List.eq_of_mem_replicate hd]; omega), ?_, hid ?_, hid ?_, (Below.refl _ _).alloc (Nat.le_refl _) _⟩
    · rw [rep_getD]; exact Nat.two_pow_pos _
    · intro j _; rw [rep_getD]
    · rw [val_replicate, Nat.pow_zero, Nat.mod_one, Nat.zero_mul]
  case round =>
    obtain ⟨i, l, rfl, hi, hll, hB, hdl, hc, hz, hv, hb⟩ := hrel
    rcases Nat.lt_or_ge i (dg 65536 m).length with hka | hia
    · obtain ⟨b, off, rfl, _, hb3⟩ := HA.out (by omega)
      have hk := hb3 i hka
      clear hb3
      have hx := (hb.cell (World.block_lt_of_cell? w _ hk)).trans hk
      clear hk
      have hxd : (dg 65536 m).getD i 0 = m / 65536 ^ i % 65536 := dg_getD (by omega) m i
      generalize (dg 65536 m).getD i 0 = x at hx hxd
      have hx1 : x < 65536 := by rw [hxd]; exact Nat.mod_lt _ (by omega)
      have HX := hid hxd
      clear hxd
      have hcell := hB.at (i := n / 16 + i) (by rw [hll.out]; omega)
      have hfr := Blk.frozen hB (n / 16 + i)
      have hcell2 := hB.at (i := n / 16 + i + 1) (by rw [hll.out]; omega)
      have hfr2 := Blk.frozen hB (n / 16 + i + 1)
      rw [hz.out _ (by omega)] at hcell2
      have hp0 := pow16_lt n
      have hp1 := Nat.two_pow_pos (n % 16)
      have hp2 : (2 : Int) ^ (n % 16) = ((2 ^ (n % 16) : Nat) : Int) := by simp
      generalize hold : l.getD (n / 16 + i) 0 = c at hcell hc
      have HO := hid hold
      clear hold
      obtain ⟨t, hte⟩ : ∃ t, t = x * 2 ^ (n % 16) := ⟨_, rfl⟩
      have ht1 : t ≤ 65535 * 65535 := by rw [hte]; exact Nat.mul_le_mul (by omega) (by omega)
      have ht2 : wrap64 ((x : Int) * 2 ^ (n % 16)) = (t : Int) := by
        rw [hp2, ← Int.natCast_mul, ← hte]
        exact wrap64_of_le (by omega) (by omega)
      have ht3 : c + t % 65536 < 65536 := by rw [hte]; exact shl_fits hc
      have ht4 : t / 65536 < 2 ^ (n % 16) := by rw [hte]; exact Nat.div_lt_of_lt_mul (Nat.mul_lt_mul_of_pos_right hx1 hp1)
      have HT := hid hte
      clear hte hp2
      go_wp2_with fail
      have HV := hid (shl_step (B := 65536) (l := l) (i := i) (q := n / 16) (c := c) (t := t) (x := x) (m := m) (n := n) (s := n % 16) (by rw [hll.out]; omega) HO.out (hz.out _ (by omega)) HX.out HT.out (pow_16 n) hv.out)
      go_roundw
      case rel =>
        refine ⟨i + 1, (l.set (n / 16 + i) (c + t % 65536)).set (n / 16 + i + 1) (t / 65536), by go_num, by omega, hid (by rw [List.length_set, List.length_set]; exact hll.out), ?_, hid (set_mem (set_mem hdl.out ht3) (by omega)), ?_, hid ?_, hid HV.out, (hb.setCell (Nat.le_refl _) _).setCell (Nat.le_refl _) _⟩
        · have := (BlkN.put hB (n / 16 + i) (c + t % 65536)).put (n / 16 + i + 1) (t / 65536)
          simpa using this
        · have e : n / 16 + (i + 1) = n / 16 + i + 1 := by omega
          rw [e, List.getD_eq_getElem?_getD, List.getElem?_set_self (by rw [List.length_set, hll.out]; omega)]
          exact ht4
        · intro j hj
          rw [set_far (by omega), set_far (by omega)]; exact hz.out j (by omega)
      case measure => simp [intOf]; omega
    · obtain rfl : i = (dg 65536 m).length := by omega
      have hR2 := BlkN.rt hB (cap := l.length) (Nat.le_refl _) (by rw [hll.out]; omega)
      rw [hll.out] at hR2
      go_wp2_with fail
      refine (trim_any _ _ _ hR2).mono ?_
      rintro e w1 ⟨v', rfl, hv', rfl⟩
      go_wp2_with fail
      go_ret
      refine ⟨_, rfl, ?_, hb⟩
      have h1 := hv.out
      rw [mod_len (by omega) (Nat.le_refl _)] at h1
      rw [trim_eq (by omega) hdl.out, h1] at hv'
      exact hv'
theorem shl_any (va : Value) (m n : Nat) (w : World) (hma : Nt w va m) (hla : (dg 65536 m).length ≤ 100000) (hn : n ≤ 2000000) :
    Calls Tryz.prog 56 #[va, .int .i64 n] w fun e w' => ∃ v, e = .returned v ∧ Nt w' v (m * 2 ^ n) ∧ Below w.heap.size w w' := by
  rcases Nat.eq_zero_or_pos m with rfl | h
  · refine (shl_zero va n w hma).mono ?_
    rintro e w' ⟨rfl, rfl⟩
    refine ⟨_, rfl, ?_, Below.refl _ _⟩
    rw [Nat.zero_mul]; exact hma
  · exact shl_pos va m n w hma (Nat.ne_of_gt h) hla hn
end Go.Proofs.YtgdgklhfakplhaaGreatDoor
