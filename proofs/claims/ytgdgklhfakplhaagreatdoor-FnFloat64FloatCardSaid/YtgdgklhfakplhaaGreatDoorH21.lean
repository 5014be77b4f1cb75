/- Walks and lemmas for the laws of this seat. -/
import Derived.Test.YtgdgklhfakplhaaGreatDoorH20
import Derived.Lib.AppendZerosOnto
import Derived.WalkKit
import Derived.Defers
namespace Go.Proofs.YtgdgklhfakplhaaGreatDoor
open Go.RowKit Go.Dig
set_option maxRecDepth 100000
theorem lsh_tail {w w1 : World} {b' c' K m top : Nat} {l l' : List Nat} (hb : Ds w b' 0 l) (hl : l.length = c') (hk : K + m + 1 ≤ c') (hf : Fx b' K m w w1) (h' : Ds w1 b' K l') (hm : l'.length = m) :
    ∃ L, Ds ((w1.setCell ⟨b', m + K, none⟩ (.int .u64 (top : Int))).setCells b' 0 (cs .u64 (List.replicate K 0))) b' 0 L ∧ L.length = c' ∧ L.take (m + K + 1) = List.replicate K 0 ++ l' ++ [top] ∧ Fx b' 0 c' w ((w1.setCell ⟨b', m + K, none⟩ (.int .u64 (top : Int))).setCells b' 0 (cs .u64 (List.replicate K 0))) := by
  rw [Nat.add_comm m K]
  have h1 := splice_ds hb hf h' hm (by omega)
  have hlen : (l.take K ++ l' ++ l.drop (K + m)).length = c' := by
    simp only [List.length_append, List.length_take, List.length_drop]; omega
  have h2 := h1.put (i := K + m) (by omega) top
  rw [Nat.zero_add] at h2
  obtain ⟨h3, f3⟩ := puts_ds (List.replicate K 0) 0 _ _ h2 (by rw [List.length_set, hlen]; simp; omega)
  rw [Nat.add_zero] at h3 f3
  refine ⟨_, h3, ?_, ?_, ?_⟩
  · simp only [List.length_append, List.length_take, List.length_drop, List.length_set, List.length_replicate] at hlen ⊢
    omega
  · have e0 : (l.take K).length = K := by rw [List.length_take]; omega
    have e1 : (l.take K ++ l').length = K + m := by rw [List.length_append, e0, hm]
    rw [List.set_append_right (K + m) top (by omega), e1, Nat.sub_self, List.take_zero, List.nil_append, List.length_replicate, Nat.zero_add, List.append_assoc, List.append_assoc, List.drop_left' e0]
    obtain ⟨d, D, hD⟩ : ∃ d D, l.drop (K + m) = d :: D := List.exists_cons_of_length_pos (by rw [List.length_drop]; omega)
    rw [hD, List.set_cons_zero]
    rw [show List.replicate K 0 ++ (l' ++ top :: D) = (List.replicate K 0 ++ (l' ++ [top])) ++ D by simp]
    rw [List.take_left' (by simp [hm]; omega)]
  · have f1 := (hf.mono (o' := 0) (k' := c') (by omega) (by omega)).setCell (i := K + m) (by omega) (by omega) (.int .u64 (top : Int))
    exact f1.trans (f3.mono (by omega) (by simp; omega))
set_option maxHeartbeats 1000000 in
theorem lsh_own (v : Value) (b c n s : Nat) (w : World) (hv : On w v b c n) (hn : 0 < n) (hlen : (dg 18446744073709551616 n).length ≤ 400) (hc : c < 1000000) (hs0 : 0 < s) (hs : s < 20000) :
    Calls Tryz.prog 110 #[v, v, .int .u64 s] w fun e w' => ∃ v' b' c', e = .returned v' ∧ On w' v' b' c' (n * 2 ^ s) ∧ c' < 1000000 ∧ (b' = b ∨ b' = w.heap.size) ∧ Fx b 0 c w w' := by
  have hs1 : ((s : Int) == 0) = false := by simp; omega
  obtain ⟨K, hK⟩ : ∃ K, Hid (K = s / 64) := ⟨_, rfl⟩
  obtain ⟨r, hr⟩ : ∃ r, Hid (r = s % 64) := ⟨_, rfl⟩
  have hq : (s : Int) / 64 = (K : Int) := by have := hK.out; omega
  have hr2 : (s : Int) % 64 = (r : Int) := by have := hr.out; omega
  have hr3 : r < 64 := by have := hr.out; omega
  have hK3 : K < 400 := by have := hK.out; omega
  have hsK : Hid (s = 64 * K + r) := hid (by have := hK.out; have := hr.out; omega)
  obtain ⟨rfl, hmc, l, hb, hl, ht⟩ := hv
  obtain ⟨m, hm⟩ : ∃ m, (dg 18446744073709551616 n).length = m := ⟨_, rfl⟩
  rw [hm] at hmc ht hlen ⊢
  have hm0 : 0 < m := by rw [← hm, dg_pos (by omega) (by omega)]; simp
  have hm1 : ((m : Int) == 0) = false := by simp; omega
  have hdx : ∀ d ∈ dg 18446744073709551616 n, d < 18446744073709551616 := dg_lt (by omega) n
  have hx : Ds w b 0 (dg 18446744073709551616 n) := by rw [← ht]; exact hb.take _
  have HM := make_own b c m (m + K + 1) l w hb hl (by omega) (by omega)
  rw [show ((m + K + 1 : Nat) : Int) = (m : Int) + (K : Int) + 1 by omega] at HM
  have HB := hid hb
  have HX := hid hx
  have HDX := hid hdx
  have HL := hid hl
  have HMM := hid hm
  clear hb hx hdx ht hl
  rcases Nat.eq_zero_or_pos r with h0 | h0
  · subst h0
    simp only [Int.natCast_zero] at hr2
    go_enter Tryz.func110, Tryz.ntmps110
    go_wp2_with fail
    refine HM.mono ?_
    rintro e w1 ⟨b', c', l', rfl, hb', hl', hkc, hcb, hbb, hf⟩
    clear HM
    have hx1 := HX.out.below hf HB.out.lt
    have hzK : Ds w1 b' K ((l'.drop K).take m) := by have := (hb'.sub (i := K) (by omega)).take m; rwa [Nat.zero_add] at this
    have hcp := copy_ds w1 b' K m (c' - K) b 0 c _ _ hzK hx1 HMM.out.symm (by rw [HMM.out]; simp; omega)
    obtain ⟨hp1, hp2⟩ := put_ds hzK (ws := dg 18446744073709551616 n) (by rw [HMM.out]; simp; omega)
    rw [HMM.out] at hp2
    generalize w1.setCells b' K (cs .u64 (dg 18446744073709551616 n)) = w2 at *
    have hs2 := splice_ds hb' hp2 hp1 HMM.out (by omega)
    have hslen : (l'.take K ++ dg 18446744073709551616 n ++ l'.drop (K + m)).length = c' := by
      simp only [List.length_append, List.length_take, List.length_drop, HMM.out]; omega
    have hc1 := hs2.cell (i := K + m) (by omega)
    rw [Nat.zero_add, Nat.add_comm K m] at hc1
    have hf1 := hs2.frozen (m + K)
    obtain ⟨L, hL1, hL2, hL3, hL4⟩ := lsh_tail (top := 0) hb' hl' (by omega) hp2 hp1 HMM.out
    have hs3 := hs2.put (i := K + m) (by omega) 0
    have hsl3 : K ≤ ((l'.take K ++ dg 18446744073709551616 n ++ l'.drop (K + m)).set (K + m) 0).length := by rw [List.length_set, hslen]; omega
    generalize (l'.take K ++ dg 18446744073709551616 n ++ l'.drop (K + m)).set (K + m) 0 = ls at *
    rw [Nat.zero_add, Nat.add_comm K m] at hs3
    have hcl := run_clear_ds b' 0 K c' _ _ hs3 hsl3
    rw [show ((0 : Nat) : Int) = 0 from rfl] at hcl hL1 hL4 hs3
    generalize (w2.setCell ⟨b', m + K, none⟩ (.int .u64 0)).setCells b' 0 (cs .u64 (List.replicate K 0)) = w4 at *
    have HL := hid hL1
    have HL2 := hid hL2
    have HL3 := hid hL3
    have HF := hid (hf)
    have HF4 := hid hL4
    clear hL1 hL2 hL3 hL4 hs2 hs3 hp1 hp2 hzK hx1 hb' hf
    have HBB := hid hbb
    clear hbb
    focus go_wp2_with fail
    refine (norm_ds b' 0 c' (m + K + 1) (L.take (m + K + 1)) _ (HL.out.take _) (by rw [List.length_take, HL2.out]; omega) (by omega) (by omega)).mono ?_
    rintro e w5 ⟨rfl, rfl, ht, hle⟩
    have he : trim (L.take (m + K + 1)) = dg 18446744073709551616 (n * 2 ^ s) := by
      rw [HL3.out]
      exact lsh_words hsK.out HMM.out HDX.out (by omega) (by rw [val_dg (by omega)]; simp)
    have HR := hid (on_of HL.out HL2.out (by omega) he ht hle)
    clear ht hle he
    go_wp2_with fail
    go_ret
    exact ⟨_, b', c', rfl, HR.out, by omega, HBB.out.imp And.left id, fx_own HBB.out HF.out HF4.out⟩
  · have hr0 : ((r : Int) == 0) = false := by simp; omega
    go_enter Tryz.func110, Tryz.ntmps110
    go_wp2_with fail
    refine HM.mono ?_
    rintro e w1 ⟨b', c', l', rfl, hb', hl', hkc, hcb, hbb, hf⟩
    clear HM
    have hx1 := HX.out.below hf HB.out.lt
    have hzK : Ds w1 b' K ((l'.drop K).take m) := by have := (hb'.sub (i := K) (by omega)).take m; rwa [Nat.zero_add] at this
    have HLS := lshvu b' K (c' - K) b 0 c r m _ _ w1 hzK hx1 (by simp; omega) HMM.out hm0 (by omega) (.inr (Nat.zero_le _)) HDX.out (by omega) hr3
    focus go_wp2_with fail
    refine HLS.mono ?_
    rintro e w2 ⟨l2, top, rfl, hl2, hv2, hd2, hp1, hp2⟩
    clear HLS hx1 hzK
    have htop : top < 18446744073709551616 := by
      have h1 : n < 18446744073709551616 ^ m := by rw [← HMM.out]; exact lt_pow_dg_length (by omega) n
      have h2 : top * 18446744073709551616 ^ m < 18446744073709551616 * 18446744073709551616 ^ m := by
        rw [val_dg (by omega)] at hv2
        have h3 : n * 2 ^ r < 18446744073709551616 ^ m * 2 ^ r := Nat.mul_lt_mul_of_pos_right h1 (Nat.pow_pos (by omega))
        have h4 : (2 : Nat) ^ r ≤ 18446744073709551616 := by
          calc (2 : Nat) ^ r ≤ 2 ^ 64 := Nat.pow_le_pow_right (by omega) (by omega)
            _ = _ := by decide
        have h5 : 18446744073709551616 ^ m * 2 ^ r ≤ 18446744073709551616 ^ m * 18446744073709551616 := Nat.mul_le_mul_left _ h4
        rw [Nat.mul_comm 18446744073709551616]
        omega
      exact Nat.lt_of_mul_lt_mul_right h2
    rw [val_dg (by omega)] at hv2
    have hs2 := splice_ds hb' hp2 hp1 hl2 (by omega)
    have hslen : (l'.take K ++ l2 ++ l'.drop (K + m)).length = c' := by
      simp only [List.length_append, List.length_take, List.length_drop, hl2]; omega
    have hc1 := hs2.cell (i := K + m) (by omega)
    rw [Nat.zero_add, Nat.add_comm K m] at hc1
    have hf1 := hs2.frozen (m + K)
    obtain ⟨L, hL1, hL2, hL3, hL4⟩ := lsh_tail (top := top) hb' hl' (by omega) hp2 hp1 hl2
    have hs3 := hs2.put (i := K + m) (by omega) top
    have hsl3 : K ≤ ((l'.take K ++ l2 ++ l'.drop (K + m)).set (K + m) top).length := by rw [List.length_set, hslen]; omega
    generalize (l'.take K ++ l2 ++ l'.drop (K + m)).set (K + m) top = ls at *
    rw [Nat.zero_add, Nat.add_comm K m] at hs3
    have hcl := run_clear_ds b' 0 K c' _ _ hs3 hsl3
    generalize (w2.setCell ⟨b', m + K, none⟩ (.int .u64 (top : Int))).setCells b' 0 (cs .u64 (List.replicate K 0)) = w4 at *
    have HL := hid hL1
    have HL2 := hid hL2
    have HL3 := hid hL3
    have HF := hid (hf)
    have HF4 := hid hL4
    have HV2 := hid hv2
    have HL22 := hid hl2
    have HD2 := hid hd2
    have HBB := hid hbb
    clear hL1 hL2 hL3 hL4 hs2 hs3 hp1 hp2 hb' hf hv2 hl2 hd2 hbb
    focus go_wp2_with fail
    refine (norm_ds b' 0 c' (m + K + 1) (L.take (m + K + 1)) _ (HL.out.take _) (by rw [List.length_take, HL2.out]; omega) (by omega) (by omega)).mono ?_
    rintro e w5 ⟨rfl, rfl, ht, hle⟩
    have he : trim (L.take (m + K + 1)) = dg 18446744073709551616 (n * 2 ^ s) := by
      rw [HL3.out]
      exact lsh_words hsK.out HL22.out HD2.out htop HV2.out
    have HR := hid (on_of HL.out HL2.out (by omega) he ht hle)
    clear ht hle he
    go_wp2_with fail
    go_ret
    exact ⟨_, b', c', rfl, HR.out, by omega, HBB.out.imp And.left id, fx_own HBB.out HF.out HF4.out⟩
end Go.Proofs.YtgdgklhfakplhaaGreatDoor
namespace Go.Proofs.YtgdgklhfakplhaaGreatDoor
open Go.RowKit Go.Dig
set_option maxRecDepth 100000
theorem info136 : ∃ i, Tryz.prog.info? 181 = some i ∧ i.zero = some (.int .u64 0) ∧ i.size = 1 ∧ i.bytes = 8 := by
  have h : (Tryz.prog.info? 181).map (fun i => (i.zero, i.size, i.bytes)) = some (some (.int .u64 0), 1, 8) := by kernel_rfl
  exact info_parts h
theorem zeroCells_cs (n : Nat) : Builtin.zeroCells (Value.int .u64 0).cells n = (cs .u64 (List.replicate n 0)).toArray := by
  apply Array.ext_getElem?
  intro i
  by_cases hi : i < n
  · simp [Builtin.zeroCells, Value.cells, cs, hi, Nat.mod_one]
  · simp [Builtin.zeroCells, Value.cells, cs, hi]
theorem cs_app (k : IntKind) (a b : List Nat) : (cs k a).toArray ++ (cs k b).toArray = (cs k (a ++ b)).toArray := by simp [cs]
set_option maxHeartbeats 400000 in
/-- slices.Grow of the nil slice: a new block of zeros. -/
theorem grow_nil (n : Nat) (hn : 0 < n) (hn1 : n < 1000) (w : World) : Calls Tryz.prog 202 #[.slice none 0 0, .int .i64 n] w fun e w' => ∃ cap, e = .returned (.slice (some ⟨w.heap.size, 0, none⟩) 0 cap) ∧ n ≤ cap ∧ cap ≤ 9223372036854775807 ∧ Ds w' w.heap.size 0 (List.replicate cap 0) ∧ Below w.heap.size w w' := by
  obtain ⟨i0, hi, hz0, hz1, hz2⟩ := info136
  have happ := Lib.run_append_nil_zeros (P := Tryz.prog) w 118 3 118 181 i0 (.int .u64 0) .i64 .i64 Tryz.underlying118 (by kernel_rfl) hi hz0 n hn (by omega) (by omega) (by rw [hz2]; omega)
  generalize hcap : grownCap w n 0 181 = cap2 at happ
  have hcapge : n ≤ cap2 := by rw [← hcap]; exact grownCap_ge w _ 0 181
  have hcaple : cap2 ≤ maxLen := by rw [← hcap]; exact grownCap_le_maxLen w _ 0 181 (by unfold maxLen; omega)
  unfold maxLen at hcaple
  have hZ : Builtin.zeroCells (Value.int .u64 0).cells n ++ Builtin.zeroCells (Value.int .u64 0).cells (cap2 - n) = (cs .u64 (List.replicate cap2 0)).toArray := by
    rw [zeroCells_cs, zeroCells_cs, cs_app, List.replicate_append_replicate]; congr 3; omega
  rw [hZ] at happ
  clear hcap hZ
  have hD : Ds (w.drew.alloc (.cells (cs .u64 (List.replicate cap2 0)).toArray 181)) w.heap.size 0 (List.replicate cap2 0) := Ds.of_blk (blk_new w.drew _ 181)
  have hB : Below w.heap.size w (w.drew.alloc (.cells (cs .u64 (List.replicate cap2 0)).toArray 181)) := (Below.refl _ _).drew.alloc (Nat.le_refl _) _
  go_enter Tryz.func202, Tryz.ntmps202
  go_wp2_with (at_builtin; refine Lib.wpList_append_run _ rfl _ _ _ _ rfl _ _ rfl rfl _ _ happ ?_)
  go_ret
  exact ⟨cap2, rfl, hcapge, by omega, hD, hB⟩
set_option maxHeartbeats 400000 in
/-- slices.Grow of the nil slice: a new block of zeros. -/
theorem growW_nil (n : Nat) (hn : 0 < n) (hn1 : n < 1000) (w : World) : Calls Tryz.prog 225 #[.slice none 0 0, .int .i64 n] w fun e w' => ∃ cap, e = .returned (.slice (some ⟨w.heap.size, 0, none⟩) 0 cap) ∧ n ≤ cap ∧ cap ≤ 9223372036854775807 ∧ Ds w' w.heap.size 0 (List.replicate cap 0) ∧ Below w.heap.size w w' := by
  obtain ⟨i0, hi, hz0, hz1, hz2⟩ := info136
  have happ := Lib.run_append_nil_zeros (P := Tryz.prog) w 117 3 117 181 i0 (.int .u64 0) .i64 .i64 Tryz.underlying117 (by kernel_rfl) hi hz0 n hn (by omega) (by omega) (by rw [hz2]; omega)
  generalize hcap : grownCap w n 0 181 = cap2 at happ
  have hcapge : n ≤ cap2 := by rw [← hcap]; exact grownCap_ge w _ 0 181
  have hcaple : cap2 ≤ maxLen := by rw [← hcap]; exact grownCap_le_maxLen w _ 0 181 (by unfold maxLen; omega)
  unfold maxLen at hcaple
  have hZ : Builtin.zeroCells (Value.int .u64 0).cells n ++ Builtin.zeroCells (Value.int .u64 0).cells (cap2 - n) = (cs .u64 (List.replicate cap2 0)).toArray := by
    rw [zeroCells_cs, zeroCells_cs, cs_app, List.replicate_append_replicate]; congr 3; omega
  rw [hZ] at happ
  clear hcap hZ
  have hD : Ds (w.drew.alloc (.cells (cs .u64 (List.replicate cap2 0)).toArray 181)) w.heap.size 0 (List.replicate cap2 0) := Ds.of_blk (blk_new w.drew _ 181)
  have hB : Below w.heap.size w (w.drew.alloc (.cells (cs .u64 (List.replicate cap2 0)).toArray 181)) := (Below.refl _ _).drew.alloc (Nat.le_refl _) _
  go_enter Tryz.func225, Tryz.ntmps225
  go_wp2_with (at_builtin; refine Lib.wpList_append_run _ rfl _ _ _ _ rfl _ _ rfl rfl _ _ happ ?_)
  go_ret
  exact ⟨cap2, rfl, hcapge, by omega, hD, hB⟩
set_option maxHeartbeats 400000 in
/-- slices.Grow of a row that has room: the row itself. -/
theorem growW_room (g n len cap : Nat) (hlc : len + n ≤ cap) (hc : cap ≤ 9223372036854775807) (hn1 : n < 1000) (w : World) : Calls Tryz.prog 225 #[.slice (some ⟨g, 0, none⟩) len cap, .int .i64 n] w fun e w' => e = .returned (.slice (some ⟨g, 0, none⟩) len cap) ∧ w' = w := by
  have h0 : ¬ ((n : Int) < 0) := by omega
  have h1 : ¬ (0 < IntKind.i64.wrap ((n : Int) - IntKind.i64.wrap ((cap : Int) - len))) := by
    rw [IntKind.wrap_i64, IntKind.wrap_i64]; omega
  go_enter Tryz.func225, Tryz.ntmps225
  go_wp2_with fail
  go_ret
  exact ⟨rfl, rfl⟩
set_option maxHeartbeats 400000 in
/-- slices.Grow of a row without room: a new block, which begins as the old one. -/
theorem growW_more (g n len cap : Nat) (l : List Nat) (w : World) (hg : Ds w g 0 l) (hl : l.length = cap) (hlc : len ≤ cap) (hr : cap < len + n) (hm : len + n < 250) :
    Calls Tryz.prog 225 #[.slice (some ⟨g, 0, none⟩) len cap, .int .i64 n] w fun e w' => ∃ cap2, e = .returned (.slice (some ⟨w.heap.size, 0, none⟩) len cap2) ∧ len + n ≤ cap2 ∧ cap2 ≤ 9223372036854775807 ∧ Ds w' w.heap.size 0 (l ++ List.replicate (cap2 - cap) 0) ∧ Below w.heap.size w w' := by
  obtain ⟨i0, hi, hz0, hz1, hz2⟩ := info136
  obtain ⟨k, hk⟩ : ∃ k, n - (cap - len) = k := ⟨_, rfl⟩
  have hold : (Builtin.firstCells i0.size cap (.slice (some ⟨g, 0, none⟩) cap cap)).run Tryz.prog w.drew = .ok (cs .u64 l).toArray w.drew := by
    have h := run_loadCells_list (P := Tryz.prog) w.drew ⟨g, 0, none⟩ (cs .u64 l) (fun j v hj => by
      have hjl : j < l.length := by
        rcases Nat.lt_or_ge j (cs .u64 l).length with h | h
        · rwa [cs_length] at h
        · rw [List.getElem?_eq_none h] at hj; cases hj
      have h1 := cs_getElem? .u64 l j hjl
      rw [List.getElem?_toArray, hj] at h1
      injection h1 with h1
      rw [h1, cell_add]
      exact hg.cell hjl)
    rw [cs_length, hl] at h
    simp only [Builtin.firstCells, hz1, Nat.mul_one]
    exact h
  have hnx : Builtin.nextslicecap (cap + k) cap ≤ 1000 := by
    unfold Builtin.nextslicecap
    split
    · omega
    · split <;> omega
  have happ := Lib.run_append_grow_zeros (P := Tryz.prog) w 117 3 117 181 i0 (.int .u64 0) .i64 .i64 Tryz.underlying117 (by kernel_rfl) hi hz0 (some ⟨g, 0, none⟩) cap cap (cs .u64 l) hold k (by omega) (by omega) (by omega) (by omega) (by rw [hz2]; omega) (by rw [hz2]; omega)
  generalize hcap : grownCap w (cap + k) cap 181 = cap2 at happ
  have hcapge : cap + k ≤ cap2 := by rw [← hcap]; exact grownCap_ge w _ cap 181
  have hcaple : cap2 ≤ maxLen := by rw [← hcap]; exact grownCap_le_maxLen w _ cap 181 (by unfold maxLen; omega)
  unfold maxLen at hcaple
  have hZ : (cs .u64 l).toArray ++ Builtin.zeroCells (Value.int .u64 0).cells k ++ Builtin.zeroCells (Value.int .u64 0).cells (cap2 - (cap + k)) = (cs .u64 (l ++ List.replicate (cap2 - cap) 0)).toArray := by
    rw [zeroCells_cs, zeroCells_cs, cs_app, cs_app, List.append_assoc, List.replicate_append_replicate]; congr 4; omega
  rw [hZ] at happ
  clear hcap hZ hnx hold
  have hD : Ds (w.drew.alloc (.cells (cs .u64 (l ++ List.replicate (cap2 - cap) 0)).toArray 181)) w.heap.size 0 (l ++ List.replicate (cap2 - cap) 0) := Ds.of_blk (blk_new w.drew _ 181)
  have hB : Below w.heap.size w (w.drew.alloc (.cells (cs .u64 (l ++ List.replicate (cap2 - cap) 0)).toArray 181)) := (Below.refl _ _).drew.alloc (Nat.le_refl _) _
  have h0 : ¬ ((n : Int) < 0) := by omega
  have hw : IntKind.i64.wrap ((n : Int) - IntKind.i64.wrap ((cap : Int) - len)) = (k : Int) := by
    rw [IntKind.wrap_i64, IntKind.wrap_i64]; omega
  have hw2 : (n : Int) - ((cap : Int) - len) = (k : Int) := by omega
  have hk0 : (0 : Int) < (k : Int) := by omega
  have hk1 : (cap : Int) - len < (n : Int) := by omega
  clear hg
  go_enter Tryz.func225, Tryz.ntmps225
  go_wp2_with (at_builtin; refine Lib.wpList_append_run _ rfl _ _ _ _ rfl _ _ rfl rfl _ _ happ ?_)
  go_ret
  exact ⟨cap2, rfl, by omega, by omega, hD, hB⟩
end Go.Proofs.YtgdgklhfakplhaaGreatDoor
namespace Go.Proofs.YtgdgklhfakplhaaGreatDoor
open Go.RowKit Go.Dig
set_option maxRecDepth 100000
theorem Fx.setNew {b o k : Nat} {w w1 : World} (h : Fx b o k w w1) {p : Addr} (hb : b ≠ p.block) (hp : w.heap.size ≤ p.block) (v : Value) : Fx b o k w (w1.setCell p v) := by
  refine ⟨h.os, h.tape, h.output, Nat.le_trans h.size (by simp [World.setCell]), fun c hc h2 => (Below.heap_setCell _ _ _ _ (by omega)).trans (h.block c hc h2), fun cur e hc => ?_⟩
  obtain ⟨c1, b1, s1, e1⟩ := h.own cur e hc
  exact ⟨c1, (Below.heap_setCell _ _ _ _ hb).trans b1, s1, e1⟩
theorem Blk.setOther {w : World} {b : Nat} {c : Array Value} {e : TypeId} (h : Blk w b c e) {p : Addr} (hb : b ≠ p.block) (v : Value) : Blk (w.setCell p v) b c e := (Below.heap_setCell _ _ _ _ hb).trans h
theorem round4 : ∀ n : Nat, n < 64 → bits .andNot .i64 ((n : Int) + 3) 3 = ((4 * ((n + 3) / 4) : Nat) : Int) := by
  decide
set_option maxHeartbeats 1000000 in
theorem siNat_nil (si n : Nat) (hn : 0 < n) (hn1 : n < 60) (w : World) (hb : Blk w si #[.slice none 0 0] 207) :
    Calls Tryz.prog 203 #[.pointer (some ⟨si, 0, none⟩), .int .i64 n] w fun e w' => ∃ cap L, e = .returned (.slice (some ⟨w.heap.size, 0, none⟩) n n) ∧ Ds w' w.heap.size 0 L ∧ L.length = cap ∧ 4 * ((n + 3) / 4) ≤ cap ∧ cap ≤ 9223372036854775807 ∧ Blk w' si #[.slice (some ⟨w.heap.size, 0, none⟩) (4 * ((n + 3) / 4)) cap] 207 ∧ Fx si 0 1 w w' := by
  have hr := round4 n (by omega)
  obtain ⟨nr, hnr⟩ : ∃ nr, 4 * ((n + 3) / 4) = nr := ⟨_, rfl⟩
  rw [hnr] at hr ⊢
  have hle : n ≤ nr ∧ nr ≤ n + 3 := by omega
  have hc0 := hb.cell 0
  simp only [List.getElem?_toArray, List.getElem?_cons_zero] at hc0
  have hf0 := hb.frozen 0
  have HG := growW_nil nr (by omega) (by omega) w
  clear hnr
  go_enter Tryz.func203, Tryz.ntmps203
  go_wp2_with fail
  refine HG.mono ?_
  rintro e w1 ⟨cap, rfl, h1, h2, h3, h4⟩
  have hb1 : Blk w1 si #[.slice none 0 0] 207 := hb.below h4 hb.lt
  have hne : si ≠ w.heap.size := by have := hb.lt; omega
  have hc1 := hb1.cell 0
  simp only [List.getElem?_toArray, List.getElem?_cons_zero] at hc1
  have hf1 := hb1.frozen 0
  have hb2 := hb1.set 0 (.slice (some ⟨w.heap.size, 0, none⟩) 0 cap)
  have hb3 := hb2.set 0 (.slice (some ⟨w.heap.size, 0, none⟩) nr cap)
  simp only [List.setIfInBounds_toArray, List.set_cons_zero] at hb2 hb3
  have hc2 := hb2.cell 0
  have hf2 := hb2.frozen 0
  have hc3 := hb3.cell 0
  simp only [List.getElem?_toArray, List.getElem?_cons_zero] at hc2 hc3
  have F2 : Fx si 0 1 w1 ((w1.setCell ⟨si, 0, none⟩ (.slice (some ⟨w.heap.size, 0, none⟩) 0 cap)).setCell ⟨si, 0, none⟩ (.slice (some ⟨w.heap.size, 0, none⟩) nr cap)) := ((Fx.refl si 0 1 w1).setCell (Nat.le_refl _) (by omega) _).setCell (Nat.le_refl _) (by omega) _
  have hG := h3.fx F2 (.inl (Ne.symm hne))
  have hcG := hG.cell (i := 0) (by simp; omega)
  have hfG := hG.frozen 0
  rw [Nat.add_zero] at hcG
  have hG4 := hG.put (i := 0) (by simp; omega) 1043915
  rw [Nat.add_zero] at hG4
  have hb4 := hb3.setOther (p := ⟨w.heap.size, 0, none⟩) hne (.int .u64 ((1043915 : Nat) : Int))
  have F4 := (((Fx.of_below (b := si) (o := 0) (k := 1) h4).trans F2).setNew (p := ⟨w.heap.size, 0, none⟩) hne (Nat.le_refl _) (.int .u64 ((1043915 : Nat) : Int)))
  clear HG hb hc0 hf0
  focus go_wp2_with fail
  go_ret
  exact ⟨cap, _, rfl, hG4, by simp, h1, h2, hb4, F4⟩
set_option maxHeartbeats 1000000 in
theorem siNat_own (si n g len cap : Nat) (l : List Nat) (hn : 0 < n) (hn1 : n < 60) (w : World) (hb : Blk w si #[.slice (some ⟨g, 0, none⟩) len cap] 207) (hg : Ds w g 0 l) (hl : l.length = cap) (hlc : len ≤ cap) (hcm : cap ≤ 9223372036854775807) (hlen : len < 100) :
    Calls Tryz.prog 203 #[.pointer (some ⟨si, 0, none⟩), .int .i64 n] w fun e w' => ∃ g' cap' L, e = .returned (.slice (some ⟨g', len, none⟩) n n) ∧ Ds w' g' 0 L ∧ L.length = cap' ∧ len + 4 * ((n + 3) / 4) ≤ cap' ∧ cap' ≤ 9223372036854775807 ∧ (g' = g ∨ g' = w.heap.size) ∧ Blk w' si #[.slice (some ⟨g', 0, none⟩) (len + 4 * ((n + 3) / 4)) cap'] 207 ∧ (∀ b o m, Ds w b o m → (b ≠ g ∨ o + m.length ≤ len) → Ds w' b o m) ∧ (∀ c, c ≠ si → c ≠ g → c < w.heap.size → w'.heap[c]? = w.heap[c]?) ∧ (∀ B, B ≤ si → B ≤ g → Below B w w') := by
  have hr := round4 n (by omega)
  obtain ⟨nr, hnr⟩ : ∃ nr, 4 * ((n + 3) / 4) = nr := ⟨_, rfl⟩
  rw [hnr] at hr ⊢
  have hle : n ≤ nr ∧ nr ≤ n + 3 := by omega
  have hsg : si ≠ g := by
    intro h; subst h
    obtain ⟨cur, hg, _⟩ := hg
    have e := hb.symm.trans hg
    simp at e
  have hc0 := hb.cell 0
  simp only [List.getElem?_toArray, List.getElem?_cons_zero] at hc0
  have hf0 := hb.frozen 0
  have HG : Calls Tryz.prog 225 #[.slice (some ⟨g, 0, none⟩) len cap, .int .i64 nr] w fun e w' => ∃ g' cap' L, e = .returned (.slice (some ⟨g', 0, none⟩) len cap') ∧ Ds w' g' 0 L ∧ L.length = cap' ∧ len + nr ≤ cap' ∧ cap' ≤ 9223372036854775807 ∧ (g' = g ∨ g' = w.heap.size) ∧ Below w.heap.size w w' := by
    rcases Nat.lt_or_ge cap (len + nr) with h | h
    · refine (growW_more g nr len cap l w hg hl hlc h (by omega)).mono ?_
      rintro e w' ⟨cap2, rfl, h1, h2, h3, h4⟩
      exact ⟨_, cap2, _, rfl, h3, by rw [List.length_append, hl, List.length_replicate]; omega, h1, h2, .inr rfl, h4⟩
    · refine (growW_room g nr len cap h hcm (by omega) w).mono ?_
      rintro e w' ⟨rfl, rfl⟩
      exact ⟨g, cap, l, rfl, hg, hl, h, hcm, .inl rfl, Below.refl _ _⟩
  have HGG := hid hg
  clear hnr hg
  go_enter Tryz.func203, Tryz.ntmps203
  go_wp2_with fail
  refine HG.mono ?_
  rintro e w1 ⟨g', cap', L, rfl, h3, hL, h1, h2, hgg, h4⟩
  have hb1 : Blk w1 si #[.slice (some ⟨g, 0, none⟩) len cap] 207 := hb.below h4 hb.lt
  have hgl := HGG.out.lt
  have hne : si ≠ g' := by have := hb.lt; omega
  have hc1 := hb1.cell 0
  simp only [List.getElem?_toArray, List.getElem?_cons_zero] at hc1
  have hf1 := hb1.frozen 0
  have hb2 := hb1.set 0 (.slice (some ⟨g', 0, none⟩) len cap')
  have hb3 := hb2.set 0 (.slice (some ⟨g', 0, none⟩) (len + nr) cap')
  simp only [List.setIfInBounds_toArray, List.set_cons_zero] at hb2 hb3
  have hc2 := hb2.cell 0
  have hf2 := hb2.frozen 0
  have hc3 := hb3.cell 0
  simp only [List.getElem?_toArray, List.getElem?_cons_zero] at hc2 hc3
  have F2 : Fx si 0 1 w1 ((w1.setCell ⟨si, 0, none⟩ (.slice (some ⟨g', 0, none⟩) len cap')).setCell ⟨si, 0, none⟩ (.slice (some ⟨g', 0, none⟩) (len + nr) cap')) := ((Fx.refl si 0 1 w1).setCell (Nat.le_refl _) (by omega) _).setCell (Nat.le_refl _) (by omega) _
  have hG := h3.fx F2 (.inl (Ne.symm hne))
  have hcG := hG.cell (i := len) (by omega)
  have hfG := hG.frozen len
  rw [Nat.zero_add] at hcG
  have hG4 := hG.put (i := len) (by omega) 1043915
  rw [Nat.zero_add] at hG4
  have hb4 := hb3.setOther (p := ⟨g', len, none⟩) hne (.int .u64 ((1043915 : Nat) : Int))
  have F4 := (Fx.refl g' len 1 ((w1.setCell ⟨si, 0, none⟩ (.slice (some ⟨g', 0, none⟩) len cap')).setCell ⟨si, 0, none⟩ (.slice (some ⟨g', 0, none⟩) (len + nr) cap'))).setCell (i := len) (Nat.le_refl _) (by omega) (.int .u64 ((1043915 : Nat) : Int))
  have HK : Hid (∀ b o m, Ds w b o m → (b ≠ g ∨ o + m.length ≤ len) → Ds (((w1.setCell ⟨si, 0, none⟩ (.slice (some ⟨g', 0, none⟩) len cap')).setCell ⟨si, 0, none⟩ (.slice (some ⟨g', 0, none⟩) (len + nr) cap')).setCell ⟨g', len, none⟩ (.int .u64 ((1043915 : Nat) : Int))) b o m) := by
    refine hid (fun b o m hd ho => ?_)
    have hsb : b ≠ si := by
      intro h; subst h
      obtain ⟨cur, hg, _⟩ := hd
      have e := hb.symm.trans hg
      simp at e
    have hbl := hd.lt
    exact ((hd.below h4 hbl).fx F2 (.inl hsb)).fx F4 (by omega)
  have HH : Hid (∀ c, c ≠ si → c ≠ g → c < w.heap.size → (((w1.setCell ⟨si, 0, none⟩ (.slice (some ⟨g', 0, none⟩) len cap')).setCell ⟨si, 0, none⟩ (.slice (some ⟨g', 0, none⟩) (len + nr) cap')).setCell ⟨g', len, none⟩ (.int .u64 ((1043915 : Nat) : Int))).heap[c]? = w.heap[c]?) := by
    refine hid (fun c h5 h6 h7 => ?_)
    rw [F4.block c (by omega) (by have := h4.size; have := F2.size; omega), F2.block c h5 (by have := h4.size; omega)]
    exact h4.block c h7
  have HB : Hid (∀ B, B ≤ si → B ≤ g → Below B w (((w1.setCell ⟨si, 0, none⟩ (.slice (some ⟨g', 0, none⟩) len cap')).setCell ⟨si, 0, none⟩ (.slice (some ⟨g', 0, none⟩) (len + nr) cap')).setCell ⟨g', len, none⟩ (.int .u64 ((1043915 : Nat) : Int)))) := by
    refine hid (fun B h5 h6 => ?_)
    exact (((h4.mono (by omega)).setCell (p := ⟨si, 0, none⟩) h5 _).setCell (p := ⟨si, 0, none⟩) h5 _).setCell (p := ⟨g', len, none⟩) (show B ≤ g' by omega) _
  clear HG hb hc0 hf0
  focus go_wp2_with fail
  rw [Nat.add_sub_cancel_left]
  go_ret
  exact ⟨g', cap', _, rfl, hG4, by rw [List.length_set]; exact hL, h1, h2, hgg, hb4, HK.out, HH.out, HB.out⟩
end Go.Proofs.YtgdgklhfakplhaaGreatDoor
