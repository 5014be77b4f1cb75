/- Walks and lemmas for the laws of this seat. -/
import Derived.Test.YtgdgklhfakplhaaGreatDoorH36
import Derived.Test.YtgdgklhfakplhaaGreatDoorH17
namespace Go.Proofs.YtgdgklhfakplhaaGreatDoor
open Go.RowKit Go.Dig Go.Rnd
set_option maxRecDepth 100000
theorem getStack_new (w : World) : Calls Tryz.prog 69 #[] w fun e w' => e = .returned (.pointer (some ⟨w.heap.size, 0, none⟩)) ∧ w' = w.alloc (.cells #[.pointer none] 186) := by
  go_enter Tryz.func69, Tryz.ntmps69
  go_wp2_with fail
  go_ret
  exact ⟨rfl, rfl⟩
theorem xor_top {r : Nat} (h : r < 9223372036854775808) : r ^^^ 2 ^ 63 = r + 9223372036854775808 := by
  have e : r + 9223372036854775808 = 2 ^ 63 + r := by rw [show (2 : Nat) ^ 63 = 9223372036854775808 by decide]; omega
  rw [e]
  apply Nat.eq_of_testBit_eq
  intro i
  rw [Nat.testBit_xor, Nat.testBit_two_pow]
  rcases Nat.lt_trichotomy i 63 with g | g | g
  · rw [Nat.testBit_two_pow_add_gt g]
    have : ¬ 63 = i := by omega
    simp [this]
  · subst g
    rw [Nat.testBit_two_pow_add_eq]
    simp
  · have hp : (2 : Nat) ^ 64 ≤ 2 ^ i := Nat.pow_le_pow_right (by omega) g
    rw [Nat.testBit_lt_two_pow (show r < 2 ^ i by omega), Nat.testBit_lt_two_pow (show 2 ^ 63 + r < 2 ^ i by omega)]
    have : ¬ 63 = i := by omega
    simp [this]
theorem neg_pos {r : Nat} (h : r < 9223372036854775808) (w : World) : Sem.run Tryz.prog (Op.unary .neg (.float .f64 r)) w = .ok (.float .f64 (r + 9223372036854775808)) w := by
  rw [← xor_top h]
  rfl
set_option maxHeartbeats 1000000 in
theorem ratF64_core (bx L C : Nat) (a : Option Addr) (s : Bool) (vP : Value) (r : Nat) (ex : Bool) (hr : r < 9223372036854775808) (w : World) (hB : Blk w bx #[.bool s, vP, .bool false, .slice a L C] 133) (hL : 0 < L)
    (HQ : ∀ w2, Below w.heap.size w w2 → Stk w2 w.heap.size w.heap.size none → Calls Tryz.prog 71 #[.pointer (some ⟨w.heap.size, 0, none⟩), vP, .slice a L C] w2 fun e w' => ∃ t', e = .returned (.tuple #[.float .f64 r, .bool ex]) ∧ Stk w' w.heap.size w.heap.size t' ∧ Below w.heap.size w2 w') :
    Calls Tryz.prog 34 #[.pointer (some ⟨bx, 0, none⟩)] w fun e w' => e = .returned (.tuple #[.float .f64 (if s then r + 9223372036854775808 else r), .bool ex]) ∧ Below w.heap.size w w' := by
  have h0 := hB.cell 0
  have h1 := hB.cell 1
  have h3 := hB.cell 3
  simp only [List.getElem?_toArray, List.getElem?_cons_zero, List.getElem?_cons_succ] at h0 h1 h3
  have hl0 : ((L : Int) == 0) = false := by simp; omega
  have hbl := hB.lt
  go_enter_defers Tryz.func34, Tryz.ntmps34
  go_wp2_with fail
  refine (getStack_new _).mono ?_
  rintro e w1 ⟨rfl, hw1⟩
  have hb1 : Below w.heap.size w w1 := by rw [hw1]; exact (Below.refl _ _).alloc (Nat.le_refl _) _
  have hs1 : Stk w1 w.heap.size w.heap.size none := by rw [hw1]; exact ⟨Nat.le_refl _, blk_new w _ 186⟩
  have HQ1 := HQ w1 hb1 hs1
  have h0' := (hb1.cell (p := ⟨bx, 0, none⟩) hbl).trans h0
  have h1' := (hb1.cell (p := ⟨bx, 1, none⟩) hbl).trans h1
  have HB1 := hid hb1
  clear hw1 hb1 hs1 HQ h0 h1 h3 hB
  go_wp2_with fail
  refine HQ1.mono ?_
  rintro e w2 ⟨t', rfl, hs2, hb2⟩
  have h0'' := (hb2.cell (p := ⟨bx, 0, none⟩) hbl).trans h0'
  have HS2 := hid hs2
  have HB2 := hid (HB1.out.trans hb2)
  clear HQ1 hs2 hb2 h0' h1'
  cases s
  · go_wp2_with fail
    refine leaves_cons (f := 70) (args := #[.pointer (some ⟨w.heap.size, 0, none⟩)]) (by simp) (by simp [go_sem]) ?_
    refine (stk_free w.heap.size w.heap.size t' .returning _ HS2.out).mono ?_
    rintro e u'' w3 ⟨rfl, rfl, hd3, hb3⟩
    exact ⟨_, by simp [results, Tryz.results34, go_sem], rfl, HB2.out.trans hb3⟩
  · have hng := fun w => neg_pos hr w
    go_wp2_with fail
    refine leaves_cons (f := 70) (args := #[.pointer (some ⟨w.heap.size, 0, none⟩)]) (by simp) (by simp [go_sem]) ?_
    refine (stk_free w.heap.size w.heap.size t' .returning _ HS2.out).mono ?_
    rintro e u'' w3 ⟨rfl, rfl, hd3, hb3⟩
    exact ⟨_, by simp [results, Tryz.results34, go_sem], rfl, HB2.out.trans hb3⟩
/-- What Rat.Float64 tells of a fraction that is not 0. -/
theorem ratF64_pos (bx P D : Nat) (s : Bool) (vP vD : Value) (w : World) (hB : Blk w bx #[.bool s, vP, .bool false, vD] 133) (hP : Nw w vP P) (hD : Nw w vD D) (hP0 : 0 < P) (hD0 : 0 < D) (hlP : (dg 18446744073709551616 P).length ≤ 30) (hlD : (dg 18446744073709551616 D).length ≤ 30) (hlow : -1128 ≤ e1 P D)
    (hthr : w.cell? ⟨1, 0, none⟩ = some (.int .i64 40)) :
    Calls Tryz.prog 34 #[.pointer (some ⟨bx, 0, none⟩)] w fun e w' => e = .returned (.tuple #[.float .f64 (if s then min ((uni P D + 1074).toNat * 4503599627370496 + near P D (uni P D)) 9218868437227405312 + 9223372036854775808 else min ((uni P D + 1074).toNat * 4503599627370496 + near P D (uni P D)) 9218868437227405312), .bool (decide (left P D (uni P D) = 0) && decide ((uni P D + 1074).toNat * 4503599627370496 + near P D (uni P D) < 9218868437227405312))]) ∧ Below w.heap.size w w' := by
  have hbl := World.block_lt_of_cell? w _ hthr
  have hbx := hB.lt
  have hK1 : 1 < w.heap.size := hbl
  obtain ⟨aD, cD, rfl⟩ := hD.shape
  have hL : 0 < (dg 18446744073709551616 D).length := by
    rcases Nat.eq_zero_or_pos (dg 18446744073709551616 D).length with h | h
    · have := (dg_nil_iff (b := 18446744073709551616) (by omega)).1 (List.length_eq_zero_iff.1 h); omega
    · exact h
  have hmin : min ((uni P D + 1074).toNat * 4503599627370496 + near P D (uni P D)) 9218868437227405312 ≤ 9218868437227405312 := Nat.min_le_right _ _
  exact ratF64_core bx _ cD aD s vP _ _ (by omega) w hB hL (fun w2 hb hs => quot64 w.heap.size w.heap.size P D vP _ w2 hs ((hb.cell (p := ⟨1, 0, none⟩) hK1).trans hthr) hK1 (hP.below hb (Nat.le_refl _)) (hD.below hb (Nat.le_refl _)) hP0 hD0 hlP hlD hlow)
end Go.Proofs.YtgdgklhfakplhaaGreatDoor
namespace Go.Proofs.YtgdgklhfakplhaaGreatDoor
open Go.RowKit Go.Dig
set_option maxRecDepth 100000
set_option maxHeartbeats 400000 in
theorem val_64 (x : Value) (w : World) : Calls Tryz.prog 84 #[.iface 70 x] w fun e w' => e = .returned (.iface 2 x) ∧ w = w' := by
  have h1 := ta_119_165
  have h2 := ta_119_180
  have h3 := ta_119_119
  go_enter Tryz.func84, Tryz.ntmps84
  go_wp2_with fail
  go_ret
  exact ⟨rfl, rfl⟩
set_option maxHeartbeats 400000 in
theorem val_big (p : Option Addr) (w : World) : Calls Tryz.prog 84 #[.iface 73 (.agg #[.pointer p])] w fun e w' => e = .returned (.iface 71 (.pointer p)) ∧ Below w.heap.size w w' := by
  have h1 := ta_122_165
  have h2 := ta_122_180
  have h3 := ta_122_119
  have h4 := ta_122_122
  go_enter Tryz.func84, Tryz.ntmps84
  go_wp2_with fail
  go_ret
  exact ⟨rfl, (Below.refl _ _).alloc (Nat.le_refl _) _⟩
set_option maxHeartbeats 400000 in
theorem kind_i64 (v : Value) (w : World) : Calls Tryz.prog 259 #[v] w fun e w' => e = .returned (.int .i64 3) ∧ w = w' := by
  go_enter Tryz.func259, Tryz.ntmps259
  go_wp2_with fail
  go_ret
  exact ⟨rfl, rfl⟩
set_option maxHeartbeats 400000 in
theorem kind_big (p : Option Addr) (w : World) : Calls Tryz.prog 264 #[.agg #[.pointer p]] w fun e w' => e = .returned (.int .i64 3) ∧ Below w.heap.size w w' := by
  go_enter Tryz.func264, Tryz.ntmps264
  go_wp2_with fail
  go_ret
  exact ⟨rfl, (Below.refl _ _).alloc (Nat.le_refl _) _⟩
theorem dg_len_small {n : Nat} (h : n < 18446744073709551616) : (dg 18446744073709551616 n).length ≤ 1 := dg_length_le (by omega) (by omega)
set_option maxHeartbeats 1000000 in
theorem parts_64 (x : Int) (w : World) (h0 : -9223372036854775808 ≤ x) (h1 : x ≤ 9223372036854775807) : Calls Tryz.prog 42 #[.iface 70 (.int .i64 x)] w fun e w' => ∃ t v u, e = .returned (.tuple #[.agg #[.bool t, v], u]) ∧ Hid (t = decide (x < 0)) ∧ Rt 41 .u64 w' v (dg 18446744073709551616 x.natAbs) ∧ Below w.heap.size w w' := by
  have t1 := tb_2_2
  have HR : Hid (Blk ((w.alloc (.cells #[.bool false, .slice none 0 0] 24)).alloc (.cells #[.bool false, .slice none 0 0] 124)) w.heap.size #[.bool false, .slice none 0 0] 24) := (blk_new w _ 24).alloc _
  have HK : Hid (Blk ((w.alloc (.cells #[.bool false, .slice none 0 0] 24)).alloc (.cells #[.bool false, .slice none 0 0] 124)) (w.heap.size + 1) #[.bool false, .slice none 0 0] 124) := by
    have := blk_new (w.alloc (.cells #[.bool false, .slice none 0 0] 24)) #[.bool false, .slice none 0 0] 124
    refine hid ?_
    simpa using this
  have Hb0 : Hid (Below w.heap.size w ((w.alloc (.cells #[.bool false, .slice none 0 0] 24)).alloc (.cells #[.bool false, .slice none 0 0] 124))) := ((Below.refl _ _).alloc (Nat.le_refl _) _).alloc (by simp) _
  go_enter Tryz.func42, Tryz.ntmps42
  go_wp2_with (go_at_call 84; refine (val_64 _ _).mono ?_; rintro e w' ⟨rfl, rfl⟩)
  generalize (w.alloc (.cells #[.bool false, .slice none 0 0] 24)).alloc (.cells #[.bool false, .slice none 0 0] 124) = w0 at *
  refine (setInt64_new _ x _ h0 h1 HK.out).mono ?_
  rintro e w1 ⟨rfl, hi, hb⟩
  have HI := hid hi
  have HB := hid (Hb0.out.trans (hb.mono (Nat.le_succ _)))
  have HR1 := hid (HR.out.below hb (Nat.lt_succ_self _))
  clear hi hb
  go_wp2_with fail
  refine (number_any _ _ _ _ HI.out (Nat.le_trans (dg_len_small (by omega)) (by omega))).mono ?_
  rintro e w2 ⟨t, v, rfl, HT, hv, hb⟩
  obtain ⟨a, c, rfl⟩ := hv.shape
  have HV := hid hv
  have HB2 := hid (below_next HB.out hb)
  have HR2 := hid (HR1.out.below hb HR1.out.lt)
  clear hv hb
  have q0 := HR2.out.cell 0
  have q1 := HR2.out.cell 1
  simp only [List.getElem?_toArray, List.getElem?_cons_zero, List.getElem?_cons_succ] at q0 q1
  have f0 := HR2.out.frozen 0
  have f1 := HR2.out.frozen 1
  have hlt := HR2.out.lt
  go_wp2_with fail
  have g1 := HV.out.set (p := ⟨w.heap.size, 0, none⟩) (.bool t) HR2.out.shape (by decide)
  have g2 := g1.set (p := ⟨w.heap.size, 1, none⟩) (.slice a (dg 18446744073709551616 x.natAbs).length c) (m := 2) (e' := 24) (by rw [shape_setCell]; exact HR2.out.shape) (by decide)
  have g3 := g2.below ((Below.refl _ _).alloc (Nat.le_refl _) (.cells #[.int .u64 1] 41)) (Nat.le_refl _)
  refine bodyPost_ret (v := .tuple #[.agg #[.bool t, .slice a (dg 18446744073709551616 x.natAbs).length c], .slice (some ⟨w2.heap.size, 0, none⟩) 1 1]) (by simp [results, Tryz.results42, go_sem, q0, q1, hlt]) rfl ⟨_, _, _, rfl, hid ?_, g3, ?_⟩
  · rw [HT.out, sgn_abs]
  · exact ((HB2.out.setCell (p := ⟨w.heap.size, 0, none⟩) (Nat.le_refl _) _).setCell (p := ⟨w.heap.size, 1, none⟩) (Nat.le_refl _) _).alloc (by simp [World.setCell]; omega) _
set_option maxHeartbeats 1000000 in
theorem parts_big (b : Nat) (s : Bool) (n : Nat) (w : World) (hI : Iv w b s n) (hlen : (dg 18446744073709551616 n).length ≤ 100000) : Calls Tryz.prog 42 #[.iface 73 (.agg #[.pointer (some ⟨b, 0, none⟩)])] w fun e w' => ∃ t v u, e = .returned (.tuple #[.agg #[.bool t, v], u]) ∧ Hid (t = decide (sgn s n < 0)) ∧ Rt 41 .u64 w' v (dg 18446744073709551616 n) ∧ Below w.heap.size w w' := by
  have t1 := tb_120_2
  have t2 := tb_120_120
  have HR : Hid (Blk (w.alloc (.cells #[.bool false, .slice none 0 0] 24)) w.heap.size #[.bool false, .slice none 0 0] 24) := blk_new w _ 24
  have Hb0 : Hid (Below w.heap.size w (w.alloc (.cells #[.bool false, .slice none 0 0] 24))) := (Below.refl _ _).alloc (Nat.le_refl _) _
  have HI := hid hI
  clear hI
  go_enter Tryz.func42, Tryz.ntmps42
  go_wp2_with fail
  refine (val_big _ _).mono ?_
  rintro e w0 ⟨rfl, hb0⟩
  have HB0 := hid (below_next Hb0.out hb0)
  have HR0 := hid (HR.out.below hb0 HR.out.lt)
  have HI0 := hid ((HI.out.below Hb0.out).below hb0)
  clear hb0
  go_wp2_with fail
  refine (number_any _ _ _ _ HI0.out hlen).mono ?_
  rintro e w2 ⟨t, v, rfl, HT, hv, hb⟩
  obtain ⟨a, c, rfl⟩ := hv.shape
  have HV := hid hv
  have HB2 := hid (below_next HB0.out hb)
  have HR2 := hid (HR0.out.below hb HR0.out.lt)
  clear hv hb
  have q0 := HR2.out.cell 0
  have q1 := HR2.out.cell 1
  simp only [List.getElem?_toArray, List.getElem?_cons_zero, List.getElem?_cons_succ] at q0 q1
  have f0 := HR2.out.frozen 0
  have f1 := HR2.out.frozen 1
  have hlt := HR2.out.lt
  go_wp2_with fail
  have g1 := HV.out.set (p := ⟨w.heap.size, 0, none⟩) (.bool t) HR2.out.shape (by decide)
  have g2 := g1.set (p := ⟨w.heap.size, 1, none⟩) (.slice a (dg 18446744073709551616 n).length c) (m := 2) (e' := 24) (by rw [shape_setCell]; exact HR2.out.shape) (by decide)
  have g3 := g2.below ((Below.refl _ _).alloc (Nat.le_refl _) (.cells #[.int .u64 1] 41)) (Nat.le_refl _)
  refine bodyPost_ret (v := .tuple #[.agg #[.bool t, .slice a (dg 18446744073709551616 n).length c], .slice (some ⟨w2.heap.size, 0, none⟩) 1 1]) (by simp [results, Tryz.results42, go_sem, q0, q1, hlt]) rfl ⟨_, _, _, rfl, HT, g3, ?_⟩
  exact ((HB2.out.setCell (p := ⟨w.heap.size, 0, none⟩) (Nat.le_refl _) _).setCell (p := ⟨w.heap.size, 1, none⟩) (Nat.le_refl _) _).alloc (by simp [World.setCell]; omega) _
end Go.Proofs.YtgdgklhfakplhaaGreatDoor
