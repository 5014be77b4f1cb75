/- Walks and lemmas for the laws of this seat. -/
import Derived.Test.YtgdgklhfakplhaaGreatDoorG12
import Derived.Test.YtgdgklhfakplhaaGreatDoorG03
import Derived.Test.YtgdgklhfakplhaaGreatDoorG08
import Derived.Test.YtgdgklhfakplhaaGreatDoorG07
namespace Go.Proofs.YtgdgklhfakplhaaGreatDoor
open Go.RowKit Go.Dig
set_option maxRecDepth 100000
set_option maxHeartbeats 400000 in
/-- Int.Sign: 0, or 1 with the sign. -/
theorem intSign_any (b : Nat) (s : Bool) (n : Nat) (w : World) (h : Iv w b s n) : Calls Tryz.prog 130 #[.pointer (some ⟨b, 0, none⟩)] w fun e w' => ∃ x, e = .returned (.int .i64 x) ∧ Hid (x < 0 ↔ sgn s n < 0) ∧ w = w' := by
  obtain ⟨v, hB, hN⟩ := h
  obtain ⟨a, L, c, rfl, HL⟩ := nw_shape hN
  have hc0 := hB.cell 0
  have hc1 := hB.cell 1
  simp only [List.getElem?_toArray, List.getElem?_cons_zero, List.getElem?_cons_succ] at hc0 hc1
  clear hN hB
  rcases Nat.eq_zero_or_pos n with hn | hn
  · subst hn
    have hL : L = 0 := by rw [HL.out, dg_zero]; rfl
    subst hL
    go_enter Tryz.func130, Tryz.ntmps130
    go_wp2_with fail
    go_ret
    exact ⟨_, rfl, hid (by cases s <;> simp [sgn]), rfl⟩
  · have hL : 0 < L := by rw [HL.out]; exact len_pos (by omega)
    have hL' : ((L : Int) == 0) = false := by simp; omega
    clear HL
    cases s
    · go_enter Tryz.func130, Tryz.ntmps130
      go_wp2_with fail
      go_ret
      exact ⟨_, rfl, hid (by simp [sgn]), rfl⟩
    · go_enter Tryz.func130, Tryz.ntmps130
      go_wp2_with fail
      go_ret
      exact ⟨_, rfl, hid (by simp [sgn]; omega), rfl⟩
set_option maxHeartbeats 400000 in
theorem intBits_any (b : Nat) (v : Value) (w : World) (hc1 : w.cell? ⟨b, 1, none⟩ = some v) : Calls Tryz.prog 131 #[.pointer (some ⟨b, 0, none⟩)] w fun e w' => e = .returned v ∧ w = w' := by
  go_enter Tryz.func131, Tryz.ntmps131
  go_wp2_with fail
  go_ret
  exact ⟨rfl, rfl⟩
theorem info44 : (Tryz.prog.info? 41).map (fun i => (i.zero, i.size, i.bytes)) = some (some (.int .u64 0), 1, 8) := by kernel_rfl
set_option maxHeartbeats 400000 in
/-- The words of an Int as plain words. -/
theorem plain_any (b : Nat) (s : Bool) (n : Nat) (w : World) (h : Iv w b s n) (hlen : (dg 18446744073709551616 n).length ≤ 100000) : Calls Tryz.prog 88 #[.pointer (some ⟨b, 0, none⟩)] w fun e w' => ∃ v, e = .returned v ∧ Rt 41 .u64 w' v (dg 18446744073709551616 n) ∧ Below w.heap.size w w' := by
  obtain ⟨v, hB, hN⟩ := h
  have hc1 := hB.cell 1
  simp only [List.getElem?_toArray, List.getElem?_cons_zero, List.getElem?_cons_succ] at hc1
  clear hB
  obtain ⟨a, cap, rfl, hcl, hcm, hcc⟩ := hN
  have HC := hid hcc
  clear hcc
  generalize hds : dg 18446744073709551616 n = ds at *
  have HDS := hid hds
  clear hds
  go_enter Tryz.func88, Tryz.ntmps88
  go_wp2_with (go_at_call 131; refine (intBits_any _ _ _ hc1).mono ?_; rintro e w' ⟨rfl, rfl⟩)
  go_loopw [3, 9] (fun v x wr => ∃ (u : Value) (os : List Nat) (j : Nat), u = v ∧ x = .int .i64 j ∧ j ≤ ds.length ∧ wr.ownsRow w.heap.size 41 1 u os.length (cs .u64 os) ∧ Hid (os = ds.take j) ∧ Below w.heap.size w wr) (fun _ x _ => ds.length - (intOf x).toNat)
  case atStart => exact ⟨_, [], 0, rfl, rfl, by omega, World.ownsRow_nil _ _ _ _, hid rfl, Below.refl _ _⟩
  case round =>
    obtain ⟨u, os, j, rfl, rfl, hj, hown, ho, hb⟩ := hrel
    have hbs := hb.size
    have hlo : os.length = j := by rw [ho.out, List.length_take]; omega
    have HLO := hid hlo
    clear hlo
    rcases Nat.lt_or_ge j ds.length with h0 | h0
    · obtain ⟨b2, off, rfl, _, hb2⟩ := HC.out (by omega)
      have hk := hb2 j (by omega)
      clear hb2
      have hk2 := (hb.cell (World.block_lt_of_cell? w _ hk)).trans hk
      clear hk
      generalize hg : ds.getD j 0 = x at hk2
      have HG := hid hg
      clear hg
      have hol : os.length < 1000000000 := by rw [HLO.out]; omega
      go_wp2_with (at_builtin; refine app1 rfl _ _ 22 41 rfl .u64 8 Tryz.underlying22 info44 (by decide) w.heap.size w u os _ x rfl rfl rfl hown hb (by omega) hol ?_; intro v' w' hown2 hb2 _)
      go_roundw
      case rel =>
        refine ⟨_, os ++ [x], j + 1, rfl, by go_num, by omega, hown2, hid ?_, hb2⟩
        rw [ho.out, ← HG.out, List.take_add_one, List.getElem?_eq_getElem h0, List.getD_eq_getElem?_getD, List.getElem?_eq_getElem h0]
        rfl
      case measure => simp [intOf]; omega
    · obtain rfl : j = ds.length := by omega
      have hR := own_rd hown
      rw [ho.out, List.take_length] at hR
      go_wp2_with fail
      go_ret
      exact ⟨_, rfl, hR, hb⟩
end Go.Proofs.YtgdgklhfakplhaaGreatDoor
namespace Go.Proofs.YtgdgklhfakplhaaGreatDoor
open Go.RowKit
set_option maxRecDepth 100000
theorem tb_2_2 (w : World) (v : Value) : (Instr.typeAssert (.iface 2 v) 20 2 true).run Tryz.prog w = .ok (.tuple #[v, .bool true]) w := by kernel_rfl
theorem tb_2_4 (w : World) (v : Value) : (Instr.typeAssert (.iface 2 v) 20 4 true).run Tryz.prog w = .ok (.tuple #[.bool false, .bool false]) w := by kernel_rfl
theorem tb_2_9 (w : World) (v : Value) : (Instr.typeAssert (.iface 2 v) 20 9 true).run Tryz.prog w = .ok (.tuple #[.string (ByteArray.mk #[]), .bool false]) w := by kernel_rfl
theorem tb_2_120 (w : World) (v : Value) : (Instr.typeAssert (.iface 2 v) 20 71 true).run Tryz.prog w = .ok (.tuple #[.pointer none, .bool false]) w := by kernel_rfl
theorem tb_2_130 (w : World) (v : Value) : (Instr.typeAssert (.iface 2 v) 20 81 true).run Tryz.prog w = .ok (.tuple #[.pointer none, .bool false]) w := by kernel_rfl
theorem tb_2_126 (w : World) (v : Value) : (Instr.typeAssert (.iface 2 v) 20 77 true).run Tryz.prog w = .ok (.tuple #[.pointer none, .bool false]) w := by kernel_rfl
theorem tb_120_2 (w : World) (v : Value) : (Instr.typeAssert (.iface 71 v) 20 2 true).run Tryz.prog w = .ok (.tuple #[.int .i64 0, .bool false]) w := by kernel_rfl
theorem tb_120_4 (w : World) (v : Value) : (Instr.typeAssert (.iface 71 v) 20 4 true).run Tryz.prog w = .ok (.tuple #[.bool false, .bool false]) w := by kernel_rfl
theorem tb_120_9 (w : World) (v : Value) : (Instr.typeAssert (.iface 71 v) 20 9 true).run Tryz.prog w = .ok (.tuple #[.string (ByteArray.mk #[]), .bool false]) w := by kernel_rfl
theorem tb_120_120 (w : World) (v : Value) : (Instr.typeAssert (.iface 71 v) 20 71 true).run Tryz.prog w = .ok (.tuple #[v, .bool true]) w := by kernel_rfl
theorem tb_120_130 (w : World) (v : Value) : (Instr.typeAssert (.iface 71 v) 20 81 true).run Tryz.prog w = .ok (.tuple #[.pointer none, .bool false]) w := by kernel_rfl
theorem tb_120_126 (w : World) (v : Value) : (Instr.typeAssert (.iface 71 v) 20 77 true).run Tryz.prog w = .ok (.tuple #[.pointer none, .bool false]) w := by kernel_rfl
theorem tb_130_2 (w : World) (v : Value) : (Instr.typeAssert (.iface 81 v) 20 2 true).run Tryz.prog w = .ok (.tuple #[.int .i64 0, .bool false]) w := by kernel_rfl
theorem tb_130_4 (w : World) (v : Value) : (Instr.typeAssert (.iface 81 v) 20 4 true).run Tryz.prog w = .ok (.tuple #[.bool false, .bool false]) w := by kernel_rfl
theorem tb_130_9 (w : World) (v : Value) : (Instr.typeAssert (.iface 81 v) 20 9 true).run Tryz.prog w = .ok (.tuple #[.string (ByteArray.mk #[]), .bool false]) w := by kernel_rfl
theorem tb_130_120 (w : World) (v : Value) : (Instr.typeAssert (.iface 81 v) 20 71 true).run Tryz.prog w = .ok (.tuple #[.pointer none, .bool false]) w := by kernel_rfl
theorem tb_130_130 (w : World) (v : Value) : (Instr.typeAssert (.iface 81 v) 20 81 true).run Tryz.prog w = .ok (.tuple #[v, .bool true]) w := by kernel_rfl
theorem tb_130_126 (w : World) (v : Value) : (Instr.typeAssert (.iface 81 v) 20 77 true).run Tryz.prog w = .ok (.tuple #[.pointer none, .bool false]) w := by kernel_rfl
end Go.Proofs.YtgdgklhfakplhaaGreatDoor
namespace Go.Proofs.YtgdgklhfakplhaaGreatDoor
open Go.RowKit Go.Dig
set_option maxRecDepth 100000
set_option maxHeartbeats 400000 in
/-- nat.setWord onto nothing. -/
theorem setWord_nil (x : Nat) (w : World) (hx : x < 18446744073709551616) : Calls Tryz.prog 121 #[.slice none 0 0, .int .u64 x] w fun e w' => ∃ v, e = .returned v ∧ Nw w' v x ∧ Below w.heap.size w w' := by
  rcases Nat.eq_zero_or_pos x with h | h
  · subst h
    go_enter Tryz.func121, Tryz.ntmps121
    go_wp2_with fail
    go_ret
    exact ⟨_, rfl, by rw [Nw, dg_zero]; exact Rt.nil _ _ _, Below.refl _ _⟩
  · have hx0 : ((x : Int) == 0) = false := by simp; omega
    go_enter Tryz.func121, Tryz.ntmps121
    go_wp2_with fail
    refine (natMake_one _).mono ?_
    rintro e w' ⟨rfl, rfl⟩
    have hB : BlkN .u64 181 (w.alloc (.cells (cs .u64 [0]).toArray 181)) w.heap.size [0] := blk_new w _ 181
    have hb : Below w.heap.size w (w.alloc (.cells (cs .u64 [0]).toArray 181)) := (Below.refl _ _).alloc (Nat.le_refl _) _
    have HB := hid hB
    have Hb := hid hb
    have hc := hB.at (i := 0) (by simp)
    have hf := Blk.frozen hB 0
    clear hB hb
    generalize w.alloc (.cells (cs .u64 [0]).toArray 181) = w1 at *
    go_wp2_with fail
    go_ret
    have hB2 := HB.out.put 0 x
    have hr := BlkN.rt hB2 (cap := 1) (by simp) (by omega)
    refine ⟨_, rfl, ?_, Hb.out.setCell (Nat.le_refl _) _⟩
    rw [Nw, dg_one h hx]
    exact hr
set_option maxHeartbeats 400000 in
theorem setUint64_nil (x : Nat) (w : World) (hx : x < 18446744073709551616) : Calls Tryz.prog 98 #[.slice none 0 0, .int .u64 x] w fun e w' => ∃ v, e = .returned v ∧ Nw w' v x ∧ Below w.heap.size w w' := by
  go_enter Tryz.func98, Tryz.ntmps98
  go_wp2_with fail
  refine (setWord_nil x _ hx).mono ?_
  rintro e w' ⟨v, rfl, hv, hb⟩
  go_wp2_with fail
  go_ret
  exact ⟨_, rfl, hv, hb⟩
/-- A number of 64 bits behind a pointer. -/
theorem zh_iv {w w' : World} {bz k : Nat} {v : Value} (h : Zh w bz v k w') (s : Bool) : Iv (w'.setCell ⟨bz, 0, none⟩ (.bool s)) bz s k :=
  ⟨v, by simpa using h.1.set 0 (.bool s), h.2.1.set (p := ⟨bz, 0, none⟩) _ h.1.shape (by decide)⟩
set_option maxHeartbeats 400000 in
theorem setInt64_new (bz : Nat) (x : Int) (w : World) (h0 : -9223372036854775808 ≤ x) (h1 : x ≤ 9223372036854775807) (hz : Blk w bz #[.bool false, .slice none 0 0] 124) :
    Calls Tryz.prog 86 #[.pointer (some ⟨bz, 0, none⟩), .int .i64 x] w fun e w' => e = .returned (.pointer (some ⟨bz, 0, none⟩)) ∧ Iv w' bz (decide (x < 0)) x.natAbs ∧ Below bz w w' := by
  have HZ := hid hz
  have hz1 := hz.cell 1
  simp only [List.getElem?_toArray, List.getElem?_cons_zero, List.getElem?_cons_succ] at hz1
  have f0 := hz.frozen 0
  have f1 := hz.frozen 1
  clear hz
  rcases Int.lt_or_le x 0 with hx | hx
  · obtain ⟨n, rfl⟩ : ∃ n : Nat, x = -(n : Int) := ⟨x.natAbs, by omega⟩
    have hw : IntKind.u64.wrap (wrap64 (n : Int)) = (n : Int) := by rw [IntKind.wrap_u64]; unfold wrap64; omega
    have hd : decide (-(n : Int) < 0) = true := decide_eq_true hx
    rw [hd, Int.natAbs_neg, Int.natAbs_natCast]
    go_enter Tryz.func86, Tryz.ntmps86
    go_wp2_with fail
    refine (setUint64_nil n _ (by omega)).mono ?_
    rintro e w1 ⟨v, rfl, hv, hb⟩
    obtain ⟨az, L, cz, rfl, HL⟩ := nw_shape hv
    have HV := hid hv
    have HB := hid hb
    clear hv hb
    have f0 : w1.frozen? ⟨bz, 0, none⟩ = false := (HB.out.frozen (p := ⟨bz, 0, none⟩) HZ.out.lt).trans f0
    have f1 : w1.frozen? ⟨bz, 1, none⟩ = false := (HB.out.frozen (p := ⟨bz, 1, none⟩) HZ.out.lt).trans f1
    have q0 := (HZ.out.below HB.out HZ.out.lt).cell 0
    have q1 := (HZ.out.below HB.out HZ.out.lt).cell 1
    simp only [List.getElem?_toArray, List.getElem?_cons_zero, List.getElem?_cons_succ] at q0 q1
    go_wp2_with fail
    go_ret
    have hZ := zh_of HZ.out HB.out HV.out
    exact ⟨rfl, zh_iv hZ true, hZ.2.2.setCell (p := ⟨bz, 0, none⟩) (Nat.le_refl _) _⟩
  · obtain ⟨n, rfl⟩ : ∃ n : Nat, x = (n : Int) := ⟨x.natAbs, by omega⟩
    have hd : decide ((n : Int) < 0) = false := decide_eq_false (by omega)
    rw [hd, Int.natAbs_natCast]
    go_enter Tryz.func86, Tryz.ntmps86
    go_wp2_with fail
    refine (setUint64_nil n _ (by omega)).mono ?_
    rintro e w1 ⟨v, rfl, hv, hb⟩
    obtain ⟨az, L, cz, rfl, HL⟩ := nw_shape hv
    have HV := hid hv
    have HB := hid hb
    clear hv hb
    have f0 : w1.frozen? ⟨bz, 0, none⟩ = false := (HB.out.frozen (p := ⟨bz, 0, none⟩) HZ.out.lt).trans f0
    have f1 : w1.frozen? ⟨bz, 1, none⟩ = false := (HB.out.frozen (p := ⟨bz, 1, none⟩) HZ.out.lt).trans f1
    have q0 := (HZ.out.below HB.out HZ.out.lt).cell 0
    have q1 := (HZ.out.below HB.out HZ.out.lt).cell 1
    simp only [List.getElem?_toArray, List.getElem?_cons_zero, List.getElem?_cons_succ] at q0 q1
    go_wp2_with fail
    go_ret
    have hZ := zh_of HZ.out HB.out HV.out
    exact ⟨rfl, zh_iv hZ false, hZ.2.2.setCell (p := ⟨bz, 0, none⟩) (Nat.le_refl _) _⟩
set_option maxHeartbeats 1000000 in
theorem number_any (b : Nat) (s : Bool) (n : Nat) (w : World) (h : Iv w b s n) (hlen : (dg 18446744073709551616 n).length ≤ 100000) :
    Calls Tryz.prog 85 #[.pointer (some ⟨b, 0, none⟩)] w fun e w' => ∃ t v, e = .returned (.agg #[.bool t, v]) ∧ Hid (t = decide (sgn s n < 0)) ∧ Rt 41 .u64 w' v (dg 18446744073709551616 n) ∧ Below w.heap.size w w' := by
  have H := hid h
  clear h
  have HK := hid (blk_new w #[.bool false, .slice none 0 0] 24)
  have Hb0 : Hid (Below w.heap.size w (w.alloc (.cells #[.bool false, .slice none 0 0] 24))) := (Below.refl _ _).alloc (Nat.le_refl _) _
  have H0 := hid (H.out.below Hb0.out)
  go_enter Tryz.func85, Tryz.ntmps85
  go_wp2_with fail
  generalize w.alloc (.cells #[.bool false, .slice none 0 0] 24) = w0 at *
  refine (intSign_any b s n _ H0.out).mono ?_
  rintro e w1 ⟨x, rfl, HX, rfl⟩
  have q0 := HK.out.cell 0
  have q1 := HK.out.cell 1
  simp only [List.getElem?_toArray, List.getElem?_cons_zero, List.getElem?_cons_succ] at q0 q1
  have f0 := HK.out.frozen 0
  have f1 := HK.out.frozen 1
  clear q0 q1 f0 f1
  go_wp2_with fail
  refine (plain_any b s n _ H0.out hlen).mono ?_
  rintro e w1 ⟨v, rfl, hv, hb⟩
  obtain ⟨a, c, rfl⟩ := hv.shape
  have HV := hid hv
  have HB := hid hb
  clear hv hb
  have HK1 := hid (HK.out.below HB.out HK.out.lt)
  have q0 := HK1.out.cell 0
  have q1 := HK1.out.cell 1
  simp only [List.getElem?_toArray, List.getElem?_cons_zero, List.getElem?_cons_succ] at q0 q1
  have f0 := HK1.out.frozen 0
  have f1 := HK1.out.frozen 1
  go_wp2_with fail
  have g1 := HV.out.set (p := ⟨w.heap.size, 0, none⟩) (.bool (decide (x < 0))) HK1.out.shape (by decide)
  have g2 := g1.set (p := ⟨w.heap.size, 1, none⟩) (.slice a (dg 18446744073709551616 n).length c) (m := 2) (e' := 24) (by rw [shape_setCell]; exact HK1.out.shape) (by decide)
  refine bodyPost_ret (v := .agg #[.bool (decide (x < 0)), .slice a (dg 18446744073709551616 n).length c]) (by simp [results, Tryz.results85, go_sem, q0, q1]) rfl ⟨_, _, rfl, hid ?_, g2, ?_⟩
  · have := HX.out
    simpa using this
  · exact ((Hb0.out.trans (HB.out.mono Hb0.out.size)).setCell (p := ⟨w.heap.size, 0, none⟩) (Nat.le_refl _) _).setCell (p := ⟨w.heap.size, 1, none⟩) (Nat.le_refl _) _
end Go.Proofs.YtgdgklhfakplhaaGreatDoor
namespace Go.Proofs.YtgdgklhfakplhaaGreatDoor
open Go.RowKit Go.Dig
set_option maxRecDepth 100000
theorem band63 (z : Int) (h0 : 0 ≤ z) (h1 : z < 64) : bits .and .u64 z 63 = z := by
  rw [u64_and z 63 (by omega) (by omega) (by omega) (by omega), show (63 : Int).toNat = 2 ^ 6 - 1 from rfl, Nat.and_two_pow_sub_one_eq_mod]
  omega
theorem wrap_mul (m s : Nat) : IntKind.u64.wrap ((m : Int) * 2 ^ s) = ((m * 2 ^ s % 18446744073709551616 : Nat) : Int) := by
  rw [IntKind.wrap_u64, show (m : Int) * 2 ^ s = ((m * 2 ^ s : Nat) : Int) by simp]
  omega
theorem shr_cast (m s : Nat) (hs : s ≤ 64) : Op.shift .shr .u64 (m : Int) .u64 (s : Int) = pure (.int .u64 ((m / 2 ^ s : Nat) : Int)) := by
  have h := shift_shr_u64 (x := (m : Int)) (yk := .u64) (y := (s : Int)) (by omega) (by omega)
  rw [h, Int.toNat_natCast]
  simp
theorem shl_cast (m s : Nat) (hs : s ≤ 64) : Op.shift .shl .u64 (m : Int) .u64 (s : Int) = pure (.int .u64 ((m * 2 ^ s % 18446744073709551616 : Nat) : Int)) := by
  have h := shift_shl_u64 (x := (m : Int)) (yk := .u64) (y := (s : Int)) (by omega) (by omega)
  rw [h, Int.toNat_natCast, IntKind.wrap_u64, show (m : Int) * 2 ^ s = ((m * 2 ^ s : Nat) : Int) by simp]
  rfl
set_option maxHeartbeats 400000 in
/-- One word, shifted by less than a word. -/
theorem lshVUg_one (B o cz b m s : Nat) (hs0 : 0 < s) (hs : s < 64) (w : World) (h0 : w.cell? ⟨b, 0, none⟩ = some (.int .u64 m)) (h1 : ∃ v, w.cell? ⟨B, o, none⟩ = some v) (f0 : w.frozen? ⟨B, o, none⟩ = false) (_hne : B ≠ b) :
    Calls Tryz.prog 143 #[.slice (some ⟨B, o, none⟩) 1 cz, .slice (some ⟨b, 0, none⟩) 1 1, .int .u64 s] w fun e w' => e = .returned (.int .u64 ((m / 2 ^ (64 - s) : Nat) : Int)) ∧ w' = w.setCell ⟨B, o, none⟩ (.int .u64 ((m * 2 ^ s % 18446744073709551616 : Nat) : Int)) := by
  obtain ⟨v, h1⟩ := h1
  have hs1 : ((s : Int) == 0) = false := by simp; omega
  have a1 := band63 (s : Int) (by omega) (by omega)
  have a2 := band63 (64 - (s : Int)) (by omega) (by omega)
  have a3 : IntKind.u64.wrap (64 - (s : Int)) = 64 - (s : Int) := by rw [IntKind.wrap_u64]; omega
  obtain ⟨hi, hhi⟩ : ∃ hi, m / 2 ^ (64 - s) = hi := ⟨_, rfl⟩
  obtain ⟨lo, hlo⟩ : ∃ lo, m * 2 ^ s % 18446744073709551616 = lo := ⟨_, rfl⟩
  have S1 : (m : Int) / 2 ^ (64 - s) = hi := by rw [← hhi]; simp
  have S2 : IntKind.u64.wrap ((m : Int) * 2 ^ s) = lo := by rw [← hlo]; exact wrap_mul m s
  rw [hhi, hlo]
  clear hhi hlo
  go_enter Tryz.func143, Tryz.ntmps143
  go_wp2_with fail
  go_loopw [8] (fun v wr => v = .int .i64 0 ∧ wr = w) (fun _ _ => 0)
  case atStart => exact ⟨rfl, rfl⟩
  case round =>
    obtain ⟨rfl, rfl⟩ := hrel
    go_wp2_with fail
    go_ret
    exact ⟨rfl, rfl⟩
set_option maxHeartbeats 400000 in
theorem lshVU_one (B o cz b m s : Nat) (hs0 : 0 < s) (hs : s < 64) (w : World) (h0 : w.cell? ⟨b, 0, none⟩ = some (.int .u64 m)) (h1 : ∃ v, w.cell? ⟨B, o, none⟩ = some v) (f0 : w.frozen? ⟨B, o, none⟩ = false) (hne : B ≠ b) :
    Calls Tryz.prog 108 #[.slice (some ⟨B, o, none⟩) 1 cz, .slice (some ⟨b, 0, none⟩) 1 1, .int .u64 s] w fun e w' => e = .returned (.int .u64 ((m / 2 ^ (64 - s) : Nat) : Int)) ∧ w' = w.setCell ⟨B, o, none⟩ (.int .u64 ((m * 2 ^ s % 18446744073709551616 : Nat) : Int)) := by
  have H := lshVUg_one B o cz b m s hs0 hs w h0 h1 f0 hne
  generalize m / 2 ^ (64 - s) = hi at *
  generalize m * 2 ^ s % 18446744073709551616 = lo at *
  go_enter Tryz.func108, Tryz.ntmps108
  go_wp2_with fail
  refine H.mono ?_
  rintro e w' ⟨rfl, rfl⟩
  go_wp2_with fail
  go_ret
  exact ⟨rfl, rfl⟩
end Go.Proofs.YtgdgklhfakplhaaGreatDoor
namespace Go.Proofs.YtgdgklhfakplhaaGreatDoor
open Go.RowKit Go.Dig
set_option maxRecDepth 100000
/-- A word moved left by s, and what falls out of it. -/
def wlo (s x : Nat) : Nat := x * 2 ^ s % 18446744073709551616
def whi (s x : Nat) : Nat := x / 2 ^ (64 - s)
theorem pow_split {s : Nat} (hs : s < 64) : 2 ^ s * 2 ^ (64 - s) = 18446744073709551616 := by
  rw [← Nat.pow_add, show s + (64 - s) = 64 by omega]
theorem lohi {s x : Nat} (hs : s < 64) : wlo s x + whi s x * 18446744073709551616 = x * 2 ^ s := by
  unfold wlo whi
  have h := Nat.div_add_mod (x * 2 ^ s) 18446744073709551616
  have e : x * 2 ^ s / 18446744073709551616 = x / 2 ^ (64 - s) := by
    rw [← pow_split hs, Nat.mul_comm x, Nat.mul_div_mul_left _ _ (Nat.pow_pos (by omega))]
  rw [← e]; omega
theorem whi_lt {s x : Nat} (hs : s < 64) (hx : x < 18446744073709551616) : whi s x < 2 ^ s := by
  unfold whi
  apply Nat.div_lt_of_lt_mul
  rw [Nat.mul_comm, pow_split hs]; exact hx
theorem or_lohi {s x y : Nat} (hs : s < 64) (hy : y < 18446744073709551616) : bits .or .u64 (wlo s x : Int) (whi s y : Int) = ((wlo s x + whi s y : Nat) : Int) ∧ wlo s x + whi s y < 18446744073709551616 := by
  have h1 := whi_lt hs hy
  have h2 : (2 : Nat) ^ s ≤ 2 ^ 63 := Nat.pow_le_pow_right (by omega) (by omega)
  have h3 : wlo s x = x % 2 ^ (64 - s) * 2 ^ s := by
    unfold wlo
    rw [← pow_split hs, Nat.mul_comm (2 ^ s), Nat.mul_mod_mul_right]
  have h4 : x % 2 ^ (64 - s) < 2 ^ (64 - s) := Nat.mod_lt _ (Nat.pow_pos (by omega))
  generalize x % 2 ^ (64 - s) = t at *
  have h5 : wlo s x + whi s y < 18446744073709551616 := by
    rw [h3]
    have : (t + 1) * 2 ^ s ≤ 2 ^ (64 - s) * 2 ^ s := Nat.mul_le_mul_right _ h4
    rw [Nat.mul_comm (2 ^ (64 - s)), pow_split hs, Nat.add_mul] at this
    omega
  refine ⟨?_, h5⟩
  rw [bits_or_u64_nat _ _ (by omega) (by omega)]
  congr 1
  rw [h3, ← Nat.shiftLeft_eq, ← Nat.shiftLeft_add_eq_or_of_lt h1]
/-- The words of a row moved left: from the j-th on. -/
theorem lsh_val {s : Nat} (hs : s < 64) : ∀ (xs l : List Nat) (c0 : Nat), l.length = xs.length → (0 < xs.length → l.getD 0 0 = wlo s (xs.getD 0 0) + c0) → (∀ j, 0 < j → j < xs.length → l.getD j 0 = wlo s (xs.getD j 0) + whi s (xs.getD (j - 1) 0)) →
    val 18446744073709551616 l + (if xs.length = 0 then c0 else whi s (xs.getD (xs.length - 1) 0)) * 18446744073709551616 ^ xs.length = val 18446744073709551616 xs * 2 ^ s + c0
  | [], [], c0, _, _, _ => by simp [val]
  | x :: xs, a :: l, c0, hl, h0, hr => by
    have hl' : l.length = xs.length := by simpa using hl
    have ih := lsh_val hs xs l (whi s x) hl' (fun hp => by have := hr 1 (by omega) (by simp; omega); simpa using this) (fun j h1 h2 => by
      have := hr (j + 1) (by omega) (by simp; omega)
      simp only [List.getD_cons_succ] at this
      rw [this]
      congr 2
      obtain ⟨i, rfl⟩ : ∃ i, j = i + 1 := ⟨j - 1, by omega⟩
      simp)
    have ha : a = wlo s x + c0 := by have := h0 (by simp); simpa using this
    have hlh := lohi (x := x) hs
    simp only [val, List.length_cons]
    rw [if_neg (by omega), Nat.pow_succ]
    have e1 : (x :: xs).getD (xs.length + 1 - 1) 0 = if xs.length = 0 then x else xs.getD (xs.length - 1) 0 := by
      rw [Nat.add_sub_cancel]
      rcases Nat.eq_zero_or_pos xs.length with e | e
      · rw [e]; simp
      · obtain ⟨i, hi⟩ : ∃ i, xs.length = i + 1 := ⟨xs.length - 1, by omega⟩
        rw [if_neg (by omega), hi]; simp
    have e2 : whi s ((x :: xs).getD (xs.length + 1 - 1) 0) = if xs.length = 0 then whi s x else whi s (xs.getD (xs.length - 1) 0) := by
      rw [e1]; split <;> rfl
    rw [e2]
    generalize (if xs.length = 0 then whi s x else whi s (xs.getD (xs.length - 1) 0)) = C at *
    rw [ha, Nat.add_mul, Nat.mul_assoc 18446744073709551616 (val _ xs)]
    have e3 : 18446744073709551616 * (val 18446744073709551616 l + C * 18446744073709551616 ^ xs.length) = 18446744073709551616 * (val 18446744073709551616 xs * 2 ^ s + whi s x) := by rw [ih]
    rw [Nat.mul_add, Nat.mul_add] at e3
    rw [← Nat.mul_assoc C, Nat.mul_comm (C * _) 18446744073709551616]
    omega
end Go.Proofs.YtgdgklhfakplhaaGreatDoor
