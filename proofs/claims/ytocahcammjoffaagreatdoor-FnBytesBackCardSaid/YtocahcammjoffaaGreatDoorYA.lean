/- Walks and lemmas for the laws of this seat. -/
import Derived.Test.YtocahcammjoffaaGreatDoorWU
namespace Go.Proofs.YtocahcammjoffaaGreatDoor
open Go.RowKit Go.Dig
set_option maxRecDepth 100000
set_option maxHeartbeats 2000000 in
theorem told_big (b : Nat) (s : Bool) (n : Nat) (w : World) (hI : Iv w b s n) (hlen : (dg 18446744073709551616 n).length ≤ 100000) : Calls Tryz.prog 62 #[.iface 122 (.agg #[.pointer (some ⟨b, 0, none⟩)])] w fun e w' => ∃ t v, e = .returned (.agg #[.int .i64 3, .bool false, .string (ByteArray.mk #[]), .bool t, v, .slice none 0 0, .bool false, .slice none 0 0, .slice none 0 0]) ∧ Hid (t = decide (sgn s n < 0)) ∧ Rt 44 .u64 w' v (dg 18446744073709551616 n) ∧ Below w.heap.size w w' := by
  have HR : Hid (Blk (w.alloc (.cells zeroV 26)) w.heap.size zeroV 26) := blk_new w _ 26
  have Hb0 : Hid (Below w.heap.size w (w.alloc (.cells zeroV 26))) := (Below.refl _ _).alloc (Nat.le_refl _) _
  have HI := hid (hI.below Hb0.out)
  clear hI
  go_enter Tryz.func62, Tryz.ntmps62
  go_wp2_with fail
  generalize w.alloc (.cells zeroV 26) = w0 at *
  refine (kind_big _ _).mono ?_
  rintro e w1 ⟨rfl, hb⟩
  have HR1 := hid (HR.out.below hb HR.out.lt)
  have Hb1 := hid (below_next Hb0.out hb)
  have HI1 := hid (HI.out.below hb)
  have hlt := HR1.out.lt
  clear hb
  have HO2 : Hid (Blk (w1.alloc (.cells #[.int .i64 3, .bool false, .string (ByteArray.mk #[]), .bool false, .slice none 0 0, .slice none 0 0, .bool false, .slice none 0 0, .slice none 0 0] 26)) w1.heap.size #[.int .i64 3, .bool false, .string (ByteArray.mk #[]), .bool false, .slice none 0 0, .slice none 0 0, .bool false, .slice none 0 0, .slice none 0 0] 26) := blk_new w1 _ 26
  have HR2 := hid (HR1.out.alloc (.cells #[.int .i64 3, .bool false, .string (ByteArray.mk #[]), .bool false, .slice none 0 0, .slice none 0 0, .bool false, .slice none 0 0, .slice none 0 0] 26))
  have Hb2 : Hid (Below w.heap.size w (w1.alloc (.cells #[.int .i64 3, .bool false, .string (ByteArray.mk #[]), .bool false, .slice none 0 0, .slice none 0 0, .bool false, .slice none 0 0, .slice none 0 0] 26))) := Hb1.out.alloc Hb1.out.size _
  have HI2 := hid (HI1.out.below ((Below.refl _ _).alloc (Nat.le_refl _) (.cells #[.int .i64 3, .bool false, .string (ByteArray.mk #[]), .bool false, .slice none 0 0, .slice none 0 0, .bool false, .slice none 0 0, .slice none 0 0] 26)))
  go_wp2_with fail
  generalize w1.alloc (.cells #[.int .i64 3, .bool false, .string (ByteArray.mk #[]), .bool false, .slice none 0 0, .slice none 0 0, .bool false, .slice none 0 0, .slice none 0 0] 26) = w2 at *
  generalize w1.heap.size = O at *
  refine (kind_big _ _).mono ?_
  rintro e w3 ⟨rfl, hb⟩
  have HR3 := hid (HR2.out.below hb HR2.out.lt)
  have HO3 := hid (HO2.out.below hb HO2.out.lt)
  have Hb3 := hid (below_next Hb2.out hb)
  have HI3 := hid (HI2.out.below hb)
  clear hb
  go_wp2_with fail
  refine (parts_big _ _ _ _ HI3.out hlen).mono ?_
  rintro e w4 ⟨t, v, u, rfl, HT, hv, hb⟩
  obtain ⟨a, c, rfl⟩ := hv.shape
  have HV : Hid (Kp O w.heap.size w4 _ _) := ⟨hv, ⟨_, (HO3.out.below hb HO3.out.lt).shape⟩, ⟨_, (HR3.out.below hb HR3.out.lt).shape⟩⟩
  have HB := hid (below_next Hb3.out hb)
  have HR1 := hid (HR3.out.below hb HR3.out.lt)
  have HO1 := hid (HO3.out.below hb HO3.out.lt)
  clear hv hb
  obtain ⟨c0, c1, c2, c3, c4, c5, c6, c7, c8, f0, f1, f2, f3, f4, f5, f6, f7, f8⟩ := HO1.out.nine
  obtain ⟨r0, r1, r2, r3, r4, r5, r6, r7, r8, g0, g1, g2, g3, g4, g5, g6, g7, g8⟩ := HR1.out.nine
  have hne1 : O ≠ w.heap.size := by omega
  have hne2 : w.heap.size ≠ O := by omega
  go_wp2_with fail
  refine bodyPost_ret (v := .agg #[.int .i64 3, .bool false, .string (ByteArray.mk #[]), .bool t, .slice a (dg 18446744073709551616 n).length c, .slice none 0 0, .bool false, .slice none 0 0, .slice none 0 0]) (by simp [results, Tryz.results62, go_sem, r0, r1, r2, r3, r4, r5, r6, r7, r8]) rfl ⟨_, _, rfl, HT, ?_, ?_⟩
  · exact (((((((((((HV.out.o 3 _).o 4 _).r 0 _).r 1 _).r 2 _).r 3 _).r 4 _).r 5 _).r 6 _).r 7 _).r 8 _).rt
  · exact below_set9 ((HB.out.setCell (p := ⟨O, 3, none⟩) (Nat.le_of_lt hlt) _).setCell (p := ⟨O, 4, none⟩) (Nat.le_of_lt hlt) _) (Nat.le_refl _) _ _ _ _ _ _ _ _ _
end Go.Proofs.YtocahcammjoffaaGreatDoor
namespace Go.Proofs.YtocahcammjoffaaGreatDoor
open Go.RowKit Go.Dig
set_option maxRecDepth 100000
theorem bytes_len_k {bs : List Nat} {K : Nat} (hd : ∀ d ∈ bs, d < 256) (hn : bs.length ≤ 8 * K) : (dg 18446744073709551616 (val 256 bs)).length ≤ K := by
  have h1 := val_lt (b := 256) (by omega) hd
  have h2 : (256 : Nat) ^ bs.length ≤ 256 ^ (8 * K) := Nat.pow_le_pow_right (by omega) hn
  rw [Nat.pow_mul] at h2
  exact dg_length_le (b := 18446744073709551616) (by omega) (k := K) (Nat.lt_of_lt_of_le h1 h2)
theorem bytes_len {bs : List Nat} (hd : ∀ d ∈ bs, d < 256) (hn : bs.length ≤ 1000) : (dg 18446744073709551616 (val 256 bs)).length ≤ 100000 :=
  Nat.le_trans (bytes_len_k (K := 125) hd (by omega)) (by omega)
set_option maxHeartbeats 1000000 in
/-- FromBytes, told. -/
theorem iFromBytes_any (vb : Value) (bs : List Nat) (w : World) (hb : Rd .u8 w vb bs) (hd : ∀ d ∈ bs, d < 256) (hn : bs.length ≤ 1000) (hform : vb = .slice none 0 0 ∨ ∃ p c, vb = .slice (some p) bs.length c) :
    Calls Tryz.prog 32 #[vb] w fun e w' => ∃ t v, e = .returned (.agg #[.int .i64 3, .bool false, .string (ByteArray.mk #[]), .bool t, v, .slice none 0 0, .bool false, .slice none 0 0, .slice none 0 0]) ∧ Hid (t = false) ∧ Rt 44 .u64 w' v (dg 18446744073709551616 (val 256 bs)) ∧ Below w.heap.size w w' := by
  have HB := hid hb
  have HD := hid hd
  have HLN := hid (bytes_len hd hn)
  clear hb hd
  have HK := hid (blk_new w zeroV 26)
  have Hb0 : Hid (Below w.heap.size w (w.alloc (.cells zeroV 26))) := (Below.refl _ _).alloc (Nat.le_refl _) _
  have HB0 := hid (HB.out.below Hb0.out (Nat.le_refl _))
  go_enter Tryz.func32, Tryz.ntmps32
  go_wp2_with (at_builtin; refine appN rfl _ _ 49 5 rfl .u8 1 Tryz.underlying49 info5 (by decide) vb bs rfl rfl HB0.out (by omega) ?_ hform; intro v' w1 hv' hb' hf')
  have HV1 := hid hv'
  have HK1 := hid (HK.out.below hb' HK.out.lt)
  have Hb1 := hid (below_next Hb0.out hb')
  clear hv' hb' hf'
  refine (fromBytes_any _ bs _ HV1.out.rd HD.out (by omega)).mono ?_
  rintro e w2 ⟨v, b, rfl, hM, hI, hb2⟩
  have HK2 := hid (HK1.out.below hb2 HK1.out.lt)
  have Hb2 := hid (below_next Hb1.out hb2)
  have HI2 := hid hI
  clear hI hb2
  rcases hM with ⟨hf, rfl⟩ | ⟨hf, rfl⟩
  · have HX0 : Hid (decide (((val 256 bs : Nat) : Int) < 0) = false) := decide_eq_false (by omega)
    have HX : Hid (-9223372036854775808 ≤ ((val 256 bs : Nat) : Int) ∧ ((val 256 bs : Nat) : Int) ≤ 9223372036854775807 ∧ ((val 256 bs : Nat) : Int).natAbs = val 256 bs) := by
      have := of_decide_eq_true hf
      exact ⟨this.1, this.2, by omega⟩
    clear hf
    generalize ((val 256 bs : Nat) : Int) = x at *
    go_wp2_with fail
    refine (told_64 x _ HX.out.1 HX.out.2.1).mono ?_
    rintro e w3 ⟨t, v, rfl, HT, hv, hb3⟩
    obtain ⟨a, c, rfl⟩ := hv.shape
    have HV3 : Hid (Kp w.heap.size w.heap.size w3 _ _) := ⟨hv, ⟨_, (HK2.out.below hb3 HK2.out.lt).shape⟩, ⟨_, (HK2.out.below hb3 HK2.out.lt).shape⟩⟩
    have HK3 := hid (HK2.out.below hb3 HK2.out.lt)
    have Hb3 := hid (below_next Hb2.out hb3)
    clear hv hb3
    obtain ⟨r0, r1, r2, r3, r4, r5, r6, r7, r8, g0, g1, g2, g3, g4, g5, g6, g7, g8⟩ := HK3.out.nine
    go_wp2_with fail
    refine bodyPost_ret (v := .agg #[.int .i64 3, .bool false, .string (ByteArray.mk #[]), .bool t, .slice a (dg 18446744073709551616 x.natAbs).length c, .slice none 0 0, .bool false, .slice none 0 0, .slice none 0 0]) (by simp [results, Tryz.results32, go_sem, r0, r1, r2, r3, r4, r5, r6, r7, r8]) rfl ⟨_, _, rfl, hid ?_, ?_, ?_⟩
    · rw [HT.out]; exact HX0.out
    · have := (((((((((HV3.out.r 0 (.int .i64 3)).r 1 (.bool false)).r 2 (.string (ByteArray.mk #[]))).r 3 (.bool t)).r 4 (.slice a (dg 18446744073709551616 x.natAbs).length c)).r 5 (.slice none 0 0)).r 6 (.bool false)).r 7 (.slice none 0 0)).r 8 (.slice none 0 0)).rt
      rw [HX.out.2.2] at this ⊢
      exact this
    · exact below_set9 Hb3.out (Nat.le_refl _) _ _ _ _ _ _ _ _ _
  · go_wp2_with fail
    refine (told_big b false _ _ HI2.out HLN.out).mono ?_
    rintro e w3 ⟨t, v, rfl, HT, hv, hb3⟩
    obtain ⟨a, c, rfl⟩ := hv.shape
    have HV3 : Hid (Kp w.heap.size w.heap.size w3 _ _) := ⟨hv, ⟨_, (HK2.out.below hb3 HK2.out.lt).shape⟩, ⟨_, (HK2.out.below hb3 HK2.out.lt).shape⟩⟩
    have HK3 := hid (HK2.out.below hb3 HK2.out.lt)
    have Hb3 := hid (below_next Hb2.out hb3)
    clear hv hb3
    obtain ⟨r0, r1, r2, r3, r4, r5, r6, r7, r8, g0, g1, g2, g3, g4, g5, g6, g7, g8⟩ := HK3.out.nine
    go_wp2_with fail
    refine bodyPost_ret (v := .agg #[.int .i64 3, .bool false, .string (ByteArray.mk #[]), .bool t, .slice a (dg 18446744073709551616 (val 256 bs)).length c, .slice none 0 0, .bool false, .slice none 0 0, .slice none 0 0]) (by simp [results, Tryz.results32, go_sem, r0, r1, r2, r3, r4, r5, r6, r7, r8]) rfl ⟨_, _, rfl, hid ?_, ?_, ?_⟩
    · rw [HT.out]; exact decide_eq_false (by simp [sgn])
    · have := (((((((((HV3.out.r 0 (.int .i64 3)).r 1 (.bool false)).r 2 (.string (ByteArray.mk #[]))).r 3 (.bool t)).r 4 (.slice a (dg 18446744073709551616 (val 256 bs)).length c)).r 5 (.slice none 0 0)).r 6 (.bool false)).r 7 (.slice none 0 0)).r 8 (.slice none 0 0)).rt
      exact this
    · exact below_set9 Hb3.out (Nat.le_refl _) _ _ _ _ _ _ _ _ _
end Go.Proofs.YtocahcammjoffaaGreatDoor
namespace Go.Proofs.YtocahcammjoffaaGreatDoor
open Go.RowKit Go.Dig
set_option maxRecDepth 100000
theorem make_bytes (n m : Nat) (hn : n ≤ m) (hm : m ≤ 10000000) (w : World) :
    (Instr.makeSlice 49 (.int .i64 (n : Int)) (.int .i64 (m : Int))).run Tryz.prog w = .ok (.slice (some ⟨w.heap.size, 0, none⟩) n m) (w.alloc (.cells (madeCells #[.int .u8 0] m) 5)) := by
  obtain ⟨i, hi, hzz⟩ := Option.map_eq_some_iff.1 info5
  simp only [Prod.mk.injEq] at hzz
  obtain ⟨hz, hs, hb⟩ := hzz
  have hr := run_make (P := Tryz.prog) w 49 5 i (.int .u8 0) Tryz.underlying49 hi hz .i64 .i64 n m (by omega) (by omega) (by rw [hb]; omega) (by omega)
  simp only [Int.toNat_natCast, hs, Nat.mul_one] at hr
  exact hr
theorem wrap_u8 (y : Nat) : IntKind.u8.wrap (y : Int) = ((y % 256 : Nat) : Int) := by
  rw [IntKind.wrap_u8]
  omega
set_option maxHeartbeats 400000 in
theorem i64toi_any (x : Int) (w : World) (h0 : -9223372036854775808 ≤ x) (h1 : x ≤ 9223372036854775807) :
    Calls Tryz.prog 122 #[.int .i64 x] w fun e w' => ∃ b, e = .returned (.agg #[.pointer (some ⟨b, 0, none⟩)]) ∧ Hid (w.heap.size ≤ b) ∧ Iv w' b (decide (x < 0)) x.natAbs ∧ Below w.heap.size w w' := by
  have HR := hid (blk_new w #[.pointer none] 122)
  have Hb0 : Hid (Below w.heap.size w (w.alloc (.cells #[.pointer none] 122))) := (Below.refl _ _).alloc (Nat.le_refl _) _
  go_enter Tryz.func122, Tryz.ntmps122
  go_wp2_with fail
  generalize w.alloc (.cells #[.pointer none] 122) = w0 at *
  refine (newInt_any _).mono ?_
  rintro e w1 ⟨rfl, hz, hb⟩
  have HZ := hid hz
  have HB := hid (below_next Hb0.out hb)
  have HR1 := hid (HR.out.below hb HR.out.lt)
  have hle := Hb0.out.size
  have hlt := HR.out.lt
  clear hz hb
  go_wp2_with fail
  refine (setInt64_new _ x _ h0 h1 HZ.out).mono ?_
  rintro e w2 ⟨rfl, hi, hb2⟩
  have HI := hid hi
  have HR2 := hid (HR1.out.below hb2 hlt)
  have HB2 := hid (HB.out.trans (hb2.mono hle))
  clear hi hb2
  have q0 := HR2.out.cell 0
  simp only [List.getElem?_toArray, List.getElem?_cons_zero] at q0
  have f0 := HR2.out.frozen 0
  go_wp2_with fail
  refine bodyPost_ret (v := .agg #[.pointer (some ⟨w0.heap.size, 0, none⟩)]) (by simp [results, Tryz.results122, go_sem, q0]) rfl ⟨_, rfl, hid hle, ?_, ?_⟩
  · obtain ⟨v, g1, g2⟩ := HI.out
    exact ⟨v, (Below.heap_setCell w2 ⟨w.heap.size, 0, none⟩ _ _ (by show w0.heap.size ≠ w.heap.size; omega)).trans g1, g2.set (p := ⟨w.heap.size, 0, none⟩) _ HR2.out.shape (by decide)⟩
  · exact HB2.out.setCell (p := ⟨w.heap.size, 0, none⟩) (Nat.le_refl _) _
theorem down_lt {r j y : Nat} (h : r < 256 ^ j) : r + 256 ^ j * (y % 256) < 256 ^ (j + 1) := by
  have h1 : 256 ^ j * (y % 256) ≤ 256 ^ j * 255 := Nat.mul_le_mul_left _ (by omega)
  rw [Nat.pow_succ]
  omega
theorem down_end {x y r : Nat} (hx : x < 18446744073709551616) (h : x = y * 256 ^ 8 + r) : r = x := by
  have h8 : (256 : Nat) ^ 8 = 18446744073709551616 := by decide
  rw [h8] at h
  omega
theorem word_step {ws : List Nat} {k x V : Nat} (hk : k < ws.length) (hx : ws.getD k 0 = x) (h : V = val 18446744073709551616 (ws.take k)) : V + 18446744073709551616 ^ k * x = val 18446744073709551616 (ws.take (k + 1)) := by
  have e : ws[k] = x := by rw [← hx, List.getD_eq_getElem?_getD, List.getElem?_eq_getElem hk]; rfl
  rw [List.take_add_one, List.getElem?_eq_getElem hk, Option.toList_some, val_append, List.length_take, Nat.min_eq_left (by omega), h, e]
  simp [val]
set_option maxHeartbeats 4000000 in
/-- Bytes: the magnitude's bytes, the lowest first. -/
theorem bytes_any (b : Nat) (s : Bool) (n : Nat) (v : Value) (w : World) (hM : Mk b (sgn s n) v) (hI : Iv w b s n) (hl : (dg 18446744073709551616 n).length ≤ 1000) :
    Calls Tryz.prog 71 #[v] w fun e w' => ∃ v', e = .returned v' ∧ (∃ g c, v' = .slice (some ⟨g, 0, none⟩) (dg 256 n).length c) ∧ Rt 5 .u8 w' v' (dg 256 n) ∧ Below w.heap.size w w' := by
  have h11 := ta_119_119
  have h21 := ta_122_119
  have h22 := ta_122_122
  have HI := hid hI
  clear hI
  have HLEN := hid hl
  clear hl
  rcases hM with ⟨hf, rfl⟩ | ⟨hf, rfl⟩
  have hfr : -9223372036854775808 ≤ sgn s n ∧ sgn s n ≤ 9223372036854775807 := of_decide_eq_true hf
  have hnx : (sgn s n).natAbs = n := by cases s <;> simp [sgn]
  have HN := hid hnx
  have HR := hid (blk_new w #[.pointer none] 122)
  have Hb0 : Hid (Below w.heap.size w (w.alloc (.cells #[.pointer none] 122))) := (Below.refl _ _).alloc (Nat.le_refl _) _
  clear hnx hf HI
  generalize sgn s n = x at *
  focus go_enter Tryz.func71, Tryz.ntmps71
  focus go_wp2_with fail
  generalize w.alloc (.cells #[.pointer none] 122) = w0 at *
  refine (i64toi_any x _ hfr.1 hfr.2).mono ?_
  rintro e w2 ⟨b1, rfl, hle, hi, hb⟩
  have HI1 := hid hi
  have HR1 := hid (HR.out.below hb HR.out.lt)
  have HB1 := hid (below_next Hb0.out hb)
  have hle2 := Nat.lt_of_lt_of_le HR.out.lt hle.out
  clear hi hb hle
  have q0 := HR1.out.cell 0
  simp only [List.getElem?_toArray, List.getElem?_cons_zero] at q0
  have f0 := HR1.out.frozen 0
  focus go_wp2_with fail
  have HBz : Hid (Below w.heap.size w (w2.setCell ⟨w.heap.size, 0, none⟩ (.pointer (some ⟨b1, 0, none⟩)))) := HB1.out.setCell (p := ⟨w.heap.size, 0, none⟩) (Nat.le_refl _) _
  have HIz : Hid (Iv (w2.setCell ⟨w.heap.size, 0, none⟩ (.pointer (some ⟨b1, 0, none⟩))) b1 (decide (x < 0)) n) := by
    refine hid ?_
    rw [← HN.out]
    obtain ⟨v, g1, g2⟩ := HI1.out
    exact ⟨v, (Below.heap_setCell w2 ⟨w.heap.size, 0, none⟩ _ _ (by show b1 ≠ w.heap.size; omega)).trans g1, g2.set (p := ⟨w.heap.size, 0, none⟩) _ HR1.out.shape (by decide)⟩
  clear q0 f0
  generalize w2.setCell ⟨w.heap.size, 0, none⟩ (.pointer (some ⟨b1, 0, none⟩)) = wz at *
  obtain ⟨v, hBz, hNz⟩ := HIz.out
  have hcz := hBz.cell 1
  simp only [List.getElem?_toArray, List.getElem?_cons_zero, List.getElem?_cons_succ] at hcz
  refine (intBits_any b1 v wz hcz).mono ?_
  rintro e w3 ⟨rfl, rfl⟩
  obtain ⟨a, cap, rfl, hl1, hl2, hcc⟩ := hNz
  have HC := hid hcc
  clear hcz hBz hcc hl1 HI1 HR1 HB1 HR Hb0 HIz
  rotate_left
  have HR2 : Hid (Below w.heap.size w ((w.alloc (.cells #[.pointer (some ⟨b, 0, none⟩)] 122)).alloc (.cells #[.pointer (some ⟨b, 0, none⟩)] 122))) := ((Below.refl _ _).alloc (Nat.le_refl _) _).alloc (by simp) _
  have HBz := HR2
  have HIz := hid (HI.out.below HR2.out)
  clear HI hf HR2
  focus go_enter Tryz.func71, Tryz.ntmps71
  focus go_wp2_with fail
  generalize (w.alloc (.cells #[.pointer (some ⟨b, 0, none⟩)] 122)).alloc (.cells #[.pointer (some ⟨b, 0, none⟩)] 122) = wz at *
  obtain ⟨v, hBz, hNz⟩ := HIz.out
  have hcz := hBz.cell 1
  simp only [List.getElem?_toArray, List.getElem?_cons_zero, List.getElem?_cons_succ] at hcz
  refine (intBits_any b v wz hcz).mono ?_
  rintro e w3 ⟨rfl, rfl⟩
  obtain ⟨a, cap, rfl, hl1, hl2, hcc⟩ := hNz
  have HC := hid hcc
  clear hcz hBz hcc hl1 HIz
  all_goals (
    have HWD := hid (dg_lt (b := 18446744073709551616) (by omega) n)
    have HVAL : Hid (val 18446744073709551616 (dg 18446744073709551616 n) = n) := val_dg (by omega) n
    generalize dg 18446744073709551616 n = ws at *
    have hmk := make_bytes (ws.length * 8) (ws.length * 8) (Nat.le_refl _) (by have := HLEN.out; omega) wz
    have ec : ((ws.length * 8 : Nat) : Int) = (ws.length : Int) * 8 := by omega
    rw [ec] at hmk
    have hB0 : BlkN .u8 5 (wz.alloc (.cells (madeCells #[.int .u8 0] (ws.length * 8)) 5)) wz.heap.size (List.replicate (ws.length * 8) 0) := blkN_made .u8 5 wz _
    have hbl : Below w.heap.size w (wz.alloc (.cells (madeCells #[.int .u8 0] (ws.length * 8)) 5)) := HBz.out.alloc HBz.out.size _
    have hlen := HLEN.out
    have hbs0 : Below wz.heap.size wz (wz.alloc (.cells (madeCells #[.int .u8 0] (ws.length * 8)) 5)) := (Below.refl _ _).alloc (Nat.le_refl _) _
    go_wp2_with fail
    generalize wz.alloc (.cells (madeCells #[.int .u8 0] (ws.length * 8)) 5) = wb at *
    have HBS := hid hbs0
    clear hbl hmk ec hbs0
    go_loopw [9, 33] (fun v9 v33 wr => ∃ (k i : Nat) (m : List Nat), v33 = .int .i64 k ∧ v9 = .int .i64 i ∧ k ≤ ws.length ∧ Hid (i = 8 * k) ∧ Hid (m.length = ws.length * 8) ∧ BlkN .u8 5 wr wz.heap.size m ∧
      Hid (val 256 (m.take i) = val 18446744073709551616 (ws.take k)) ∧ Hid (∀ d ∈ m, d < 256) ∧ Below wz.heap.size wz wr) (fun _ q _ => ws.length - (intOf q).toNat)
    case atStart => exact ⟨0, 0, List.replicate (ws.length * 8) 0, rfl, rfl, Nat.zero_le _, hid rfl, hid (by simp), hB0, hid (by simp [val]), hid (fun d hd => by have := List.eq_of_mem_replicate hd; omega), HBS.out⟩
    case round =>
      clear hB0
      obtain ⟨k, i, m, rfl, rfl, hk, HI0, HM, hBm, HV, HD, hb⟩ := hrel
      rcases Nat.lt_or_ge k ws.length with hlt | hge
      · obtain ⟨b2, off, rfl, _, hb2⟩ := HC.out (by omega)
        have hkc := hb2 k hlt
        clear hb2
        have hkx := (hb.cell (World.block_lt_of_cell? wz _ hkc)).trans hkc
        clear hkc
        generalize hg : ws.getD k 0 = x at hkx
        have HG := hid hg
        have HX0 : Hid (x < 18446744073709551616) := by refine hid ?_; rw [← hg]; exact getD_lt (by omega) HWD.out k
        clear hg
        go_wp2_with fail
        go_loopw [9, 11, 12] (fun v9 v11 v12 wr' => ∃ (j i' y r : Nat) (m' : List Nat), v12 = .int .i64 j ∧ v11 = .int .u64 y ∧ v9 = .int .i64 i' ∧ j ≤ 8 ∧ Hid (i' = 8 * k + j) ∧ Hid (m'.length = ws.length * 8) ∧ BlkN .u8 5 wr' wz.heap.size m' ∧ Hid (y < 18446744073709551616) ∧
          Hid (x = y * 256 ^ j + r) ∧ Hid (r < 256 ^ j) ∧ Hid (val 256 (m'.take i') = val 18446744073709551616 (ws.take k) + 18446744073709551616 ^ k * r) ∧ Hid (∀ d ∈ m', d < 256) ∧ Below wz.heap.size wz wr') (fun _ _ q _ => 8 - (intOf q).toNat)
        case atStart => exact ⟨0, i, x, 0, m, rfl, rfl, rfl, by omega, hid (by have := HI0.out; omega), HM, hBm, HX0, hid (by simp), hid (by simp), hid (by rw [HV.out]; simp), HD, hb⟩
        case round =>
          clear hBm hb hkx
          obtain ⟨j, i', y, r, m', rfl, rfl, rfl, hj, HI', HM', hBm', HY, HXY, HR, HV', HD', hb'⟩ := hrel
          rcases Nat.lt_or_ge j 8 with hj8 | hj8
          · have hil : i' < m'.length := by rw [HM'.out]; have := HI'.out; omega
            have hil2 : i' < ws.length * 8 := by rw [← HM'.out]; exact hil
            have hcell := hBm'.at (i := i') hil
            have hfr := Blk.frozen hBm' i'
            generalize hold : m'.getD i' 0 = old at hcell
            clear hold
            have hcv := wrap_u8 y
            go_wp2_with fail
            go_roundw
            case rel =>
              refine ⟨j + 1, i' + 1, y / 256, r + 256 ^ j * (y % 256), m'.set i' (y % 256), by go_num, by go_num, by go_num, by omega, hid (by have := HI'.out; omega), hid (by rw [List.length_set]; exact HM'.out), ?_, hid (by have := HY.out; omega), hid (down_left HXY.out), hid (down_lt HR.out), hid (down_step hil HI'.out HV'.out), hid ?_, hb'.setCell (p := ⟨wz.heap.size, i', none⟩) (Nat.le_refl _) _⟩
              · have := BlkN.put hBm' i' (y % 256)
                simpa using this
              · intro d hd
                rcases List.mem_or_eq_of_mem_set hd with h' | h'
                · exact HD'.out d h'
                · omega
            case measure => simp [intOf]; omega
          · obtain rfl : j = 8 := by omega
            have hrx := hid (down_end HX0.out HXY.out)
            go_wp2_with fail
            go_roundw
            case rel =>
              refine ⟨k + 1, i', m', by go_num, rfl, by omega, hid (by have := HI'.out; omega), HM', hBm', hid ?_, HD', hb'⟩
              rw [HV'.out, hrx.out]
              exact word_step hlt HG.out rfl
            case measure => simp [intOf]; omega
      · obtain rfl : k = ws.length := by omega
        have HIL : Hid (i = m.length) := by refine hid ?_; rw [HI0.out, HM.out]; omega
        have HVm : Hid (val 256 m = n) := by
          refine hid ?_
          have := HV.out
          rw [HIL.out, List.take_length, List.take_length, HVAL.out] at this
          exact this
        clear HI0 HV
        go_wp2_with fail
        go_loop [9] (fun v => ∃ q : Nat, v = .int .i64 q ∧ q ≤ i ∧ Hid (∀ j, q ≤ j → j < m.length → m.getD j 0 = 0)) (fun v => (intOf v).toNat)
        case atStart => exact ⟨i, rfl, Nat.le_refl _, hid (fun j h1 h2 => by rw [HIL.out] at h1; omega)⟩
        case round =>
          obtain ⟨q, rfl, hq, hz⟩ := hrel
          have hil3 : i = ws.length * 8 := by rw [HIL.out, HM.out]
          have hcase : q = 0 ∨ (∃ k, q = k + 1 ∧ m.getD k 0 ≠ 0) ∨ (∃ k, q = k + 1 ∧ m.getD k 0 = 0) := by
            rcases Nat.eq_zero_or_pos q with h | h
            · exact .inl h
            · by_cases h' : m.getD (q - 1) 0 = 0
              · exact .inr (.inr ⟨q - 1, by omega, h'⟩)
              · exact .inr (.inl ⟨q - 1, by omega, h'⟩)
          rw [hil3] at hq
          clear hil3
          rcases hcase with rfl | ⟨k, rfl, hf⟩ | ⟨k, rfl, hf⟩
          · go_wp2_with fail
            go_ret
            have e : m.take 0 = dg 256 n := by rw [← trim_take (Nat.zero_le _) hz.out (fun h => absurd h (by omega)), trim_eq (b := 256) (by omega) HD.out, HVm.out]
            have hq' : 0 = (dg 256 n).length := by rw [← e, List.length_take]; omega
            have hr : Rt 5 .u8 wr (.slice (some ⟨wz.heap.size, 0, none⟩) 0 (ws.length * 8)) (dg 256 n) := by
              rw [← e]
              have := (BlkN.rt hBm (cap := ws.length * 8) (by rw [HM.out]; omega) (by omega)).take (m := 0) (Nat.zero_le _)
              exact this
            exact ⟨_, rfl, ⟨wz.heap.size, ws.length * 8, by first | (rw [← hq']; done) | (rw [← hq']; rfl) | (rw [← hq']; simp; done)⟩, hr, HBz.out.trans (hb.mono HBz.out.size)⟩
          · have hk := hBm.at (i := k) (by rw [HM.out]; omega)
            have hf' : (((m.getD k 0 : Nat) : Int) == 0) = false := by simp; simpa using hf
            generalize hg : m.getD k 0 = d at hk hf'
            have HF := hid hf
            have HG := hid hg
            clear hf hg
            go_wp2_with fail
            go_ret
            have e : m.take (k + 1) = dg 256 n := by rw [← trim_take (by rw [HM.out]; exact hq) hz.out (fun _ => HF.out), trim_eq (b := 256) (by omega) HD.out, HVm.out]
            have hq' : k + 1 = (dg 256 n).length := by rw [← e, List.length_take, HM.out]; omega
            have hr : Rt 5 .u8 wr (.slice (some ⟨wz.heap.size, 0, none⟩) (k + 1) (ws.length * 8)) (dg 256 n) := by
              rw [← e]
              have := (BlkN.rt hBm (cap := ws.length * 8) (by rw [HM.out]; omega) (by omega)).take (m := k + 1) (by rw [HM.out]; exact hq)
              exact this
            exact ⟨_, rfl, ⟨wz.heap.size, ws.length * 8, by first | (rw [← hq']; done) | (rw [← hq']; rfl) | (rw [← hq']; simp; done)⟩, hr, HBz.out.trans (hb.mono HBz.out.size)⟩
          · have hk := hBm.at (i := k) (by rw [HM.out]; omega)
            rw [hf] at hk
            have HF := hid hf
            clear hf
            go_wp2_with fail
            go_round
            case rel =>
              refine ⟨k, by go_num, by rw [HIL.out, HM.out]; omega, hid (fun j h1 h2 => ?_)⟩
              rcases Nat.eq_or_lt_of_le h1 with rfl | h3
              · exact HF.out
              · exact hz.out j h3 h2
            case measure => simp [intOf])
end Go.Proofs.YtocahcammjoffaaGreatDoor
namespace Go.Proofs.YtocahcammjoffaaGreatDoor
open Go.RowKit Go.Dig
set_option maxRecDepth 100000
set_option maxHeartbeats 1000000 in
/-- impl.Bytes of a Value of Kind Int. -/
theorem iBytes_any (t n1 n2 : Bool) (s : ByteArray) (v1 v2 v3 v4 : Value) (ws : List Nat) (w : World) (h : Rd .u64 w v1 ws) (hw : ∀ x ∈ ws, x < 18446744073709551616) (hlen : ws.length ≤ 1000) :
    Calls Tryz.prog 33 #[.agg #[.int .i64 3, .bool t, .string s, .bool n1, v1, v2, .bool n2, v3, v4]] w fun e w' => ∃ v, e = .returned v ∧ Rt 5 .u8 w' v (dg 256 (val 18446744073709551616 ws)) ∧ (v = .slice none 0 0 ∨ ∃ p c, v = .slice (some p) (dg 256 (val 18446744073709551616 ws)).length c) ∧ Below w.heap.size w w' := by
  have H := hid h
  have HW := hid hw
  have HN := hid hlen
  have Hb0 : Hid (Below w.heap.size w (w.alloc (.cells #[.int .i64 3, .bool t, .string s, .bool n1, v1, v2, .bool n2, v3, v4] 26))) := (Below.refl _ _).alloc (Nat.le_refl _) _
  have H0 := hid (H.out.below Hb0.out (Nat.le_refl _))
  clear h hw hlen
  go_enter Tryz.func33, Tryz.ntmps33
  go_wp2_with fail
  refine (whole_int t n1 n2 s v1 v2 v3 v4 ws _ H0.out HW.out (by have := HN.out; omega)).mono ?_
  rintro e w1 ⟨v, b, sg, rfl, hM, HS, hI, hb⟩
  have HM : Hid (Mk b (sgn sg (val 18446744073709551616 ws)) v) := by refine hid ?_; rw [HS.out, sgn_and]; exact hM
  have HI := hid hI
  have Hb1 := hid (below_next Hb0.out hb)
  have HLD : Hid ((dg 18446744073709551616 (val 18446744073709551616 ws)).length ≤ 1000) := hid (Nat.le_trans (dg_length_le (by omega) (val_lt (by omega) HW.out)) HN.out)
  clear hM hI hb
  go_wp2_with fail
  refine (bytes_any b sg _ v _ HM.out HI.out HLD.out).mono ?_
  rintro e w2 ⟨vb, rfl, ⟨g, c, rfl⟩, hr, hb⟩
  have HR := hid hr
  have Hb2 := hid (below_next Hb1.out hb)
  have HL8 : Hid ((dg 256 (val 18446744073709551616 ws)).length ≤ 8000) := by
    refine hid ?_
    have h1 := val_lt (b := 18446744073709551616) (by omega) HW.out
    have h2 : (18446744073709551616 : Nat) ^ ws.length = 256 ^ (8 * ws.length) := by rw [Nat.pow_mul]
    rw [h2] at h1
    have := dg_length_le (b := 256) (by omega) h1
    have := HN.out
    omega
  have hl9 : (dg 256 (val 18446744073709551616 ws)).length < 1000000000 := by have := HL8.out; omega
  clear hr hb
  generalize hbsd : dg 256 (val 18446744073709551616 ws) = bs at *
  have HBSD := hid hbsd
  clear hbsd
  go_wp2_with (at_builtin; refine appN rfl _ _ 49 5 rfl .u8 1 Tryz.underlying49 info5 (by decide) (.slice (some ⟨g, 0, none⟩) bs.length c) bs rfl rfl HR.out.rd hl9 ?_ (.inr ⟨_, _, rfl⟩); intro v' w3 hv' hb' hf')
  go_ret
  exact ⟨v', rfl, by rw [HBSD.out]; exact hv', by rw [HBSD.out]; exact hf', below_next Hb2.out hb'⟩
end Go.Proofs.YtocahcammjoffaaGreatDoor
