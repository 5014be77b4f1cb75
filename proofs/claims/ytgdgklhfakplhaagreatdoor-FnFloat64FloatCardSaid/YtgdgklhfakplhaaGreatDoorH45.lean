/- Walks and lemmas for the laws of this seat. -/
import Derived.Test.YtgdgklhfakplhaaGreatDoorH37
import Derived.Test.YtgdgklhfakplhaaGreatDoorH06
import Derived.Test.YtgdgklhfakplhaaGreatDoorH43
import Derived.Test.YtgdgklhfakplhaaGreatDoorH10
namespace Go.Proofs.YtgdgklhfakplhaaGreatDoor
open Go.RowKit Go.Dig
set_option maxRecDepth 100000
/-- Words that two blocks of values leave as they are. -/
structure Kp (O R : Nat) (w : World) (v : Value) (ds : List Nat) : Prop where
  rt : Rt 41 .u64 w v ds
  so : ∃ m, w.shape? O = some (26, m)
  sr : ∃ m, w.shape? R = some (26, m)
theorem Kp.o {O R : Nat} {w : World} {v : Value} {ds : List Nat} (h : Kp O R w v ds) (i : Nat) (u : Value) : Kp O R (w.setCell ⟨O, i, none⟩ u) v ds := by
  obtain ⟨m, hm⟩ := h.so
  exact ⟨h.rt.set (p := ⟨O, i, none⟩) u hm (by decide), by rw [shape_setCell]; exact h.so, by rw [shape_setCell]; exact h.sr⟩
theorem Kp.r {O R : Nat} {w : World} {v : Value} {ds : List Nat} (h : Kp O R w v ds) (i : Nat) (u : Value) : Kp O R (w.setCell ⟨R, i, none⟩ u) v ds := by
  obtain ⟨m, hm⟩ := h.sr
  exact ⟨h.rt.set (p := ⟨R, i, none⟩) u hm (by decide), by rw [shape_setCell]; exact h.so, by rw [shape_setCell]; exact h.sr⟩
set_option maxHeartbeats 2000000 in
theorem told_64 (x : Int) (w : World) (h0 : -9223372036854775808 ≤ x) (h1 : x ≤ 9223372036854775807) : Calls Tryz.prog 21 #[.iface 70 (.int .i64 x)] w fun e w' => ∃ t v, e = .returned (.agg #[.int .i64 3, .bool false, .string (ByteArray.mk #[]), .bool t, v, .slice none 0 0, .bool false, .slice none 0 0, .slice none 0 0]) ∧ Hid (t = decide (x < 0)) ∧ Rt 41 .u64 w' v (dg 18446744073709551616 x.natAbs) ∧ Below w.heap.size w w' := by
  have HR : Hid (Blk ((w.alloc (.cells #[.int .i64 0, .bool false, .string (ByteArray.mk #[]), .bool false, .slice none 0 0, .slice none 0 0, .bool false, .slice none 0 0, .slice none 0 0] 26)).alloc (.cells #[.int .i64 3, .bool false, .string (ByteArray.mk #[]), .bool false, .slice none 0 0, .slice none 0 0, .bool false, .slice none 0 0, .slice none 0 0] 26)) w.heap.size #[.int .i64 0, .bool false, .string (ByteArray.mk #[]), .bool false, .slice none 0 0, .slice none 0 0, .bool false, .slice none 0 0, .slice none 0 0] 26) := (blk_new w _ 26).alloc _
  have HO : Hid (Blk ((w.alloc (.cells #[.int .i64 0, .bool false, .string (ByteArray.mk #[]), .bool false, .slice none 0 0, .slice none 0 0, .bool false, .slice none 0 0, .slice none 0 0] 26)).alloc (.cells #[.int .i64 3, .bool false, .string (ByteArray.mk #[]), .bool false, .slice none 0 0, .slice none 0 0, .bool false, .slice none 0 0, .slice none 0 0] 26)) (w.heap.size + 1) #[.int .i64 3, .bool false, .string (ByteArray.mk #[]), .bool false, .slice none 0 0, .slice none 0 0, .bool false, .slice none 0 0, .slice none 0 0] 26) := by
    have := blk_new (w.alloc (.cells #[.int .i64 0, .bool false, .string (ByteArray.mk #[]), .bool false, .slice none 0 0, .slice none 0 0, .bool false, .slice none 0 0, .slice none 0 0] 26)) #[.int .i64 3, .bool false, .string (ByteArray.mk #[]), .bool false, .slice none 0 0, .slice none 0 0, .bool false, .slice none 0 0, .slice none 0 0] 26
    refine hid ?_
    simpa using this
  have Hb0 : Hid (Below w.heap.size w ((w.alloc (.cells #[.int .i64 0, .bool false, .string (ByteArray.mk #[]), .bool false, .slice none 0 0, .slice none 0 0, .bool false, .slice none 0 0, .slice none 0 0] 26)).alloc (.cells #[.int .i64 3, .bool false, .string (ByteArray.mk #[]), .bool false, .slice none 0 0, .slice none 0 0, .bool false, .slice none 0 0, .slice none 0 0] 26))) := ((Below.refl _ _).alloc (Nat.le_refl _) _).alloc (by simp) _
  go_enter Tryz.func21, Tryz.ntmps21
  go_wp2_with (first | (go_at_call 259; refine (kind_i64 _ _).mono ?_; rintro e w' ⟨rfl, rfl⟩))
  generalize ((w.alloc (.cells #[.int .i64 0, .bool false, .string (ByteArray.mk #[]), .bool false, .slice none 0 0, .slice none 0 0, .bool false, .slice none 0 0, .slice none 0 0] 26)).alloc (.cells #[.int .i64 3, .bool false, .string (ByteArray.mk #[]), .bool false, .slice none 0 0, .slice none 0 0, .bool false, .slice none 0 0, .slice none 0 0] 26)) = w0 at *
  refine (parts_64 x _ h0 h1).mono ?_
  rintro e w1 ⟨t, v, u, rfl, HT, hv, hb⟩
  obtain ⟨a, c, rfl⟩ := hv.shape
  have HV : Hid (Kp (w.heap.size + 1) w.heap.size w1 _ _) := ⟨hv, ⟨_, (HO.out.below hb HO.out.lt).shape⟩, ⟨_, (HR.out.below hb HR.out.lt).shape⟩⟩
  have HB := hid (below_next Hb0.out hb)
  have HR1 := hid (HR.out.below hb HR.out.lt)
  have HO1 := hid (HO.out.below hb HO.out.lt)
  clear hv hb
  obtain ⟨c0, c1, c2, c3, c4, c5, c6, c7, c8, f0, f1, f2, f3, f4, f5, f6, f7, f8⟩ := HO1.out.nine
  obtain ⟨r0, r1, r2, r3, r4, r5, r6, r7, r8, g0, g1, g2, g3, g4, g5, g6, g7, g8⟩ := HR1.out.nine
  go_wp2_with fail
  refine bodyPost_ret (v := .agg #[.int .i64 3, .bool false, .string (ByteArray.mk #[]), .bool t, .slice a (dg 18446744073709551616 x.natAbs).length c, .slice none 0 0, .bool false, .slice none 0 0, .slice none 0 0]) (by simp [results, Tryz.results21, go_sem, r0, r1, r2, r3, r4, r5, r6, r7, r8]) rfl ⟨_, _, rfl, HT, ?_, ?_⟩
  · exact (((((((((((HV.out.o 3 _).o 4 _).r 0 _).r 1 _).r 2 _).r 3 _).r 4 _).r 5 _).r 6 _).r 7 _).r 8 _).rt
  · exact below_set9 ((HB.out.setCell (p := ⟨w.heap.size + 1, 3, none⟩) (Nat.le_succ _) _).setCell (p := ⟨w.heap.size + 1, 4, none⟩) (Nat.le_succ _) _) (Nat.le_refl _) _ _ _ _ _ _ _ _ _
end Go.Proofs.YtgdgklhfakplhaaGreatDoor
namespace Go.Proofs.YtgdgklhfakplhaaGreatDoor
open Go.RowKit Go.Dig
set_option maxRecDepth 100000
set_option maxHeartbeats 2000000 in
theorem told_rat (b P D : Nat) (s : Bool) (vP vD : Value) (w : World) (hB : Blk w b #[.bool s, vP, .bool false, vD] 133) (hP : Nw w vP P) (hD : Nw w vD D) (hlP : (dg 18446744073709551616 P).length ≤ 900) (hlD : (dg 18446744073709551616 D).length ≤ 900) (hD0 : 0 < D) :
    Calls Tryz.prog 21 #[.iface 83 (.agg #[.pointer (some ⟨b, 0, none⟩)])] w fun e w' => ∃ t v u, e = .returned (.agg #[.int .i64 4, .bool false, .string (ByteArray.mk #[]), .bool t, v, u, .bool false, .slice none 0 0, .slice none 0 0]) ∧ Hid (t = decide (sgn s P < 0)) ∧ Rt 41 .u64 w' v (dg 18446744073709551616 P) ∧ Rt 41 .u64 w' u (dg 18446744073709551616 D) ∧ Below w.heap.size w w' := by
  have HB := hid hB
  have HP := hid hP
  have HD := hid hD
  have HL := hid (And.intro hlP (And.intro hlD hD0))
  clear hB hP hD hlP hlD hD0
  have HR : Hid (Blk (w.alloc (.cells #[.int .i64 0, .bool false, .string (ByteArray.mk #[]), .bool false, .slice none 0 0, .slice none 0 0, .bool false, .slice none 0 0, .slice none 0 0] 26)) w.heap.size #[.int .i64 0, .bool false, .string (ByteArray.mk #[]), .bool false, .slice none 0 0, .slice none 0 0, .bool false, .slice none 0 0, .slice none 0 0] 26) := blk_new w _ 26
  have Hb0 : Hid (Below w.heap.size w (w.alloc (.cells #[.int .i64 0, .bool false, .string (ByteArray.mk #[]), .bool false, .slice none 0 0, .slice none 0 0, .bool false, .slice none 0 0, .slice none 0 0] 26))) := (Below.refl _ _).alloc (Nat.le_refl _) _
  go_enter Tryz.func21, Tryz.ntmps21
  go_wp2_with fail
  generalize (w.alloc (.cells #[.int .i64 0, .bool false, .string (ByteArray.mk #[]), .bool false, .slice none 0 0, .slice none 0 0, .bool false, .slice none 0 0, .slice none 0 0] 26)) = w0 at *
  refine (kind_rat _ _).mono ?_
  rintro e w1 ⟨rfl, hb⟩
  have HR1 := hid (HR.out.below hb HR.out.lt)
  have HE1 := hid (below_next Hb0.out hb)
  clear hb HR Hb0
  go_wp2_with fail
  have HO : Hid (Blk (w1.alloc (.cells #[.int .i64 4, .bool false, .string (ByteArray.mk #[]), .bool false, .slice none 0 0, .slice none 0 0, .bool false, .slice none 0 0, .slice none 0 0] 26)) w1.heap.size #[.int .i64 4, .bool false, .string (ByteArray.mk #[]), .bool false, .slice none 0 0, .slice none 0 0, .bool false, .slice none 0 0, .slice none 0 0] 26) := blk_new w1 _ 26
  have HE0 : Hid (Below w1.heap.size w1 (w1.alloc (.cells #[.int .i64 4, .bool false, .string (ByteArray.mk #[]), .bool false, .slice none 0 0, .slice none 0 0, .bool false, .slice none 0 0, .slice none 0 0] 26))) := (Below.refl _ _).alloc (Nat.le_refl _) _
  have HR2 := hid (HR1.out.below HE0.out HR1.out.lt)
  have HE2 := hid (below_next HE1.out HE0.out)
  have hlO : Hid (w.heap.size < w1.heap.size) := hid HR1.out.lt
  clear HR1 HE1 HE0
  generalize (w1.alloc (.cells #[.int .i64 4, .bool false, .string (ByteArray.mk #[]), .bool false, .slice none 0 0, .slice none 0 0, .bool false, .slice none 0 0, .slice none 0 0] 26)) = w2 at *
  generalize w1.heap.size = O at *
  refine (kind_rat _ _).mono ?_
  rintro e w3 ⟨rfl, hb⟩
  have HR3 := hid (HR2.out.below hb HR2.out.lt)
  have HO3 := hid (HO.out.below hb HO.out.lt)
  have HE3 := hid (below_next HE2.out hb)
  have HB3 := hid (HB.out.below HE3.out HB.out.lt)
  have HP3 := hid (HP.out.below HE3.out (Nat.le_refl _))
  have HD3 := hid (HD.out.below HE3.out (Nat.le_refl _))
  clear hb HR2 HO HE2 HB HP HD
  go_wp2_with fail
  refine (parts_rat b P D s vP vD w3 HB3.out HP3.out HD3.out HL.out.1 HL.out.2.1 HL.out.2.2).mono ?_
  rintro e w4 ⟨t, v, u, rfl, HT, hv, hu, hb⟩
  obtain ⟨a, c, rfl⟩ := hv.shape
  obtain ⟨a', c', rfl⟩ := hu.shape
  have HV : Hid (Kp O w.heap.size w4 _ _) := ⟨hv, ⟨_, (HO3.out.below hb HO3.out.lt).shape⟩, ⟨_, (HR3.out.below hb HR3.out.lt).shape⟩⟩
  have HU : Hid (Kp O w.heap.size w4 _ _) := ⟨hu, ⟨_, (HO3.out.below hb HO3.out.lt).shape⟩, ⟨_, (HR3.out.below hb HR3.out.lt).shape⟩⟩
  have HE4 := hid (below_next HE3.out hb)
  have HR4 := hid (HR3.out.below hb HR3.out.lt)
  have HO4 := hid (HO3.out.below hb HO3.out.lt)
  clear hv hu hb HR3 HO3 HE3 HB3 HP3 HD3
  have hn1 : O ≠ w.heap.size := by have := hlO.out; omega
  have hn2 : w.heap.size ≠ O := by have := hlO.out; omega
  obtain ⟨c0, c1, c2, c3, c4, c5, c6, c7, c8, f0, f1, f2, f3, f4, f5, f6, f7, f8⟩ := HO4.out.nine
  obtain ⟨r0, r1, r2, r3, r4, r5, r6, r7, r8, g0, g1, g2, g3, g4, g5, g6, g7, g8⟩ := HR4.out.nine
  go_wp2_with fail
  refine bodyPost_ret (v := .agg #[.int .i64 4, .bool false, .string (ByteArray.mk #[]), .bool t, .slice a (dg 18446744073709551616 P).length c, .slice a' (dg 18446744073709551616 D).length c', .bool false, .slice none 0 0, .slice none 0 0]) (by simp [results, Tryz.results21, go_sem, r0, r1, r2, r3, r4, r5, r6, r7, r8]) rfl ⟨_, _, _, rfl, HT, ?_, ?_, ?_⟩
  · exact ((((((((((((HV.out.o 3 _).o 4 _).o 5 _).r 0 _).r 1 _).r 2 _).r 3 _).r 4 _).r 5 _).r 6 _).r 7 _).r 8 _).rt
  · exact ((((((((((((HU.out.o 3 _).o 4 _).o 5 _).r 0 _).r 1 _).r 2 _).r 3 _).r 4 _).r 5 _).r 6 _).r 7 _).r 8 _).rt
  · exact below_set9 (((HE4.out.setCell (p := ⟨O, 3, none⟩) (Nat.le_of_lt hlO.out) _).setCell (p := ⟨O, 4, none⟩) (Nat.le_of_lt hlO.out) _).setCell (p := ⟨O, 5, none⟩) (Nat.le_of_lt hlO.out) _) (Nat.le_refl _) _ _ _ _ _ _ _ _ _
set_option maxHeartbeats 1000000 in
theorem told_unk (w : World) : Calls Tryz.prog 21 #[.iface 88 (.agg #[])] w fun e w' => e = .returned (.agg #[.int .i64 0, .bool false, .string (ByteArray.mk #[]), .bool false, .slice none 0 0, .slice none 0 0, .bool false, .slice none 0 0, .slice none 0 0]) ∧ Below w.heap.size w w' := by
  have HR : Hid (Blk (w.alloc (.cells #[.int .i64 0, .bool false, .string (ByteArray.mk #[]), .bool false, .slice none 0 0, .slice none 0 0, .bool false, .slice none 0 0, .slice none 0 0] 26)) w.heap.size #[.int .i64 0, .bool false, .string (ByteArray.mk #[]), .bool false, .slice none 0 0, .slice none 0 0, .bool false, .slice none 0 0, .slice none 0 0] 26) := blk_new w _ 26
  have Hb0 : Hid (Below w.heap.size w (w.alloc (.cells #[.int .i64 0, .bool false, .string (ByteArray.mk #[]), .bool false, .slice none 0 0, .slice none 0 0, .bool false, .slice none 0 0, .slice none 0 0] 26))) := (Below.refl _ _).alloc (Nat.le_refl _) _
  go_enter Tryz.func21, Tryz.ntmps21
  go_wp2_with fail
  generalize (w.alloc (.cells #[.int .i64 0, .bool false, .string (ByteArray.mk #[]), .bool false, .slice none 0 0, .slice none 0 0, .bool false, .slice none 0 0, .slice none 0 0] 26)) = w0 at *
  refine (kind_unk _).mono ?_
  rintro e w1 ⟨rfl, hb⟩
  have HR1 := hid (HR.out.below hb HR.out.lt)
  have HE1 := hid (below_next Hb0.out hb)
  clear hb HR Hb0
  go_wp2_with fail
  have HO : Hid (Blk (w1.alloc (.cells #[.int .i64 0, .bool false, .string (ByteArray.mk #[]), .bool false, .slice none 0 0, .slice none 0 0, .bool false, .slice none 0 0, .slice none 0 0] 26)) w1.heap.size #[.int .i64 0, .bool false, .string (ByteArray.mk #[]), .bool false, .slice none 0 0, .slice none 0 0, .bool false, .slice none 0 0, .slice none 0 0] 26) := blk_new w1 _ 26
  have HE0 : Hid (Below w1.heap.size w1 (w1.alloc (.cells #[.int .i64 0, .bool false, .string (ByteArray.mk #[]), .bool false, .slice none 0 0, .slice none 0 0, .bool false, .slice none 0 0, .slice none 0 0] 26))) := (Below.refl _ _).alloc (Nat.le_refl _) _
  have HR2 := hid (HR1.out.below HE0.out HR1.out.lt)
  have HE2 := hid (below_next HE1.out HE0.out)
  have hlO : Hid (w.heap.size < w1.heap.size) := hid HR1.out.lt
  clear HR1 HE1 HE0
  generalize (w1.alloc (.cells #[.int .i64 0, .bool false, .string (ByteArray.mk #[]), .bool false, .slice none 0 0, .slice none 0 0, .bool false, .slice none 0 0, .slice none 0 0] 26)) = w2 at *
  generalize w1.heap.size = O at *
  refine (kind_unk _).mono ?_
  rintro e w3 ⟨rfl, hb⟩
  have HR3 := hid (HR2.out.below hb HR2.out.lt)
  have HO3 := hid (HO.out.below hb HO.out.lt)
  have HE3 := hid (below_next HE2.out hb)
  clear hb HR2 HO HE2
  have hn1 : O ≠ w.heap.size := by have := hlO.out; omega
  have hn2 : w.heap.size ≠ O := by have := hlO.out; omega
  obtain ⟨c0, c1, c2, c3, c4, c5, c6, c7, c8, f0, f1, f2, f3, f4, f5, f6, f7, f8⟩ := HO3.out.nine
  obtain ⟨r0, r1, r2, r3, r4, r5, r6, r7, r8, g0, g1, g2, g3, g4, g5, g6, g7, g8⟩ := HR3.out.nine
  go_wp2_with fail
  refine bodyPost_ret (v := .agg #[.int .i64 0, .bool false, .string (ByteArray.mk #[]), .bool false, .slice none 0 0, .slice none 0 0, .bool false, .slice none 0 0, .slice none 0 0]) (by simp [results, Tryz.results21, go_sem, r0, r1, r2, r3, r4, r5, r6, r7, r8]) rfl ⟨rfl, ?_⟩
  exact below_set9 HE3.out (Nat.le_refl _) _ _ _ _ _ _ _ _ _
end Go.Proofs.YtgdgklhfakplhaaGreatDoor

namespace Go.Proofs.YtgdgklhfakplhaaGreatDoor
open Go.RowKit Go.Dig
set_option maxRecDepth 100000
set_option maxHeartbeats 1000000 in
theorem rational_told (n1 : Bool) (v1 v2 : Value) (m d : Nat) (hn : n1 = (n1 && decide (m ≠ 0))) (hd : d ≠ 0) (hg : Nat.gcd m d = 1) (w : World) (h1 : Rd .u64 w v1 (dg 18446744073709551616 m)) (h2 : Rd .u64 w v2 (dg 18446744073709551616 d)) (hl1 : (dg 18446744073709551616 m).length ≤ 1000) (hl2 : (dg 18446744073709551616 d).length ≤ 1000) :
    Calls Tryz.prog 13 #[.agg #[.int .i64 4, .bool false, .string (ByteArray.mk #[]), .bool n1, v1, v2, .bool false, .slice none 0 0, .slice none 0 0]] w fun e w' => ∃ u1 u2, e = .returned (.tuple #[.agg #[.bool n1, u1, u2], .bool true]) ∧ Nt w' u1 m ∧ Nt w' u2 d ∧ Below w.heap.size w w' := by
  obtain ⟨a1, c1, rfl⟩ := h1.shape
  obtain ⟨a2, c2, rfl⟩ := h2.shape
  have HF := fun W h1 h2 => fraction_told n1 (.slice a1 (dg 18446744073709551616 m).length c1) (.slice a2 (dg 18446744073709551616 d).length c2) m d hn hd hg W h1 h2 hl1 hl2
  generalize (dg 18446744073709551616 m).length = l1 at *
  generalize (dg 18446744073709551616 d).length = l2 at *
  have HK := hid ((blk_new w #[.int .i64 4, .bool false, .string (ByteArray.mk #[]), .bool n1, .slice a1 l1 c1, .slice a2 l2 c2, .bool false, .slice none 0 0, .slice none 0 0] 26).alloc (.cells #[.bool false, .slice none 0 0, .slice none 0 0] 31))
  have HR : Hid (Blk ((w.alloc (.cells #[.int .i64 4, .bool false, .string (ByteArray.mk #[]), .bool n1, .slice a1 l1 c1, .slice a2 l2 c2, .bool false, .slice none 0 0, .slice none 0 0] 26)).alloc (.cells #[.bool false, .slice none 0 0, .slice none 0 0] 31)) (w.heap.size + 1) #[.bool false, .slice none 0 0, .slice none 0 0] 31) := by
    have := blk_new (w.alloc (.cells #[.int .i64 4, .bool false, .string (ByteArray.mk #[]), .bool n1, .slice a1 l1 c1, .slice a2 l2 c2, .bool false, .slice none 0 0, .slice none 0 0] 26)) #[.bool false, .slice none 0 0, .slice none 0 0] 31
    refine hid ?_
    simpa using this
  have HB : Hid (Below w.heap.size w ((w.alloc (.cells #[.int .i64 4, .bool false, .string (ByteArray.mk #[]), .bool n1, .slice a1 l1 c1, .slice a2 l2 c2, .bool false, .slice none 0 0, .slice none 0 0] 26)).alloc (.cells #[.bool false, .slice none 0 0, .slice none 0 0] 31))) := ((Below.refl _ _).alloc (Nat.le_refl _) _).alloc (by simp) _
  have H1 := hid (h1.below HB.out (Nat.le_refl _))
  have H2 := hid (h2.below HB.out (Nat.le_refl _))
  clear h1 h2 hn hd hg hl1 hl2
  obtain ⟨b0, b1, b2, b3, b4, b5, b6, b7, b8, f0, f1, f2, f3, f4, f5, f6, f7, f8⟩ := HK.out.nine
  go_enter Tryz.func13, Tryz.ntmps13
  go_wp2_with fail
  generalize ((w.alloc (.cells #[.int .i64 4, .bool false, .string (ByteArray.mk #[]), .bool n1, .slice a1 l1 c1, .slice a2 l2 c2, .bool false, .slice none 0 0, .slice none 0 0] 26)).alloc (.cells #[.bool false, .slice none 0 0, .slice none 0 0] 31)) = w0 at *
  refine (rest_told 4 n1 _ _ _ _ _ _ _ _ _ _ _).mono ?_
  rintro e w1 ⟨rfl, hb⟩
  have HK1 := hid (HK.out.below hb HK.out.lt)
  have HR1 := hid (HR.out.below hb HR.out.lt)
  have HB1 := hid (below_next HB.out hb)
  have H11 := hid (H1.out.below hb (Nat.le_refl _))
  have H21 := hid (H2.out.below hb (Nat.le_refl _))
  clear b0 b1 b2 b3 b4 b5 b6 b7 b8 f0 f1 f2 f3 f4 f5 f6 f7 f8 HK HR HB H1 H2 hb
  obtain ⟨b0, b1, b2, b3, b4, b5, b6, b7, b8, f0, f1, f2, f3, f4, f5, f6, f7, f8⟩ := HK1.out.nine
  go_wp2_with fail
  refine (HF w1 H11.out H21.out).mono ?_
  rintro e w2 ⟨u1, u2, rfl, h1, h2, hb⟩
  have HU1 := hid h1
  have HU2 := hid h2
  have HR2 := hid (HR1.out.below hb HR1.out.lt)
  have HB2 := hid (below_next HB1.out hb)
  obtain ⟨p1, k1, rfl⟩ := h1.shape
  obtain ⟨p2, k2, rfl⟩ := h2.shape
  clear b0 b1 b2 b3 b4 b5 b6 b7 b8 f0 f1 f2 f3 f4 f5 f6 f7 f8 HK1 HR1 HB1 H11 H21 hb h1 h2
  obtain ⟨r0, r1, r2, g0, g1, g2⟩ := HR2.out.three
  go_wp2_with fail
  have HRF : Hid (Blk (((w2.setCell ⟨w.heap.size + 1, 0, none⟩ (.bool n1)).setCell ⟨w.heap.size + 1, 1, none⟩ (.slice p1 (dg 65536 m).length k1)).setCell ⟨w.heap.size + 1, 2, none⟩ (.slice p2 (dg 65536 d).length k2)) (w.heap.size + 1) #[.bool n1, .slice p1 (dg 65536 m).length k1, .slice p2 (dg 65536 d).length k2] 31) := by
    have := ((HR2.out.set 0 (.bool n1)).set 1 (.slice p1 (dg 65536 m).length k1)).set 2 (.slice p2 (dg 65536 d).length k2)
    refine hid ?_
    simpa using this
  clear r0 r1 r2 g0 g1 g2
  obtain ⟨r0, r1, r2, g0, g1, g2⟩ := HRF.out.three
  refine bodyPost_ret (v := .tuple #[.agg #[.bool n1, .slice p1 (dg 65536 m).length k1, .slice p2 (dg 65536 d).length k2], .bool true]) (by simp [results, Tryz.results13, go_sem, r0, r1, r2]) rfl ⟨_, _, rfl, ?_, ?_, ?_⟩
  · exact HU1.out.set3 HR2.out (by decide) _ _ _
  · exact HU2.out.set3 HR2.out (by decide) _ _ _
  · exact ((HB2.out.setCell (p := ⟨w.heap.size + 1, 0, none⟩) (Nat.le_succ _) _).setCell (p := ⟨w.heap.size + 1, 1, none⟩) (Nat.le_succ _) _).setCell (p := ⟨w.heap.size + 1, 2, none⟩) (Nat.le_succ _) _
end Go.Proofs.YtgdgklhfakplhaaGreatDoor
namespace Go.Proofs.YtgdgklhfakplhaaGreatDoor
open Go.RowKit Go.Dig
set_option maxRecDepth 100000
theorem rat_len {w : World} {b x P D : Nat} {vP vD : Value} (h : RatOf w b x P D vP vD) : (dg 18446744073709551616 P).length ≤ 900 ∧ (dg 18446744073709551616 D).length ≤ 900 ∧ 0 < D := by
  have hb := ofE_bd x
  have hB : 0 < 2 ^ (-ofE x).toNat := Nat.two_pow_pos _
  refine ⟨?_, ?_, ?_⟩
  · have h1 : P ≤ ofM x * 2 ^ (ofE x).toNat := by rw [h.hP]; exact Nat.div_le_self _ _
    exact Nat.le_trans (dg_length_mono (by omega) h1) (pow_len' _ (ofM_lt x) (by omega))
  · have h1 : D ≤ 2 ^ (-ofE x).toNat := by rw [h.hD]; exact Nat.div_le_self _ _
    exact Nat.le_trans (dg_length_mono (by omega) h1) (pow_len _ (by omega))
  · rw [h.hD]
    exact Nat.div_pos (Nat.le_of_dvd hB (Nat.gcd_dvd_right _ _)) (Nat.gcd_pos_of_pos_right _ hB)
set_option maxHeartbeats 1000000 in
theorem fromFloat_fin (x : Nat) (hx : x < 18446744073709551616) (hf : x % 9223372036854775808 < 9218868437227405312) (w : World) :
    Calls Tryz.prog 11 #[.int .u64 x] w fun e w' => ∃ P D v u, e = .returned (.agg #[.int .i64 4, .bool false, .string (ByteArray.mk #[]), .bool (decide (9223372036854775808 ≤ x) && decide (P ≠ 0)), v, u, .bool false, .slice none 0 0, .slice none 0 0]) ∧
      Hid (P = ofM x * 2 ^ (ofE x).toNat / Nat.gcd (ofM x * 2 ^ (ofE x).toNat) (2 ^ (-ofE x).toNat) ∧ D = 2 ^ (-ofE x).toNat / Nat.gcd (ofM x * 2 ^ (ofE x).toNat) (2 ^ (-ofE x).toNat) ∧ Nat.gcd P D = 1 ∧ (dg 18446744073709551616 P).length ≤ 900 ∧ (dg 18446744073709551616 D).length ≤ 900 ∧ 0 < D) ∧ Rd .u64 w' v (dg 18446744073709551616 P) ∧ Rd .u64 w' u (dg 18446744073709551616 D) ∧ Below w.heap.size w w' := by
  have hfb := fun w => f64from_any (x : Int) w
  simp only [Int.toNat_natCast] at hfb
  have HR0 : Hid (Blk (w.alloc (.cells #[.int .i64 0, .bool false, .string (ByteArray.mk #[]), .bool false, .slice none 0 0, .slice none 0 0, .bool false, .slice none 0 0, .slice none 0 0] 26)) w.heap.size #[.int .i64 0, .bool false, .string (ByteArray.mk #[]), .bool false, .slice none 0 0, .slice none 0 0, .bool false, .slice none 0 0, .slice none 0 0] 26) := blk_new w _ 26
  have Hb0 : Hid (Below w.heap.size w (w.alloc (.cells #[.int .i64 0, .bool false, .string (ByteArray.mk #[]), .bool false, .slice none 0 0, .slice none 0 0, .bool false, .slice none 0 0, .slice none 0 0] 26))) := (Below.refl _ _).alloc (Nat.le_refl _) _
  go_enter Tryz.func11, Tryz.ntmps11
  go_wp2_with fail
  generalize w.alloc (.cells #[.int .i64 0, .bool false, .string (ByteArray.mk #[]), .bool false, .slice none 0 0, .slice none 0 0, .bool false, .slice none 0 0, .slice none 0 0] 26) = w0 at *
  refine (makeFloat_fin x hx hf w0).mono ?_
  rintro e w1 ⟨b, P, D, vP, vD, rfl, hR, hb⟩
  have HR := hid hR
  have HB := hid (below_next Hb0.out hb)
  have HR1 := hid (HR0.out.below hb HR0.out.lt)
  clear hR hb HR0 Hb0
  go_wp2_with fail
  obtain ⟨l1, l2, l3⟩ := rat_len HR.out
  refine (told_rat b P D _ vP vD w1 HR.out.blk HR.out.nP HR.out.nD l1 l2 l3).mono ?_
  rintro e w2 ⟨t, v, u, rfl, ht, hv, hu, hb⟩
  obtain ⟨a, c, rfl⟩ := hv.shape
  obtain ⟨a', c', rfl⟩ := hu.shape
  have HR2 := hid (HR1.out.below hb HR1.out.lt)
  have HV : Hid (Kp w.heap.size w.heap.size w2 _ _) := ⟨hv, ⟨_, HR2.out.shape⟩, ⟨_, HR2.out.shape⟩⟩
  have HU : Hid (Kp w.heap.size w.heap.size w2 _ _) := ⟨hu, ⟨_, HR2.out.shape⟩, ⟨_, HR2.out.shape⟩⟩
  have HE := hid (below_next HB.out hb)
  have hts : t = (decide (9223372036854775808 ≤ x) && decide (P ≠ 0)) := by
    rw [ht.out]
    by_cases h1 : 9223372036854775808 ≤ x <;> by_cases h2 : P = 0 <;> simp [sgn, h1, h2]
    omega
  have HF := hid (And.intro HR.out.hP (And.intro HR.out.hD (And.intro HR.out.hg (And.intro l1 (And.intro l2 l3)))))
  clear hv hu hb HR HB ht l1 l2 l3 HR1
  subst hts
  obtain ⟨sg, hsg⟩ : ∃ sg, sg = (decide (9223372036854775808 ≤ x) && decide (P ≠ 0)) := ⟨_, rfl⟩
  rw [← hsg]
  have HSG := hid hsg
  clear hsg
  obtain ⟨r0, r1, r2, r3, r4, r5, r6, r7, r8, g0, g1, g2, g3, g4, g5, g6, g7, g8⟩ := HR2.out.nine
  go_wp2_with fail
  refine bodyPost_ret (v := .agg #[.int .i64 4, .bool false, .string (ByteArray.mk #[]), .bool sg, .slice a (dg 18446744073709551616 P).length c, .slice a' (dg 18446744073709551616 D).length c', .bool false, .slice none 0 0, .slice none 0 0]) (by simp [results, Tryz.results11, go_sem, r0, r1, r2, r3, r4, r5, r6, r7, r8]) rfl ⟨P, D, _, _, by rw [HSG.out], HF, ?_, ?_, ?_⟩
  · exact (((((((((HV.out.r 0 _).r 1 _).r 2 _).r 3 _).r 4 _).r 5 _).r 6 _).r 7 _).r 8 _).rt.rd
  · exact (((((((((HU.out.r 0 _).r 1 _).r 2 _).r 3 _).r 4 _).r 5 _).r 6 _).r 7 _).r 8 _).rt.rd
  · exact below_set9 HE.out (Nat.le_refl _) _ _ _ _ _ _ _ _ _
set_option maxHeartbeats 1000000 in
theorem fromFloat_not (x : Nat) (hx : x < 18446744073709551616) (hf : 9218868437227405312 ≤ x % 9223372036854775808) (w : World) :
    Calls Tryz.prog 11 #[.int .u64 x] w fun e w' => e = .returned (.agg #[.int .i64 0, .bool false, .string (ByteArray.mk #[]), .bool false, .slice none 0 0, .slice none 0 0, .bool false, .slice none 0 0, .slice none 0 0]) ∧ Below w.heap.size w w' := by
  have hfb := fun w => f64from_any (x : Int) w
  simp only [Int.toNat_natCast] at hfb
  have HR0 : Hid (Blk (w.alloc (.cells #[.int .i64 0, .bool false, .string (ByteArray.mk #[]), .bool false, .slice none 0 0, .slice none 0 0, .bool false, .slice none 0 0, .slice none 0 0] 26)) w.heap.size #[.int .i64 0, .bool false, .string (ByteArray.mk #[]), .bool false, .slice none 0 0, .slice none 0 0, .bool false, .slice none 0 0, .slice none 0 0] 26) := blk_new w _ 26
  have Hb0 : Hid (Below w.heap.size w (w.alloc (.cells #[.int .i64 0, .bool false, .string (ByteArray.mk #[]), .bool false, .slice none 0 0, .slice none 0 0, .bool false, .slice none 0 0, .slice none 0 0] 26))) := (Below.refl _ _).alloc (Nat.le_refl _) _
  go_enter Tryz.func11, Tryz.ntmps11
  go_wp2_with fail
  generalize w.alloc (.cells #[.int .i64 0, .bool false, .string (ByteArray.mk #[]), .bool false, .slice none 0 0, .slice none 0 0, .bool false, .slice none 0 0, .slice none 0 0] 26) = w0 at *
  refine (makeFloat_not x hx hf w0).mono ?_
  rintro e w1 ⟨rfl, rfl⟩
  go_wp2_with fail
  refine (told_unk _).mono ?_
  rintro e w2 ⟨rfl, hb⟩
  have HB := hid (below_next Hb0.out hb)
  have HR2 := hid (HR0.out.below hb HR0.out.lt)
  clear hb HR0 Hb0
  obtain ⟨r0, r1, r2, r3, r4, r5, r6, r7, r8, g0, g1, g2, g3, g4, g5, g6, g7, g8⟩ := HR2.out.nine
  go_wp2_with fail
  refine bodyPost_ret (v := .agg #[.int .i64 0, .bool false, .string (ByteArray.mk #[]), .bool false, .slice none 0 0, .slice none 0 0, .bool false, .slice none 0 0, .slice none 0 0]) (by simp [results, Tryz.results11, go_sem, r0, r1, r2, r3, r4, r5, r6, r7, r8]) rfl ⟨rfl, ?_⟩
  exact below_set9 HB.out (Nat.le_refl _) _ _ _ _ _ _ _ _ _
end Go.Proofs.YtgdgklhfakplhaaGreatDoor
