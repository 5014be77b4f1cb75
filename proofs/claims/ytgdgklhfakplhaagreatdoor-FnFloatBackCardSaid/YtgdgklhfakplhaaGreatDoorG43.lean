/- Walks and lemmas for the laws of this seat. -/
import Derived.Test.YtgdgklhfakplhaaGreatDoorG33
import Derived.Test.YtgdgklhfakplhaaGreatDoorG35
import Derived.Test.YtgdgklhfakplhaaGreatDoorG12
import Derived.Test.YtgdgklhfakplhaaGreatDoorG41
import Derived.Test.YtgdgklhfakplhaaGreatDoorG10
import Derived.BigRegion
namespace Go.Rnd
open Go.Dig
/-- A fraction that is m times 2^E: how it reads in smaller units. -/
theorem exact_at {P D g m : Nat} {E : Int} (hD : 0 < D) (hg : 0 < g) (hP : P * g = m * 2 ^ E.toNat) (hDg : D * g = 2 ^ (-E).toNat) {e : Int} (he : e ≤ E) : uq P D e = m * 2 ^ (E - e).toNat ∧ ur P D e = 0 := by
  have hud := ud_pos hD e
  have key : un P e = m * 2 ^ (E - e).toNat * ud D e := by
    apply Nat.eq_of_mul_eq_mul_right hg
    unfold un ud
    calc P * 2 ^ (-e).toNat * g = P * g * 2 ^ (-e).toNat := Nat.mul_right_comm _ _ _
      _ = m * (2 ^ E.toNat * 2 ^ (-e).toNat) := by rw [hP, Nat.mul_assoc]
      _ = m * (2 ^ (E - e).toNat * (2 ^ (-E).toNat * 2 ^ e.toNat)) := by
        rw [← Nat.pow_add, ← Nat.pow_add, ← Nat.pow_add]
        congr 2
        omega
      _ = m * 2 ^ (E - e).toNat * (D * 2 ^ e.toNat) * g := by
        rw [← hDg, Nat.mul_assoc m, Nat.mul_assoc m, Nat.mul_assoc (2 ^ (E - e).toNat), Nat.mul_right_comm D]
  unfold uq ur
  rw [key]
  exact ⟨Nat.mul_div_cancel _ hud, Nat.mul_mod_left _ _⟩
/-- Only at one place the quotient has 54 digits. -/
theorem place_unique {P D : Nat} (hD : 0 < D) {e e' : Int} {c : Nat} (h1 : 2 ^ c ≤ uq P D e) (h2 : uq P D e < 2 ^ (c + 1)) (h3 : 2 ^ c ≤ uq P D e') (h4 : uq P D e' < 2 ^ (c + 1)) : e = e' := by
  have aux : ∀ a b : Int, a < b → uq P D a < 2 ^ (c + 1) → 2 ^ c ≤ uq P D b → False := by
    intro a b hab ha hb
    obtain ⟨s, hs⟩ : ∃ s : Nat, b = a + ((s + 1 : Nat) : Int) := ⟨(b - a - 1).toNat, by omega⟩
    have := (uq_drop (N := P) hD a (s + 1)).1
    rw [← hs] at this
    rw [this] at hb
    have h5 : uq P D a / 2 ^ (s + 1) ≤ uq P D a / 2 := by
      rw [Nat.pow_succ, Nat.mul_comm, ← Nat.div_div_eq_div_mul]
      exact Nat.div_le_self _ _
    rw [Nat.pow_succ] at ha
    omega
  rcases Int.lt_trichotomy e e' with h | h | h
  · exact (aux e e' h h2 h3).elim
  · exact h
  · exact (aux e' e h h4 h1).elim
theorem near_exact {P D : Nat} {U : Int} (h : ur P D U = 0) : left P D U = 0 ∧ near P D U = uq P D U := by
  have hl : left P D U = 0 := by
    unfold left leftOf
    rw [if_pos h]
  refine ⟨hl, ?_⟩
  unfold near up
  rw [hl]
  simp
end Go.Rnd
namespace Go.Proofs.YtgdgklhfakplhaaGreatDoor
open Go.RowKit Go.Dig
set_option maxRecDepth 100000
/-- Words that two blocks of values leave as they are. -/
structure Kp (O R : Nat) (w : World) (v : Value) (ds : List Nat) : Prop where
  rt : Rt 41 .u64 w v ds
  so : ∃ m, w.shape? O = some (26, m)
  sr : ∃ m, w.shape? R = some (26, m)
theorem Kp.o {O R : Nat} {w : World} {v : Value} {ds : List Nat} (h : Kp O R w v ds) (i : Nat) (u : Value) : Kp O R (w.setCell ⟨O, i, none⟩ u) v ds := by
  obtain ⟨m, hm⟩ := h.so
  exact ⟨h.rt.set (p := ⟨O, i, none⟩) u hm (by decide), by rw [shape_setCell]; exact h.so, by rw [shape_setCell]; exact h.sr⟩
theorem Kp.r {O R : Nat} {w : World} {v : Value} {ds : List Nat} (h : Kp O R w v ds) (i : Nat) (u : Value) : Kp O R (w.setCell ⟨R, i, none⟩ u) v ds := by
  obtain ⟨m, hm⟩ := h.sr
  exact ⟨h.rt.set (p := ⟨R, i, none⟩) u hm (by decide), by rw [shape_setCell]; exact h.so, by rw [shape_setCell]; exact h.sr⟩
set_option maxHeartbeats 2000000 in
theorem told_64 (x : Int) (w : World) (h0 : -9223372036854775808 ≤ x) (h1 : x ≤ 9223372036854775807) : Calls Tryz.prog 21 #[.iface 70 (.int .i64 x)] w fun e w' => ∃ t v, e = .returned (.agg #[.int .i64 3, .bool false, .string (ByteArray.mk #[]), .bool t, v, .slice none 0 0, .bool false, .slice none 0 0, .slice none 0 0]) ∧ Hid (t = decide (x < 0)) ∧ Rt 41 .u64 w' v (dg 18446744073709551616 x.natAbs) ∧ Below w.heap.size w w' := by
  have HR : Hid (Blk ((w.alloc (.cells #[.int .i64 0, .bool false, .string (ByteArray.mk #[]), .bool false, .slice none 0 0, .slice none 0 0, .bool false, .slice none 0 0, .slice none 0 0] 26)).alloc (.cells #[.int .i64 3, .bool false, .string (ByteArray.mk #[]), .bool false, .slice none 0 0, .slice none 0 0, .bool false, .slice none 0 0, .slice none 0 0] 26)) w.heap.size #[.int .i64 0, .bool false, .string (ByteArray.mk #[]), .bool false, .slice none 0 0, .slice none 0 0, .bool false, .slice none 0 0, .slice none 0 0] 26) := (blk_new w _ 26).alloc _
  have HO : Hid (Blk ((w.alloc (.cells #[.int .i64 0, .bool false, .string (ByteArray.mk #[]), .bool false, .slice none 0 0, .slice none 0 0, .bool false, .slice none 0 0, .slice none 0 0] 26)).alloc (.cells #[.int .i64 3, .bool false, .string (ByteArray.mk #[]), .bool false, .slice none 0 0, .slice none 0 0, .bool false, .slice none 0 0, .slice none 0 0] 26)) (w.heap.size + 1) #[.int .i64 3, .bool false, .string (ByteArray.mk #[]), .bool false, .slice none 0 0, .slice none 0 0, .bool false, .slice none 0 0, .slice none 0 0] 26) := by
    have := blk_new (w.alloc (.cells #[.int .i64 0, .bool false, .string (ByteArray.mk #[]), .bool false, .slice none 0 0, .slice none 0 0, .bool false, .slice none 0 0, .slice none 0 0] 26)) #[.int .i64 3, .bool false, .string (ByteArray.mk #[]), .bool false, .slice none 0 0, .slice none 0 0, .bool false, .slice none 0 0, .slice none 0 0] 26
    refine hid ?_
    simpa using this
  have Hb0 : Hid (Below w.heap.size w ((w.alloc (.cells #[.int .i64 0, .bool false, .string (ByteArray.mk #[]), .bool false, .slice none 0 0, .slice none 0 0, .bool false, .slice none 0 0, .slice none 0 0] 26)).alloc (.cells #[.int .i64 3, .bool false, .string (ByteArray.mk #[]), .bool false, .slice none 0 0, .slice none 0 0, .bool false, .slice none 0 0, .slice none 0 0] 26))) := ((Below.refl _ _).alloc (Nat.le_refl _) _).alloc (by simp) _
  go_enter Tryz.func21, Tryz.ntmps21
  go_wp2_with (first | (go_at_call 259; refine (kind_i64 _ _).mono ?_; rintro e w' ⟨rfl, rfl⟩))
  generalize ((w.alloc (.cells #[.int .i64 0, .bool false, .string (ByteArray.mk #[]), .bool false, .slice none 0 0, .slice none 0 0, .bool false, .slice none 0 0, .slice none 0 0] 26)).alloc (.cells #[.int .i64 3, .bool false, .string (ByteArray.mk #[]), .bool false, .slice none 0 0, .slice none 0 0, .bool false, .slice none 0 0, .slice none 0 0] 26)) = w0 at *
  refine (parts_64 x _ h0 h1).mono ?_
  rintro e w1 ⟨t, v, u, rfl, HT, hv, hb⟩
  obtain ⟨a, c, rfl⟩ := hv.shape
  have HV : Hid (Kp (w.heap.size + 1) w.heap.size w1 _ _) := ⟨hv, ⟨_, (HO.out.below hb HO.out.lt).shape⟩, ⟨_, (HR.out.below hb HR.out.lt).shape⟩⟩
  have HB := hid (below_next Hb0.out hb)
  have HR1 := hid (HR.out.below hb HR.out.lt)
  have HO1 := hid (HO.out.below hb HO.out.lt)
  clear hv hb
  obtain ⟨c0, c1, c2, c3, c4, c5, c6, c7, c8, f0, f1, f2, f3, f4, f5, f6, f7, f8⟩ := HO1.out.nine
  obtain ⟨r0, r1, r2, r3, r4, r5, r6, r7, r8, g0, g1, g2, g3, g4, g5, g6, g7, g8⟩ := HR1.out.nine
  go_wp2_with fail
  refine bodyPost_ret (v := .agg #[.int .i64 3, .bool false, .string (ByteArray.mk #[]), .bool t, .slice a (dg 18446744073709551616 x.natAbs).length c, .slice none 0 0, .bool false, .slice none 0 0, .slice none 0 0]) (by simp [results, Tryz.results21, go_sem, r0, r1, r2, r3, r4, r5, r6, r7, r8]) rfl ⟨_, _, rfl, HT, ?_, ?_⟩
  · exact (((((((((((HV.out.o 3 _).o 4 _).r 0 _).r 1 _).r 2 _).r 3 _).r 4 _).r 5 _).r 6 _).r 7 _).r 8 _).rt
  · exact below_set9 ((HB.out.setCell (p := ⟨w.heap.size + 1, 3, none⟩) (Nat.le_succ _) _).setCell (p := ⟨w.heap.size + 1, 4, none⟩) (Nat.le_succ _) _) (Nat.le_refl _) _ _ _ _ _ _ _ _ _
end Go.Proofs.YtgdgklhfakplhaaGreatDoor
namespace Go.Proofs.YtgdgklhfakplhaaGreatDoor
open Go.RowKit Go.Dig
set_option maxRecDepth 100000
set_option maxHeartbeats 2000000 in
theorem told_rat (b P D : Nat) (s : Bool) (vP vD : Value) (w : World) (hB : Blk w b #[.bool s, vP, .bool false, vD] 133) (hP : Nw w vP P) (hD : Nw w vD D) (hlP : (dg 18446744073709551616 P).length ≤ 900) (hlD : (dg 18446744073709551616 D).length ≤ 900) (hD0 : 0 < D) :
    Calls Tryz.prog 21 #[.iface 83 (.agg #[.pointer (some ⟨b, 0, none⟩)])] w fun e w' => ∃ t v u, e = .returned (.agg #[.int .i64 4, .bool false, .string (ByteArray.mk #[]), .bool t, v, u, .bool false, .slice none 0 0, .slice none 0 0]) ∧ Hid (t = decide (sgn s P < 0)) ∧ Rt 41 .u64 w' v (dg 18446744073709551616 P) ∧ Rt 41 .u64 w' u (dg 18446744073709551616 D) ∧ Below w.heap.size w w' := by
  have HB := hid hB
  have HP := hid hP
  have HD := hid hD
  have HL := hid (And.intro hlP (And.intro hlD hD0))
  clear hB hP hD hlP hlD hD0
  have HR : Hid (Blk (w.alloc (.cells #[.int .i64 0, .bool false, .string (ByteArray.mk #[]), .bool false, .slice none 0 0, .slice none 0 0, .bool false, .slice none 0 0, .slice none 0 0] 26)) w.heap.size #[.int .i64 0, .bool false, .string (ByteArray.mk #[]), .bool false, .slice none 0 0, .slice none 0 0, .bool false, .slice none 0 0, .slice none 0 0] 26) := blk_new w _ 26
  have Hb0 : Hid (Below w.heap.size w (w.alloc (.cells #[.int .i64 0, .bool false, .string (ByteArray.mk #[]), .bool false, .slice none 0 0, .slice none 0 0, .bool false, .slice none 0 0, .slice none 0 0] 26))) := (Below.refl _ _).alloc (Nat.le_refl _) _
  go_enter Tryz.func21, Tryz.ntmps21
  go_wp2_with fail
  generalize (w.alloc (.cells #[.int .i64 0, .bool false, .string (ByteArray.mk #[]), .bool false, .slice none 0 0, .slice none 0 0, .bool false, .slice none 0 0, .slice none 0 0] 26)) = w0 at *
  refine (kind_rat _ _).mono ?_
  rintro e w1 ⟨rfl, hb⟩
  have HR1 := hid (HR.out.below hb HR.out.lt)
  have HE1 := hid (below_next Hb0.out hb)
  clear hb HR Hb0
  go_wp2_with fail
  have HO : Hid (Blk (w1.alloc (.cells #[.int .i64 4, .bool false, .string (ByteArray.mk #[]), .bool false, .slice none 0 0, .slice none 0 0, .bool false, .slice none 0 0, .slice none 0 0] 26)) w1.heap.size #[.int .i64 4, .bool false, .string (ByteArray.mk #[]), .bool false, .slice none 0 0, .slice none 0 0, .bool false, .slice none 0 0, .slice none 0 0] 26) := blk_new w1 _ 26
  have HE0 : Hid (Below w1.heap.size w1 (w1.alloc (.cells #[.int .i64 4, .bool false, .string (ByteArray.mk #[]), .bool false, .slice none 0 0, .slice none 0 0, .bool false, .slice none 0 0, .slice none 0 0] 26))) := (Below.refl _ _).alloc (Nat.le_refl _) _
  have HR2 := hid (HR1.out.below HE0.out HR1.out.lt)
  have HE2 := hid (below_next HE1.out HE0.out)
  have hlO : Hid (w.heap.size < w1.heap.size) := hid HR1.out.lt
  clear HR1 HE1 HE0
  generalize (w1.alloc (.cells #[.int .i64 4, .bool false, .string (ByteArray.mk #[]), .bool false, .slice none 0 0, .slice none 0 0, .bool false, .slice none 0 0, .slice none 0 0] 26)) = w2 at *
  generalize w1.heap.size = O at *
  refine (kind_rat _ _).mono ?_
  rintro e w3 ⟨rfl, hb⟩
  have HR3 := hid (HR2.out.below hb HR2.out.lt)
  have HO3 := hid (HO.out.below hb HO.out.lt)
  have HE3 := hid (below_next HE2.out hb)
  have HB3 := hid (HB.out.below HE3.out HB.out.lt)
  have HP3 := hid (HP.out.below HE3.out (Nat.le_refl _))
  have HD3 := hid (HD.out.below HE3.out (Nat.le_refl _))
  clear hb HR2 HO HE2 HB HP HD
  go_wp2_with fail
  refine (parts_rat b P D s vP vD w3 HB3.out HP3.out HD3.out HL.out.1 HL.out.2.1 HL.out.2.2).mono ?_
  rintro e w4 ⟨t, v, u, rfl, HT, hv, hu, hb⟩
  obtain ⟨a, c, rfl⟩ := hv.shape
  obtain ⟨a', c', rfl⟩ := hu.shape
  have HV : Hid (Kp O w.heap.size w4 _ _) := ⟨hv, ⟨_, (HO3.out.below hb HO3.out.lt).shape⟩, ⟨_, (HR3.out.below hb HR3.out.lt).shape⟩⟩
  have HU : Hid (Kp O w.heap.size w4 _ _) := ⟨hu, ⟨_, (HO3.out.below hb HO3.out.lt).shape⟩, ⟨_, (HR3.out.below hb HR3.out.lt).shape⟩⟩
  have HE4 := hid (below_next HE3.out hb)
  have HR4 := hid (HR3.out.below hb HR3.out.lt)
  have HO4 := hid (HO3.out.below hb HO3.out.lt)
  clear hv hu hb HR3 HO3 HE3 HB3 HP3 HD3
  have hn1 : O ≠ w.heap.size := by have := hlO.out; omega
  have hn2 : w.heap.size ≠ O := by have := hlO.out; omega
  obtain ⟨c0, c1, c2, c3, c4, c5, c6, c7, c8, f0, f1, f2, f3, f4, f5, f6, f7, f8⟩ := HO4.out.nine
  obtain ⟨r0, r1, r2, r3, r4, r5, r6, r7, r8, g0, g1, g2, g3, g4, g5, g6, g7, g8⟩ := HR4.out.nine
  go_wp2_with fail
  refine bodyPost_ret (v := .agg #[.int .i64 4, .bool false, .string (ByteArray.mk #[]), .bool t, .slice a (dg 18446744073709551616 P).length c, .slice a' (dg 18446744073709551616 D).length c', .bool false, .slice none 0 0, .slice none 0 0]) (by simp [results, Tryz.results21, go_sem, r0, r1, r2, r3, r4, r5, r6, r7, r8]) rfl ⟨_, _, _, rfl, HT, ?_, ?_, ?_⟩
  · exact ((((((((((((HV.out.o 3 _).o 4 _).o 5 _).r 0 _).r 1 _).r 2 _).r 3 _).r 4 _).r 5 _).r 6 _).r 7 _).r 8 _).rt
  · exact ((((((((((((HU.out.o 3 _).o 4 _).o 5 _).r 0 _).r 1 _).r 2 _).r 3 _).r 4 _).r 5 _).r 6 _).r 7 _).r 8 _).rt
  · exact below_set9 (((HE4.out.setCell (p := ⟨O, 3, none⟩) (Nat.le_of_lt hlO.out) _).setCell (p := ⟨O, 4, none⟩) (Nat.le_of_lt hlO.out) _).setCell (p := ⟨O, 5, none⟩) (Nat.le_of_lt hlO.out) _) (Nat.le_refl _) _ _ _ _ _ _ _ _ _
set_option maxHeartbeats 1000000 in
theorem told_unk (w : World) : Calls Tryz.prog 21 #[.iface 88 (.agg #[])] w fun e w' => e = .returned (.agg #[.int .i64 0, .bool false, .string (ByteArray.mk #[]), .bool false, .slice none 0 0, .slice none 0 0, .bool false, .slice none 0 0, .slice none 0 0]) ∧ Below w.heap.size w w' := by
  have HR : Hid (Blk (w.alloc (.cells #[.int .i64 0, .bool false, .string (ByteArray.mk #[]), .bool false, .slice none 0 0, .slice none 0 0, .bool false, .slice none 0 0, .slice none 0 0] 26)) w.heap.size #[.int .i64 0, .bool false, .string (ByteArray.mk #[]), .bool false, .slice none 0 0, .slice none 0 0, .bool false, .slice none 0 0, .slice none 0 0] 26) := blk_new w _ 26
  have Hb0 : Hid (Below w.heap.size w (w.alloc (.cells #[.int .i64 0, .bool false, .string (ByteArray.mk #[]), .bool false, .slice none 0 0, .slice none 0 0, .bool false, .slice none 0 0, .slice none 0 0] 26))) := (Below.refl _ _).alloc (Nat.le_refl _) _
  go_enter Tryz.func21, Tryz.ntmps21
  go_wp2_with fail
  generalize (w.alloc (.cells #[.int .i64 0, .bool false, .string (ByteArray.mk #[]), .bool false, .slice none 0 0, .slice none 0 0, .bool false, .slice none 0 0, .slice none 0 0] 26)) = w0 at *
  refine (kind_unk _).mono ?_
  rintro e w1 ⟨rfl, hb⟩
  have HR1 := hid (HR.out.below hb HR.out.lt)
  have HE1 := hid (below_next Hb0.out hb)
  clear hb HR Hb0
  go_wp2_with fail
  have HO : Hid (Blk (w1.alloc (.cells #[.int .i64 0, .bool false, .string (ByteArray.mk #[]), .bool false, .slice none 0 0, .slice none 0 0, .bool false, .slice none 0 0, .slice none 0 0] 26)) w1.heap.size #[.int .i64 0, .bool false, .string (ByteArray.mk #[]), .bool false, .slice none 0 0, .slice none 0 0, .bool false, .slice none 0 0, .slice none 0 0] 26) := blk_new w1 _ 26
  have HE0 : Hid (Below w1.heap.size w1 (w1.alloc (.cells #[.int .i64 0, .bool false, .string (ByteArray.mk #[]), .bool false, .slice none 0 0, .slice none 0 0, .bool false, .slice none 0 0, .slice none 0 0] 26))) := (Below.refl _ _).alloc (Nat.le_refl _) _
  have HR2 := hid (HR1.out.below HE0.out HR1.out.lt)
  have HE2 := hid (below_next HE1.out HE0.out)
  have hlO : Hid (w.heap.size < w1.heap.size) := hid HR1.out.lt
  clear HR1 HE1 HE0
  generalize (w1.alloc (.cells #[.int .i64 0, .bool false, .string (ByteArray.mk #[]), .bool false, .slice none 0 0, .slice none 0 0, .bool false, .slice none 0 0, .slice none 0 0] 26)) = w2 at *
  generalize w1.heap.size = O at *
  refine (kind_unk _).mono ?_
  rintro e w3 ⟨rfl, hb⟩
  have HR3 := hid (HR2.out.below hb HR2.out.lt)
  have HO3 := hid (HO.out.below hb HO.out.lt)
  have HE3 := hid (below_next HE2.out hb)
  clear hb HR2 HO HE2
  have hn1 : O ≠ w.heap.size := by have := hlO.out; omega
  have hn2 : w.heap.size ≠ O := by have := hlO.out; omega
  obtain ⟨c0, c1, c2, c3, c4, c5, c6, c7, c8, f0, f1, f2, f3, f4, f5, f6, f7, f8⟩ := HO3.out.nine
  obtain ⟨r0, r1, r2, r3, r4, r5, r6, r7, r8, g0, g1, g2, g3, g4, g5, g6, g7, g8⟩ := HR3.out.nine
  go_wp2_with fail
  refine bodyPost_ret (v := .agg #[.int .i64 0, .bool false, .string (ByteArray.mk #[]), .bool false, .slice none 0 0, .slice none 0 0, .bool false, .slice none 0 0, .slice none 0 0]) (by simp [results, Tryz.results21, go_sem, r0, r1, r2, r3, r4, r5, r6, r7, r8]) rfl ⟨rfl, ?_⟩
  exact below_set9 HE3.out (Nat.le_refl _) _ _ _ _ _ _ _ _ _
end Go.Proofs.YtgdgklhfakplhaaGreatDoor
namespace Go.Proofs.YtgdgklhfakplhaaGreatDoor
open Go.RowKit Go.Dig
set_option maxRecDepth 100000
theorem info44' : (Tryz.prog.info? 41).map (fun i => (i.zero, i.size, i.bytes)) = some (some (.int .u64 0), 1, 8) := by kernel_rfl
theorem or_digit0 {old x : Nat} (h : old < 65536 ^ 0) (hx : x < 65536) : bits .or .u64 (old : Int) (x : Int) = ((old + x * 65536 ^ 0 : Nat) : Int) := by
  have h1 := or_digit (r := 0) h hx (by omega)
  have e : IntKind.u64.wrap ((x : Int) * 65536 ^ 0) = (x : Int) := by rw [IntKind.wrap_u64]; omega
  rw [e] at h1
  exact h1
theorem or_digit1 {old x : Nat} (h : old < 65536 ^ 1) (hx : x < 65536) : bits .or .u64 (old : Int) ((x : Int) * 65536) = ((old + x * 65536 ^ 1 : Nat) : Int) := by
  have h1 := or_digit (r := 1) h hx (by omega)
  have e : IntKind.u64.wrap ((x : Int) * 65536 ^ 1) = ((x : Int) * 65536) := by rw [IntKind.wrap_u64]; omega
  rw [e] at h1
  exact h1
theorem or_digit2 {old x : Nat} (h : old < 65536 ^ 2) (hx : x < 65536) : bits .or .u64 (old : Int) ((x : Int) * 4294967296) = ((old + x * 65536 ^ 2 : Nat) : Int) := by
  have h1 := or_digit (r := 2) h hx (by omega)
  have e : IntKind.u64.wrap ((x : Int) * 65536 ^ 2) = ((x : Int) * 4294967296) := by rw [IntKind.wrap_u64]; omega
  rw [e] at h1
  exact h1
theorem or_digit3 {old x : Nat} (h : old < 65536 ^ 3) (hx : x < 65536) : bits .or .u64 (old : Int) ((x : Int) * 281474976710656) = ((old + x * 65536 ^ 3 : Nat) : Int) := by
  have h1 := or_digit (r := 3) h hx (by omega)
  have e : IntKind.u64.wrap ((x : Int) * 65536 ^ 3) = ((x : Int) * 281474976710656) := by rw [IntKind.wrap_u64]; omega
  rw [e] at h1
  exact h1
set_option maxHeartbeats 2000000 in
/-- spec.Words: the words of a natural number. -/
theorem words_any (va : Value) (n : Nat) (w : World) (ha : Nt w va n) (hl : (dg 65536 n).length ≤ 100000) :
    Calls Tryz.prog 100 #[va] w fun e w' => ∃ v, e = .returned v ∧ Rt 41 .u64 w' v (dg 18446744073709551616 n) ∧ Below w.heap.size w w' := by
  obtain ⟨a, cap, rfl, hcl, hcm, hcc⟩ := ha
  have HC := hid hcc
  clear hcc
  have HD := hid (dgl n)
  generalize hds : dg 65536 n = ds at *
  have HDS := hid hds
  clear hds
  go_enter Tryz.func100, Tryz.ntmps100
  go_wp2_with fail
  go_loopw [3, 9] (fun v x wr => ∃ (u : Value) (os : List Nat) (j : Nat), u = v ∧ x = .int .i64 j ∧ j ≤ ds.length ∧ wr.ownsRow w.heap.size 41 1 u os.length (cs .u64 os) ∧ Hid (WI ds j os) ∧ Below w.heap.size w wr) (fun _ x _ => ds.length - (intOf x).toNat)
  case atStart => exact ⟨_, [], 0, rfl, rfl, by omega, own_empty w 41 (Nat.le_refl _), hid (WI.zero ds), (Below.refl _ _).alloc (Nat.le_refl _) _⟩
  case round =>
    obtain ⟨u, os, j, rfl, rfl, hj, hown, ho, hb⟩ := hrel
    have hbs := hb.size
    rcases Nat.lt_or_ge j ds.length with h0 | h0
    · obtain ⟨b2, off, rfl, _, hb2⟩ := HC.out (by omega)
      have hk := hb2 j (by omega)
      clear hb2
      have hk2 := (hb.cell (World.block_lt_of_cell? w _ hk)).trans hk
      clear hk
      generalize hg : ds.getD j 0 = x at hk2
      have hx : x < 65536 := by rw [← hg]; exact getD_lt (by omega) HD.out j
      have HG := hid hg
      clear hg
      obtain ⟨q, hq⟩ : ∃ q, j / 4 = q := ⟨_, rfl⟩
      have hr : j % 4 = 0 ∨ j % 4 = 1 ∨ j % 4 = 2 ∨ j % 4 = 3 := by omega
      have hd4 : (j : Int) / 4 = (q : Int) := by omega
      have hol : os.length < 1000000000 := by have := ho.out.len; omega
      rcases hr with hr | hr | hr | hr
      · have hm4 : (j : Int) % 4 = 0 := by omega
        have hj4 : j = 4 * q + 0 := by omega
        have HJ := hid hj4
        have HO : Hid (WJ ds q 0 (os ++ [0])) := by refine hid ?_; have := ho.out; rw [hj4] at this; exact this.open_
        clear hj4 hr hq
        go_wp2_with (at_builtin; refine app1 rfl _ _ 22 41 rfl .u64 8 Tryz.underlying22 info44' (by decide) w.heap.size w u os _ 0 rfl rfl rfl hown hb (by omega) hol ?_; intro v' w' hown2 hb2 _)
        generalize os ++ [0] = o2 at *
        have hlen2 : q < o2.length := by rw [HO.out.len]; omega
        obtain ⟨g, cap2, rfl, hg, hcell, hfr, hput⟩ := own_at hown2 hlen2
        have HPUT := hid hput
        have hold := HO.out.old HD.out
        have HST := hid (HO.out.step (d := x) HD.out (by have := HJ.out; omega) (by rw [← HJ.out]; exact HG.out) (by omega))
        rw [← HJ.out] at HST
        clear hput
        generalize o2.getD q 0 = old at *
        have hor := or_digit0 hold hx
        obtain ⟨nw, hnw⟩ : ∃ nw, old + x * 65536 ^ 0 = nw := ⟨_, rfl⟩
        rw [hnw] at hor HST
        clear hnw hold
        skip
        go_region
        go_wp2_with fail
        go_roundw
        case rel => exact ⟨_, o2.set q nw, j + 1, rfl, by go_num, by omega, (HPUT.out nw).drew, HST, (hb2.setCell (p := ⟨g, q, none⟩) hg _).drew⟩
        case measure => simp [intOf]; omega
      · have hm4 : (j : Int) % 4 = 1 := by omega
        have hj4 : j = 4 * q + 1 := by omega
        have HJ := hid hj4
        have HO : Hid (WJ ds q 1 os) := by refine hid ?_; have := ho.out; rw [hj4] at this; exact this.held (by omega) (by omega)
        obtain ⟨o2, rfl⟩ : ∃ o2, o2 = os := ⟨_, rfl⟩
        obtain ⟨w', rfl⟩ : ∃ w', w' = wr := ⟨_, rfl⟩
        have hown2 := hown
        have hb2 := hb
        clear hj4 hr hq hown hb
        have hlen2 : q < o2.length := by rw [HO.out.len]; omega
        obtain ⟨g, cap2, rfl, hg, hcell, hfr, hput⟩ := own_at hown2 hlen2
        have HPUT := hid hput
        have hold := HO.out.old HD.out
        have HST := hid (HO.out.step (d := x) HD.out (by have := HJ.out; omega) (by rw [← HJ.out]; exact HG.out) (by omega))
        rw [← HJ.out] at HST
        clear hput
        generalize o2.getD q 0 = old at *
        have hor := or_digit1 hold hx
        obtain ⟨nw, hnw⟩ : ∃ nw, old + x * 65536 ^ 1 = nw := ⟨_, rfl⟩
        rw [hnw] at hor HST
        clear hnw hold
        go_wp2_with fail
        go_region
        go_wp2_with fail
        go_roundw
        case rel => exact ⟨_, o2.set q nw, j + 1, rfl, by go_num, by omega, (HPUT.out nw).drew, HST, (hb2.setCell (p := ⟨g, q, none⟩) hg _).drew⟩
        case measure => simp [intOf]; omega
      · have hm4 : (j : Int) % 4 = 2 := by omega
        have hj4 : j = 4 * q + 2 := by omega
        have HJ := hid hj4
        have HO : Hid (WJ ds q 2 os) := by refine hid ?_; have := ho.out; rw [hj4] at this; exact this.held (by omega) (by omega)
        obtain ⟨o2, rfl⟩ : ∃ o2, o2 = os := ⟨_, rfl⟩
        obtain ⟨w', rfl⟩ : ∃ w', w' = wr := ⟨_, rfl⟩
        have hown2 := hown
        have hb2 := hb
        clear hj4 hr hq hown hb
        have hlen2 : q < o2.length := by rw [HO.out.len]; omega
        obtain ⟨g, cap2, rfl, hg, hcell, hfr, hput⟩ := own_at hown2 hlen2
        have HPUT := hid hput
        have hold := HO.out.old HD.out
        have HST := hid (HO.out.step (d := x) HD.out (by have := HJ.out; omega) (by rw [← HJ.out]; exact HG.out) (by omega))
        rw [← HJ.out] at HST
        clear hput
        generalize o2.getD q 0 = old at *
        have hor := or_digit2 hold hx
        obtain ⟨nw, hnw⟩ : ∃ nw, old + x * 65536 ^ 2 = nw := ⟨_, rfl⟩
        rw [hnw] at hor HST
        clear hnw hold
        go_wp2_with fail
        go_region
        go_wp2_with fail
        go_roundw
        case rel => exact ⟨_, o2.set q nw, j + 1, rfl, by go_num, by omega, (HPUT.out nw).drew, HST, (hb2.setCell (p := ⟨g, q, none⟩) hg _).drew⟩
        case measure => simp [intOf]; omega
      · have hm4 : (j : Int) % 4 = 3 := by omega
        have hj4 : j = 4 * q + 3 := by omega
        have HJ := hid hj4
        have HO : Hid (WJ ds q 3 os) := by refine hid ?_; have := ho.out; rw [hj4] at this; exact this.held (by omega) (by omega)
        obtain ⟨o2, rfl⟩ : ∃ o2, o2 = os := ⟨_, rfl⟩
        obtain ⟨w', rfl⟩ : ∃ w', w' = wr := ⟨_, rfl⟩
        have hown2 := hown
        have hb2 := hb
        clear hj4 hr hq hown hb
        have hlen2 : q < o2.length := by rw [HO.out.len]; omega
        obtain ⟨g, cap2, rfl, hg, hcell, hfr, hput⟩ := own_at hown2 hlen2
        have HPUT := hid hput
        have hold := HO.out.old HD.out
        have HST := hid (HO.out.step (d := x) HD.out (by have := HJ.out; omega) (by rw [← HJ.out]; exact HG.out) (by omega))
        rw [← HJ.out] at HST
        clear hput
        generalize o2.getD q 0 = old at *
        have hor := or_digit3 hold hx
        obtain ⟨nw, hnw⟩ : ∃ nw, old + x * 65536 ^ 3 = nw := ⟨_, rfl⟩
        rw [hnw] at hor HST
        clear hnw hold
        go_wp2_with fail
        go_region
        go_wp2_with fail
        go_roundw
        case rel => exact ⟨_, o2.set q nw, j + 1, rfl, by go_num, by omega, (HPUT.out nw).drew, HST, (hb2.setCell (p := ⟨g, q, none⟩) hg _).drew⟩
        case measure => simp [intOf]; omega
    · obtain rfl : j = ds.length := by omega
      have hR := own_rd hown
      go_wp2_with fail
      go_ret
      refine ⟨_, rfl, ?_, hb⟩
      have := ho.out
      rw [← HDS.out] at this
      rw [← this.done]
      exact hR
end Go.Proofs.YtgdgklhfakplhaaGreatDoor
