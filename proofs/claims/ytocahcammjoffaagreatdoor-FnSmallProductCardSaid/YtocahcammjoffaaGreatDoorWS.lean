/- Walks and lemmas for the laws of this seat. -/
import Derived.Test.YtocahcammjoffaaGreatDoorNAs
import Derived.Test.YtocahcammjoffaaGreatDoorNAo
import Derived.Test.YtocahcammjoffaaGreatDoorNSs
import Derived.Test.YtocahcammjoffaaGreatDoorNSo
import Derived.Test.YtocahcammjoffaaGreatDoorS21
import Derived.Test.YtocahcammjoffaaGreatDoorP1
import Derived.Test.YtocahcammjoffaaGreatDoorB2
import Derived.Test.YtocahcammjoffaaGreatDoorB3
import Derived.Test.YtocahcammjoffaaGreatDoorQ2
namespace Go.Proofs.YtocahcammjoffaaGreatDoor
open Go.RowKit Go.Dig
theorem bool_other {s t : Bool} (h : s ≠ t) : t = !s := by cases s <;> cases t <;> simp_all
theorem intAdd_any (bz bx b2 : Nat) (sx sy : Bool) (m n : Nat) (w : World) (hz : Blk w bz #[.bool false, .slice none 0 0] 203) (hx : Iv w bx sx m) (hy : Iv w b2 sy n) (hm : m < 18446744073709551616) (hn : n < 18446744073709551616) (hxz : bx ≠ bz) (hyz : b2 ≠ bz) :
    Calls Tryz.prog 126 #[.pointer (some ⟨bz, 0, none⟩), .pointer (some ⟨bx, 0, none⟩), .pointer (some ⟨b2, 0, none⟩)] w (Zd w bz (sgn sx m + sgn sy n)) := by
  by_cases h : sx = sy
  · subst h
    exact intAdd_same sx bz bx b2 m n w hz hx hy hm hn hxz hyz
  · obtain rfl := bool_other h
    exact intAdd_other sx bz bx b2 m n w hz hx hy hm hn hxz hyz
theorem intSub_any (bz bx b2 : Nat) (sx sy : Bool) (m n : Nat) (w : World) (hz : Blk w bz #[.bool false, .slice none 0 0] 203) (hx : Iv w bx sx m) (hy : Iv w b2 sy n) (hm : m < 18446744073709551616) (hn : n < 18446744073709551616) (hxz : bx ≠ bz) (hyz : b2 ≠ bz) :
    Calls Tryz.prog 128 #[.pointer (some ⟨bz, 0, none⟩), .pointer (some ⟨bx, 0, none⟩), .pointer (some ⟨b2, 0, none⟩)] w (Zd w bz (sgn sx m - sgn sy n)) := by
  by_cases h : sx = sy
  · subst h
    exact intSub_same sx bz bx b2 m n w hz hx hy hm hn hxz hyz
  · obtain rfl := bool_other h
    exact intSub_other sx bz bx b2 m n w hz hx hy hm hn hxz hyz
end Go.Proofs.YtocahcammjoffaaGreatDoor
namespace Go.Proofs.YtocahcammjoffaaGreatDoor
open Go.RowKit Go.Dig
theorem minus_bz (va vb : Value) (s1 s2 : Bool) (n1 d1 n2 d2 : Nat) (w : World) (ha : Ra w va s1 n1 d1) (hb : Ra w vb s2 n2 d2)
    (h1 : (dg 65536 n1).length ≤ 20000) (h2 : (dg 65536 d1).length ≤ 20000) (h3 : (dg 65536 n2).length ≤ 20000) (h4 : (dg 65536 d2).length ≤ 20000) (h5 : d1 ≠ 0) (h6 : d2 ≠ 0) :
    Calls Tryz.prog 38 #[va, vb] w fun e w' => ∃ S bz v1 v2, e = .returned (.agg #[.bool bz, v1, v2]) ∧ Hid (S = sgn s1 (n1 * d2) - sgn s2 (n2 * d1)) ∧ Hid (bz = decide (S < 0)) ∧ Nt w' v1 (S.natAbs / Nat.gcd S.natAbs (d1 * d2)) ∧ Nt w' v2 (d1 * d2 / Nat.gcd S.natAbs (d1 * d2)) ∧ Below w.heap.size w w' :=
  (minus_any va vb s1 s2 n1 d1 n2 d2 w ha hb h1 h2 h3 h4 h5 h6).mono fun _ _ ⟨_, e, hS, hb⟩ =>
    let ⟨v1, v2, e2, k1, k2⟩ := hS _ rfl
    ⟨_, _, v1, v2, by rw [e, e2], rfl, rfl, k1, k2, hb⟩
theorem natAbs_sgn (s : Bool) (n : Nat) : (sgn s n).natAbs = n := by
  cases s
  · rw [sgn_false]; omega
  · rw [sgn_true]; omega
theorem times_bz (va vb : Value) (s1 s2 : Bool) (n1 d1 n2 d2 : Nat) (w : World) (ha : Ra w va s1 n1 d1) (hb : Ra w vb s2 n2 d2)
    (h1 : (dg 65536 n1).length ≤ 20000) (h2 : (dg 65536 d1).length ≤ 20000) (h3 : (dg 65536 n2).length ≤ 20000) (h4 : (dg 65536 d2).length ≤ 20000) (h5 : d1 ≠ 0) (h6 : d2 ≠ 0) :
    Calls Tryz.prog 40 #[va, vb] w fun e w' => ∃ S bz v1 v2, e = .returned (.agg #[.bool bz, v1, v2]) ∧ Hid (S = sgn (s1 != s2) (n1 * n2)) ∧ Hid (bz = decide (S < 0)) ∧ Nt w' v1 (S.natAbs / Nat.gcd S.natAbs (d1 * d2)) ∧ Nt w' v2 (d1 * d2 / Nat.gcd S.natAbs (d1 * d2)) ∧ Below w.heap.size w w' :=
  (times_any va vb s1 s2 n1 d1 n2 d2 w ha hb h1 h2 h3 h4 h5 h6).mono fun _ _ ⟨_, e, ⟨v1, v2, e2, k1, k2⟩, hb⟩ =>
    ⟨sgn (s1 != s2) (n1 * n2), _, v1, v2, by rw [e, e2], rfl, rfl, by rw [natAbs_sgn]; exact k1, by rw [natAbs_sgn]; exact k2, hb⟩
end Go.Proofs.YtocahcammjoffaaGreatDoor
namespace Go.Proofs.YtocahcammjoffaaGreatDoor
open Go.RowKit Go.Dig
set_option maxRecDepth 100000
/-- Whether an int64 has at most 63 bits. -/
def i63 (x : Int) : Bool := decide (-4611686018427387904 ≤ x ∧ x ≤ 4611686018427387903)
set_option maxHeartbeats 400000 in
theorem is63_any (x : Int) (w : World) : Calls Tryz.prog 125 #[.int .i64 x] w fun e w' => e = .returned (.bool (i63 x)) ∧ w = w' := by
  rcases (by omega : x < -4611686018427387904 ∨ (-4611686018427387904 ≤ x ∧ x ≤ 4611686018427387903) ∨ (-4611686018427387904 ≤ x ∧ 4611686018427387903 < x)) with h | ⟨h1, h2⟩ | ⟨h1, h2⟩
  · have e : i63 x = false := by simp [i63]; omega
    rw [e]
    clear e
    go_enter Tryz.func125, Tryz.ntmps125
    go_wp2_with fail
    go_ret
    exact ⟨by first | rfl | (simp; done) | (simp; omega) | (simp [h2]; done), rfl⟩
  · have e : i63 x = true := by simp [i63]; omega
    rw [e]
    clear e
    go_enter Tryz.func125, Tryz.ntmps125
    go_wp2_with fail
    go_ret
    exact ⟨by first | rfl | (simp; done) | (simp; omega) | (simp [h2]; done), rfl⟩
  · have e : i63 x = false := by simp [i63]; omega
    rw [e]
    clear e
    go_enter Tryz.func125, Tryz.ntmps125
    go_wp2_with fail
    go_ret
    exact ⟨by first | rfl | (simp; done) | (simp; omega) | (simp [h2]; done), rfl⟩
/-- What BinaryOp gives for two int64: the number if it is an int64, else a big one. -/
def Bi (w : World) (x : Int) (v : Value) : Prop := (fitI x = true ∧ v = .iface 119 (.int .i64 x)) ∨ (fitI x = false ∧ ∃ b s n, v = .iface 122 (.agg #[.pointer (some ⟨b, 0, none⟩)]) ∧ Iv w b s n)
theorem i63_in {x : Int} (h : i63 x = true) : -4611686018427387904 ≤ x ∧ x ≤ 4611686018427387903 := by simpa [i63] using h
theorem fit_in {x : Int} (h : -9223372036854775808 ≤ x ∧ x ≤ 9223372036854775807) : fitI x = true := decide_eq_true h

set_option maxHeartbeats 1000000 in
theorem bin_sum_in (a b : Int) (ha : i63 a = true) (hb : i63 b = true) (w : World) : Calls Tryz.prog 74 #[.iface 119 (.int .i64 a), .int .i64 12, .iface 119 (.int .i64 b)] w fun e w' => ∃ v, e = .returned v ∧ Bi w' (a + b) v ∧ Below w.heap.size w w' := by
  have h1 := ta_119_119
  have h2 := ta_119_137
  have h3 := ta_119_165
  have h4 := ta1_119
  obtain ⟨p1, p2⟩ := i63_in ha
  obtain ⟨q1, q2⟩ := i63_in hb
  go_enter Tryz.func74, Tryz.ntmps74
  go_wp2_with (go_at_call 124; refine (match_i _ _ _).mono ?_; rintro e w' ⟨rfl, rfl⟩)
  go_step3
  go_wp2_with (first | (go_at_call 124; refine (match_i _ _ _).mono ?_; rintro e w' ⟨rfl, rfl⟩) | (go_at_call 125; refine (is63_any _ _).mono ?_; rintro e w' ⟨rfl, rfl⟩; first | rw [ha] | rw [hb]))
  rw [Exit.noGoto_ret]
  go_ret
  exact ⟨_, rfl, .inl ⟨fit_in (by omega), rfl⟩, Below.refl _ _⟩
set_option maxHeartbeats 1000000 in
theorem bin_sum_out (a b : Int) (l0 : -9223372036854775808 ≤ a) (u0 : a ≤ 9223372036854775807) (l1 : -9223372036854775808 ≤ b) (u1 : b ≤ 9223372036854775807) (ha : i63 a = false ∨ (i63 a = true ∧ i63 b = false)) (w : World) : Calls Tryz.prog 74 #[.iface 119 (.int .i64 a), .int .i64 12, .iface 119 (.int .i64 b)] w fun e w' => ∃ v, e = .returned v ∧ Bi w' (a + b) v ∧ Below w.heap.size w w' := by
  have h1 := ta_119_119
  have h2 := ta_119_137
  have h3 := ta_119_165
  have h4 := ta1_119
  have HW := hid (Below.refl w.heap.size w)
  obtain ⟨bz, hbz⟩ : ∃ bz, w.heap.size = bz := ⟨_, rfl⟩
  rcases ha with ha | ⟨ha, hb⟩
  all_goals
    go_enter Tryz.func74, Tryz.ntmps74
    go_wp2_with (go_at_call 124; refine (match_i _ _ _).mono ?_; rintro e w' ⟨rfl, rfl⟩)
    go_step3
    go_wp2_with (first | (go_at_call 124; refine (match_i _ _ _).mono ?_; rintro e w' ⟨rfl, rfl⟩) | (go_at_call 125; refine (is63_any _ _).mono ?_; rintro e w' ⟨rfl, rfl⟩; first | rw [ha] | rw [hb]))
    refine (newInt_any w).mono ?_
    rintro e w1 ⟨rfl, hB, hb1⟩
    rw [hbz] at hB hb1
    rw [hbz]
    have HB := hid hB
    have HW1 := hid hb1
    have HLT := hid hB.lt
    clear hB hb1
    go_wp2_with fail
    refine (bigNewInt_any a w1 l0 u0).mono ?_
    rintro e w2 ⟨bx, rfl, hbx, hI1, hb2⟩
    have HB2 := hid (HB.out.below hb2 HB.out.lt)
    have HW2 := hid (HW1.out.trans (hb2.mono (Nat.le_of_lt HLT.out)))
    have HI1 := hid hI1
    clear hI1 hb2
    go_wp2_with fail
    refine (bigNewInt_any b w2 l1 u1).mono ?_
    rintro e w3 ⟨b2, rfl, hby, hI2, hb3⟩
    have HB3 := hid (HB2.out.below hb3 HB2.out.lt)
    have HW3 := hid (HW2.out.trans (hb3.mono (Nat.le_of_lt HB2.out.lt)))
    have HI3 := hid (HI1.out.below hb3)
    have HI2 := hid hI2
    clear hI2 hb3
    go_wp2_with fail
    refine (intAdd_any bz bx b2 (decide (a < 0)) (decide (b < 0)) a.natAbs b.natAbs w3 HB3.out HI3.out HI2.out (by omega) (by omega) (by have := HLT.out; have := hbx.out; omega) (by have := HB2.out.lt; have := hby.out; omega)).mono ?_
    rintro e w4 ⟨rfl, ⟨s, k, hS, hI⟩, hb4⟩
    rw [sgn_abs, sgn_abs] at hS
    have HS4 := hid hS
    have HI4 := hid hI
    have HW4 := hid (HW3.out.trans hb4)
    clear hS hI hb4
    go_wp2_with fail
    refine (makeInt_any bz s k w4 HI4.out).mono ?_
    rintro e w5 ⟨v, rfl, hM, hb5⟩
    go_wp2_with fail
    rw [Exit.noGoto_ret]
    go_ret
    rw [HS4.out] at hM
    refine ⟨v, rfl, ?_, by rw [hbz]; exact HW4.out.trans (hb5.mono (by have := HW4.out.size; omega))⟩
    rcases hM with ⟨e1, e2⟩ | ⟨e1, e2⟩
    · exact .inl ⟨e1, e2⟩
    · exact .inr ⟨e1, bz, s, k, e2, HI4.out.below hb5⟩
theorem bin_sum (a b : Int) (l0 : -9223372036854775808 ≤ a) (u0 : a ≤ 9223372036854775807) (l1 : -9223372036854775808 ≤ b) (u1 : b ≤ 9223372036854775807) (w : World) : Calls Tryz.prog 74 #[.iface 119 (.int .i64 a), .int .i64 12, .iface 119 (.int .i64 b)] w fun e w' => ∃ v, e = .returned v ∧ Bi w' (a + b) v ∧ Below w.heap.size w w' := by
  cases ha : i63 a
  · exact bin_sum_out a b l0 u0 l1 u1 (.inl ha) w
  · cases hb : i63 b
    · exact bin_sum_out a b l0 u0 l1 u1 (.inr ⟨ha, hb⟩) w
    · exact bin_sum_in a b ha hb w
set_option maxHeartbeats 1000000 in
theorem bin_dif_in (a b : Int) (ha : i63 a = true) (hb : i63 b = true) (w : World) : Calls Tryz.prog 74 #[.iface 119 (.int .i64 a), .int .i64 13, .iface 119 (.int .i64 b)] w fun e w' => ∃ v, e = .returned v ∧ Bi w' (a - b) v ∧ Below w.heap.size w w' := by
  have h1 := ta_119_119
  have h2 := ta_119_137
  have h3 := ta_119_165
  have h4 := ta1_119
  obtain ⟨p1, p2⟩ := i63_in ha
  obtain ⟨q1, q2⟩ := i63_in hb
  go_enter Tryz.func74, Tryz.ntmps74
  go_wp2_with (go_at_call 124; refine (match_i _ _ _).mono ?_; rintro e w' ⟨rfl, rfl⟩)
  go_step3
  go_wp2_with (first | (go_at_call 124; refine (match_i _ _ _).mono ?_; rintro e w' ⟨rfl, rfl⟩) | (go_at_call 125; refine (is63_any _ _).mono ?_; rintro e w' ⟨rfl, rfl⟩; first | rw [ha] | rw [hb]))
  rw [Exit.noGoto_ret]
  go_ret
  exact ⟨_, rfl, .inl ⟨fit_in (by omega), rfl⟩, Below.refl _ _⟩
set_option maxHeartbeats 1000000 in
theorem bin_dif_out (a b : Int) (l0 : -9223372036854775808 ≤ a) (u0 : a ≤ 9223372036854775807) (l1 : -9223372036854775808 ≤ b) (u1 : b ≤ 9223372036854775807) (ha : i63 a = false ∨ (i63 a = true ∧ i63 b = false)) (w : World) : Calls Tryz.prog 74 #[.iface 119 (.int .i64 a), .int .i64 13, .iface 119 (.int .i64 b)] w fun e w' => ∃ v, e = .returned v ∧ Bi w' (a - b) v ∧ Below w.heap.size w w' := by
  have h1 := ta_119_119
  have h2 := ta_119_137
  have h3 := ta_119_165
  have h4 := ta1_119
  have HW := hid (Below.refl w.heap.size w)
  obtain ⟨bz, hbz⟩ : ∃ bz, w.heap.size = bz := ⟨_, rfl⟩
  rcases ha with ha | ⟨ha, hb⟩
  all_goals
    go_enter Tryz.func74, Tryz.ntmps74
    go_wp2_with (go_at_call 124; refine (match_i _ _ _).mono ?_; rintro e w' ⟨rfl, rfl⟩)
    go_step3
    go_wp2_with (first | (go_at_call 124; refine (match_i _ _ _).mono ?_; rintro e w' ⟨rfl, rfl⟩) | (go_at_call 125; refine (is63_any _ _).mono ?_; rintro e w' ⟨rfl, rfl⟩; first | rw [ha] | rw [hb]))
    refine (newInt_any w).mono ?_
    rintro e w1 ⟨rfl, hB, hb1⟩
    rw [hbz] at hB hb1
    rw [hbz]
    have HB := hid hB
    have HW1 := hid hb1
    have HLT := hid hB.lt
    clear hB hb1
    go_wp2_with fail
    refine (bigNewInt_any a w1 l0 u0).mono ?_
    rintro e w2 ⟨bx, rfl, hbx, hI1, hb2⟩
    have HB2 := hid (HB.out.below hb2 HB.out.lt)
    have HW2 := hid (HW1.out.trans (hb2.mono (Nat.le_of_lt HLT.out)))
    have HI1 := hid hI1
    clear hI1 hb2
    go_wp2_with fail
    refine (bigNewInt_any b w2 l1 u1).mono ?_
    rintro e w3 ⟨b2, rfl, hby, hI2, hb3⟩
    have HB3 := hid (HB2.out.below hb3 HB2.out.lt)
    have HW3 := hid (HW2.out.trans (hb3.mono (Nat.le_of_lt HB2.out.lt)))
    have HI3 := hid (HI1.out.below hb3)
    have HI2 := hid hI2
    clear hI2 hb3
    go_wp2_with fail
    refine (intSub_any bz bx b2 (decide (a < 0)) (decide (b < 0)) a.natAbs b.natAbs w3 HB3.out HI3.out HI2.out (by omega) (by omega) (by have := HLT.out; have := hbx.out; omega) (by have := HB2.out.lt; have := hby.out; omega)).mono ?_
    rintro e w4 ⟨rfl, ⟨s, k, hS, hI⟩, hb4⟩
    rw [sgn_abs, sgn_abs] at hS
    have HS4 := hid hS
    have HI4 := hid hI
    have HW4 := hid (HW3.out.trans hb4)
    clear hS hI hb4
    go_wp2_with fail
    refine (makeInt_any bz s k w4 HI4.out).mono ?_
    rintro e w5 ⟨v, rfl, hM, hb5⟩
    go_wp2_with fail
    rw [Exit.noGoto_ret]
    go_ret
    rw [HS4.out] at hM
    refine ⟨v, rfl, ?_, by rw [hbz]; exact HW4.out.trans (hb5.mono (by have := HW4.out.size; omega))⟩
    rcases hM with ⟨e1, e2⟩ | ⟨e1, e2⟩
    · exact .inl ⟨e1, e2⟩
    · exact .inr ⟨e1, bz, s, k, e2, HI4.out.below hb5⟩
theorem bin_dif (a b : Int) (l0 : -9223372036854775808 ≤ a) (u0 : a ≤ 9223372036854775807) (l1 : -9223372036854775808 ≤ b) (u1 : b ≤ 9223372036854775807) (w : World) : Calls Tryz.prog 74 #[.iface 119 (.int .i64 a), .int .i64 13, .iface 119 (.int .i64 b)] w fun e w' => ∃ v, e = .returned v ∧ Bi w' (a - b) v ∧ Below w.heap.size w w' := by
  cases ha : i63 a
  · exact bin_dif_out a b l0 u0 l1 u1 (.inl ha) w
  · cases hb : i63 b
    · exact bin_dif_out a b l0 u0 l1 u1 (.inr ⟨ha, hb⟩) w
    · exact bin_dif_in a b ha hb w
end Go.Proofs.YtocahcammjoffaaGreatDoor
namespace Go.Proofs.YtocahcammjoffaaGreatDoor
open Go.RowKit Go.Dig
set_option maxRecDepth 100000
set_option maxHeartbeats 1000000 in
theorem small_sum (a b : Int) (l0 : -9223372036854775808 ≤ a) (u0 : a ≤ 9223372036854775807) (l1 : -9223372036854775808 ≤ b) (u1 : b ≤ 9223372036854775807) (w : World) : Calls Tryz.prog 36 #[.int .i64 0, .int .i64 a, .int .i64 b] w fun e w' => ∃ z ok, e = .returned (.tuple #[.int .i64 z, .bool ok]) ∧ Hid (ok = fitI (a + b)) ∧ Hid (ok = true → z = a + b) ∧ Below w.heap.size w w' := by
  go_enter Tryz.func36, Tryz.ntmps36
  go_wp2_with fail
  refine (operator_any 0 12 (by simp) _).mono ?_
  rintro e w1 ⟨rfl, hb1⟩
  have HB1 := hid hb1
  clear hb1
  go_wp2_with (first | (go_at_call 77; refine (mk64 _ _).mono ?_; rintro e w' ⟨rfl, rfl⟩))
  refine (bin_sum a b l0 u0 l1 u1 w1).mono ?_
  rintro e w2 ⟨v, rfl, hv, hb2⟩
  have HB2 := hid (HB1.out.trans (hb2.mono HB1.out.size))
  clear hb2
  rcases hv with ⟨hf, rfl⟩ | ⟨hf, bk, s, k, rfl, hI⟩
  · have HF := hid hf
    clear hf
    go_wp2_with fail
    refine (int64Val_64 _ _).mono ?_
    rintro e w3 ⟨rfl, rfl⟩
    go_wp2_with fail
    go_ret2
    exact ⟨_, _, rfl, HF.out.symm, hid (fun _ => rfl), HB2.out⟩
  · have HF := hid hf
    have HI := hid hI
    clear hf hI
    go_wp2_with fail
    refine (int64Val_big bk s k _ HI.out).mono ?_
    rintro e w3 ⟨z, rfl, hb3⟩
    go_wp2_with fail
    go_ret2
    exact ⟨_, _, rfl, HF.out.symm, hid (fun h => absurd h (by decide)), HB2.out.trans (hb3.mono HB2.out.size)⟩
set_option maxHeartbeats 1000000 in
theorem small_dif (a b : Int) (l0 : -9223372036854775808 ≤ a) (u0 : a ≤ 9223372036854775807) (l1 : -9223372036854775808 ≤ b) (u1 : b ≤ 9223372036854775807) (w : World) : Calls Tryz.prog 36 #[.int .i64 1, .int .i64 a, .int .i64 b] w fun e w' => ∃ z ok, e = .returned (.tuple #[.int .i64 z, .bool ok]) ∧ Hid (ok = fitI (a - b)) ∧ Hid (ok = true → z = a - b) ∧ Below w.heap.size w w' := by
  go_enter Tryz.func36, Tryz.ntmps36
  go_wp2_with fail
  refine (operator_any 1 13 (by simp) _).mono ?_
  rintro e w1 ⟨rfl, hb1⟩
  have HB1 := hid hb1
  clear hb1
  go_wp2_with (first | (go_at_call 77; refine (mk64 _ _).mono ?_; rintro e w' ⟨rfl, rfl⟩))
  refine (bin_dif a b l0 u0 l1 u1 w1).mono ?_
  rintro e w2 ⟨v, rfl, hv, hb2⟩
  have HB2 := hid (HB1.out.trans (hb2.mono HB1.out.size))
  clear hb2
  rcases hv with ⟨hf, rfl⟩ | ⟨hf, bk, s, k, rfl, hI⟩
  · have HF := hid hf
    clear hf
    go_wp2_with fail
    refine (int64Val_64 _ _).mono ?_
    rintro e w3 ⟨rfl, rfl⟩
    go_wp2_with fail
    go_ret2
    exact ⟨_, _, rfl, HF.out.symm, hid (fun _ => rfl), HB2.out⟩
  · have HF := hid hf
    have HI := hid hI
    clear hf hI
    go_wp2_with fail
    refine (int64Val_big bk s k _ HI.out).mono ?_
    rintro e w3 ⟨z, rfl, hb3⟩
    go_wp2_with fail
    go_ret2
    exact ⟨_, _, rfl, HF.out.symm, hid (fun h => absurd h (by decide)), HB2.out.trans (hb3.mono HB2.out.size)⟩
end Go.Proofs.YtocahcammjoffaaGreatDoor
namespace Go.Proofs.YtocahcammjoffaaGreatDoor
open Go.RowKit Go.Dig
set_option maxRecDepth 100000
set_option maxHeartbeats 1000000 in
theorem sum_walk (a b : Int) (l0 : -9223372036854775808 ≤ a) (u0 : a ≤ 9223372036854775807) (l1 : -9223372036854775808 ≤ b) (u1 : b ≤ 9223372036854775807) (w : World) : Calls Tryz.prog 15 #[.int .i64 a, .int .i64 b] w fun e w' => e = .returned (.bool true) ∧ Below w.heap.size w w' := by
  go_enter Tryz.func15, Tryz.ntmps15
  go_wp2_with fail
  refine (small_sum a b l0 u0 l1 u1 _).mono ?_
  rintro e w1 ⟨z, ok, rfl, OK, ZZ, hb1⟩
  go_wp2_with fail
  refine (of64_h a _ l0 u0).mono ?_
  rintro e w2 ⟨sa, ma, v1, v2, rfl, SA, MA, h1, h2, hb2⟩
  obtain ⟨p1, c1, rfl⟩ := h1.shape
  obtain ⟨p2, c2, rfl⟩ := h2.shape
  have A1 := hid h1
  have A2 := hid h2
  have hba := below_next hb1 hb2
  clear h1 h2 hb1 hb2
  go_wp2_with fail
  refine (of64_h b _ l1 u1).mono ?_
  rintro e w3 ⟨sb, mb, v3, v4, rfl, SB, MB, h3, h4, hb3⟩
  obtain ⟨p3, c3, rfl⟩ := h3.shape
  obtain ⟨p4, c4, rfl⟩ := h4.shape
  have B1 := hid h3
  have B2 := hid h4
  have hbb := below_next hba hb3
  have C1 : Hid (Nt w3 _ ma) := A1.out.below hb3 (Nat.le_refl _)
  have C2 : Hid (Nt w3 _ 1) := A2.out.below hb3 (Nat.le_refl _)
  clear h3 h4 hb3 hba A1 A2
  go_wp2_with fail
  have LA : (dg 65536 ma).length ≤ 20000 := by rw [MA.out]; exact Nat.le_trans (small_len a l0 u0) (by omega)
  have LB : (dg 65536 mb).length ≤ 20000 := by rw [MB.out]; exact Nat.le_trans (small_len b l1 u1) (by omega)
  have L1 : (dg 65536 1).length ≤ 20000 := Nat.le_trans (dg_length_le (b := 65536) (k := 1) (by omega) (by omega)) (by omega)
  refine (plus_bz _ _ sa sb ma 1 mb 1 w3 ⟨_, _, rfl, C1.out, C2.out⟩ ⟨_, _, rfl, B1.out, B2.out⟩ LA L1 LB L1 (by omega) (by omega)).mono ?_
  rintro e w4 ⟨S, bz, v5, v6, rfl, HS, HBZ, hv5, hv6, hb4⟩
  rw [Nat.mul_one, Nat.gcd_one_right, Nat.div_one] at hv5
  rw [Nat.mul_one, Nat.gcd_one_right, Nat.div_one] at hv6
  obtain ⟨p5, c5, rfl⟩ := hv5.shape
  obtain ⟨p6, c6, rfl⟩ := hv6.shape
  have V5 := hid hv5
  have V6 := hid hv6
  have hbc := below_next hbb hb4
  have ES : Hid (S = a + b) := by
    rw [HS.out, SA.out, SB.out, MA.out, MB.out]
    exact sum_abs a b
  clear hv5 hv6 hb4 hbb C1 C2 B1 B2 LA LB L1
  go_wp2_with fail
  refine (fits_any z ok bz _ _ S.natAbs w4 V5.out V6.out (fun h => by rw [HBZ.out] at h; have := of_decide_eq_true h; omega) (abs_len _ (by rw [ES.out]; exact sum_bound l0 u0 l1 u1)) (by rw [HBZ.out, sgn_abs, ES.out]; exact OK.out) (fun h => by rw [HBZ.out, sgn_abs, ES.out]; exact ZZ.out h)).mono ?_
  rintro e w5 ⟨rfl, hb5⟩
  go_wp2_with fail
  go_ret
  exact ⟨rfl, below_next hbc hb5⟩
set_option maxHeartbeats 1000000 in
theorem dif_walk (a b : Int) (l0 : -9223372036854775808 ≤ a) (u0 : a ≤ 9223372036854775807) (l1 : -9223372036854775808 ≤ b) (u1 : b ≤ 9223372036854775807) (w : World) : Calls Tryz.prog 12 #[.int .i64 a, .int .i64 b] w fun e w' => e = .returned (.bool true) ∧ Below w.heap.size w w' := by
  go_enter Tryz.func12, Tryz.ntmps12
  go_wp2_with fail
  refine (small_dif a b l0 u0 l1 u1 _).mono ?_
  rintro e w1 ⟨z, ok, rfl, OK, ZZ, hb1⟩
  go_wp2_with fail
  refine (of64_h a _ l0 u0).mono ?_
  rintro e w2 ⟨sa, ma, v1, v2, rfl, SA, MA, h1, h2, hb2⟩
  obtain ⟨p1, c1, rfl⟩ := h1.shape
  obtain ⟨p2, c2, rfl⟩ := h2.shape
  have A1 := hid h1
  have A2 := hid h2
  have hba := below_next hb1 hb2
  clear h1 h2 hb1 hb2
  go_wp2_with fail
  refine (of64_h b _ l1 u1).mono ?_
  rintro e w3 ⟨sb, mb, v3, v4, rfl, SB, MB, h3, h4, hb3⟩
  obtain ⟨p3, c3, rfl⟩ := h3.shape
  obtain ⟨p4, c4, rfl⟩ := h4.shape
  have B1 := hid h3
  have B2 := hid h4
  have hbb := below_next hba hb3
  have C1 : Hid (Nt w3 _ ma) := A1.out.below hb3 (Nat.le_refl _)
  have C2 : Hid (Nt w3 _ 1) := A2.out.below hb3 (Nat.le_refl _)
  clear h3 h4 hb3 hba A1 A2
  go_wp2_with fail
  have LA : (dg 65536 ma).length ≤ 20000 := by rw [MA.out]; exact Nat.le_trans (small_len a l0 u0) (by omega)
  have LB : (dg 65536 mb).length ≤ 20000 := by rw [MB.out]; exact Nat.le_trans (small_len b l1 u1) (by omega)
  have L1 : (dg 65536 1).length ≤ 20000 := Nat.le_trans (dg_length_le (b := 65536) (k := 1) (by omega) (by omega)) (by omega)
  refine (minus_bz _ _ sa sb ma 1 mb 1 w3 ⟨_, _, rfl, C1.out, C2.out⟩ ⟨_, _, rfl, B1.out, B2.out⟩ LA L1 LB L1 (by omega) (by omega)).mono ?_
  rintro e w4 ⟨S, bz, v5, v6, rfl, HS, HBZ, hv5, hv6, hb4⟩
  rw [Nat.mul_one, Nat.gcd_one_right, Nat.div_one] at hv5
  rw [Nat.mul_one, Nat.gcd_one_right, Nat.div_one] at hv6
  obtain ⟨p5, c5, rfl⟩ := hv5.shape
  obtain ⟨p6, c6, rfl⟩ := hv6.shape
  have V5 := hid hv5
  have V6 := hid hv6
  have hbc := below_next hbb hb4
  have ES : Hid (S = a - b) := by
    rw [HS.out, SA.out, SB.out, MA.out, MB.out]
    exact dif_abs a b
  clear hv5 hv6 hb4 hbb C1 C2 B1 B2 LA LB L1
  go_wp2_with fail
  refine (fits_any z ok bz _ _ S.natAbs w4 V5.out V6.out (fun h => by rw [HBZ.out] at h; have := of_decide_eq_true h; omega) (abs_len _ (by rw [ES.out]; exact dif_bound l0 u0 l1 u1)) (by rw [HBZ.out, sgn_abs, ES.out]; exact OK.out) (fun h => by rw [HBZ.out, sgn_abs, ES.out]; exact ZZ.out h)).mono ?_
  rintro e w5 ⟨rfl, hb5⟩
  go_wp2_with fail
  go_ret
  exact ⟨rfl, below_next hbc hb5⟩
end Go.Proofs.YtocahcammjoffaaGreatDoor
