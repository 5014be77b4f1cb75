/- Walks and lemmas for the laws of this seat. -/
import Derived.Test.YtocahcammjoffaaGreatDoorS3
namespace Go.Proofs.YtocahcammjoffaaGreatDoor
open Go.RowKit Go.Dig
set_option maxRecDepth 100000
set_option maxHeartbeats 400000 in
theorem whole_core (neg : Bool) (v : Value) (n : Nat) (w : World) (h : Nt w v n) :
    Calls Tryz.prog 34 #[.bool neg, v] w fun e w' => ∃ v1 v2, e = .returned (.agg #[.bool (neg && decide (0 < (dg 65536 n).length)), v1, v2]) ∧ Nt w' v1 n ∧ Nt w' v2 1 ∧ Below w.heap.size w w' := by
  have HR := hid h
  obtain ⟨a, cap, rfl, hn, hcap, hc⟩ := h
  clear hc
  cases neg with
  | true =>
    go_enter Tryz.func34, Tryz.ntmps34
    go_wp2_with fail
    refine (small_any 1 _ (by omega)).mono ?_
    rintro e w1 ⟨v1, rfl, hv1, hb1⟩
    obtain ⟨a1, c1, rfl⟩ := hv1.shape
    obtain ⟨hc, hf⟩ := bcell hb1
    have hz : w.heap.size + 1 ≤ w1.heap.size := by have := hb1.size; simp at this; omega
    go_wp2_with fail
    refine bodyPost_ret (v := .agg #[.bool (decide (0 < (dg 65536 n).length)), .slice a (dg 65536 n).length cap, .slice a1 (dg 65536 1).length c1]) (by simp [results, Tryz.results34, go_sem, hc]) rfl ⟨_, _, rfl, ?_, ?_, ?_⟩
    · exact Rt.fill3 ((HR.out.below ((Below.refl _ _).alloc (Nat.le_refl _) _) (Nat.le_refl _)).below hb1 (by simp)) (by simpa using hb1) (by decide) _ _ _
    · exact hv1.fill3 (by simpa using hb1) (by decide) _ _ _
    · exact fill3 (by simpa using hb1) _ _ _
  | false =>
    go_enter Tryz.func34, Tryz.ntmps34
    go_wp2_with fail
    refine (small_any 1 _ (by omega)).mono ?_
    rintro e w1 ⟨v1, rfl, hv1, hb1⟩
    obtain ⟨a1, c1, rfl⟩ := hv1.shape
    obtain ⟨hc, hf⟩ := bcell hb1
    have hz : w.heap.size + 1 ≤ w1.heap.size := by have := hb1.size; simp at this; omega
    go_wp2_with fail
    refine bodyPost_ret (v := .agg #[.bool false, .slice a (dg 65536 n).length cap, .slice a1 (dg 65536 1).length c1]) (by simp [results, Tryz.results34, go_sem, hc]) rfl ⟨_, _, rfl, ?_, ?_, ?_⟩
    · exact Rt.fill3 ((HR.out.below ((Below.refl _ _).alloc (Nat.le_refl _) _) (Nat.le_refl _)).below hb1 (by simp)) (by simpa using hb1) (by decide) _ _ _
    · exact hv1.fill3 (by simpa using hb1) (by decide) _ _ _
    · exact fill3 (by simpa using hb1) _ _ _
theorem whole_any (neg : Bool) (v : Value) (n : Nat) (w : World) (h : Nt w v n) :
    Calls Tryz.prog 34 #[.bool neg, v] w fun e w' => ∃ v1 v2, e = .returned (.agg #[.bool (neg && decide (n ≠ 0)), v1, v2]) ∧ Nt w' v1 n ∧ Nt w' v2 1 ∧ Below w.heap.size w w' := by
  rw [← dg_len_pos]; exact whole_core neg v n w h
theorem rd_one {k : IntKind} {w : World} {e : TypeId} {x : Int} {n b : Nat} (hb : b = w.heap.size) (h : x = (n : Int)) : Rd k (w.alloc (.cells #[.int k x] e)) (.slice (some ⟨b, 0, none⟩) 1 1) [n] := by
  subst h
  subst hb
  refine ⟨_, 1, rfl, by simp, by omega, fun _ => ⟨w.heap.size, 0, rfl, fun i hi => ?_⟩⟩
  simp at hi; subst hi
  rw [World.cell?_alloc_new]; rfl
theorem u64_neg (n : Nat) (h0 : 0 < n) (h1 : n ≤ 9223372036854775808) : IntKind.u64.wrap (-IntKind.u64.wrap (-(n : Int))) = (n : Int) := by
  rw [IntKind.wrap_u64, IntKind.wrap_u64]; omega
set_option maxHeartbeats 400000 in
theorem of64_neg (n : Nat) (w : World) (h0 : 0 < n) (h1 : n ≤ 9223372036854775808) :
    Calls Tryz.prog 39 #[.int .i64 (-(n : Int))] w fun e w' => ∃ v1 v2, e = .returned (.agg #[.bool true, v1, v2]) ∧ Nt w' v1 n ∧ Nt w' v2 1 ∧ Below w.heap.size w w' := by
  have hw := u64_neg n h0 h1
  have hx : (-(n : Int)) < 0 := by omega
  go_enter Tryz.func39, Tryz.ntmps39
  go_wp2_with fail
  have hB0 := (blk_new w #[.bool false, .slice none 0 0, .slice none 0 0] 31).alloc (.cells #[.int .u64 (n : Int)] 44)
  refine (of_any _ [n] _ (rd_one (by simp) rfl) (by simp; omega) (by simp)).mono ?_
  rintro e w1 ⟨v1, rfl, hv1, hb1⟩
  obtain ⟨a1, c1, rfl⟩ := hv1.shape
  have hB1 := hB0.below hb1 hB0.lt
  go_wp2_with fail
  refine (small_any 1 _ (by omega)).mono ?_
  rintro e w2 ⟨v2, rfl, hv2, hb2⟩
  obtain ⟨a2, c2, rfl⟩ := hv2.shape
  have hB2 := hB1.below hb2 hB1.lt
  obtain ⟨q0, q1, q2, q3, q4, q5⟩ := hB2.three
  go_wp2_with fail
  refine bodyPost_ret (v := .agg #[.bool true, .slice a1 (dg 65536 (val 18446744073709551616 [n])).length c1, .slice a2 (dg 65536 1).length c2]) (by simp [results, Tryz.results39, go_sem, q0, q1, q2]) rfl ⟨_, _, rfl, ?_, ?_, ?_⟩
  · have := (hv1.below hb2 (Nat.le_refl _)).set3 hB2 (by decide)
    simpa [val] using this _ _ _
  · exact hv2.set3 hB2 (by decide) _ _ _
  · have h1 : Below w.heap.size w ((w.alloc (.cells #[.bool false, .slice none 0 0, .slice none 0 0] 31)).alloc (.cells #[.int .u64 (n : Int)] 44)) := ((Below.refl _ _).alloc (Nat.le_refl _) _).alloc (by simp) _
    exact below_set3 ((h1.trans (hb1.mono h1.size)).trans (hb2.mono (Nat.le_trans h1.size hb1.size))) (Nat.le_refl _) _ _ _
set_option maxHeartbeats 400000 in
theorem of64_pos (n : Nat) (w : World) (h1 : n ≤ 9223372036854775807) :
    Calls Tryz.prog 39 #[.int .i64 (n : Int)] w fun e w' => ∃ v1 v2, e = .returned (.agg #[.bool false, v1, v2]) ∧ Nt w' v1 n ∧ Nt w' v2 1 ∧ Below w.heap.size w w' := by
  have hx : ¬ (n : Int) < 0 := by omega
  go_enter Tryz.func39, Tryz.ntmps39
  go_wp2_with fail
  have hB0 := (blk_new w #[.bool false, .slice none 0 0, .slice none 0 0] 31).alloc (.cells #[.int .u64 (n : Int)] 44)
  refine (of_any _ [n] _ (rd_one (by simp) rfl) (by simp; omega) (by simp)).mono ?_
  rintro e w1 ⟨v1, rfl, hv1, hb1⟩
  obtain ⟨a1, c1, rfl⟩ := hv1.shape
  have hB1 := hB0.below hb1 hB0.lt
  go_wp2_with fail
  refine (small_any 1 _ (by omega)).mono ?_
  rintro e w2 ⟨v2, rfl, hv2, hb2⟩
  obtain ⟨a2, c2, rfl⟩ := hv2.shape
  have hB2 := hB1.below hb2 hB1.lt
  obtain ⟨q0, q1, q2, q3, q4, q5⟩ := hB2.three
  go_wp2_with fail
  refine bodyPost_ret (v := .agg #[.bool false, .slice a1 (dg 65536 (val 18446744073709551616 [n])).length c1, .slice a2 (dg 65536 1).length c2]) (by simp [results, Tryz.results39, go_sem, q0, q1, q2]) rfl ⟨_, _, rfl, ?_, ?_, ?_⟩
  · have := (hv1.below hb2 (Nat.le_refl _)).set3 hB2 (by decide)
    simpa [val] using this _ _ _
  · exact hv2.set3 hB2 (by decide) _ _ _
  · have h1 : Below w.heap.size w ((w.alloc (.cells #[.bool false, .slice none 0 0, .slice none 0 0] 31)).alloc (.cells #[.int .u64 (n : Int)] 44)) := ((Below.refl _ _).alloc (Nat.le_refl _) _).alloc (by simp) _
    exact below_set3 ((h1.trans (hb1.mono h1.size)).trans (hb2.mono (Nat.le_trans h1.size hb1.size))) (Nat.le_refl _) _ _ _
theorem of64_any (x : Int) (w : World) (h0 : -9223372036854775808 ≤ x) (h1 : x ≤ 9223372036854775807) :
    Calls Tryz.prog 39 #[.int .i64 x] w fun e w' => ∃ v1 v2, e = .returned (.agg #[.bool (decide (x < 0)), v1, v2]) ∧ Nt w' v1 x.natAbs ∧ Nt w' v2 1 ∧ Below w.heap.size w w' := by
  rcases Int.lt_or_le x 0 with hx | hx
  · obtain ⟨n, rfl⟩ : ∃ n : Nat, x = -(n : Int) := ⟨x.natAbs, by omega⟩
    have e1 : decide (-(n : Int) < 0) = true := by simpa using hx
    have e2 : (-(n : Int)).natAbs = n := by omega
    rw [e1, e2]
    exact of64_neg n w (by omega) (by omega)
  · obtain ⟨n, rfl⟩ : ∃ n : Nat, x = (n : Int) := ⟨x.natAbs, by omega⟩
    have e1 : decide ((n : Int) < 0) = false := by simp
    have e2 : (n : Int).natAbs = n := by omega
    rw [e1, e2]
    exact of64_pos n w (by omega)
end Go.Proofs.YtocahcammjoffaaGreatDoor
