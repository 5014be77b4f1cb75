/- Walks and lemmas for the laws of this seat. -/
import Derived.Test.YtocahcammjoffaaGreatDoorS5
namespace Go.Proofs.YtocahcammjoffaaGreatDoor
open Go.RowKit Go.Dig
set_option maxRecDepth 100000
/-- A number with a sign. -/
def sgn (neg : Bool) (n : Nat) : Int := if neg = true then -(n : Int) else n
/-- Whether an integer is one of 64 bits. -/
def fitI (x : Int) : Bool := decide (-9223372036854775808 ≤ x ∧ x ≤ 9223372036854775807)
theorem ret_fit {z z' : Int} {f f' : Bool} (h1 : z = z') (h2 : f = f') : Ending.returned (.tuple #[.int .i64 z, .bool f]) = .returned (.tuple #[.int .i64 z', .bool f']) := by rw [h1, h2]
theorem fit_pos_neg {n : Nat} {z : Int} (ez : z = wrap64 n) (h : z < 0) : false = fitI (sgn false n) := by
  unfold wrap64 at ez
  unfold fitI sgn
  simp
  omega
theorem fit_pos {n : Nat} {z : Int} (ez : z = wrap64 n) (h : 0 ≤ z) : (cmpI z.natAbs n == 0) = fitI (sgn false n) := by
  unfold wrap64 at ez
  unfold fitI sgn cmpI
  by_cases h1 : z.natAbs = n
  · rw [if_neg (by omega), if_pos h1]; simp; omega
  · by_cases h2 : z.natAbs < n
    · rw [if_pos h2]; simp; omega
    · rw [if_neg h2, if_neg h1]; simp; omega
theorem fit_neg_pos {n : Nat} {z : Int} (ez : z = wrap64 (-wrap64 n)) (hn : n ≠ 0) (h : 0 ≤ z) : false = fitI (sgn true n) := by
  unfold wrap64 at ez
  unfold fitI sgn
  simp
  omega
theorem fit_neg {n : Nat} {z : Int} (ez : z = wrap64 (-wrap64 n)) (h : z < 0) : (cmpI z.natAbs n == 0) = fitI (sgn true n) := by
  unfold wrap64 at ez
  unfold fitI sgn cmpI
  by_cases h1 : z.natAbs = n
  · rw [if_neg (by omega), if_pos h1]; simp; omega
  · by_cases h2 : z.natAbs < n
    · rw [if_pos h2]; simp; omega
    · rw [if_neg h2, if_neg h1]; simp; omega
theorem wrap_neg_wrap (n : Nat) : wrap64 (-wrap64 n) = wrap64 (-(n : Int)) := by unfold wrap64; omega
set_option maxHeartbeats 1000000 in
theorem int64_any (neg : Bool) (vn vd : Value) (n : Nat) (w : World) (hn : Nt w vn n) (hneg : neg = true → n ≠ 0) (hl : (dg 65536 n).length ≤ 100000) :
    Calls Tryz.prog 22 #[.agg #[.bool neg, vn, vd]] w fun e w' => e = .returned (.tuple #[.int .i64 (wrap64 (sgn neg n)), .bool (fitI (sgn neg n))]) ∧ Below w.heap.size w w' := by
  have HR := hid hn
  have HNEG := hid hneg
  clear hneg
  obtain ⟨a, cap, rfl, h1, h2, h3⟩ := hn
  have HA := hid h3
  clear h3
  go_enter Tryz.func22, Tryz.ntmps22
  go_wp2_with fail
  go_loop [4, 5] (fun x y => ∃ (m : Nat) (z : Int), x = .int .i64 z ∧ y = .int .i64 ((m : Int) - 1) ∧ m ≤ (dg 65536 n).length ∧ Hid (z = wrap64 (n / 65536 ^ m : Nat))) (fun _ y => (intOf y + 1).toNat)
  case atStart =>
    refine ⟨_, 0, rfl, rfl, Nat.le_refl _, ?_⟩
    rw [Nat.div_eq_of_lt (lt_pow_dg_length (by omega) n)]
    exact hid (by simp [wrap64])
  case round =>
    obtain ⟨m, z, rfl, rfl, hm, hz⟩ := hrel
    rcases Nat.eq_zero_or_pos m with h0 | h0
    · subst h0
      have ez : Hid (z = wrap64 n) := hid (by have := hz.out; rw [Nat.pow_zero, Nat.div_one] at this; exact this)
      clear hz
      have hzr : -9223372036854775808 ≤ z ∧ z ≤ 9223372036854775807 := by rw [ez.out]; unfold wrap64; omega
      obtain ⟨hzl, hzh⟩ := hzr
      cases neg with
      | false =>
        have hB0 := blk_new w #[.bool false, .slice a (dg 65536 n).length cap, vd] 31
        rcases Int.lt_or_le z 0 with hz0 | hz0
        · go_wp2_with fail
          refine (of64_any z _ hzl hzh).mono ?_
          rintro e w1 ⟨v1, v2, rfl, hv1, hv2, hb1⟩
          obtain ⟨a1, c1, rfl⟩ := hv1.shape
          obtain ⟨a2, c2, rfl⟩ := hv2.shape
          have hB1 := hB0.below hb1 hB0.lt
          obtain ⟨q0, q1, q2, q3, q4, q5⟩ := hB1.three
          have hlt := hB1.lt
          have hbb : Below w.heap.size w w1 := ((Below.refl w.heap.size w).alloc (Nat.le_refl _) _).trans (hb1.mono (by simp))
          go_wp2_with fail
          go_ret2
          exact ⟨ret_fit ez.out (fit_pos_neg ez.out hz0), hbb.alloc hbb.size _⟩
        · have hz1 : decide (z < 0) = false := by simpa using hz0
          go_wp2_with fail
          refine (of64_any z _ hzl hzh).mono ?_
          rintro e w1 ⟨v1, v2, rfl, hv1, hv2, hb1⟩
          obtain ⟨a1, c1, rfl⟩ := hv1.shape
          obtain ⟨a2, c2, rfl⟩ := hv2.shape
          have hB1 := hB0.below hb1 hB0.lt
          obtain ⟨q0, q1, q2, q3, q4, q5⟩ := hB1.three
          have hlt := hB1.lt
          have hbb : Below w.heap.size w w1 := ((Below.refl w.heap.size w).alloc (Nat.le_refl _) _).trans (hb1.mono (by simp))
          go_wp2_with fail
          refine (cmp_any _ _ z.natAbs n _ (hv1.below ((Below.refl _ _).alloc (Nat.le_refl _) _) (Nat.le_refl _)) (((HR.out.below ((Below.refl _ _).alloc (Nat.le_refl _) _) (Nat.le_refl _)).below hb1 (by simp)).below ((Below.refl _ _).alloc (Nat.le_refl _) _) (Nat.le_refl _))).mono ?_
          rintro e w2 ⟨nd, rfl, rfl⟩
          go_wp2_with fail
          go_ret2
          exact ⟨ret_fit ez.out (fit_pos ez.out hz0), (hbb.alloc hbb.size _).drewN nd⟩
      | true =>
        have hB0 := blk_new w #[.bool true, .slice a (dg 65536 n).length cap, vd] 31
        obtain ⟨y, hy⟩ : ∃ y, y = wrap64 (-z) := ⟨_, rfl⟩
        have hyz : wrap64 (-z) = y := hy.symm
        have ey : Hid (y = wrap64 (-wrap64 n)) := hid (by rw [hy, ez.out])
        have hzr : -9223372036854775808 ≤ y ∧ y ≤ 9223372036854775807 := by rw [hy]; unfold wrap64; omega
        clear hy hzl hzh
        obtain ⟨hzl, hzh⟩ := hzr
        rcases Int.lt_or_le y 0 with hz0 | hz0
        · go_wp2_with fail
          refine (of64_any y _ hzl hzh).mono ?_
          rintro e w1 ⟨v1, v2, rfl, hv1, hv2, hb1⟩
          obtain ⟨a1, c1, rfl⟩ := hv1.shape
          obtain ⟨a2, c2, rfl⟩ := hv2.shape
          have hB1 := hB0.below hb1 hB0.lt
          obtain ⟨q0, q1, q2, q3, q4, q5⟩ := hB1.three
          have hlt := hB1.lt
          have hbb : Below w.heap.size w w1 := ((Below.refl w.heap.size w).alloc (Nat.le_refl _) _).trans (hb1.mono (by simp))
          go_wp2_with fail
          refine (cmp_any _ _ y.natAbs n _ (hv1.below ((Below.refl _ _).alloc (Nat.le_refl _) _) (Nat.le_refl _)) (((HR.out.below ((Below.refl _ _).alloc (Nat.le_refl _) _) (Nat.le_refl _)).below hb1 (by simp)).below ((Below.refl _ _).alloc (Nat.le_refl _) _) (Nat.le_refl _))).mono ?_
          rintro e w2 ⟨nd, rfl, rfl⟩
          go_wp2_with fail
          go_ret2
          exact ⟨ret_fit (by rw [ey.out]; exact wrap_neg_wrap n) (fit_neg ey.out hz0), (hbb.alloc hbb.size _).drewN nd⟩
        · have hz1 : decide (y < 0) = false := by simpa using hz0
          go_wp2_with fail
          refine (of64_any y _ hzl hzh).mono ?_
          rintro e w1 ⟨v1, v2, rfl, hv1, hv2, hb1⟩
          obtain ⟨a1, c1, rfl⟩ := hv1.shape
          obtain ⟨a2, c2, rfl⟩ := hv2.shape
          have hB1 := hB0.below hb1 hB0.lt
          obtain ⟨q0, q1, q2, q3, q4, q5⟩ := hB1.three
          have hlt := hB1.lt
          have hbb : Below w.heap.size w w1 := ((Below.refl w.heap.size w).alloc (Nat.le_refl _) _).trans (hb1.mono (by simp))
          go_wp2_with fail
          go_ret2
          exact ⟨ret_fit (by rw [ey.out]; exact wrap_neg_wrap n) (fit_neg_pos ey.out (HNEG.out (by simp)) hz0), hbb.alloc hbb.size _⟩
    · obtain ⟨k, rfl⟩ : ∃ k, m = k + 1 := ⟨m - 1, by omega⟩
      obtain ⟨b, off, rfl, _, hb⟩ := HA.out (by omega)
      have hk := hb k (by omega)
      clear hb
      have hk2 : ∀ o, (w.alloc o).cell? ⟨b, off + k, none⟩ = some (.int .i64 ((dg 65536 n).getD k 0 : Nat)) := fun o => by rw [World.cell?_alloc_lt _ _ _ (World.block_lt_of_cell? w _ hk)]; exact hk
      clear hk
      have hd : (dg 65536 n).getD k 0 = n / 65536 ^ k % 65536 := dg_getD (by omega) n k
      generalize (dg 65536 n).getD k 0 = d at hk2 hd
      have HD := hid hd
      clear hd
      have ek : ((k + 1 : Nat) : Int) - 1 = (k : Int) := by omega
      rw [ek]
      go_wp2_with fail
      go_round
      case rel =>
        refine ⟨k, _, rfl, rfl, by omega, hid ?_⟩
        have e1 := Nat.div_add_mod (n / 65536 ^ k) 65536
        rw [Nat.div_div_eq_div_mul, ← Nat.pow_succ] at e1
        have e2 := HD.out
        have e3 := hz.out
        generalize n / 65536 ^ k = y at e1 e2
        generalize n / 65536 ^ (k + 1) = u at e1 e3
        subst e3
        subst e2
        unfold wrap64
        omega
      case measure => simp [intOf]
end Go.Proofs.YtocahcammjoffaaGreatDoor
