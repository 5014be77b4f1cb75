/- Walks and lemmas for the laws of this seat. -/
import Derived.Test.YtocahcammjoffaaGreatDoorN9
import Derived.Laws.IdiomCopy
namespace Go.Proofs.YtocahcammjoffaaGreatDoor
open Go.RowKit Go.Dig
set_option maxRecDepth 100000
set_option maxHeartbeats 400000 in
theorem nset_one (vx : Value) (m : Nat) (w : World) (hx : Nw w vx m) (hm : 0 < m) (hm1 : m < 18446744073709551616) :
    Calls Tryz.prog 168 #[.slice none 0 0, vx] w fun e w' => ∃ v, e = .returned v ∧ Nw w' v m ∧ Below w.heap.size w w' := by
  have HX := hid hx
  obtain ⟨ax, cx, ex, h1, h2, h3⟩ := hx
  rw [dg_one hm hm1] at ex h1 h3
  subst ex
  obtain ⟨b, off, rfl, _, hc⟩ := h3 (by simp)
  have hk := hc 0 (by simp)
  simp only [List.getD_cons_zero, Nat.add_zero] at hk
  clear h3 hc
  go_enter Tryz.func168, Tryz.ntmps168
  go_wp2_with fail
  refine (natMake_one w).mono ?_
  rintro e w1 ⟨rfl, hw1⟩
  have hBz : BlkN .u64 158 w1 w.heap.size [0] := by rw [hw1]; exact blk_new w _ 158
  have hb1 : Below w.heap.size w w1 := by rw [hw1]; exact (Below.refl _ _).alloc (Nat.le_refl _) _
  have hk1 := (hb1.cell (World.block_lt_of_cell? w _ hk)).trans hk
  clear hw1
  have hc0 := hBz.at (i := 0) (by simp)
  have hfr := Blk.frozen hBz 0
  have hcp : (Builtin.copy_ #[198, 198] 3 #[.slice (some ⟨w.heap.size, 0, none⟩) 1 1, .slice (some ⟨b, off, none⟩) 1 cx]).run Tryz.prog w1 = .ok (.int .i64 1) (w1.setCell ⟨w.heap.size, 0, none⟩ (.int .u64 (m : Int))) := by
    refine run_copy_cells (P := Tryz.prog) w1 198 198 3 158 w.heap.size 0 1 1 ⟨b, off, none⟩ 1 cx [.int .u64 (m : Int)] Tryz.underlying198 (by kernel_rfl) rfl ?_ ?_ ?_ ?_
    · intro j v hj
      match j, hj with
      | 0, hj =>
        simp at hj
        subst hj
        exact hk1
    · intro j hj
      simp at hj
      subst hj
      simpa using (by rw [hc0]; rfl : (w1.cell? ⟨w.heap.size, 0, none⟩).isSome = true)
    · intro j hj
      simp at hj
      subst hj
      exact hfr
    · intro v hv
      simp at hv
      subst hv
      rfl
  have hB4 : BlkN .u64 158 (w1.setCell ⟨w.heap.size, 0, none⟩ (.int .u64 (m : Int))) w.heap.size [m] := hBz.put 0 m
  have hb4 : Below w.heap.size w (w1.setCell ⟨w.heap.size, 0, none⟩ (.int .u64 (m : Int))) := hb1.setCell (Nat.le_refl _) _
  generalize w1.setCell ⟨w.heap.size, 0, none⟩ (.int .u64 (m : Int)) = w2 at *
  have HB4 := hid hB4
  clear hB4 hk1 hc0 hfr
  go_wp2_with fail
  go_ret
  refine ⟨_, rfl, ?_, hb4⟩
  show Rt 158 .u64 w2 (.slice (some ⟨w.heap.size, 0, none⟩) 1 1) (dg 18446744073709551616 m)
  rw [dg_one hm hm1]
  exact HB4.out.rt (cap := 1) (by simp) (by omega)
set_option maxHeartbeats 400000 in
theorem nadd_00 (w : World) (vx vy : Value) (hx : Nw w vx 0) (hy : Nw w vy 0) :
    Calls Tryz.prog 206 #[.slice none 0 0, vx, vy] w fun e w' => ∃ v, e = .returned v ∧ Nw w' v 0 ∧ Below w.heap.size w w' := by
  obtain ⟨ax, cx, rfl⟩ := hx.shape
  obtain ⟨ay, cy, rfl⟩ := hy.shape
  rw [dg_zero, List.length_nil]
  clear hx hy
  go_enter Tryz.func206, Tryz.ntmps206
  go_wp2_with fail
  go_ret
  exact ⟨_, rfl, by show Rt 158 .u64 w (.slice none 0 0) (dg 18446744073709551616 0); rw [dg_zero]; exact Rt.nil _ _ _, Below.refl _ _⟩
set_option maxHeartbeats 400000 in
theorem nadd_10 (w : World) (vx vy : Value) (m : Nat) (hx : Nw w vx m) (hy : Nw w vy 0) (hm : 0 < m) (hm1 : m < 18446744073709551616) :
    Calls Tryz.prog 206 #[.slice none 0 0, vx, vy] w fun e w' => ∃ v, e = .returned v ∧ Nw w' v m ∧ Below w.heap.size w w' := by
  have HX := hid hx
  obtain ⟨ax, cx, ex⟩ := hx.shape
  obtain ⟨ay, cy, ey⟩ := hy.shape
  rw [dg_one hm hm1] at ex
  rw [dg_zero] at ey
  subst ex ey
  clear hx hy
  go_enter Tryz.func206, Tryz.ntmps206
  go_wp2_with fail
  refine (nset_one _ m w HX.out hm hm1).mono ?_
  rintro e w1 ⟨v, rfl, hv, hb⟩
  go_wp2_with fail
  go_ret
  exact ⟨_, rfl, hv, hb⟩
set_option maxHeartbeats 400000 in
theorem nadd_01 (w : World) (vx vy : Value) (n : Nat) (hx : Nw w vx 0) (hy : Nw w vy n) (hn : 0 < n) (hn1 : n < 18446744073709551616) :
    Calls Tryz.prog 206 #[.slice none 0 0, vx, vy] w fun e w' => ∃ v, e = .returned v ∧ Nw w' v n ∧ Below w.heap.size w w' := by
  have HY := hid hy
  have HX := hid hx
  obtain ⟨ax, cx, ex⟩ := hx.shape
  obtain ⟨ay, cy, ey⟩ := hy.shape
  rw [dg_zero] at ex
  rw [dg_one hn hn1] at ey
  subst ex ey
  clear hx hy
  go_enter Tryz.func206, Tryz.ntmps206
  go_wp2_with fail
  refine (nadd_10 w _ _ n HY.out HX.out hn hn1).mono ?_
  rintro e w1 ⟨v, rfl, hv, hb⟩
  go_wp2_with fail
  go_ret
  exact ⟨_, rfl, hv, hb⟩
theorem nadd_small (w : World) (vx vy : Value) (m n : Nat) (hx : Nw w vx m) (hy : Nw w vy n) (hm1 : m < 18446744073709551616) (hn1 : n < 18446744073709551616) :
    Calls Tryz.prog 206 #[.slice none 0 0, vx, vy] w fun e w' => ∃ v, e = .returned v ∧ Nw w' v (m + n) ∧ Below w.heap.size w w' := by
  rcases Nat.eq_zero_or_pos m with h | h <;> rcases Nat.eq_zero_or_pos n with h' | h'
  · subst h h'; exact nadd_00 w vx vy hx hy
  · subst h; rw [Nat.zero_add]; exact nadd_01 w vx vy n hx hy h' hn1
  · subst h'; rw [Nat.add_zero]; exact nadd_10 w vx vy m hx hy h hm1
  · exact nadd_11 vx vy m n w hx hy h hm1 h' hn1
end Go.Proofs.YtocahcammjoffaaGreatDoor
