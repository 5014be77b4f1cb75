/- Walks and lemmas for the laws of this seat. -/
import Derived.Test.YtgdgklhfakplhaaGreatDoorH18
import Derived.Lib.SliceRun
namespace Go.Proofs.YtgdgklhfakplhaaGreatDoor
open Go.RowKit Go.Dig
set_option maxRecDepth 100000
/-- Zeros over zeros: the block stays as it is known. -/
theorem clear_keep {e b : Nat} {B : Nat} (hb : B ≤ b) : ∀ (n o : Nat) (w : World) (l : List Nat), BlkN .u64 e w b l → (∀ i, o ≤ i → i < o + n → l.getD i 0 = 0) → o + n ≤ l.length →
    BlkN .u64 e (w.setCells b o (List.replicate n (.int .u64 0))) b l ∧ Below B w (w.setCells b o (List.replicate n (.int .u64 0)))
  | 0, _, w, _, h, _, _ => ⟨h, Below.refl _ _⟩
  | n + 1, o, w, l, h, hz, hl => by
    rw [List.replicate_succ, World.setCells]
    have h1 := h.put o 0
    have e1 : l.set o 0 = l := by
      have h0 := hz o (Nat.le_refl _) (by omega)
      apply List.ext_getElem (by simp)
      intro i hi1 hi2
      rw [List.getElem_set]
      split
      · rename_i he
        subst he
        rw [List.getD_eq_getElem?_getD, List.getElem?_eq_getElem hi2] at h0
        exact h0.symm
      · rfl
    rw [e1] at h1
    have h2 := clear_keep hb n (o + 1) (w.setCell ⟨b, o, none⟩ (.int .u64 ((0 : Nat) : Int))) l h1 (fun i hi hi2 => hz i (by omega) (by omega)) (by omega)
    exact ⟨h2.1, ((Below.refl _ _).setCell hb _).trans h2.2⟩
theorem run_clear84 (b n c : Nat) (w : World) (l : List Nat) (e : TypeId) (h : BlkN .u64 e w b l) (hl : n ≤ l.length) :
    (Builtin.clear_ #[118] 0 #[.slice (some ⟨b, 0, none⟩) n c]).run Tryz.prog w = .ok (.tuple #[]) (w.setCells b 0 (List.replicate n (.int .u64 0))) := by
  rcases Nat.eq_zero_or_pos n with h0 | h0
  · subst h0
    simp [Builtin.clear_, run_underlying Tryz.underlying118, World.setCells]
  · refine Go.Lib.run_clear_slice (P := Tryz.prog) w 118 181 0 (.int .u64 0) Tryz.underlying118 (by intro w; kernel_rfl) rfl rfl b 0 n c h0 ?_ ?_
    · intro j hj
      rw [Nat.zero_add, h.at (by omega)]
      rfl
    · intro j hj
      rw [Nat.zero_add]
      exact Blk.frozen h j
/-- The words of a shifted word. -/
abbrev shw (K lo hi : Nat) : List Nat := ((List.replicate (K + 2 + 4) 0).set K lo).set (1 + K) hi
theorem shw_eq (K lo hi : Nat) : shw K lo hi = (List.replicate K 0 ++ [lo, hi]) ++ [0, 0, 0, 0] := by
  unfold shw
  rw [show List.replicate (K + 2 + 4) 0 = List.replicate K 0 ++ [0, 0, 0, 0, 0, 0] by rw [Nat.add_assoc, ← List.replicate_append_replicate]; rfl]
  rw [List.set_append_right _ _ (by simp), List.set_append_right _ _ (by simp)]
  simp
theorem shw_take (K lo hi : Nat) : (shw K lo hi).take (K + 2) = List.replicate K 0 ++ [lo, hi] := by
  rw [shw_eq, List.take_left' (by simp)]
theorem shw_zero {K lo hi i : Nat} (h : i < K) : (shw K lo hi).getD i 0 = 0 := by
  rw [shw_eq, List.getD_eq_getElem?_getD, List.append_assoc, List.getElem?_append_left (by simpa using h)]
  simp [h]
theorem shw_dg {K m lo hi r : Nat} (hlo : lo = m * 2 ^ r % 18446744073709551616) (hhi : hi = m * 2 ^ r / 18446744073709551616) (hh : hi < 18446744073709551616) :
    trim ((shw K lo hi).take (K + 2)) = dg 18446744073709551616 (m * 2 ^ (64 * K + r)) := by
  have hd : ∀ d ∈ (shw K lo hi).take (K + 2), d < 18446744073709551616 := by
    rw [shw_take]
    intro d hd
    simp only [List.mem_append, List.mem_replicate, List.mem_cons, List.not_mem_nil, or_false] at hd
    rcases hd with ⟨_, rfl⟩ | rfl | rfl
    · omega
    · omega
    · exact hh
  rw [trim_eq (by omega) hd, shw_take, val_append, val_replicate, List.length_replicate]
  have e : val 18446744073709551616 [lo, hi] = m * 2 ^ r := by
    simp only [val]
    omega
  rw [e, Nat.zero_add, show (18446744073709551616 : Nat) ^ K = 2 ^ (64 * K) by rw [Nat.pow_mul], Nat.pow_add]
  congr 1
  rw [Nat.mul_left_comm]
set_option maxHeartbeats 400000 in
theorem natMake_gt (a : Option Addr) (l c k : Nat) (hc : c < k) (hk : 1 < k) (hk2 : k < 1000) (w : World) : Calls Tryz.prog 106 #[.slice a l c, .int .i64 k] w fun e w' => e = .returned (.slice (some ⟨w.heap.size, 0, none⟩) k (k + 4)) ∧ w' = w.alloc (.cells (cs .u64 (List.replicate (k + 4) 0)).toArray 181) := by
  have hmk := make_words k (k + 4) (by omega) (by omega)
  have ec : ((k + 4 : Nat) : Int) = (k : Int) + 4 := by omega
  rw [ec] at hmk
  go_enter Tryz.func106, Tryz.ntmps106
  go_wp2_with fail
  go_ret
  rw [cs_zeros]
  exact ⟨rfl, rfl⟩
theorem shr_word {m r : Nat} (hm : m < 18446744073709551616) (h0 : 0 < r) (h1 : r < 64) : m / 2 ^ (64 - r) = m * 2 ^ r / 18446744073709551616 ∧ m / 2 ^ (64 - r) < 18446744073709551616 := by
  constructor
  · rw [show (18446744073709551616 : Nat) = 2 ^ (64 - r) * 2 ^ r by rw [← Nat.pow_add, show 64 - r + r = 64 by omega]]
    rw [Nat.mul_div_mul_right _ _ (Nat.two_pow_pos r)]
  · exact Nat.lt_of_le_of_lt (Nat.div_le_self _ _) hm
set_option maxHeartbeats 400000 in
theorem lsh_one (b m s : Nat) (hm : m < 18446744073709551616) (_hm0 : m ≠ 0) (hs0 : 0 < s) (hs : s < 2000) (w : World) (hB : BlkN .u64 181 w b [m]) : Calls Tryz.prog 110 #[.slice (some ⟨b, 0, none⟩) 1 1, .slice (some ⟨b, 0, none⟩) 1 1, .int .u64 s] w fun e w' => ∃ v, e = .returned v ∧ Nw w' v (m * 2 ^ s) ∧ Below w.heap.size w w' := by
  have hs1 : ((s : Int) == 0) = false := by simp; omega
  obtain ⟨K, hK⟩ : ∃ K, Hid (K = s / 64) := ⟨_, rfl⟩
  obtain ⟨r, hr⟩ : ∃ r, Hid (r = s % 64) := ⟨_, rfl⟩
  have HM := fun W => natMake_gt (some ⟨b, 0, none⟩) 1 1 (K + 2) (by omega) (by omega) (by have := hK.out; omega) W
  have e1 : ((K + 2 : Nat) : Int) = 1 + (K : Int) + 1 := by omega
  rw [e1] at HM
  have hq : (s : Int) / 64 = (K : Int) := by have := hK.out; omega
  have hr2 : (s : Int) % 64 = (r : Int) := by have := hr.out; omega
  have hr3 : r < 64 := by have := hr.out; omega
  have HB := hid hB
  have HM1 := hid hm
  clear hB e1
  have hK3 : K < 100 := by have := hK.out; omega
  rcases Nat.eq_zero_or_pos r with h0 | h0
  · subst h0
    simp only [Int.natCast_zero] at hr2
    go_enter Tryz.func110, Tryz.ntmps110
    go_wp2_with fail
    refine (HM _).mono ?_
    rintro e w1 ⟨rfl, hw1⟩
    have hBz : BlkN .u64 181 w1 w.heap.size (List.replicate (K + 2 + 4) 0) := by rw [hw1]; exact blk_new w _ 181
    have HB1 : Hid (Below w.heap.size w w1) := by rw [hw1]; exact (Below.refl _ _).alloc (Nat.le_refl _) _
    have hb1 : BlkN .u64 181 w1 b [m] := HB.out.below HB1.out HB.out.lt
    have HNE : Hid (b ≠ w.heap.size) := hid (by have := HB.out.lt; omega)
    clear hw1 HM
    have hk1 := hb1.at (i := 0) (by simp)
    simp only [List.getD_cons_zero] at hk1
    have hc0 := hBz.at (i := K) (by simp; omega)
    have hfr := Blk.frozen hBz K
    have hcp : (Builtin.copy_ #[118, 118] 3 #[.slice (some ⟨w.heap.size, K, none⟩) 1 (K + 2 + 4 - K), .slice (some ⟨b, 0, none⟩) 1 1]).run Tryz.prog w1 = .ok (.int .i64 1) (w1.setCell ⟨w.heap.size, K, none⟩ (.int .u64 (m : Int))) := by
      refine run_copy_cells (P := Tryz.prog) w1 118 118 3 181 w.heap.size K 1 (K + 2 + 4 - K) ⟨b, 0, none⟩ 1 1 [.int .u64 (m : Int)] Tryz.underlying118 (by kernel_rfl) rfl ?_ ?_ ?_ ?_
      · intro j v hj
        match j, hj with
        | 0, hj =>
          simp at hj
          subst hj
          exact hk1
      · intro j hj
        simp at hj
        subst hj
        simpa using (by rw [hc0]; rfl : (w1.cell? ⟨w.heap.size, K, none⟩).isSome = true)
      · intro j hj
        simp at hj
        subst hj
        exact hfr
      · intro v hv
        simp at hv
        subst hv
        rfl
    have hB2 : BlkN .u64 181 (w1.setCell ⟨w.heap.size, K, none⟩ (.int .u64 (m : Int))) w.heap.size ((List.replicate (K + 2 + 4) 0).set K m) := hBz.put K m
    have HB2 : Hid (Below w.heap.size w (w1.setCell ⟨w.heap.size, K, none⟩ (.int .u64 (m : Int)))) := HB1.out.setCell (Nat.le_refl _) _
    generalize w1.setCell ⟨w.heap.size, K, none⟩ (.int .u64 (m : Int)) = w2 at *
    have HBZ := hid hB2
    have hc1 := hB2.at (i := 1 + K) (by simp; omega)
    have hf1 := Blk.frozen hB2 (1 + K)
    have HB3 : Hid (BlkN .u64 181 (w2.setCell ⟨w.heap.size, 1 + K, none⟩ (.int .u64 0)) w.heap.size (shw K m 0)) := hB2.put (1 + K) 0
    have HX3 : Hid (Below w.heap.size w (w2.setCell ⟨w.heap.size, 1 + K, none⟩ (.int .u64 0))) := HB2.out.setCell (Nat.le_refl _) _
    have hcl := run_clear84 w.heap.size K (K + 2 + 4) (w2.setCell ⟨w.heap.size, 1 + K, none⟩ (.int .u64 0)) _ 181 HB3.out (by simp; omega)
    obtain ⟨hB4, hb4⟩ := clear_keep (B := w.heap.size) (Nat.le_refl _) K 0 (w2.setCell ⟨w.heap.size, 1 + K, none⟩ (.int .u64 0)) _ HB3.out (fun i _ h => shw_zero (by omega)) (by simp; omega)
    have HB4 := hid hB4
    have HX4 := hid (HX3.out.trans hb4)
    clear hB4 hb4 hB2
    focus go_wp2_with fail
    generalize ((w2.setCell ⟨w.heap.size, 1 + K, none⟩ (.int .u64 0)).setCells w.heap.size 0 (List.replicate K (.int .u64 0))) = w4 at *
    have hR := BlkN.rt HB4.out (cap := K + 2 + 4) (by simp) (by omega)
    have hR2 := Rt.take (m := K + 2) hR (by simp)
    refine (norm_any _ _ _ hR2).mono ?_
    rintro e w5 ⟨v, rfl, hv, rfl⟩
    go_wp2_with fail
    go_ret
    refine ⟨_, rfl, ?_, HX4.out⟩
    rw [shw_dg (m := m) (r := 0) (by have := HM1.out; simp; omega) (by have := HM1.out; simp; omega) (by omega)] at hv
    rw [show s = 64 * K + 0 by have := hK.out; have := hr.out; omega]
    exact hv
  · have hr0 : ((r : Int) == 0) = false := by simp; omega
    go_enter Tryz.func110, Tryz.ntmps110
    go_wp2_with fail
    refine (HM _).mono ?_
    rintro e w1 ⟨rfl, hw1⟩
    have hBz : BlkN .u64 181 w1 w.heap.size (List.replicate (K + 2 + 4) 0) := by rw [hw1]; exact blk_new w _ 181
    have HB1 : Hid (Below w.heap.size w w1) := by rw [hw1]; exact (Below.refl _ _).alloc (Nat.le_refl _) _
    have hb1 : BlkN .u64 181 w1 b [m] := HB.out.below HB1.out HB.out.lt
    have HNE : Hid (b ≠ w.heap.size) := hid (by have := HB.out.lt; omega)
    have HBz := hid hBz
    have hk1 := hb1.at (i := 0) (by simp)
    simp only [List.getD_cons_zero] at hk1
    have HK1 := hid hk1
    clear hw1 HM hb1 hBz hk1
    focus go_wp2_with fail
    refine (lshVU_one w.heap.size K _ b m r h0 hr3 w1 HK1.out ⟨_, HBz.out.at (i := K) (by simp; omega)⟩ (Blk.frozen HBz.out K) (fun h => HNE.out h.symm)).mono ?_
    rintro e w2 ⟨rfl, hw2⟩
    have HH := hid (shr_word HM1.out h0 hr3)
    obtain ⟨lo, hlo⟩ : ∃ lo, Hid (lo = m * 2 ^ r % 18446744073709551616) := ⟨_, rfl⟩
    obtain ⟨hi, hhi⟩ : ∃ hi, Hid (hi = m / 2 ^ (64 - r)) := ⟨_, rfl⟩
    rw [← hlo.out] at hw2
    rw [← hhi.out]
    rw [← hhi.out] at HH
    have hB2 : BlkN .u64 181 w2 w.heap.size ((List.replicate (K + 2 + 4) 0).set K lo) := by rw [hw2]; exact HBz.out.put K lo
    have HB2 : Hid (Below w.heap.size w w2) := by rw [hw2]; exact HB1.out.setCell (Nat.le_refl _) _
    clear hw2
    have hc1 := hB2.at (i := 1 + K) (by simp; omega)
    have hf1 := Blk.frozen hB2 (1 + K)
    have HB3 : Hid (BlkN .u64 181 (w2.setCell ⟨w.heap.size, 1 + K, none⟩ (.int .u64 (hi : Int))) w.heap.size (shw K lo hi)) := hB2.put (1 + K) hi
    have HX3 : Hid (Below w.heap.size w (w2.setCell ⟨w.heap.size, 1 + K, none⟩ (.int .u64 (hi : Int)))) := HB2.out.setCell (Nat.le_refl _) _
    have hcl := run_clear84 w.heap.size K (K + 2 + 4) (w2.setCell ⟨w.heap.size, 1 + K, none⟩ (.int .u64 (hi : Int))) _ 181 HB3.out (by simp; omega)
    obtain ⟨hB4, hb4⟩ := clear_keep (B := w.heap.size) (Nat.le_refl _) K 0 (w2.setCell ⟨w.heap.size, 1 + K, none⟩ (.int .u64 (hi : Int))) _ HB3.out (fun i _ h => shw_zero (by omega)) (by simp; omega)
    have HB4 := hid hB4
    have HX4 := hid (HX3.out.trans hb4)
    clear hB4 hb4 hB2
    focus go_wp2_with fail
    generalize ((w2.setCell ⟨w.heap.size, 1 + K, none⟩ (.int .u64 (hi : Int))).setCells w.heap.size 0 (List.replicate K (.int .u64 0))) = w4 at *
    have hR := BlkN.rt HB4.out (cap := K + 2 + 4) (by simp) (by omega)
    have hR2 := Rt.take (m := K + 2) hR (by simp)
    refine (norm_any _ _ _ hR2).mono ?_
    rintro e w5 ⟨v, rfl, hv, rfl⟩
    go_wp2_with fail
    go_ret
    refine ⟨_, rfl, ?_, HX4.out⟩
    rw [shw_dg (m := m) (r := r) (hlo.out) (HH.out.1) (HH.out.2)] at hv
    rw [show s = 64 * K + r by have := hK.out; have := hr.out; omega]
    exact hv
end Go.Proofs.YtgdgklhfakplhaaGreatDoor
namespace Go.Proofs.YtgdgklhfakplhaaGreatDoor
open Go.RowKit Go.Dig
set_option maxRecDepth 100000
/-- A word in a block of its own, made behind B; 0 is nothing. -/
def Wd (w : World) (B : Nat) (v : Value) (x : Nat) : Prop := (x = 0 ∧ v = .slice none 0 0) ∨ (x ≠ 0 ∧ ∃ g, B ≤ g ∧ v = .slice (some ⟨g, 0, none⟩) 1 1 ∧ BlkN .u64 181 w g [x])
theorem Wd.nw {w : World} {B : Nat} {v : Value} {x : Nat} (h : Wd w B v x) (hx : x < 18446744073709551616) : Nw w v x := by
  rcases h with ⟨rfl, rfl⟩ | ⟨h0, g, _, rfl, hg⟩
  · rw [Nw, dg_zero]; exact Rt.nil _ _ _
  · have hr := BlkN.rt hg (cap := 1) (by simp) (by omega)
    rw [Nw, dg_one (by omega) hx]
    exact hr
set_option maxHeartbeats 400000 in
theorem setWord_wd (x : Nat) (w : World) : Calls Tryz.prog 121 #[.slice none 0 0, .int .u64 x] w fun e w' => ∃ v, e = .returned v ∧ Wd w' w.heap.size v x ∧ Below w.heap.size w w' := by
  rcases Nat.eq_zero_or_pos x with h | h
  · subst h
    go_enter Tryz.func121, Tryz.ntmps121
    go_wp2_with fail
    go_ret
    exact ⟨_, rfl, .inl ⟨rfl, rfl⟩, Below.refl _ _⟩
  · have hx0 : ((x : Int) == 0) = false := by simp; omega
    go_enter Tryz.func121, Tryz.ntmps121
    go_wp2_with fail
    refine (natMake_one _).mono ?_
    rintro e w' ⟨rfl, rfl⟩
    have hB : BlkN .u64 181 (w.alloc (.cells (cs .u64 [0]).toArray 181)) w.heap.size [0] := blk_new w _ 181
    have hb : Below w.heap.size w (w.alloc (.cells (cs .u64 [0]).toArray 181)) := (Below.refl _ _).alloc (Nat.le_refl _) _
    have HB := hid hB
    have Hb := hid hb
    have hc := hB.at (i := 0) (by simp)
    have hf := Blk.frozen hB 0
    clear hB hb
    generalize w.alloc (.cells (cs .u64 [0]).toArray 181) = w1 at *
    go_wp2_with fail
    go_ret
    exact ⟨_, rfl, .inr ⟨by omega, w.heap.size, Nat.le_refl _, rfl, HB.out.put 0 x⟩, Hb.out.setCell (Nat.le_refl _) _⟩
set_option maxHeartbeats 400000 in
theorem setUint64_wd (x : Nat) (w : World) : Calls Tryz.prog 98 #[.slice none 0 0, .int .u64 x] w fun e w' => ∃ v, e = .returned v ∧ Wd w' w.heap.size v x ∧ Below w.heap.size w w' := by
  go_enter Tryz.func98, Tryz.ntmps98
  go_wp2_with fail
  refine (setWord_wd x _).mono ?_
  rintro e w' ⟨v, rfl, hv, hb⟩
  go_wp2_with fail
  go_ret
  exact ⟨_, rfl, hv, hb⟩
/-- What a big number's two cells hold behind a call. -/
def Put (w : World) (b o : Nat) (w' : World) (s : Bool) (v : Value) : Prop := ∃ w1, Below w.heap.size w w1 ∧ w' = (w1.setCell ⟨b, o + 1, none⟩ v).setCell ⟨b, o, none⟩ (.bool s)
set_option maxHeartbeats 400000 in
theorem intSetU_new (b o x : Nat) (s0 : Bool) (w : World) (h0 : w.cell? ⟨b, o, none⟩ = some (.bool s0)) (h1 : w.cell? ⟨b, o + 1, none⟩ = some (.slice none 0 0)) (f0 : w.frozen? ⟨b, o, none⟩ = false) (f1 : w.frozen? ⟨b, o + 1, none⟩ = false) :
    Calls Tryz.prog 92 #[.pointer (some ⟨b, o, none⟩), .int .u64 x] w fun e w' => e = .returned (.pointer (some ⟨b, o, none⟩)) ∧ ∃ v w1, Below w.heap.size w w1 ∧ Wd w1 w.heap.size v x ∧ w' = (w1.setCell ⟨b, o + 1, none⟩ v).setCell ⟨b, o, none⟩ (.bool false) := by
  go_enter Tryz.func92, Tryz.ntmps92
  go_wp2_with fail
  refine (setUint64_wd x _).mono ?_
  rintro e w1 ⟨v, rfl, hv, hb⟩
  have hl := World.block_lt_of_cell? w _ h0
  have k0 := (hb.cell (p := ⟨b, o, none⟩) hl).trans h0
  have k1 := (hb.cell (p := ⟨b, o + 1, none⟩) hl).trans h1
  have g0 := (hb.frozen (p := ⟨b, o, none⟩) hl).trans f0
  have g1 := (hb.frozen (p := ⟨b, o + 1, none⟩) hl).trans f1
  have HV := hid hv
  have HB := hid hb
  clear h0 h1 f0 f1 hb hl
  obtain ⟨a, l, c, rfl⟩ : ∃ a l c, v = .slice a l c := by
    rcases hv with ⟨_, rfl⟩ | ⟨_, g, _, rfl, _⟩ <;> exact ⟨_, _, _, rfl⟩
  clear hv
  have k2 : (w1.setCell ⟨b, o + 1, none⟩ (.slice a l c)).cell? ⟨b, o, none⟩ = some (.bool s0) := by
    rw [World.cell?_setCell_other]
    · exact k0
    · intro h; injection h with _ h _; omega
  have g2 : (w1.setCell ⟨b, o + 1, none⟩ (.slice a l c)).frozen? ⟨b, o, none⟩ = false := by simpa using g0
  go_wp2_with fail
  go_ret
  exact ⟨rfl, _, w1, HB.out, HV.out, rfl⟩
end Go.Proofs.YtgdgklhfakplhaaGreatDoor
