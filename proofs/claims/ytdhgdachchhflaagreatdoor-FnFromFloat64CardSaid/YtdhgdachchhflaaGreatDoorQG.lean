/- Shifted words, Set, division by a word. -/
import Derived.Test.YtdhgdachchhflaaGreatDoorQE
import Derived.Lib.SliceRun
import Derived.Test.YtdhgdachchhflaaGreatDoorQF
import Derived.Test.YtdhgdachchhflaaGreatDoorQB
namespace Go.Proofs.YtdhgdachchhflaaGreatDoor
open Go.RowKit Go.Dig
set_option maxRecDepth 100000
/-- Zeros over zeros: the block stays as it is known. -/
theorem clear_keep {e b : Nat} {B : Nat} (hb : B ≤ b) : ∀ (n o : Nat) (w : World) (l : List Nat), BlkN .u64 e w b l → (∀ i, o ≤ i → i < o + n → l.getD i 0 = 0) → o + n ≤ l.length →
    BlkN .u64 e (w.setCells b o (List.replicate n (.int .u64 0))) b l ∧ Below B w (w.setCells b o (List.replicate n (.int .u64 0)))
  | 0, _, w, _, h, _, _ => ⟨h, Below.refl _ _⟩
  | n + 1, o, w, l, h, hz, hl => by
    rw [List.replicate_succ, World.setCells]
    have h1 := h.put o 0
    have e1 : l.set o 0 = l := by
      have h0 := hz o (Nat.le_refl _) (by omega)
      apply List.ext_getElem (by simp)
      intro i hi1 hi2
      rw [List.getElem_set]
      split
      · rename_i he
        subst he
        rw [List.getD_eq_getElem?_getD, List.getElem?_eq_getElem hi2] at h0
        exact h0.symm
      · rfl
    rw [e1] at h1
    have h2 := clear_keep hb n (o + 1) (w.setCell ⟨b, o, none⟩ (.int .u64 ((0 : Nat) : Int))) l h1 (fun i hi hi2 => hz i (by omega) (by omega)) (by omega)
    exact ⟨h2.1, ((Below.refl _ _).setCell hb _).trans h2.2⟩
theorem run_clear84 (b n c : Nat) (w : World) (l : List Nat) (e : TypeId) (h : BlkN .u64 e w b l) (hl : n ≤ l.length) :
    (Builtin.clear_ #[84] 0 #[.slice (some ⟨b, 0, none⟩) n c]).run Tryz.prog w = .ok (.tuple #[]) (w.setCells b 0 (List.replicate n (.int .u64 0))) := by
  rcases Nat.eq_zero_or_pos n with h0 | h0
  · subst h0
    simp [Builtin.clear_, run_underlying Tryz.underlying84, World.setCells]
  · refine Go.Lib.run_clear_slice (P := Tryz.prog) w 84 136 0 (.int .u64 0) Tryz.underlying84 (by intro w; kernel_rfl) rfl rfl b 0 n c h0 ?_ ?_
    · intro j hj
      rw [Nat.zero_add, h.at (by omega)]
      rfl
    · intro j hj
      rw [Nat.zero_add]
      exact Blk.frozen h j
/-- The words of a shifted word. -/
abbrev shw (K lo hi : Nat) : List Nat := ((List.replicate (K + 2 + 4) 0).set K lo).set (1 + K) hi
theorem shw_eq (K lo hi : Nat) : shw K lo hi = (List.replicate K 0 ++ [lo, hi]) ++ [0, 0, 0, 0] := by
  unfold shw
  rw [show List.replicate (K + 2 + 4) 0 = List.replicate K 0 ++ [0, 0, 0, 0, 0, 0] by rw [Nat.add_assoc, ← List.replicate_append_replicate]; rfl]
  rw [List.set_append_right _ _ (by simp), List.set_append_right _ _ (by simp)]
  simp
theorem shw_take (K lo hi : Nat) : (shw K lo hi).take (K + 2) = List.replicate K 0 ++ [lo, hi] := by
  rw [shw_eq, List.take_left' (by simp)]
theorem shw_zero {K lo hi i : Nat} (h : i < K) : (shw K lo hi).getD i 0 = 0 := by
  rw [shw_eq, List.getD_eq_getElem?_getD, List.append_assoc, List.getElem?_append_left (by simpa using h)]
  simp [h]
theorem shw_dg {K m lo hi r : Nat} (hlo : lo = m * 2 ^ r % 18446744073709551616) (hhi : hi = m * 2 ^ r / 18446744073709551616) (hh : hi < 18446744073709551616) :
    trim ((shw K lo hi).take (K + 2)) = dg 18446744073709551616 (m * 2 ^ (64 * K + r)) := by
  have hd : ∀ d ∈ (shw K lo hi).take (K + 2), d < 18446744073709551616 := by
    rw [shw_take]
    intro d hd
    simp only [List.mem_append, List.mem_replicate, List.mem_cons, List.not_mem_nil, or_false] at hd
    rcases hd with ⟨_, rfl⟩ | rfl | rfl
    · omega
    · omega
    · exact hh
  rw [trim_eq (by omega) hd, shw_take, val_append, val_replicate, List.length_replicate]
  have e : val 18446744073709551616 [lo, hi] = m * 2 ^ r := by
    simp only [val]
    omega
  rw [e, Nat.zero_add, show (18446744073709551616 : Nat) ^ K = 2 ^ (64 * K) by rw [Nat.pow_mul], Nat.pow_add]
  congr 1
  rw [Nat.mul_left_comm]
set_option maxHeartbeats 400000 in
theorem natMake_gt (a : Option Addr) (l c k : Nat) (hc : c < k) (hk : 1 < k) (hk2 : k < 1000) (w : World) : Calls Tryz.prog 82 #[.slice a l c, .int .i64 k] w fun e w' => e = .returned (.slice (some ⟨w.heap.size, 0, none⟩) k (k + 4)) ∧ w' = w.alloc (.cells (cs .u64 (List.replicate (k + 4) 0)).toArray 136) := by
  have hmk := make_words k (k + 4) (by omega) (by omega)
  have ec : ((k + 4 : Nat) : Int) = (k : Int) + 4 := by omega
  rw [ec] at hmk
  go_enter Tryz.func82, Tryz.ntmps82
  go_wp2_with fail
  go_ret
  rw [cs_zeros]
  exact ⟨rfl, rfl⟩
theorem shr_word {m r : Nat} (hm : m < 18446744073709551616) (h0 : 0 < r) (h1 : r < 64) : m / 2 ^ (64 - r) = m * 2 ^ r / 18446744073709551616 ∧ m / 2 ^ (64 - r) < 18446744073709551616 := by
  constructor
  · rw [show (18446744073709551616 : Nat) = 2 ^ (64 - r) * 2 ^ r by rw [← Nat.pow_add, show 64 - r + r = 64 by omega]]
    rw [Nat.mul_div_mul_right _ _ (Nat.two_pow_pos r)]
  · exact Nat.lt_of_le_of_lt (Nat.div_le_self _ _) hm
set_option maxHeartbeats 400000 in
theorem lsh_one (b m s : Nat) (hm : m < 18446744073709551616) (_hm0 : m ≠ 0) (hs0 : 0 < s) (hs : s < 2000) (w : World) (hB : BlkN .u64 136 w b [m]) : Calls Tryz.prog 68 #[.slice (some ⟨b, 0, none⟩) 1 1, .slice (some ⟨b, 0, none⟩) 1 1, .int .u64 s] w fun e w' => ∃ v, e = .returned v ∧ Nw w' v (m * 2 ^ s) ∧ Below w.heap.size w w' := by
  have hs1 : ((s : Int) == 0) = false := by simp; omega
  obtain ⟨K, hK⟩ : ∃ K, Hid (K = s / 64) := ⟨_, rfl⟩
  obtain ⟨r, hr⟩ : ∃ r, Hid (r = s % 64) := ⟨_, rfl⟩
  have HM := fun W => natMake_gt (some ⟨b, 0, none⟩) 1 1 (K + 2) (by omega) (by omega) (by have := hK.out; omega) W
  have e1 : ((K + 2 : Nat) : Int) = 1 + (K : Int) + 1 := by omega
  rw [e1] at HM
  have hq : (s : Int) / 64 = (K : Int) := by have := hK.out; omega
  have hr2 : (s : Int) % 64 = (r : Int) := by have := hr.out; omega
  have hr3 : r < 64 := by have := hr.out; omega
  have HB := hid hB
  have HM1 := hid hm
  clear hB e1
  have hK3 : K < 100 := by have := hK.out; omega
  rcases Nat.eq_zero_or_pos r with h0 | h0
  · subst h0
    simp only [Int.natCast_zero] at hr2
    go_enter Tryz.func68, Tryz.ntmps68
    go_wp2_with fail
    refine (HM _).mono ?_
    rintro e w1 ⟨rfl, hw1⟩
    have hBz : BlkN .u64 136 w1 w.heap.size (List.replicate (K + 2 + 4) 0) := by rw [hw1]; exact blk_new w _ 136
    have HB1 : Hid (Below w.heap.size w w1) := by rw [hw1]; exact (Below.refl _ _).alloc (Nat.le_refl _) _
    have hb1 : BlkN .u64 136 w1 b [m] := HB.out.below HB1.out HB.out.lt
    have HNE : Hid (b ≠ w.heap.size) := hid (by have := HB.out.lt; omega)
    clear hw1 HM
    have hk1 := hb1.at (i := 0) (by simp)
    simp only [List.getD_cons_zero] at hk1
    have hc0 := hBz.at (i := K) (by simp; omega)
    have hfr := Blk.frozen hBz K
    have hcp : (Builtin.copy_ #[84, 84] 3 #[.slice (some ⟨w.heap.size, K, none⟩) 1 (K + 2 + 4 - K), .slice (some ⟨b, 0, none⟩) 1 1]).run Tryz.prog w1 = .ok (.int .i64 1) (w1.setCell ⟨w.heap.size, K, none⟩ (.int .u64 (m : Int))) := by
      refine run_copy_cells (P := Tryz.prog) w1 84 84 3 136 w.heap.size K 1 (K + 2 + 4 - K) ⟨b, 0, none⟩ 1 1 [.int .u64 (m : Int)] Tryz.underlying84 (by kernel_rfl) rfl ?_ ?_ ?_ ?_
      · intro j v hj
        match j, hj with
        | 0, hj =>
          simp at hj
          subst hj
          exact hk1
      · intro j hj
        simp at hj
        subst hj
        simpa using (by rw [hc0]; rfl : (w1.cell? ⟨w.heap.size, K, none⟩).isSome = true)
      · intro j hj
        simp at hj
        subst hj
        exact hfr
      · intro v hv
        simp at hv
        subst hv
        rfl
    have hB2 : BlkN .u64 136 (w1.setCell ⟨w.heap.size, K, none⟩ (.int .u64 (m : Int))) w.heap.size ((List.replicate (K + 2 + 4) 0).set K m) := hBz.put K m
    have HB2 : Hid (Below w.heap.size w (w1.setCell ⟨w.heap.size, K, none⟩ (.int .u64 (m : Int)))) := HB1.out.setCell (Nat.le_refl _) _
    generalize w1.setCell ⟨w.heap.size, K, none⟩ (.int .u64 (m : Int)) = w2 at *
    have HBZ := hid hB2
    have hc1 := hB2.at (i := 1 + K) (by simp; omega)
    have hf1 := Blk.frozen hB2 (1 + K)
    have HB3 : Hid (BlkN .u64 136 (w2.setCell ⟨w.heap.size, 1 + K, none⟩ (.int .u64 0)) w.heap.size (shw K m 0)) := hB2.put (1 + K) 0
    have HX3 : Hid (Below w.heap.size w (w2.setCell ⟨w.heap.size, 1 + K, none⟩ (.int .u64 0))) := HB2.out.setCell (Nat.le_refl _) _
    have hcl := run_clear84 w.heap.size K (K + 2 + 4) (w2.setCell ⟨w.heap.size, 1 + K, none⟩ (.int .u64 0)) _ 136 HB3.out (by simp; omega)
    obtain ⟨hB4, hb4⟩ := clear_keep (B := w.heap.size) (Nat.le_refl _) K 0 (w2.setCell ⟨w.heap.size, 1 + K, none⟩ (.int .u64 0)) _ HB3.out (fun i _ h => shw_zero (by omega)) (by simp; omega)
    have HB4 := hid hB4
    have HX4 := hid (HX3.out.trans hb4)
    clear hB4 hb4 hB2
    focus go_wp2_with fail
    generalize ((w2.setCell ⟨w.heap.size, 1 + K, none⟩ (.int .u64 0)).setCells w.heap.size 0 (List.replicate K (.int .u64 0))) = w4 at *
    have hR := BlkN.rt HB4.out (cap := K + 2 + 4) (by simp) (by omega)
    have hR2 := Rt.take (m := K + 2) hR (by simp)
    refine (norm_any _ _ _ hR2).mono ?_
    rintro e w5 ⟨v, rfl, hv, rfl⟩
    go_wp2_with fail
    go_ret
    refine ⟨_, rfl, ?_, HX4.out⟩
    rw [shw_dg (m := m) (r := 0) (by have := HM1.out; simp; omega) (by have := HM1.out; simp; omega) (by omega)] at hv
    rw [show s = 64 * K + 0 by have := hK.out; have := hr.out; omega]
    exact hv
  · have hr0 : ((r : Int) == 0) = false := by simp; omega
    go_enter Tryz.func68, Tryz.ntmps68
    go_wp2_with fail
    refine (HM _).mono ?_
    rintro e w1 ⟨rfl, hw1⟩
    have hBz : BlkN .u64 136 w1 w.heap.size (List.replicate (K + 2 + 4) 0) := by rw [hw1]; exact blk_new w _ 136
    have HB1 : Hid (Below w.heap.size w w1) := by rw [hw1]; exact (Below.refl _ _).alloc (Nat.le_refl _) _
    have hb1 : BlkN .u64 136 w1 b [m] := HB.out.below HB1.out HB.out.lt
    have HNE : Hid (b ≠ w.heap.size) := hid (by have := HB.out.lt; omega)
    have HBz := hid hBz
    have hk1 := hb1.at (i := 0) (by simp)
    simp only [List.getD_cons_zero] at hk1
    have HK1 := hid hk1
    clear hw1 HM hb1 hBz hk1
    focus go_wp2_with fail
    refine (lshVU_one w.heap.size K _ b m r h0 hr3 w1 HK1.out ⟨_, HBz.out.at (i := K) (by simp; omega)⟩ (Blk.frozen HBz.out K) (fun h => HNE.out h.symm)).mono ?_
    rintro e w2 ⟨rfl, hw2⟩
    have HH := hid (shr_word HM1.out h0 hr3)
    obtain ⟨lo, hlo⟩ : ∃ lo, Hid (lo = m * 2 ^ r % 18446744073709551616) := ⟨_, rfl⟩
    obtain ⟨hi, hhi⟩ : ∃ hi, Hid (hi = m / 2 ^ (64 - r)) := ⟨_, rfl⟩
    rw [← hlo.out] at hw2
    rw [← hhi.out]
    rw [← hhi.out] at HH
    have hB2 : BlkN .u64 136 w2 w.heap.size ((List.replicate (K + 2 + 4) 0).set K lo) := by rw [hw2]; exact HBz.out.put K lo
    have HB2 : Hid (Below w.heap.size w w2) := by rw [hw2]; exact HB1.out.setCell (Nat.le_refl _) _
    clear hw2
    have hc1 := hB2.at (i := 1 + K) (by simp; omega)
    have hf1 := Blk.frozen hB2 (1 + K)
    have HB3 : Hid (BlkN .u64 136 (w2.setCell ⟨w.heap.size, 1 + K, none⟩ (.int .u64 (hi : Int))) w.heap.size (shw K lo hi)) := hB2.put (1 + K) hi
    have HX3 : Hid (Below w.heap.size w (w2.setCell ⟨w.heap.size, 1 + K, none⟩ (.int .u64 (hi : Int)))) := HB2.out.setCell (Nat.le_refl _) _
    have hcl := run_clear84 w.heap.size K (K + 2 + 4) (w2.setCell ⟨w.heap.size, 1 + K, none⟩ (.int .u64 (hi : Int))) _ 136 HB3.out (by simp; omega)
    obtain ⟨hB4, hb4⟩ := clear_keep (B := w.heap.size) (Nat.le_refl _) K 0 (w2.setCell ⟨w.heap.size, 1 + K, none⟩ (.int .u64 (hi : Int))) _ HB3.out (fun i _ h => shw_zero (by omega)) (by simp; omega)
    have HB4 := hid hB4
    have HX4 := hid (HX3.out.trans hb4)
    clear hB4 hb4 hB2
    focus go_wp2_with fail
    generalize ((w2.setCell ⟨w.heap.size, 1 + K, none⟩ (.int .u64 (hi : Int))).setCells w.heap.size 0 (List.replicate K (.int .u64 0))) = w4 at *
    have hR := BlkN.rt HB4.out (cap := K + 2 + 4) (by simp) (by omega)
    have hR2 := Rt.take (m := K + 2) hR (by simp)
    refine (norm_any _ _ _ hR2).mono ?_
    rintro e w5 ⟨v, rfl, hv, rfl⟩
    go_wp2_with fail
    go_ret
    refine ⟨_, rfl, ?_, HX4.out⟩
    rw [shw_dg (m := m) (r := r) (hlo.out) (HH.out.1) (HH.out.2)] at hv
    rw [show s = 64 * K + r by have := hK.out; have := hr.out; omega]
    exact hv
end Go.Proofs.YtdhgdachchhflaaGreatDoor
namespace Go.Proofs.YtdhgdachchhflaaGreatDoor
open Go.RowKit Go.Dig
set_option maxRecDepth 100000
/-- A word in a block of its own, made behind B; 0 is nothing. -/
def Wd (w : World) (B : Nat) (v : Value) (x : Nat) : Prop := (x = 0 ∧ v = .slice none 0 0) ∨ (x ≠ 0 ∧ ∃ g, B ≤ g ∧ v = .slice (some ⟨g, 0, none⟩) 1 1 ∧ BlkN .u64 136 w g [x])
theorem Wd.nw {w : World} {B : Nat} {v : Value} {x : Nat} (h : Wd w B v x) (hx : x < 18446744073709551616) : Nw w v x := by
  rcases h with ⟨rfl, rfl⟩ | ⟨h0, g, _, rfl, hg⟩
  · rw [Nw, dg_zero]; exact Rt.nil _ _ _
  · have hr := BlkN.rt hg (cap := 1) (by simp) (by omega)
    rw [Nw, dg_one (by omega) hx]
    exact hr
set_option maxHeartbeats 400000 in
theorem setWord_wd (x : Nat) (w : World) : Calls Tryz.prog 75 #[.slice none 0 0, .int .u64 x] w fun e w' => ∃ v, e = .returned v ∧ Wd w' w.heap.size v x ∧ Below w.heap.size w w' := by
  rcases Nat.eq_zero_or_pos x with h | h
  · subst h
    go_enter Tryz.func75, Tryz.ntmps75
    go_wp2_with fail
    go_ret
    exact ⟨_, rfl, .inl ⟨rfl, rfl⟩, Below.refl _ _⟩
  · have hx0 : ((x : Int) == 0) = false := by simp; omega
    go_enter Tryz.func75, Tryz.ntmps75
    go_wp2_with fail
    refine (natMake_one _).mono ?_
    rintro e w' ⟨rfl, rfl⟩
    have hB : BlkN .u64 136 (w.alloc (.cells (cs .u64 [0]).toArray 136)) w.heap.size [0] := blk_new w _ 136
    have hb : Below w.heap.size w (w.alloc (.cells (cs .u64 [0]).toArray 136)) := (Below.refl _ _).alloc (Nat.le_refl _) _
    have HB := hid hB
    have Hb := hid hb
    have hc := hB.at (i := 0) (by simp)
    have hf := Blk.frozen hB 0
    clear hB hb
    generalize w.alloc (.cells (cs .u64 [0]).toArray 136) = w1 at *
    go_wp2_with fail
    go_ret
    exact ⟨_, rfl, .inr ⟨by omega, w.heap.size, Nat.le_refl _, rfl, HB.out.put 0 x⟩, Hb.out.setCell (Nat.le_refl _) _⟩
set_option maxHeartbeats 400000 in
theorem setUint64_wd (x : Nat) (w : World) : Calls Tryz.prog 52 #[.slice none 0 0, .int .u64 x] w fun e w' => ∃ v, e = .returned v ∧ Wd w' w.heap.size v x ∧ Below w.heap.size w w' := by
  go_enter Tryz.func52, Tryz.ntmps52
  go_wp2_with fail
  refine (setWord_wd x _).mono ?_
  rintro e w' ⟨v, rfl, hv, hb⟩
  go_wp2_with fail
  go_ret
  exact ⟨_, rfl, hv, hb⟩
/-- What a big number's two cells hold behind a call. -/
def Put (w : World) (b o : Nat) (w' : World) (s : Bool) (v : Value) : Prop := ∃ w1, Below w.heap.size w w1 ∧ w' = (w1.setCell ⟨b, o + 1, none⟩ v).setCell ⟨b, o, none⟩ (.bool s)
set_option maxHeartbeats 400000 in
theorem intSetU_new (b o x : Nat) (s0 : Bool) (w : World) (h0 : w.cell? ⟨b, o, none⟩ = some (.bool s0)) (h1 : w.cell? ⟨b, o + 1, none⟩ = some (.slice none 0 0)) (f0 : w.frozen? ⟨b, o, none⟩ = false) (f1 : w.frozen? ⟨b, o + 1, none⟩ = false) :
    Calls Tryz.prog 45 #[.pointer (some ⟨b, o, none⟩), .int .u64 x] w fun e w' => e = .returned (.pointer (some ⟨b, o, none⟩)) ∧ ∃ v w1, Below w.heap.size w w1 ∧ Wd w1 w.heap.size v x ∧ w' = (w1.setCell ⟨b, o + 1, none⟩ v).setCell ⟨b, o, none⟩ (.bool false) := by
  go_enter Tryz.func45, Tryz.ntmps45
  go_wp2_with fail
  refine (setUint64_wd x _).mono ?_
  rintro e w1 ⟨v, rfl, hv, hb⟩
  have hl := World.block_lt_of_cell? w _ h0
  have k0 := (hb.cell (p := ⟨b, o, none⟩) hl).trans h0
  have k1 := (hb.cell (p := ⟨b, o + 1, none⟩) hl).trans h1
  have g0 := (hb.frozen (p := ⟨b, o, none⟩) hl).trans f0
  have g1 := (hb.frozen (p := ⟨b, o + 1, none⟩) hl).trans f1
  have HV := hid hv
  have HB := hid hb
  clear h0 h1 f0 f1 hb hl
  obtain ⟨a, l, c, rfl⟩ : ∃ a l c, v = .slice a l c := by
    rcases hv with ⟨_, rfl⟩ | ⟨_, g, _, rfl, _⟩ <;> exact ⟨_, _, _, rfl⟩
  clear hv
  have k2 : (w1.setCell ⟨b, o + 1, none⟩ (.slice a l c)).cell? ⟨b, o, none⟩ = some (.bool s0) := by
    rw [World.cell?_setCell_other]
    · exact k0
    · intro h; injection h with _ h _; omega
  have g2 : (w1.setCell ⟨b, o + 1, none⟩ (.slice a l c)).frozen? ⟨b, o, none⟩ = false := by simpa using g0
  go_wp2_with fail
  go_ret
  exact ⟨rfl, _, w1, HB.out, HV.out, rfl⟩
end Go.Proofs.YtdhgdachchhflaaGreatDoor
namespace Go.Proofs.YtdhgdachchhflaaGreatDoor
open Go.RowKit Go.Dig
set_option maxRecDepth 100000
theorem puts {e b B : Nat} (hb : B ≤ b) : ∀ (ws : List Nat) (o : Nat) (w : World) (l : List Nat), BlkN .u64 e w b l → o + ws.length ≤ l.length →
    BlkN .u64 e (w.setCells b o (cs .u64 ws)) b (l.take o ++ ws ++ l.drop (o + ws.length)) ∧ Below B w (w.setCells b o (cs .u64 ws))
  | [], o, w, l, h, _ => by
    refine ⟨?_, Below.refl _ _⟩
    simp only [cs, List.map_nil, World.setCells, List.append_nil, List.length_nil, Nat.add_zero, List.take_append_drop]
    exact h
  | d :: r, o, w, l, h, hl => by
    simp only [List.length_cons] at hl
    have h1 := h.put o d
    have h2 := puts hb r (o + 1) _ _ h1 (by simp; omega)
    have e1 : (l.set o d).take (o + 1) = l.take o ++ [d] := by
      rw [List.take_add_one, List.getElem?_set_self (by omega), List.take_set_of_le (Nat.le_refl _)]
      rfl
    have e2 : (l.set o d).drop (o + 1 + r.length) = l.drop (o + 1 + r.length) := List.drop_set_of_lt (by omega)
    rw [e1, e2] at h2
    have e3 : l.take o ++ [d] ++ r ++ l.drop (o + 1 + r.length) = l.take o ++ d :: r ++ l.drop (o + (d :: r).length) := by
      simp only [List.append_assoc, List.length_cons, List.cons_append, List.nil_append]
      rw [show o + 1 + r.length = o + (r.length + 1) by omega]
    rw [e3] at h2
    exact ⟨h2.1, ((Below.refl _ _).setCell hb _).trans h2.2⟩
set_option maxHeartbeats 400000 in
theorem copy_words (w1 : World) (B k cap : Nat) (ws l : List Nat) (hB : BlkN .u64 136 w1 B l) (hk : k = ws.length) (hl : k ≤ l.length) (b2 off2 c2 : Nat) (hc : ∀ i, i < ws.length → w1.cell? ⟨b2, off2 + i, none⟩ = some (.int .u64 (ws.getD i 0 : Nat))) :
    (Builtin.copy_ #[84, 84] 3 #[.slice (some ⟨B, 0, none⟩) k cap, .slice (some ⟨b2, off2, none⟩) k c2]).run Tryz.prog w1 = .ok (.int .i64 k) (w1.setCells B 0 (cs .u64 ws)) := by
  subst hk
  have := run_copy_cells (P := Tryz.prog) w1 84 84 3 136 B 0 ws.length cap ⟨b2, off2, none⟩ ws.length c2 (cs .u64 ws) Tryz.underlying84 (by kernel_rfl) (by rw [cs_length]; simp) ?_ ?_ ?_ ?_
  · rw [cs_length] at this
    exact this
  · intro j v hj
    have hjl : j < ws.length := by
      rcases Nat.lt_or_ge j (cs .u64 ws).length with h | h
      · rwa [cs_length] at h
      · rw [List.getElem?_eq_none h] at hj; cases hj
    have h1 := cs_getElem? .u64 ws j hjl
    rw [List.getElem?_toArray, hj] at h1
    injection h1 with h1
    rw [h1]
    have e : (⟨b2, off2, none⟩ : Addr).add j = ⟨b2, off2 + j, none⟩ := by
      cases j with
      | zero => rfl
      | succ j => simp [Addr.add]
    rw [e]
    exact hc j hjl
  · intro j hj
    rw [cs_length] at hj
    rw [Nat.zero_add, hB.at (by omega)]
    rfl
  · intro j hj
    rw [Nat.zero_add]
    exact Blk.frozen hB j
  · intro v hv
    simp only [cs, List.mem_map] at hv
    obtain ⟨d, _, rfl⟩ := hv
    rfl
set_option maxHeartbeats 400000 in
theorem natMake_zero (w : World) : Calls Tryz.prog 82 #[.slice none 0 0, .int .i64 0] w fun e w' => e = .returned (.slice none 0 0) ∧ w' = w := by
  go_enter Tryz.func82, Tryz.ntmps82
  go_wp2_with fail
  go_ret
  exact ⟨rfl, rfl⟩
set_option maxHeartbeats 400000 in
theorem nset_any (vx : Value) (n : Nat) (w : World) (hx : Nw w vx n) (hl : (dg 18446744073709551616 n).length ≤ 900) :
    Calls Tryz.prog 69 #[.slice none 0 0, vx] w fun e w' => ∃ v, e = .returned v ∧ Nw w' v n ∧ (n < 18446744073709551616 → Wd w' w.heap.size v n) ∧ Below w.heap.size w w' := by
  have HX := hid hx
  obtain ⟨ax, cx, ex, h1, h2, h3⟩ := hx
  rcases Nat.lt_or_ge 1 (dg 18446744073709551616 n).length with hl1 | hl1
  · obtain ⟨b, off, rfl, _, hc⟩ := h3 (by omega)
    generalize hds : dg 18446744073709551616 n = ds at *
    subst ex
    have HC := hid hc
    have HM := natMake_any ds.length hl1 (by omega) w
    clear hc h3
    go_enter Tryz.func69, Tryz.ntmps69
    go_wp2_with fail
    refine HM.mono ?_
    rintro e w1 ⟨rfl, hw1⟩
    have hBz : BlkN .u64 136 w1 w.heap.size (List.replicate (ds.length + 4) 0) := by rw [hw1]; exact blk_new w _ 136
    have HB1 : Hid (Below w.heap.size w w1) := by rw [hw1]; exact (Below.refl _ _).alloc (Nat.le_refl _) _
    clear hw1 HM
    have hcp := copy_words w1 w.heap.size ds.length (ds.length + 4) ds _ hBz rfl (by simp) b off cx (fun i hi => (HB1.out.cell (World.block_lt_of_cell? w _ (HC.out i hi))).trans (HC.out i hi))
    obtain ⟨hB2, hb2⟩ := puts (B := w.heap.size) (Nat.le_refl _) ds 0 w1 _ hBz (by simp)
    simp only [List.take_zero, List.nil_append, Nat.zero_add, List.drop_replicate] at hB2
    have HB2 := hid hB2
    have HX2 := hid (HB1.out.trans hb2)
    clear hBz hB2 hb2
    go_wp2_with fail
    go_ret
    have hR := BlkN.rt HB2.out (cap := ds.length + 4) (by simp) (by omega)
    have hR2 := Rt.take (m := ds.length) hR (by simp)
    rw [List.take_left] at hR2
    refine ⟨_, rfl, by rw [Nw, hds]; exact hR2, fun h => ?_, HX2.out⟩
    have := dg_length_le (b := 18446744073709551616) (k := 1) (by omega) (show n < 18446744073709551616 ^ 1 by omega)
    rw [hds] at this
    omega
  · rcases Nat.eq_zero_or_pos n with h0 | h0
    · subst h0
      rw [dg_zero] at ex
      subst ex
      have hcp := fun w => run_copy_none (P := Tryz.prog) w 84 84 3 136 none ax 0 0 0 cx Tryz.underlying84 (by kernel_rfl) rfl
      go_enter Tryz.func69, Tryz.ntmps69
      go_wp2_with fail
      refine (natMake_zero w).mono ?_
      rintro e w1 ⟨rfl, rfl⟩
      go_wp2_with fail
      go_ret
      exact ⟨_, rfl, by rw [Nw, dg_zero]; exact Rt.nil _ _ _, fun _ => .inl ⟨rfl, rfl⟩, Below.refl _ _⟩
    · have hn1 : n < 18446744073709551616 := by
        have := lt_pow_dg_length (b := 18446744073709551616) (by omega) n
        exact Nat.lt_of_lt_of_le this (by
          calc 18446744073709551616 ^ (dg 18446744073709551616 n).length ≤ 18446744073709551616 ^ 1 := Nat.pow_le_pow_right (by omega) hl1
            _ = _ := by omega)
      rw [dg_one h0 hn1] at ex h1 h3
      obtain ⟨b, off, rfl, _, hc⟩ := h3 (by simp)
      subst ex
      have HC := hid hc
      clear hc h3 h1
      go_enter Tryz.func69, Tryz.ntmps69
      go_wp2_with fail
      refine (natMake_one w).mono ?_
      rintro e w1 ⟨rfl, hw1⟩
      have hBz : BlkN .u64 136 w1 w.heap.size [0] := by rw [hw1]; exact blk_new w _ 136
      have HB1 : Hid (Below w.heap.size w w1) := by rw [hw1]; exact (Below.refl _ _).alloc (Nat.le_refl _) _
      clear hw1
      have hcp := copy_words w1 w.heap.size 1 1 [n] _ hBz rfl (by simp) b off cx (fun i hi => (HB1.out.cell (World.block_lt_of_cell? w _ (HC.out i hi))).trans (HC.out i hi))
      obtain ⟨hB2, hb2⟩ := puts (B := w.heap.size) (Nat.le_refl _) [n] 0 w1 _ hBz (by simp)
      have HB2 := hid hB2
      have HX2 := hid (HB1.out.trans hb2)
      clear hBz hB2 hb2
      go_wp2_with fail
      go_ret
      have hW : Wd (w1.setCells w.heap.size 0 (cs .u64 [n])) w.heap.size (.slice (some ⟨w.heap.size, 0, none⟩) 1 1) n := .inr ⟨by omega, _, Nat.le_refl _, rfl, HB2.out⟩
      exact ⟨_, rfl, hW.nw hn1, fun _ => hW, HX2.out⟩
set_option maxHeartbeats 400000 in
/-- Int.Set onto a big number without words. -/
theorem intSet_new (b o bx ox n : Nat) (s0 s : Bool) (vx : Value) (cz cx : Array Value) (tz tx : TypeId) (w : World) (hz : Blk w b cz tz) (h0 : cz[o]? = some (.bool s0)) (h1 : cz[o + 1]? = some (.slice none 0 0)) (hx : Blk w bx cx tx) (hx0 : cx[ox]? = some (.bool s)) (hx1 : cx[ox + 1]? = some vx) (hn : Nw w vx n) (hl : (dg 18446744073709551616 n).length ≤ 900) (hne : b ≠ bx) :
    Calls Tryz.prog 46 #[.pointer (some ⟨b, o, none⟩), .pointer (some ⟨bx, ox, none⟩)] w fun e w' => e = .returned (.pointer (some ⟨b, o, none⟩)) ∧ ∃ v w1, Below w.heap.size w w1 ∧ Nw w1 v n ∧ (n < 18446744073709551616 → Wd w1 w.heap.size v n) ∧ w' = (w1.setCell ⟨b, o + 1, none⟩ v).setCell ⟨b, o, none⟩ (.bool s) := by
  obtain ⟨j, hj, hjs⟩ : ∃ j, Tryz.prog.info? 86 = some j ∧ j.size ≠ 0 := by
    have h : (Tryz.prog.info? 86).map (·.size) = some 2 := by kernel_rfl
    obtain ⟨j, hj, e⟩ := Option.map_eq_some_iff.1 h
    exact ⟨j, hj, by rw [e]; omega⟩
  have hneq := neq_ptr_other (P := Tryz.prog) w (tp := 82) (te := 86) (a := ⟨b, o, none⟩) (b := ⟨bx, ox, none⟩) Tryz.underlying82 hj hjs (fun h => hne (congrArg Addr.block h)) hz hx
  obtain ⟨ax, L, cx', rfl, _⟩ := nw_shape hn
  have HZ := hid hz
  have HX := hid hx
  have HN := hid hn
  have HL := hid hl
  have k0 := (hz.cell o).trans h0
  have k1 := (hz.cell (o + 1)).trans h1
  have k2 := (hx.cell ox).trans hx0
  have k3 := (hx.cell (ox + 1)).trans hx1
  have H0 := hid h0
  have H1 := hid h1
  have X0 := hid hx0
  have X1 := hid hx1
  have HNE := hid hne
  clear hz hx hn hl h0 h1 hx0 hx1 hj hjs hne
  go_enter Tryz.func46, Tryz.ntmps46
  go_wp2_with fail
  have d1 : w.drew.cell? ⟨b, o + 1, none⟩ = some (.slice none 0 0) := k1
  have d3 : w.drew.cell? ⟨bx, ox + 1, none⟩ = some (.slice ax L cx') := k3
  refine wp_region_held_drew (S := fun w' => w'.cell? ⟨bx, ox + 1, none⟩ = some (.slice ax L cx')) (by kernel_rfl) d3 (fun hHeld => ?_)
  refine wpAnyH_take (i := 0) (v := ?_) rfl (by kernel_rfl) (by kernel_rfl) (by kernel_rfl) (fun _ _ _ h => h) (Or.inl ⟨by rfl, ?_⟩) (by assumption) ?_
  rotate_left
  · intro w hSw
    try dsimp only at hSw
    go_simp
    try with_reducible rfl
  try simp only [Act.put, List.setIfInBounds_toArray]
  refine wpAnyH_take (i := 1) (v := ?_) rfl (by kernel_rfl) (by kernel_rfl) (by kernel_rfl) (fun _ _ _ h => h) (Or.inl ⟨by rfl, ?_⟩) (by assumption) ?_
  rotate_left
  · intro w hSw
    try dsimp only at hSw
    go_simp
    try with_reducible rfl
  try simp only [Act.put]
  refine wpAnyH_take (i := 2) (v := ?_) rfl (by kernel_rfl) (by kernel_rfl) (by kernel_rfl) (fun _ _ _ h => h) (Or.inl ⟨by rfl, ?_⟩) (by assumption) ?_
  rotate_left
  · intro w hSw
    try dsimp only at hSw
    go_simp
    try with_reducible rfl
  try simp only [Act.put]
  refine wpAnyH_take (i := 3) (v := ?_) rfl (by kernel_rfl) (by kernel_rfl) (by kernel_rfl) (fun _ _ _ h => h) (Or.inl ⟨by rfl, ?_⟩) (by assumption) ?_
  rotate_left
  · intro w hSw
    try dsimp only at hSw
    go_simp
    try with_reducible rfl
  try simp only [Act.put]
  refine wpAnyH_take (i := 5) (v := ?_) rfl (by kernel_rfl) (by kernel_rfl) (by kernel_rfl) (fun _ _ _ h => h) (Or.inl ⟨by rfl, ?_⟩) (by assumption) ?_
  rotate_left
  · intro w hSw
    try dsimp only at hSw
    go_simp
    try with_reducible rfl
  try simp only [Act.put]
  refine wpAnyH_take (i := 6) (v := ?_) rfl (by kernel_rfl) (by kernel_rfl) (by kernel_rfl) (fun _ _ _ h => h) (Or.inl ⟨by rfl, ?_⟩) (by assumption) ?_
  rotate_left
  · intro w hSw
    try dsimp only at hSw
    go_simp
    try with_reducible rfl
  try simp only [Act.put]
  refine wpAnyH_take (i := 7) (v := ?_) rfl (by kernel_rfl) (by kernel_rfl) (by kernel_rfl) (fun _ _ _ h => h) (Or.inl ⟨by rfl, ?_⟩) (by assumption) ?_
  rotate_left
  · intro w hSw
    try dsimp only at hSw
    go_simp
    try with_reducible rfl
  try simp only [Act.put]
  refine wpAnyH_take (i := 8) (v := ?_) rfl (by kernel_rfl) (by kernel_rfl) (by kernel_rfl) (fun _ _ _ h => h) (Or.inl ⟨by rfl, ?_⟩) (by assumption) ?_
  rotate_left
  · intro w hSw
    try dsimp only at hSw
    go_simp
    try with_reducible rfl
  try simp only [Act.put]
  refine wpAnyH_ready (rs := [4]) (by kernel_rfl) (by simp) ?_
  refine AllReadyH.cons rfl (fun K hK => ?_) AllReadyH.nil
  go_simp
  refine hK.out _ _ d3 (fun _ => ?_)
  clear hK K
  refine wpAnyH_ready (rs := [9]) (by kernel_rfl) (by simp) ?_
  refine AllReadyH.cons rfl (fun K hK => ?_) AllReadyH.nil
  go_simp
  have HE : Hid (Below w.heap.size w w.drew) := (Below.refl _ _).drew
  refine (nset_any _ n w.drew (HN.out.below HE.out (Nat.le_refl _)) HL.out).mono ?_
  rintro e w1 ⟨v, rfl, hv, hd, hb⟩
  have HV := hid hv
  have HD : Hid (n < 18446744073709551616 → Wd w1 w.heap.size v n) := hid hd
  have HB : Hid (Below w.heap.size w w1) := hid (HE.out.trans hb)
  obtain ⟨a, l, c, rfl, _⟩ := nw_shape hv
  have HZ1 := hid (HZ.out.below HB.out HZ.out.lt)
  have HX1 := hid (HX.out.below HB.out HX.out.lt)
  clear k0 k1 k2 k3 d1 d3 hneq hv hd hb
  have k0 := (HZ1.out.cell o).trans H0.out
  have k1 := (HZ1.out.cell (o + 1)).trans H1.out
  have f1 := HZ1.out.frozen (o + 1)
  have f0 := HZ1.out.frozen o
  have x1 := (HX1.out.cell (ox + 1)).trans X1.out
  have k2 : (w1.setCell ⟨b, o + 1, none⟩ (.slice a l c)).cell? ⟨bx, ox, none⟩ = some (.bool s) := by
    rw [World.cell?_setCell_other]
    · exact (HX1.out.cell ox).trans X0.out
    · intro h; exact HNE.out (congrArg Addr.block h)
  have x2 : (w1.setCell ⟨b, o + 1, none⟩ (.slice a l c)).cell? ⟨bx, ox + 1, none⟩ = some (.slice ax L cx') := by
    rw [World.cell?_setCell_other]
    · exact x1
    · intro h; exact HNE.out (congrArg Addr.block h)
  have k3 : (w1.setCell ⟨b, o + 1, none⟩ (.slice a l c)).cell? ⟨b, o, none⟩ = some (.bool s0) := by
    rw [World.cell?_setCell_other]
    · exact k0
    · intro h; injection h with _ h _; omega
  go_wp2_with fail
  refine hK.out _ _ x1 (fun _ => ?_)
  clear hK K
  refine wpAnyH_take (i := 10) (v := ?_) rfl (by kernel_rfl) (by kernel_rfl) (by kernel_rfl) (fun _ _ _ h => h) (Or.inl ⟨by rfl, ?_⟩) (by assumption) ?_
  rotate_left
  · intro w hSw
    try dsimp only at hSw
    go_simp
    try with_reducible rfl
  try simp only [Act.put]
  refine wpAnyH_take (i := 11) (v := ?_) rfl (by kernel_rfl) (by kernel_rfl) (by kernel_rfl) (fun _ _ _ h => h) (Or.inl ⟨by rfl, ?_⟩) (by assumption) ?_
  rotate_left
  · intro w hSw
    try dsimp only at hSw
    go_simp
    try with_reducible rfl
  try simp only [Act.put]
  refine wpAnyH_ready (rs := [12]) (by kernel_rfl) (by simp) ?_
  refine AllReadyH.cons rfl (fun K hK => ?_) AllReadyH.nil
  go_simp
  refine hK.out _ _ x2 (fun _ => ?_)
  clear hK K
  refine wpAnyH_done (by kernel_rfl) ?_ _
  go_wp2_with fail
  go_ret
  exact ⟨rfl, _, w1, HB.out, HV.out, HD.out, rfl⟩
end Go.Proofs.YtdhgdachchhflaaGreatDoor
namespace Go.Proofs.YtdhgdachchhflaaGreatDoor
open Go.RowKit Go.Dig
set_option maxRecDepth 100000
theorem val_drop_cons {b : Nat} {l : List Nat} {j : Nat} (hj : j < l.length) : val b (l.drop j) = l.getD j 0 + b * val b (l.drop (j + 1)) := by
  rw [List.drop_eq_getElem_cons hj, List.getD_eq_getElem?_getD, List.getElem?_eq_getElem hj]
  rfl
theorem dv_step {m xs : List Nat} {j k y r : Nat} (hk : xs.length = k) (hm : k ≤ m.length) (hj : j < k) (hy : 0 < y) (hr : r = val 18446744073709551616 (xs.drop (j + 1)) % y) (hq : val 18446744073709551616 ((m.take k).drop (j + 1)) = val 18446744073709551616 (xs.drop (j + 1)) / y) :
    (r * 18446744073709551616 + xs.getD j 0) % y = val 18446744073709551616 (xs.drop j) % y ∧
    val 18446744073709551616 (((m.set j ((r * 18446744073709551616 + xs.getD j 0) / y)).take k).drop j) = val 18446744073709551616 (xs.drop j) / y := by
  have e1 := val_drop_cons (b := 18446744073709551616) (l := xs) (j := j) (by omega)
  have e2 := val_drop_cons (b := 18446744073709551616) (l := (m.set j ((r * 18446744073709551616 + xs.getD j 0) / y)).take k) (j := j) (by simp; omega)
  have e3 : ((m.set j ((r * 18446744073709551616 + xs.getD j 0) / y)).take k).drop (j + 1) = (m.take k).drop (j + 1) := by
    rw [List.drop_take, List.drop_take, List.drop_set_of_lt (by omega)]
  have e4 : ((m.set j ((r * 18446744073709551616 + xs.getD j 0) / y)).take k).getD j 0 = (r * 18446744073709551616 + xs.getD j 0) / y := by
    rw [List.getD_eq_getElem?_getD, List.getElem?_take_of_lt hj, List.getElem?_set_self (by omega)]
    rfl
  rw [e2, e3, e4, e1, hq]
  have hd := Nat.div_add_mod (val 18446744073709551616 (xs.drop (j + 1))) y
  rw [← hr] at hd
  generalize val 18446744073709551616 (xs.drop (j + 1)) = X at *
  generalize xs.getD j 0 = x at *
  have e5 : x + 18446744073709551616 * X = y * (18446744073709551616 * (X / y)) + (r * 18446744073709551616 + x) := by
    have : 18446744073709551616 * X = 18446744073709551616 * (y * (X / y) + r) := by rw [hd]
    rw [this, Nat.mul_add, Nat.mul_left_comm, Nat.mul_comm 18446744073709551616 r]
    omega
  rw [e5]
  constructor
  · rw [Nat.mul_add_mod]
  · rw [Nat.mul_add_div hy]
    omega
set_option maxHeartbeats 1000000 in
theorem divWVW_any (B cz b2 off2 c2 k y : Nat) (l xs : List Nat) (w : World) (hB : BlkN .u64 136 w B l) (hl : k ≤ l.length) (hk : xs.length = k) (hk2 : 1 < k) (hk3 : k < 1000) (hy0 : 0 < y) (hy : y < 18446744073709551616) (hb2 : b2 < B) (hxs : ∀ d ∈ xs, d < 18446744073709551616) (hc : ∀ i, i < k → w.cell? ⟨b2, off2 + i, none⟩ = some (.int .u64 (xs.getD i 0 : Nat))) :
    Calls Tryz.prog 130 #[.slice (some ⟨B, 0, none⟩) k cz, .int .u64 0, .slice (some ⟨b2, off2, none⟩) k c2, .int .u64 y] w fun e w' => ∃ r m, e = .returned (.int .u64 ((r : Nat) : Int)) ∧ Hid (r = val 18446744073709551616 xs % y) ∧ Hid (m.length = l.length) ∧ Hid (∀ d ∈ m.take k, d < 18446744073709551616) ∧ Hid (val 18446744073709551616 (m.take k) = val 18446744073709551616 xs / y) ∧ BlkN .u64 136 w' B m ∧ Below B w w' := by
  obtain ⟨s, hs, he, h1, h2⟩ := lz_bounds hy0 hy
  have HR := fun w => recip_any y s hy0 hy hs he h1 h2 w
  have hk1 : ((k : Int) == 1) = false := by simp; omega
  have HC := hid hc
  clear hc
  go_enter Tryz.func130, Tryz.ntmps130
  go_wp2_with fail
  refine (HR _).mono ?_
  rintro e w1 ⟨rec, rfl, hrec, nd, rfl⟩
  have HRC := hid hrec
  clear HR hrec
  go_wp2_with fail
  go_loopw [8, 12] (fun p q wr => ∃ (r j : Nat) (m : List Nat), p = .int .u64 r ∧ q = .int .i64 ((j : Int) - 1) ∧ j ≤ k ∧ r < y ∧ Hid (m.length = l.length) ∧ BlkN .u64 136 wr B m ∧ Hid (r = val 18446744073709551616 (xs.drop j) % y) ∧ Hid (val 18446744073709551616 ((m.take k).drop j) = val 18446744073709551616 (xs.drop j) / y) ∧ Hid (∀ i, j ≤ i → i < k → m.getD i 0 < 18446744073709551616) ∧ Below B w wr) (fun _ q _ => (intOf q + 1).toNat)
  case atStart =>
    refine ⟨0, k, l, rfl, rfl, Nat.le_refl _, hy0, hid rfl, hB, ?_, ?_, hid (fun i h1 h2 => absurd h1 (by omega)), below_drewN' _⟩
    · rw [← hk, List.drop_length]; exact hid (by simp [val])
    · refine hid ?_
      rw [List.drop_eq_nil_of_le (by rw [List.length_take]; exact Nat.min_le_left _ _), ← hk, List.drop_length]
      simp [val]
  case round =>
    clear hB
    obtain ⟨r, j, m, rfl, rfl, hj, hr, hml, hBm, hrv, hqv, hlow, hb⟩ := hrel
    rcases Nat.eq_zero_or_pos j with h0 | h0
    · subst h0
      go_wp2_with fail
      go_ret
      refine ⟨r, m, rfl, hrv, hml, ?_, hqv, hBm, hb⟩
      refine hid (fun d hd => ?_)
      obtain ⟨i, hi, rfl⟩ := List.getElem_of_mem hd
      simp only [List.length_take] at hi
      have := hlow.out i (by omega) (by omega)
      rw [List.getD_eq_getElem?_getD, List.getElem?_eq_getElem (by omega)] at this
      simpa using this
    · obtain ⟨i, rfl⟩ : ∃ i, j = i + 1 := ⟨j - 1, by omega⟩
      have hx0 := (hb.cell (p := ⟨b2, off2 + i, none⟩) hb2).trans (HC.out i (by omega))
      have hxw : xs.getD i 0 < 18446744073709551616 := getD_lt (by omega) hxs i
      have HS := hid (dv_step (m := m) (xs := xs) (j := i) (k := k) (y := y) (r := r) hk (by rw [hml.out]; exact hl) (by omega) hy0 hrv.out hqv.out)
      have HW := fun w => divWW_any r (xs.getD i 0) y s rec hr hxw hy hs he h1 h2 HRC.out.1 HRC.out.2 w
      have hqw : (r * 18446744073709551616 + xs.getD i 0) / y < 18446744073709551616 := Nat.div_lt_of_lt_mul (by
        have := Nat.mul_le_mul_right 18446744073709551616 (Nat.succ_le_of_lt hr)
        rw [Nat.succ_mul] at this
        omega)
      have hrw : (r * 18446744073709551616 + xs.getD i 0) % y < y := Nat.mod_lt _ hy0
      have hcell := hBm.at (i := i) (by rw [hml.out]; omega)
      have hfr := Blk.frozen hBm i
      generalize (r * 18446744073709551616 + xs.getD i 0) / y = q' at *
      generalize (r * 18446744073709551616 + xs.getD i 0) % y = r' at *
      generalize xs.getD i 0 = x at *
      go_wp2_with fail
      refine (HW _).mono ?_
      rintro e w2 ⟨rfl, nd2, rfl⟩
      have hb3 : Below B w (wr.drewN nd2) := hb.trans (below_drewN' nd2)
      have hBm3 : BlkN .u64 136 (wr.drewN nd2) B m := hBm.below (below_drewN' nd2) hBm.lt
      have hcell3 : (wr.drewN nd2).cell? ⟨B, i, none⟩ = some (.int .u64 (m.getD i 0 : Nat)) := hcell
      have hfr3 : (wr.drewN nd2).frozen? ⟨B, i, none⟩ = false := hfr
      clear hcell hfr hBm hb hx0 HW
      generalize wr.drewN nd2 = wd at *
      go_wp2_with fail
      go_roundw
      case rel =>
        refine ⟨r', i, m.set i q', rfl, by go_num, by omega, hrw, hid (by rw [List.length_set]; exact hml.out), ?_, hid HS.out.1, hid HS.out.2, ?_, ?_⟩
        · have := BlkN.put hBm3 i q'
          simpa using this
        · refine hid (fun i' hi1 hi2 => ?_)
          rcases Nat.lt_or_ge i i' with h | h
          · rw [set_far (by omega)]; exact hlow.out i' (by omega) hi2
          · obtain rfl : i' = i := by omega
            rw [List.getD_eq_getElem?_getD, List.getElem?_set_self (by rw [hml.out]; omega)]; exact hqw
        · exact hb3.setCell (Nat.le_refl _) _
      case measure => simp [intOf]
end Go.Proofs.YtdhgdachchhflaaGreatDoor
namespace Go.Proofs.YtdhgdachchhflaaGreatDoor
open Go.RowKit Go.Dig
set_option maxRecDepth 100000
set_option maxHeartbeats 1000000 in
/-- nat.divW onto nothing: a number of many words by one word. -/
theorem divW_any (vx : Value) (n y : Nat) (w : World) (hx : Nw w vx n) (hl : 1 < (dg 18446744073709551616 n).length) (hl2 : (dg 18446744073709551616 n).length ≤ 900) (hy0 : 0 < y) (hy : y < 18446744073709551616) :
    Calls Tryz.prog 109 #[.slice none 0 0, vx, .int .u64 y] w fun e w' => ∃ (v : Value) (r : Nat), e = .returned (.tuple #[v, .int .u64 (r : Int)]) ∧ Hid (r = n % y) ∧ Nw w' v (n / y) ∧ Below w.heap.size w w' := by
  have HX := hid hx
  obtain ⟨ax, cx, rfl, hx1, hx2, hx3⟩ := hx
  obtain ⟨b2, off2, rfl, ⟨_, hsh⟩, hc⟩ := hx3 (by omega)
  have hb2 : b2 < w.heap.size := shape_lt hsh
  have hval := val_dg (b := 18446744073709551616) (by omega) n
  have hdl := dg_lt (b := 18446744073709551616) (by omega) n
  have HC := hid hc
  clear hc hx3 hsh
  have hy1 : ((y : Int) == 0) = false := by simp; omega
  rcases Nat.lt_or_ge 1 y with h1 | h1
  · have hy2 : ((y : Int) == 1) = false := by simp; omega
    have hl0 : (((dg 18446744073709551616 n).length : Int) == 0) = false := by simp; intro h; rw [h] at hl; simp at hl
    have HM := fun w => natMake_any (dg 18446744073709551616 n).length hl (by omega) w
    generalize hds : dg 18446744073709551616 n = ds at *
    go_enter Tryz.func109, Tryz.ntmps109
    go_wp2_with fail
    refine (HM _).mono ?_
    rintro e w1 ⟨rfl, hw1⟩
    have hBz : BlkN .u64 136 w1 w.heap.size (List.replicate (ds.length + 4) 0) := by rw [hw1]; exact blk_new w _ 136
    have HB1 : Hid (Below w.heap.size w w1) := by rw [hw1]; exact (Below.refl _ _).alloc (Nat.le_refl _) _
    have HBz := hid hBz
    clear hw1 HM hBz
    go_wp2_with fail
    refine (divWVW_any w.heap.size _ b2 off2 cx ds.length y _ ds w1 HBz.out (by simp) rfl hl (by omega) hy0 hy hb2 hdl (fun i hi => (HB1.out.cell (World.block_lt_of_cell? w _ (HC.out i hi))).trans (HC.out i hi))).mono ?_
    rintro e w2 ⟨r, m, rfl, hr, hml, hmd, hmv, hB2, hb⟩
    have HB2 := hid (HB1.out.trans hb)
    rw [hval] at hr hmv
    have HRR := hid hr
    clear hr
    have hR := BlkN.rt hB2 (cap := ds.length + 4) (by rw [hml.out]; simp) (by omega)
    have hR2 := Rt.take (m := ds.length) hR (by rw [hml.out]; simp)
    have HRT := hid hR2
    clear hR hR2 hB2 hb
    go_wp2_with fail
    refine (norm_any _ _ _ HRT.out).mono ?_
    rintro e w3 ⟨v, rfl, hv, rfl⟩
    rw [trim_eq (by omega) hmd.out, hmv.out] at hv
    have HV := hid hv
    obtain ⟨av, cv, rfl⟩ := hv.shape
    clear hv
    go_wp2_with fail
    go_ret2
    exact ⟨_, r, rfl, HRR.out, HV.out, HB2.out⟩
  · obtain rfl : y = 1 := by omega
    rw [Nat.div_one]
    go_enter Tryz.func109, Tryz.ntmps109
    go_wp2_with fail
    refine (nset_any _ n w HX.out hl2).mono ?_
    rintro e w1 ⟨v, rfl, hv, _, hb⟩
    have HV := hid hv
    have HB := hid hb
    obtain ⟨av, cv, rfl⟩ := hv.shape
    clear hv hb
    go_wp2_with fail
    go_ret2
    exact ⟨_, 0, rfl, hid (Nat.mod_one n).symm, HV.out, HB.out⟩
set_option maxHeartbeats 1000000 in
/-- nat.div of a number of many words by one word, both stores new. -/
theorem div_word (vu vv : Value) (n y : Nat) (w : World) (hu : Nw w vu n) (hv : Nw w vv y) (hl : 1 < (dg 18446744073709551616 n).length) (hl2 : (dg 18446744073709551616 n).length ≤ 900) (hy0 : 0 < y) (hy : y < 18446744073709551616) :
    Calls Tryz.prog 81 #[.slice none 0 0, .pointer none, .slice none 0 0, vu, vv] w fun e w' => ∃ v v2, e = .returned (.tuple #[v, v2]) ∧ Nw w' v (n / y) ∧ Nw w' v2 (n % y) ∧ Below w.heap.size w w' := by
  have HU := hid hu
  obtain ⟨av, cv, ev, hv1, hv2, hv3⟩ := hv
  rw [dg_one hy0 hy] at ev hv1 hv3
  obtain ⟨bv, ov, rfl, _, hc⟩ := hv3 (by simp)
  have hk := hc 0 (by simp)
  simp only [List.getD_cons_zero, Nat.add_zero] at hk
  subst ev
  obtain ⟨au, cu, rfl⟩ := hu.shape
  clear hu hv3 hc hv1 hv2
  go_enter Tryz.func81, Tryz.ntmps81
  go_wp2_with fail
  refine (divW_any _ n y w HU.out hl hl2 hy0 hy).mono ?_
  rintro e w1 ⟨v, r, rfl, hr, hv, hb⟩
  have HR := hid hr
  have HV := hid hv
  have HB := hid hb
  have hrw : r < 18446744073709551616 := by rw [hr.out]; exact Nat.lt_trans (Nat.mod_lt _ hy0) hy
  obtain ⟨aq, cq, rfl⟩ := hv.shape
  clear hr hv hb hk
  go_wp2_with fail
  refine (setWord_wd r w1).mono ?_
  rintro e w2 ⟨v2, rfl, hv2, hb⟩
  have HV2 := hid (hv2.nw hrw)
  have HV1 := hid (HV.out.below hb (Nat.le_refl _))
  have HB2 := hid (below_next HB.out hb)
  obtain ⟨ar, cr, rfl⟩ := (hv2.nw hrw).shape
  clear hv2 hb
  go_wp2_with fail
  go_ret2
  refine ⟨_, _, rfl, HV1.out, ?_, HB2.out⟩
  have := HV2.out
  rw [HR.out.out] at this
  have e : (dg 18446744073709551616 r).length = (dg 18446744073709551616 (n % y)).length := by rw [HR.out.out]
  rw [e]
  exact this
end Go.Proofs.YtdhgdachchhflaaGreatDoor
