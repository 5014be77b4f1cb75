/- Walks and lemmas for the laws of this seat. -/
import Derived.Test.YtocahcammjoffaaGreatDoorS6
namespace Go.Proofs.YtocahcammjoffaaGreatDoor
open Go.RowKit Go.Dig
set_option maxRecDepth 100000
set_option maxHeartbeats 400000 in
theorem byDigit_any (va : Value) (n d : Nat) (w : World) (hn : Nt w va n) (hd0 : 0 < d) (hd1 : d < 65536) (hl : (dg 65536 n).length ≤ 100000) :
    Calls Tryz.prog 155 #[va, .int .i64 d] w fun e w' => ∃ v, e = .returned (.tuple #[v, .int .i64 (n % d : Nat)]) ∧ Nt w' v (n / d) ∧ Below w.heap.size w w' := by
  have HR := hid hn
  obtain ⟨a, cap, rfl, h1, h2, h3⟩ := hn
  have HA := hid h3
  clear h3
  have hmk := run_make_row' (P := Tryz.prog) 29 3 (.int .i64 0) 8 Tryz.underlying29 info3 rfl .i64 .i64 (dg 65536 n).length (by omega) (by omega)
  go_enter Tryz.func155, Tryz.ntmps155
  go_wp2_with fail
  go_loopw [7, 8] (fun x y wr => ∃ (m r : Nat) (l : List Nat), x = .int .i64 r ∧ y = .int .i64 ((m : Int) - 1) ∧ m ≤ (dg 65536 n).length ∧ r < d ∧ Hid (r = n / 65536 ^ m % d) ∧ Hid (l.length = (dg 65536 n).length) ∧ BlkN .i64 3 wr w.heap.size l ∧
    Hid (∀ j, m ≤ j → j < l.length → l.getD j 0 = n / d / 65536 ^ j % 65536) ∧ Below w.heap.size w wr) (fun _ y _ => (intOf y + 1).toNat)
  case atStart =>
    refine ⟨_, 0, List.replicate (dg 65536 n).length 0, rfl, rfl, Nat.le_refl _, hd0, ?_, hid (by simp), blkN_made _ _ _ _, hid ?_, (Below.refl _ _).alloc (Nat.le_refl _) _⟩
    · rw [Nat.div_eq_of_lt (lt_pow_dg_length (by omega) n)]; exact hid (by simp)
    · intro j h1 h2; simp at h2; omega
  case round =>
    obtain ⟨m, r, l, rfl, rfl, hm, hrd, hr, hll, hB, hq, hb⟩ := hrel
    rcases Nat.eq_zero_or_pos m with h0 | h0
    · subst h0
      have hR2 := BlkN.rt hB (cap := l.length) (Nat.le_refl _) (by rw [hll.out]; omega)
      rw [hll.out] at hR2
      go_wp2_with fail
      refine (trim_any _ _ _ hR2).mono ?_
      rintro e w1 ⟨v', rfl, hv, rfl⟩
      go_wp2_with fail
      go_ret2
      have e0 : r = n % d := by have := hr.out; rw [Nat.pow_zero, Nat.div_one] at this; exact this
      rw [← e0]
      refine ⟨_, rfl, ?_, hb⟩
      have e1 := digits_trim (b := 65536) (by omega) (l := l) (q := n / d) (by rw [hll.out]; exact Nat.lt_of_le_of_lt (Nat.div_le_self n d) (lt_pow_dg_length (by omega) n)) (fun j hj => hq.out j (Nat.zero_le _) hj)
      rw [e1] at hv
      exact hv
    · obtain ⟨k, rfl⟩ : ∃ k, m = k + 1 := ⟨m - 1, by omega⟩
      obtain ⟨b, off, rfl, _, hb3⟩ := HA.out (by omega)
      have hk := hb3 k (by omega)
      clear hb3
      have hk2 := (hb.cell (World.block_lt_of_cell? w _ hk)).trans hk
      clear hk
      have hdk : (dg 65536 n).getD k 0 = n / 65536 ^ k % 65536 := dg_getD (by omega) n k
      generalize (dg 65536 n).getD k 0 = a at hk2 hdk
      have ha : a < 65536 := by rw [hdk]; exact Nat.mod_lt _ (by omega)
      have HD := hid hdk
      clear hdk
      have hcell := hB.at (i := k) (by rw [hll.out]; omega)
      have hfr := Blk.frozen hB k
      generalize l.getD k 0 = old at hcell
      have ek : ((k + 1 : Nat) : Int) - 1 = (k : Int) := by omega
      rw [ek]
      go_wp2_with fail
      have hst := long_step (B := 65536) (d := d) (n := n) (j := k) (by omega) (by omega)
      rw [← hr.out, ← HD.out] at hst
      obtain ⟨hst1, hst2⟩ := hst
      go_roundw
      case rel =>
        refine ⟨k, (r * 65536 + a) % d, l.set k ((r * 65536 + a) / d), by simp, rfl, by omega, Nat.mod_lt _ hd0, hid hst2, hid (by rw [List.length_set]; exact hll.out), ?_, hid ?_, hb.setCell (Nat.le_refl _) _⟩
        · have := BlkN.put hB k ((r * 65536 + a) / d)
          simpa using this
        · intro j h1 h2
          rw [List.length_set] at h2
          rw [List.getD_eq_getElem?_getD, List.getElem?_set]
          rcases Nat.eq_or_lt_of_le h1 with rfl | h3
          · rw [if_pos rfl, if_pos h2]; exact hst1
          · rw [if_neg (by omega), ← List.getD_eq_getElem?_getD]; exact hq.out j h3 h2
      case measure => simp [intOf]
end Go.Proofs.YtocahcammjoffaaGreatDoor
