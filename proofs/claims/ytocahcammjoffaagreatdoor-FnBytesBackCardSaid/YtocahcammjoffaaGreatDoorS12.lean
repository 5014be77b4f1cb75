/- Walks and lemmas for the laws of this seat. -/
import Derived.Test.YtocahcammjoffaaGreatDoorS11
namespace Go.Proofs.YtocahcammjoffaaGreatDoor
open Go.RowKit Go.Dig
set_option maxRecDepth 100000
theorem made_at (n i : Nat) (h : i < n) : (madeCells #[Value.int IntKind.i64 0] n)[i]? = some (.int .i64 0) := by
  rw [cs_zeros, cs_getElem? _ _ _ (by simpa using h), List.getD_eq_getElem?_getD, List.getElem?_replicate, if_pos h]; rfl
theorem pow16_lt (i : Nat) : 2 ^ (i % 16) < 65536 := by
  have := Nat.pow_lt_pow_right (a := 2) (by omega) (Nat.mod_lt i (show 16 > 0 by omega))
  omega
theorem pow_16 (i : Nat) : 2 ^ i = 65536 ^ (i / 16) * 2 ^ (i % 16) := by
  have e : (65536 : Nat) = 2 ^ 16 := rfl
  rw [e, ← Nat.pow_mul, ← Nat.pow_add]
  congr 1; omega
theorem dg_bit (i : Nat) : (List.replicate (i / 16 + 1) 0).set (i / 16) (2 ^ (i % 16)) = dg 65536 (2 ^ i) := by
  have e : (List.replicate (i / 16 + 1) 0).set (i / 16) (2 ^ (i % 16)) = List.replicate (i / 16) 0 ++ [2 ^ (i % 16)] := by
    rw [List.replicate_succ', List.set_append_right _ _ (by simp)]
    simp
  rw [e]
  have hc : Canon 65536 (List.replicate (i / 16) 0 ++ [2 ^ (i % 16)]) := by
    refine ⟨?_, ?_⟩
    · intro d hd
      rcases List.mem_append.1 hd with h | h
      · rw [List.eq_of_mem_replicate h]; omega
      · rw [List.mem_singleton.1 h]; exact pow16_lt i
    · intro h
      rw [List.getLast_concat]
      exact Nat.ne_of_gt (Nat.two_pow_pos _)
  have h1 := canon_eq (by omega) hc
  rw [h1, val_append, val_replicate, List.length_replicate]
  congr 1
  rw [pow_16 i, Nat.zero_add]
  simp [val]
set_option maxHeartbeats 400000 in
theorem bit_any (i : Nat) (w : World) (hi : i ≤ 2000000) :
    Calls Tryz.prog 69 #[.int .i64 i] w fun e w' => ∃ v, e = .returned v ∧ Nt w' v (2 ^ i) ∧ Below w.heap.size w w' := by
  have hmk := run_make_row' (P := Tryz.prog) 29 3 (.int .i64 0) 8 Tryz.underlying29 info3 rfl .i64 .i64 (i / 16 + 1) (by omega) (by omega)
  have ec : ((i / 16 + 1 : Nat) : Int) = (i : Int) / 16 + 1 := by omega
  rw [ec] at hmk
  clear ec
  have hcell := made_at (i / 16 + 1) (i / 16) (by omega)
  have hw : wrap64 (2 ^ (i % 16)) = ((2 ^ (i % 16) : Nat) : Int) := by
    have := pow16_lt i
    have e : ((2 ^ (i % 16) : Nat) : Int) = 2 ^ (i % 16) := by simp
    rw [← e]
    generalize 2 ^ (i % 16) = z at this
    unfold wrap64; omega
  go_enter Tryz.func69, Tryz.ntmps69
  go_wp2_with fail
  go_ret
  have ew : (cs .i64 (List.replicate (i / 16 + 1) 0)).toArray.setIfInBounds (i / 16) (.int .i64 ((2 ^ (i % 16) : Nat) : Int)) = (cs .i64 (dg 65536 (2 ^ i))).toArray := by
    rw [cs_set, dg_bit]
  have hp : (2 : Int) ^ (i % 16) = ((2 ^ (i % 16) : Nat) : Int) := by simp
  rw [hp, cs_zeros, ew]
  have hl : (dg 65536 (2 ^ i)).length = i / 16 + 1 := by rw [← dg_bit]; simp
  have h := BlkN.rt (k := .i64) (e := 3) (cap := (dg 65536 (2 ^ i)).length) (blk_new w (cs .i64 (dg 65536 (2 ^ i))).toArray 3) (Nat.le_refl _) (by omega)
  rw [hl] at h
  exact ⟨_, rfl, h, (Below.refl _ _).alloc (Nat.le_refl _) _⟩
end Go.Proofs.YtocahcammjoffaaGreatDoor
