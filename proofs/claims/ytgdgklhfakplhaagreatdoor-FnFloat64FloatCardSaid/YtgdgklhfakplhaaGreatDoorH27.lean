/- Walks and lemmas for the laws of this seat. -/
import Derived.Test.YtgdgklhfakplhaaGreatDoorH26
namespace Go.Proofs.YtgdgklhfakplhaaGreatDoor
open Go.RowKit Go.Dig
set_option maxRecDepth 100000
theorem two_cells {w : World} {b : Nat} {x0 x1 : Value} {e : TypeId} (h : Blk w b #[x0, x1] e) : w.cell? ⟨b, 0, none⟩ = some x0 ∧ w.cell? ⟨b, 1, none⟩ = some x1 ∧ w.frozen? ⟨b, 0, none⟩ = false ∧ w.frozen? ⟨b, 1, none⟩ = false := ⟨h.cell 0, h.cell 1, h.frozen 0, h.frozen 1⟩
theorem quot_pos {n y : Nat} (hl : 1 < (dg 18446744073709551616 n).length) (hy0 : 0 < y) (hy : y < 18446744073709551616) : n / y ≠ 0 := by
  have h : 18446744073709551616 ≤ n := by
    rcases Nat.lt_or_ge n 18446744073709551616 with h | h
    · have := dg_length_le (b := 18446744073709551616) (k := 1) (by omega) (show n < 18446744073709551616 ^ 1 by omega)
      omega
    · exact h
  have := Nat.div_pos (show y ≤ n by omega) hy0
  omega
theorem Blk.far1 {w : World} {b X i : Nat} {c : Array Value} {e : TypeId} (h : Blk w b c e) (hne : b ≠ X) (x : Value) : Blk (w.setCell ⟨X, i, none⟩ x) b c e := by
  unfold Blk at *
  rw [← h]
  simp only [World.setCell, Array.getElem?_modify]
  rw [if_neg (fun h => hne h.symm)]
set_option maxHeartbeats 4000000 in
/-- Int.QuoRem of a number of many words by a word, quotient and remainder new. -/
theorem quoRem_word (bq bA bB br n y : Nat) (vA vB : Value) (w : World) (hq : Blk w bq #[.bool false, .slice none 0 0] 124) (hr : Blk w br #[.bool false, .slice none 0 0] 124) (hA : Blk w bA #[.bool false, vA] 124) (hB : Blk w bB #[.bool false, vB] 124) (hnA : Nw w vA n) (hnB : Nw w vB y)
    (hne : br ≠ bq ∧ bA ≠ bq ∧ bB ≠ bq ∧ bA ≠ br ∧ bB ≠ br) (hl : 1 < (dg 18446744073709551616 n).length) (hl2 : (dg 18446744073709551616 n).length ≤ 900) (hy0 : 0 < y) (hy : y < 18446744073709551616) :
    Calls Tryz.prog 190 #[.pointer (some ⟨bq, 0, none⟩), .pointer (some ⟨bA, 0, none⟩), .pointer (some ⟨bB, 0, none⟩), .pointer (some ⟨br, 0, none⟩)] w fun e w' => e = .returned (.tuple #[.pointer (some ⟨bq, 0, none⟩), .pointer (some ⟨br, 0, none⟩)]) ∧ Blk w' bB #[.bool false, vB] 124 ∧ Nw w' vB y ∧ (∃ v2, Blk w' br #[.bool false, v2] 124 ∧ Nw w' v2 (n % y)) ∧ (∀ K, K ≤ bq → K ≤ br → Below K w w') ∧ ∀ b c e, Blk w b c e → b ≠ bq → b ≠ br → Blk w' b c e := by
  obtain ⟨aA, lA, cA, rfl, _⟩ := nw_shape hnA
  obtain ⟨aB, lB, cB, rfl, _⟩ := nw_shape hnB
  have HQ := hid hq
  have HR := hid hr
  have HA := hid hA
  have HBB := hid hB
  have HNA := hid hnA
  have HNB := hid hnB
  have HNE := hid hne
  have HL1 := hid hl
  have HL2 := hid hl2
  have HY0 := hid hy0
  have HYW := hid hy
  clear hq hr hA hB hnA hnB hne hl hl2 hy0 hy
  go_enter Tryz.func190, Tryz.ntmps190
  go_upto_region 1 with fail
  go_cut [10] (fun _ wx => ∃ a' l' c' a'' l'' c'', Hid (0 < l') ∧ Hid (Blk wx bq #[.bool false, .slice a' l' c'] 124) ∧ Hid (Blk wx br #[.bool false, .slice a'' l'' c''] 124) ∧ Hid (Blk wx bA #[.bool false, .slice aA lA cA] 124) ∧ Hid (Blk wx bB #[.bool false, .slice aB lB cB] 124) ∧ Hid (Nw wx (.slice a'' l'' c'') (n % y)) ∧ Hid (Nw wx (.slice aB lB cB) y) ∧ Hid (∀ K, K ≤ bq → K ≤ br → Below K w wx) ∧ Hid (∀ b c e, Blk w b c e → b ≠ bq → b ≠ br → Blk wx b c e))
  case first =>
    focus go_wp2_with fail
    have HE : Hid (Below w.heap.size w w.drew) := (Below.refl _ _).drew
    have dq : w.drew.cell? ⟨bq, 1, none⟩ = some (.slice none 0 0) := HQ.out.cell 1
    have dr : w.drew.cell? ⟨br, 1, none⟩ = some (.slice none 0 0) := HR.out.cell 1
    have dA : w.drew.cell? ⟨bA, 1, none⟩ = some (.slice aA lA cA) := HA.out.cell 1
    have dB : w.drew.cell? ⟨bB, 1, none⟩ = some (.slice aB lB cB) := HBB.out.cell 1
    refine wp_region_held_drew (S := fun w' => w'.cell? ⟨bA, 1, none⟩ = some (.slice aA lA cA) ∧ w'.cell? ⟨bB, 1, none⟩ = some (.slice aB lB cB)) (by kernel_rfl) ⟨dA, dB⟩ (fun hHeld => ?_)
    refine wpAnyH_take (i := 0) (v := ?_) rfl (by kernel_rfl) (by kernel_rfl) (by kernel_rfl) (fun _ _ _ h => h) (Or.inl ⟨by rfl, ?_⟩) (by assumption) ?_
    rotate_left
    · intro w hSw
      try dsimp only at hSw
      go_simp
      try with_reducible rfl
    try simp only [Act.put, List.setIfInBounds_toArray]
    refine wpAnyH_take (i := 1) (v := ?_) rfl (by kernel_rfl) (by kernel_rfl) (by kernel_rfl) (fun _ _ _ h => h) (Or.inl ⟨by rfl, ?_⟩) (by assumption) ?_
    rotate_left
    · intro w hSw
      try dsimp only at hSw
      go_simp
      try with_reducible rfl
    try simp only [Act.put]
    refine wpAnyH_take (i := 2) (v := ?_) rfl (by kernel_rfl) (by kernel_rfl) (by kernel_rfl) (fun _ _ _ h => h) (Or.inl ⟨by rfl, ?_⟩) (by assumption) ?_
    rotate_left
    · intro w hSw
      try dsimp only at hSw
      go_simp
      try with_reducible rfl
    try simp only [Act.put]
    refine wpAnyH_take (i := 3) (v := ?_) rfl (by kernel_rfl) (by kernel_rfl) (by kernel_rfl) (fun _ _ _ h => h) (Or.inl ⟨by rfl, ?_⟩) (by assumption) ?_
    rotate_left
    · intro w hSw
      try dsimp only at hSw
      go_simp
      try with_reducible rfl
    try simp only [Act.put]
    refine wpAnyH_take (i := 4) (v := ?_) rfl (by kernel_rfl) (by kernel_rfl) (by kernel_rfl) (fun _ _ _ h => h) (Or.inl ⟨by rfl, ?_⟩) (by assumption) ?_
    rotate_left
    · intro w hSw
      try dsimp only at hSw
      go_simp
      try with_reducible rfl
    try simp only [Act.put]
    refine wpAnyH_take (i := 6) (v := ?_) rfl (by kernel_rfl) (by kernel_rfl) (by kernel_rfl) (fun _ _ _ h => h) (Or.inl ⟨by rfl, ?_⟩) (by assumption) ?_
    rotate_left
    · intro w hSw
      try dsimp only at hSw
      go_simp
      try with_reducible rfl
    try simp only [Act.put]
    refine wpAnyH_take (i := 7) (v := ?_) rfl (by kernel_rfl) (by kernel_rfl) (by kernel_rfl) (fun _ _ _ h => h) (Or.inl ⟨by rfl, ?_⟩) (by assumption) ?_
    rotate_left
    · intro w hSw
      try dsimp only at hSw
      go_simp
      try with_reducible rfl
    try simp only [Act.put]
    refine wpAnyH_take (i := 8) (v := ?_) rfl (by kernel_rfl) (by kernel_rfl) (by kernel_rfl) (fun _ _ _ h => h) (Or.inl ⟨by rfl, ?_⟩) (by assumption) ?_
    rotate_left
    · intro w hSw
      try dsimp only at hSw
      go_simp
      try with_reducible rfl
    try simp only [Act.put]
    refine wpAnyH_take (i := 10) (v := ?_) rfl (by kernel_rfl) (by kernel_rfl) (by kernel_rfl) (fun _ _ _ h => h) (Or.inl ⟨by rfl, ?_⟩) (by assumption) ?_
    rotate_left
    · intro w hSw
      try dsimp only at hSw
      go_simp
      try with_reducible rfl
    try simp only [Act.put]
    refine wpAnyH_take (i := 11) (v := ?_) rfl (by kernel_rfl) (by kernel_rfl) (by kernel_rfl) (fun _ _ _ h => h) (Or.inl ⟨by rfl, ?_⟩) (by assumption) ?_
    rotate_left
    · intro w hSw
      try dsimp only at hSw
      go_simp
      try with_reducible rfl
    try simp only [Act.put]
    refine wpAnyH_take (i := 12) (v := ?_) rfl (by kernel_rfl) (by kernel_rfl) (by kernel_rfl) (fun _ _ _ h => h) (Or.inl ⟨by rfl, ?_⟩) (by assumption) ?_
    rotate_left
    · intro w hSw
      try dsimp only at hSw
      go_simp
      try with_reducible rfl
    try simp only [Act.put]
    refine wpAnyH_take (i := 13) (v := ?_) rfl (by kernel_rfl) (by kernel_rfl) (by kernel_rfl) (fun _ _ _ h => h) (Or.inl ⟨by rfl, ?_⟩) (by assumption) ?_
    rotate_left
    · intro w hSw
      try dsimp only at hSw
      go_simp
      try with_reducible rfl
    try simp only [Act.put]
    refine wpAnyH_take (i := 14) (v := ?_) rfl (by kernel_rfl) (by kernel_rfl) (by kernel_rfl) (fun _ _ _ h => h) (Or.inl ⟨by rfl, ?_⟩) (by assumption) ?_
    rotate_left
    · intro w hSw
      try dsimp only at hSw
      go_simp
      try with_reducible rfl
    try simp only [Act.put]
    refine wpAnyH_take (i := 15) (v := ?_) rfl (by kernel_rfl) (by kernel_rfl) (by kernel_rfl) (fun _ _ _ h => h) (Or.inl ⟨by rfl, ?_⟩) (by assumption) ?_
    rotate_left
    · intro w hSw
      try dsimp only at hSw
      go_simp
      try with_reducible rfl
    try simp only [Act.put]
    refine wpAnyH_take (i := 16) (v := ?_) rfl (by kernel_rfl) (by kernel_rfl) (by kernel_rfl) (fun _ _ _ h => h) (Or.inl ⟨by rfl, ?_⟩) (by assumption) ?_
    rotate_left
    · intro w hSw
      try dsimp only at hSw
      go_simp
      try with_reducible rfl
    try simp only [Act.put]
    refine wpAnyH_take (i := 17) (v := ?_) rfl (by kernel_rfl) (by kernel_rfl) (by kernel_rfl) (fun _ _ _ h => h) (Or.inl ⟨by rfl, ?_⟩) (by assumption) ?_
    rotate_left
    · intro w hSw
      try dsimp only at hSw
      go_simp
      try with_reducible rfl
    try simp only [Act.put]
    refine wpAnyH_ready (rs := [5, 9]) (by kernel_rfl) (by simp) ?_
    refine AllReadyH.cons rfl (fun K hK => ?_) (AllReadyH.cons rfl (fun K hK => ?_) AllReadyH.nil)
    · go_simp
      refine hK.out _ _ ⟨dA, dB⟩ (fun _ => ?_)
      clear hK K
      refine wpAnyH_ready (rs := [9]) (by kernel_rfl) (by simp) ?_
      refine AllReadyH.cons rfl (fun K hK => ?_) AllReadyH.nil
      go_simp
      refine hK.out _ _ ⟨dA, dB⟩ (fun _ => ?_)
      clear hK K
      refine wpAnyH_ready (rs := [18]) (by kernel_rfl) (by simp) ?_
      refine AllReadyH.cons rfl (fun K hK => ?_) AllReadyH.nil
      go_simp
      refine (div_word _ _ n y w.drew (HNA.out.below HE.out (Nat.le_refl _)) (HNB.out.below HE.out (Nat.le_refl _)) HL1.out HL2.out HY0.out HYW.out).mono ?_
      rintro e w1 ⟨v, v2, rfl, hv, hv2, hb⟩
      have HV := hid hv
      have HV2 := hid hv2
      have HB1 : Hid (Below w.heap.size w w1) := hid (HE.out.trans hb)
      obtain ⟨a', l', c', rfl, hlq⟩ := nw_shape hv
      have HLQ : Hid (0 < l') := hid (by rw [hlq.out]; exact len_pos (quot_pos HL1.out HY0.out HYW.out))
      clear hlq
      obtain ⟨a'', l'', c'', rfl, _⟩ := nw_shape hv2
      have HQ1 := hid (HQ.out.below HB1.out HQ.out.lt)
      have HR1 := hid (HR.out.below HB1.out HR.out.lt)
      have HA1 := hid (HA.out.below HB1.out HA.out.lt)
      have HBB1 := hid (HBB.out.below HB1.out HBB.out.lt)
      have HNB1 := hid (HNB.out.below HB1.out (Nat.le_refl _))
      clear hv hv2 hb dq dr dA dB
      obtain ⟨q0, q1, qf0, qf1⟩ := two_cells HQ1.out
      obtain ⟨r0, r1, rf0, rf1⟩ := two_cells HR1.out
      have HQ2 := hid (Blk.set HQ1.out 1 (.slice a' l' c'))
      have HR2 := hid (HR1.out.far1 (i := 1) HNE.out.1 (.slice a' l' c'))
      have HA2 := hid (HA1.out.far1 (i := 1) HNE.out.2.1 (.slice a' l' c'))
      have HBB2 := hid (HBB1.out.far1 (i := 1) HNE.out.2.2.1 (.slice a' l' c'))
      have HR3 := hid (Blk.set HR2.out 1 (.slice a'' l'' c''))
      have HQ3 := hid (HQ2.out.far1 (i := 1) HNE.out.1.symm (.slice a'' l'' c''))
      have HA3 := hid (HA2.out.far1 (i := 1) HNE.out.2.2.2.1 (.slice a'' l'' c''))
      have HBB3 := hid (HBB2.out.far1 (i := 1) HNE.out.2.2.2.2 (.slice a'' l'' c''))
      obtain ⟨_, r1', _, rf1'⟩ := two_cells HR2.out
      go_wp2_with fail
      refine hK.out _ _ ⟨HA1.out.cell 1, HBB1.out.cell 1⟩ (fun _ => ?_)
      clear hK K
      refine wpAnyH_take (i := 19) (v := ?_) rfl (by kernel_rfl) (by kernel_rfl) (by kernel_rfl) (fun _ _ _ h => h) (Or.inl ⟨by rfl, ?_⟩) (by assumption) ?_
      rotate_left
      · intro w hSw
        try dsimp only at hSw
        go_simp
        try with_reducible rfl
      try simp only [Act.put]
      refine wpAnyH_take (i := 20) (v := ?_) rfl (by kernel_rfl) (by kernel_rfl) (by kernel_rfl) (fun _ _ _ h => h) (Or.inl ⟨by rfl, ?_⟩) (by assumption) ?_
      rotate_left
      · intro w hSw
        try dsimp only at hSw
        go_simp
        try with_reducible rfl
      try simp only [Act.put]
      refine wpAnyH_take (i := 21) (v := ?_) rfl (by kernel_rfl) (by kernel_rfl) (by kernel_rfl) (fun _ _ _ h => h) (Or.inl ⟨by rfl, ?_⟩) (by assumption) ?_
      rotate_left
      · intro w hSw
        try dsimp only at hSw
        go_simp
        try with_reducible rfl
      try simp only [Act.put]
      refine wpAnyH_take (i := 22) (v := ?_) rfl (by kernel_rfl) (by kernel_rfl) (by kernel_rfl) (fun _ _ _ h => h) (Or.inl ⟨by rfl, ?_⟩) (by assumption) ?_
      rotate_left
      · intro w hSw
        try dsimp only at hSw
        go_simp
        try with_reducible rfl
      try simp only [Act.put]
      refine wpAnyH_take (i := 23) (v := ?_) rfl (by kernel_rfl) (by kernel_rfl) (by kernel_rfl) (fun _ _ _ h => h) (Or.inl ⟨by rfl, ?_⟩) (by assumption) ?_
      rotate_left
      · intro w hSw
        try dsimp only at hSw
        go_simp
        try with_reducible rfl
      try simp only [Act.put]
      refine wpAnyH_ready (rs := [24]) (by kernel_rfl) (by simp) ?_
      refine AllReadyH.cons rfl (fun K hK => ?_) AllReadyH.nil
      go_simp
      refine hK.out _ _ ⟨HA2.out.cell 1, HBB2.out.cell 1⟩ (fun _ => ?_)
      clear hK K
      refine wpAnyH_take (i := 25) (v := ?_) rfl (by kernel_rfl) (by kernel_rfl) (by kernel_rfl) (fun _ _ _ h => h) (Or.inl ⟨by rfl, ?_⟩) (by assumption) ?_
      rotate_left
      · intro w hSw
        try dsimp only at hSw
        go_simp
        try with_reducible rfl
      try simp only [Act.put]
      refine wpAnyH_take (i := 26) (v := ?_) rfl (by kernel_rfl) (by kernel_rfl) (by kernel_rfl) (fun _ _ _ h => h) (Or.inl ⟨by rfl, ?_⟩) (by assumption) ?_
      rotate_left
      · intro w hSw
        try dsimp only at hSw
        go_simp
        try with_reducible rfl
      try simp only [Act.put]
      refine wpAnyH_ready (rs := [27]) (by kernel_rfl) (by simp) ?_
      refine AllReadyH.cons rfl (fun K hK => ?_) AllReadyH.nil
      go_simp
      refine hK.out _ _ ⟨HA3.out.cell 1, HBB3.out.cell 1⟩ (fun _ => ?_)
      clear hK K
      refine wpAnyH_done (by kernel_rfl) ?_ _
      have HS : Hid (w1.shape? bq = some (124, 2) ∧ w1.shape? br = some (124, 2)) := hid ⟨HQ1.out.shape, HR1.out.shape⟩
      clear q0 q1 qf0 qf1 r0 r1 rf0 rf1 r1' rf1' HQ1 HR1 HA1 HBB1 HQ2 HR2 HA2 HBB2
      have HW3 := hid ((HV2.out.set (p := ⟨bq, 1, none⟩) (.slice a' l' c') HS.out.1 (by decide)).set (p := ⟨br, 1, none⟩) (.slice a'' l'' c'') (by rw [shape_setCell]; exact HS.out.2) (by decide))
      have HN3 := hid ((HNB1.out.set (p := ⟨bq, 1, none⟩) (.slice a' l' c') HS.out.1 (by decide)).set (p := ⟨br, 1, none⟩) (.slice a'' l'' c'') (by rw [shape_setCell]; exact HS.out.2) (by decide))
      have HK3 : Hid (∀ K, K ≤ bq → K ≤ br → Below K w ((w1.setCell ⟨bq, 1, none⟩ (.slice a' l' c')).setCell ⟨br, 1, none⟩ (.slice a'' l'' c''))) := hid (fun K h1 h2 => (((HB1.out.mono (by have := HQ.out.lt; omega)).setCell (p := ⟨bq, 1, none⟩) h1 _).setCell (p := ⟨br, 1, none⟩) h2 _))
      have HKP : Hid (∀ b c e, Blk w b c e → b ≠ bq → b ≠ br → Blk ((w1.setCell ⟨bq, 1, none⟩ (.slice a' l' c')).setCell ⟨br, 1, none⟩ (.slice a'' l'' c'')) b c e) := hid (fun b c e h h1 h2 => ((h.below HB1.out h.lt).far1 h1 _).far1 h2 _)
      have HQ4 : Hid (Blk ((w1.setCell ⟨bq, 1, none⟩ (.slice a' l' c')).setCell ⟨br, 1, none⟩ (.slice a'' l'' c'')) bq #[.bool false, .slice a' l' c'] 124) := HQ3
      have HR4 : Hid (Blk ((w1.setCell ⟨bq, 1, none⟩ (.slice a' l' c')).setCell ⟨br, 1, none⟩ (.slice a'' l'' c'')) br #[.bool false, .slice a'' l'' c''] 124) := HR3
      clear HQ3 HR3 HV HV2 HB1 HNB1 HS
      generalize (w1.setCell ⟨bq, 1, none⟩ (.slice a' l' c')).setCell ⟨br, 1, none⟩ (.slice a'' l'' c'') = W at *
      focus go_wp2_with fail
      go_meet
      exact ⟨a', l', c', a'', l'', c'', HLQ, HQ4, HR4, HA3, HBB3, HW3, HN3, HK3, HKP⟩
    · go_simp
      refine hK.out _ _ ⟨dA, dB⟩ (fun _ => ?_)
      clear hK K
      refine wpAnyH_ready (rs := [5]) (by kernel_rfl) (by simp) ?_
      refine AllReadyH.cons rfl (fun K hK => ?_) AllReadyH.nil
      go_simp
      refine hK.out _ _ ⟨dA, dB⟩ (fun _ => ?_)
      clear hK K
      refine wpAnyH_ready (rs := [18]) (by kernel_rfl) (by simp) ?_
      refine AllReadyH.cons rfl (fun K hK => ?_) AllReadyH.nil
      go_simp
      refine (div_word _ _ n y w.drew (HNA.out.below HE.out (Nat.le_refl _)) (HNB.out.below HE.out (Nat.le_refl _)) HL1.out HL2.out HY0.out HYW.out).mono ?_
      rintro e w1 ⟨v, v2, rfl, hv, hv2, hb⟩
      have HV := hid hv
      have HV2 := hid hv2
      have HB1 : Hid (Below w.heap.size w w1) := hid (HE.out.trans hb)
      obtain ⟨a', l', c', rfl, hlq⟩ := nw_shape hv
      have HLQ : Hid (0 < l') := hid (by rw [hlq.out]; exact len_pos (quot_pos HL1.out HY0.out HYW.out))
      clear hlq
      obtain ⟨a'', l'', c'', rfl, _⟩ := nw_shape hv2
      have HQ1 := hid (HQ.out.below HB1.out HQ.out.lt)
      have HR1 := hid (HR.out.below HB1.out HR.out.lt)
      have HA1 := hid (HA.out.below HB1.out HA.out.lt)
      have HBB1 := hid (HBB.out.below HB1.out HBB.out.lt)
      have HNB1 := hid (HNB.out.below HB1.out (Nat.le_refl _))
      clear hv hv2 hb dq dr dA dB
      obtain ⟨q0, q1, qf0, qf1⟩ := two_cells HQ1.out
      obtain ⟨r0, r1, rf0, rf1⟩ := two_cells HR1.out
      have HQ2 := hid (Blk.set HQ1.out 1 (.slice a' l' c'))
      have HR2 := hid (HR1.out.far1 (i := 1) HNE.out.1 (.slice a' l' c'))
      have HA2 := hid (HA1.out.far1 (i := 1) HNE.out.2.1 (.slice a' l' c'))
      have HBB2 := hid (HBB1.out.far1 (i := 1) HNE.out.2.2.1 (.slice a' l' c'))
      have HR3 := hid (Blk.set HR2.out 1 (.slice a'' l'' c''))
      have HQ3 := hid (HQ2.out.far1 (i := 1) HNE.out.1.symm (.slice a'' l'' c''))
      have HA3 := hid (HA2.out.far1 (i := 1) HNE.out.2.2.2.1 (.slice a'' l'' c''))
      have HBB3 := hid (HBB2.out.far1 (i := 1) HNE.out.2.2.2.2 (.slice a'' l'' c''))
      obtain ⟨_, r1', _, rf1'⟩ := two_cells HR2.out
      go_wp2_with fail
      refine hK.out _ _ ⟨HA1.out.cell 1, HBB1.out.cell 1⟩ (fun _ => ?_)
      clear hK K
      refine wpAnyH_take (i := 19) (v := ?_) rfl (by kernel_rfl) (by kernel_rfl) (by kernel_rfl) (fun _ _ _ h => h) (Or.inl ⟨by rfl, ?_⟩) (by assumption) ?_
      rotate_left
      · intro w hSw
        try dsimp only at hSw
        go_simp
        try with_reducible rfl
      try simp only [Act.put]
      refine wpAnyH_take (i := 20) (v := ?_) rfl (by kernel_rfl) (by kernel_rfl) (by kernel_rfl) (fun _ _ _ h => h) (Or.inl ⟨by rfl, ?_⟩) (by assumption) ?_
      rotate_left
      · intro w hSw
        try dsimp only at hSw
        go_simp
        try with_reducible rfl
      try simp only [Act.put]
      refine wpAnyH_take (i := 21) (v := ?_) rfl (by kernel_rfl) (by kernel_rfl) (by kernel_rfl) (fun _ _ _ h => h) (Or.inl ⟨by rfl, ?_⟩) (by assumption) ?_
      rotate_left
      · intro w hSw
        try dsimp only at hSw
        go_simp
        try with_reducible rfl
      try simp only [Act.put]
      refine wpAnyH_take (i := 22) (v := ?_) rfl (by kernel_rfl) (by kernel_rfl) (by kernel_rfl) (fun _ _ _ h => h) (Or.inl ⟨by rfl, ?_⟩) (by assumption) ?_
      rotate_left
      · intro w hSw
        try dsimp only at hSw
        go_simp
        try with_reducible rfl
      try simp only [Act.put]
      refine wpAnyH_take (i := 23) (v := ?_) rfl (by kernel_rfl) (by kernel_rfl) (by kernel_rfl) (fun _ _ _ h => h) (Or.inl ⟨by rfl, ?_⟩) (by assumption) ?_
      rotate_left
      · intro w hSw
        try dsimp only at hSw
        go_simp
        try with_reducible rfl
      try simp only [Act.put]
      refine wpAnyH_ready (rs := [24]) (by kernel_rfl) (by simp) ?_
      refine AllReadyH.cons rfl (fun K hK => ?_) AllReadyH.nil
      go_simp
      refine hK.out _ _ ⟨HA2.out.cell 1, HBB2.out.cell 1⟩ (fun _ => ?_)
      clear hK K
      refine wpAnyH_take (i := 25) (v := ?_) rfl (by kernel_rfl) (by kernel_rfl) (by kernel_rfl) (fun _ _ _ h => h) (Or.inl ⟨by rfl, ?_⟩) (by assumption) ?_
      rotate_left
      · intro w hSw
        try dsimp only at hSw
        go_simp
        try with_reducible rfl
      try simp only [Act.put]
      refine wpAnyH_take (i := 26) (v := ?_) rfl (by kernel_rfl) (by kernel_rfl) (by kernel_rfl) (fun _ _ _ h => h) (Or.inl ⟨by rfl, ?_⟩) (by assumption) ?_
      rotate_left
      · intro w hSw
        try dsimp only at hSw
        go_simp
        try with_reducible rfl
      try simp only [Act.put]
      refine wpAnyH_ready (rs := [27]) (by kernel_rfl) (by simp) ?_
      refine AllReadyH.cons rfl (fun K hK => ?_) AllReadyH.nil
      go_simp
      refine hK.out _ _ ⟨HA3.out.cell 1, HBB3.out.cell 1⟩ (fun _ => ?_)
      clear hK K
      refine wpAnyH_done (by kernel_rfl) ?_ _
      have HS : Hid (w1.shape? bq = some (124, 2) ∧ w1.shape? br = some (124, 2)) := hid ⟨HQ1.out.shape, HR1.out.shape⟩
      clear q0 q1 qf0 qf1 r0 r1 rf0 rf1 r1' rf1' HQ1 HR1 HA1 HBB1 HQ2 HR2 HA2 HBB2
      have HW3 := hid ((HV2.out.set (p := ⟨bq, 1, none⟩) (.slice a' l' c') HS.out.1 (by decide)).set (p := ⟨br, 1, none⟩) (.slice a'' l'' c'') (by rw [shape_setCell]; exact HS.out.2) (by decide))
      have HN3 := hid ((HNB1.out.set (p := ⟨bq, 1, none⟩) (.slice a' l' c') HS.out.1 (by decide)).set (p := ⟨br, 1, none⟩) (.slice a'' l'' c'') (by rw [shape_setCell]; exact HS.out.2) (by decide))
      have HK3 : Hid (∀ K, K ≤ bq → K ≤ br → Below K w ((w1.setCell ⟨bq, 1, none⟩ (.slice a' l' c')).setCell ⟨br, 1, none⟩ (.slice a'' l'' c''))) := hid (fun K h1 h2 => (((HB1.out.mono (by have := HQ.out.lt; omega)).setCell (p := ⟨bq, 1, none⟩) h1 _).setCell (p := ⟨br, 1, none⟩) h2 _))
      have HKP : Hid (∀ b c e, Blk w b c e → b ≠ bq → b ≠ br → Blk ((w1.setCell ⟨bq, 1, none⟩ (.slice a' l' c')).setCell ⟨br, 1, none⟩ (.slice a'' l'' c'')) b c e) := hid (fun b c e h h1 h2 => ((h.below HB1.out h.lt).far1 h1 _).far1 h2 _)
      have HQ4 : Hid (Blk ((w1.setCell ⟨bq, 1, none⟩ (.slice a' l' c')).setCell ⟨br, 1, none⟩ (.slice a'' l'' c'')) bq #[.bool false, .slice a' l' c'] 124) := HQ3
      have HR4 : Hid (Blk ((w1.setCell ⟨bq, 1, none⟩ (.slice a' l' c')).setCell ⟨br, 1, none⟩ (.slice a'' l'' c'')) br #[.bool false, .slice a'' l'' c''] 124) := HR3
      clear HQ3 HR3 HV HV2 HB1 HNB1 HS
      generalize (w1.setCell ⟨bq, 1, none⟩ (.slice a' l' c')).setCell ⟨br, 1, none⟩ (.slice a'' l'' c'') = W at *
      focus go_wp2_with fail
      go_meet
      exact ⟨a', l', c', a'', l'', c'', HLQ, HQ4, HR4, HA3, HBB3, HW3, HN3, HK3, HKP⟩
  case rest =>
    obtain ⟨a', l', c', a'', l'', c'', HLQ, HQ4, HR4, HA3, HBB3, HW3, HN3, HK3, HKP⟩ := hcut
    generalize wc = W at *
    clear HQ HR HA HBB HNA HNB HL1 HL2 HY0 HYW
    have hl1 : decide ((0 : Int) < (l' : Int)) = true := by
      have := HLQ.out
      exact decide_eq_true (by omega)
    have hl1' : 0 < l' := HLQ.out
    
    have kd : W.drew.cell? ⟨bq, 1, none⟩ = some (.slice a' l' c') ∧ W.drew.cell? ⟨br, 1, none⟩ = some (.slice a'' l'' c'') ∧ W.drew.cell? ⟨bA, 0, none⟩ = some (.bool false) ∧ W.drew.cell? ⟨bB, 0, none⟩ = some (.bool false) := ⟨HQ4.out.cell 1, HR4.out.cell 1, HA3.out.cell 0, HBB3.out.cell 0⟩
    have HQ5 := hid (show Blk W.drew bq #[.bool false, .slice a' l' c'] 124 from HQ4.out)
    have HR5 := hid (show Blk W.drew br #[.bool false, .slice a'' l'' c''] 124 from HR4.out)
    have HA5 := hid (show Blk W.drew bA #[.bool false, .slice aA lA cA] 124 from HA3.out)
    have HB5 := hid (show Blk W.drew bB #[.bool false, .slice aB lB cB] 124 from HBB3.out)
    have HQ6 := hid (Blk.set HQ5.out 0 (.bool false))
    have HR6 := hid (HR5.out.far1 (i := 0) HNE.out.1 (.bool false))
    have HA6 := hid (HA5.out.far1 (i := 0) HNE.out.2.1 (.bool false))
    have HB6 := hid (HB5.out.far1 (i := 0) HNE.out.2.2.1 (.bool false))
    have HR7 := hid (Blk.set HR6.out 0 (.bool false))
    have HQ7 := hid (HQ6.out.far1 (i := 0) HNE.out.1.symm (.bool false))
    have HA7 := hid (HA6.out.far1 (i := 0) HNE.out.2.2.2.1 (.bool false))
    have HB7 := hid (HB6.out.far1 (i := 0) HNE.out.2.2.2.2 (.bool false))
    have HS : Hid (W.drew.shape? bq = some (124, 2) ∧ W.drew.shape? br = some (124, 2)) := hid ⟨HQ5.out.shape, HR5.out.shape⟩
    have HE2 : Hid (Below W.heap.size W W.drew) := (Below.refl _ _).drew
    have HW8 := hid (((HW3.out.below HE2.out (Nat.le_refl _)).set (p := ⟨bq, 0, none⟩) (.bool false) HS.out.1 (by decide)).set (p := ⟨br, 0, none⟩) (.bool false) (by rw [shape_setCell]; exact HS.out.2) (by decide))
    have HN8 := hid (((HN3.out.below HE2.out (Nat.le_refl _)).set (p := ⟨bq, 0, none⟩) (.bool false) HS.out.1 (by decide)).set (p := ⟨br, 0, none⟩) (.bool false) (by rw [shape_setCell]; exact HS.out.2) (by decide))
    have HK8 : Hid (∀ K, K ≤ bq → K ≤ br → Below K w ((W.drew.setCell ⟨bq, 0, none⟩ (.bool false)).setCell ⟨br, 0, none⟩ (.bool false))) := hid (fun K h1 h2 => (((HK3.out K h1 h2).trans (Below.refl K W).drew).setCell (p := ⟨bq, 0, none⟩) h1 _).setCell (p := ⟨br, 0, none⟩) h2 _)
    rcases Nat.eq_zero_or_pos l'' with hz | hz
    · subst hz
      focus go_wp2_with fail
      refine wp_region_held_drew (S := fun w' => w'.cell? ⟨bq, 1, none⟩ = some (.slice a' l' c') ∧ w'.cell? ⟨br, 1, none⟩ = some (.slice a'' 0 c'') ∧ w'.cell? ⟨bA, 0, none⟩ = some (.bool false) ∧ w'.cell? ⟨bB, 0, none⟩ = some (.bool false)) (by kernel_rfl) kd (fun hHeld => ?_)
      refine wpAnyH_take (i := 0) (v := ?_) rfl (by kernel_rfl) (by kernel_rfl) (by kernel_rfl) (fun _ _ _ h => h) (Or.inl ⟨by rfl, ?_⟩) (by assumption) ?_
      rotate_left
      · intro w hSw
        try dsimp only at hSw
        go_simp
        try with_reducible rfl
      simp only [Act.put, List.getElem_toArray, List.getElem_cons_zero, List.setIfInBounds_toArray, List.set_cons_succ, List.set_cons_zero]
      refine wpAnyH_take (i := 1) (v := ?_) rfl (by kernel_rfl) (by kernel_rfl) (by kernel_rfl) (fun _ _ _ h => h) (Or.inl ⟨by rfl, ?_⟩) (by assumption) ?_
      rotate_left
      · intro w hSw
        try dsimp only at hSw
        go_simp
        try with_reducible rfl
      simp only [Act.put, List.getElem_toArray, List.getElem_cons_succ, List.getElem_cons_zero, List.setIfInBounds_toArray, List.set_cons_succ, List.set_cons_zero]
      refine wpAnyH_take (i := 2) (v := ?_) rfl (by kernel_rfl) (by kernel_rfl) (by kernel_rfl) (fun _ _ _ h => h) (Or.inl ⟨by rfl, ?_⟩) (by assumption) ?_
      rotate_left
      · intro w hSw
        try dsimp only at hSw
        go_simp
        try with_reducible rfl
      simp only [Act.put, List.getElem_toArray, List.getElem_cons_succ, List.getElem_cons_zero, List.setIfInBounds_toArray, List.set_cons_succ, List.set_cons_zero]
      refine wpAnyH_take (i := 3) (v := ?_) rfl (by kernel_rfl) (by kernel_rfl) (by kernel_rfl) (fun _ _ _ h => h) (Or.inl ⟨by rfl, ?_⟩) (by assumption) ?_
      rotate_left
      · intro w hSw
        try dsimp only at hSw
        go_simp
        try with_reducible rfl
      simp only [Act.put, List.getElem_toArray, List.getElem_cons_succ, List.getElem_cons_zero, List.setIfInBounds_toArray, List.set_cons_succ, List.set_cons_zero]
      refine wpAnyH_take (i := 4) (v := ?_) rfl (by kernel_rfl) (by kernel_rfl) (by kernel_rfl) (fun _ _ _ h => h) (Or.inl ⟨by rfl, ?_⟩) (by assumption) ?_
      rotate_left
      · intro w hSw
        try dsimp only at hSw
        go_simp
        try with_reducible rfl
      simp only [Act.put, List.getElem_toArray, List.getElem_cons_succ, List.getElem_cons_zero, List.setIfInBounds_toArray, List.set_cons_succ, List.set_cons_zero]
      refine wpAnyH_take (i := 5) (v := ?_) rfl (by kernel_rfl) (by kernel_rfl) (by kernel_rfl) (fun _ _ _ h => h) (Or.inl ⟨by rfl, ?_⟩) (by assumption) ?_
      rotate_left
      · intro w hSw
        try dsimp only at hSw
        go_simp
        try with_reducible rfl
      simp only [Act.put, List.getElem_toArray, List.getElem_cons_succ, List.getElem_cons_zero, List.setIfInBounds_toArray, List.set_cons_succ, List.set_cons_zero]
      refine wpAnyH_take (i := 6) (v := ?_) rfl (by kernel_rfl) (by kernel_rfl) (by kernel_rfl) (fun _ _ _ h => h) (Or.inl ⟨by rfl, ?_⟩) (by assumption) ?_
      rotate_left
      · intro w hSw
        try dsimp only at hSw
        go_simp
        try with_reducible rfl
      simp only [Act.put, List.getElem_toArray, List.getElem_cons_succ, List.getElem_cons_zero, List.setIfInBounds_toArray, List.set_cons_succ, List.set_cons_zero]
      refine wpAnyH_take (i := 7) (v := ?_) rfl (by kernel_rfl) (by kernel_rfl) (by kernel_rfl) (fun _ _ _ h => h) (Or.inl ⟨by rfl, ?_⟩) (by assumption) ?_
      rotate_left
      · intro w hSw
        try dsimp only at hSw
        go_simp
        try with_reducible rfl
      simp only [Act.put, List.getElem_toArray, List.getElem_cons_succ, List.getElem_cons_zero, List.setIfInBounds_toArray, List.set_cons_succ, List.set_cons_zero]
      refine wpAnyH_take (i := 8) (v := ?_) rfl (by kernel_rfl) (by kernel_rfl) (by kernel_rfl) (fun _ _ _ h => h) (Or.inl ⟨by rfl, ?_⟩) (by assumption) ?_
      rotate_left
      · intro w hSw
        try dsimp only at hSw
        go_simp
        try with_reducible rfl
      simp only [Act.put, List.getElem_toArray, List.getElem_cons_succ, List.getElem_cons_zero, List.setIfInBounds_toArray, List.set_cons_succ, List.set_cons_zero]
      refine wpAnyH_take (i := 9) (v := ?_) rfl (by kernel_rfl) (by kernel_rfl) (by kernel_rfl) (fun _ _ _ h => h) (Or.inl ⟨by rfl, ?_⟩) (by assumption) ?_
      rotate_left
      · intro w hSw
        try dsimp only at hSw
        go_simp
        try with_reducible rfl
      simp only [Act.put, List.getElem_toArray, List.getElem_cons_succ, List.getElem_cons_zero, List.setIfInBounds_toArray, List.set_cons_succ, List.set_cons_zero]
      refine wpAnyH_take (i := 10) (v := ?_) rfl (by kernel_rfl) (by kernel_rfl) (by kernel_rfl) (fun _ _ _ h => h) (Or.inl ⟨by rfl, ?_⟩) (by assumption) ?_
      rotate_left
      · intro w hSw
        try dsimp only at hSw
        go_simp
        try with_reducible rfl
      simp only [Act.put, List.getElem_toArray, List.getElem_cons_succ, List.getElem_cons_zero, List.setIfInBounds_toArray, List.set_cons_succ, List.set_cons_zero]
      refine wpAnyH_take (i := 11) (v := ?_) rfl (by kernel_rfl) (by kernel_rfl) (by kernel_rfl) (fun _ _ _ h => h) (Or.inl ⟨by rfl, ?_⟩) (by assumption) ?_
      rotate_left
      · intro w hSw
        try dsimp only at hSw
        go_simp
        try with_reducible rfl
      simp only [Act.put, List.getElem_toArray, List.getElem_cons_succ, List.getElem_cons_zero, List.setIfInBounds_toArray, List.set_cons_succ, List.set_cons_zero]
      refine wpAnyH_take (i := 12) (v := ?_) rfl (by kernel_rfl) (by kernel_rfl) (by kernel_rfl) (fun _ _ _ h => h) (Or.inl ⟨by rfl, ?_⟩) (by assumption) ?_
      rotate_left
      · intro w hSw
        try dsimp only at hSw
        go_simp
        try with_reducible rfl
      simp only [Act.put, List.getElem_toArray, List.getElem_cons_succ, List.getElem_cons_zero, List.setIfInBounds_toArray, List.set_cons_succ, List.set_cons_zero]
      refine wpAnyH_take (i := 13) (v := ?_) rfl (by kernel_rfl) (by kernel_rfl) (by kernel_rfl) (fun _ _ _ h => h) (Or.inl ⟨by rfl, ?_⟩) (by assumption) ?_
      rotate_left
      · intro w hSw
        try dsimp only at hSw
        go_simp
        try with_reducible rfl
      simp only [Act.put, List.getElem_toArray, List.getElem_cons_succ, List.getElem_cons_zero, List.setIfInBounds_toArray, List.set_cons_succ, List.set_cons_zero]
      refine wpAnyH_take (i := 14) (v := ?_) rfl (by kernel_rfl) (by kernel_rfl) (by kernel_rfl) (fun _ _ _ h => h) (Or.inl ⟨by rfl, ?_⟩) (by assumption) ?_
      rotate_left
      · intro w hSw
        try dsimp only at hSw
        go_simp
        try with_reducible rfl
      simp only [Act.put, List.getElem_toArray, List.getElem_cons_succ, List.getElem_cons_zero, List.setIfInBounds_toArray, List.set_cons_succ, List.set_cons_zero]
      refine wpAnyH_take (i := 15) (v := ?_) rfl (by kernel_rfl) (by kernel_rfl) (by kernel_rfl) (fun _ _ _ h => h) (Or.inl ⟨by rfl, ?_⟩) (by assumption) ?_
      rotate_left
      · intro w hSw
        try dsimp only at hSw
        go_simp
        try with_reducible rfl
      simp only [Act.put, List.getElem_toArray, List.getElem_cons_succ, List.getElem_cons_zero, List.setIfInBounds_toArray, List.set_cons_succ, List.set_cons_zero]
      refine wpAnyH_take (i := 16) (v := ?_) rfl (by kernel_rfl) (by kernel_rfl) (by kernel_rfl) (fun _ _ _ h => h) (Or.inl ⟨by rfl, ?_⟩) (by assumption) ?_
      rotate_left
      · intro w hSw
        try dsimp only at hSw
        go_simp
        try with_reducible rfl
      simp only [Act.put, List.getElem_toArray, List.getElem_cons_succ, List.getElem_cons_zero, List.setIfInBounds_toArray, List.set_cons_succ, List.set_cons_zero]
      refine wpAnyH_take (i := 17) (v := ?_) rfl (by kernel_rfl) (by kernel_rfl) (by kernel_rfl) (fun _ _ _ h => h) (Or.inl ⟨by rfl, ?_⟩) (by assumption) ?_
      rotate_left
      · intro w hSw
        try dsimp only at hSw
        go_simp
        try with_reducible rfl
      simp only [Act.put, List.getElem_toArray, List.getElem_cons_succ, List.getElem_cons_zero, List.setIfInBounds_toArray, List.set_cons_succ, List.set_cons_zero]
      refine wpAnyH_take (i := 18) (v := ?_) rfl (by kernel_rfl) (by kernel_rfl) (by kernel_rfl) (fun _ _ _ h => h) (Or.inl ⟨by rfl, ?_⟩) (by assumption) ?_
      rotate_left
      · intro w hSw
        try dsimp only at hSw
        go_simp
        try with_reducible rfl
      simp only [Act.put, List.getElem_toArray, List.getElem_cons_succ, List.getElem_cons_zero, List.setIfInBounds_toArray, List.set_cons_succ, List.set_cons_zero]
      refine wpAnyH_take (i := 19) (v := ?_) rfl (by kernel_rfl) (by kernel_rfl) (by kernel_rfl) (fun _ _ _ h => h) (Or.inl ⟨by rfl, ?_⟩) (by assumption) ?_
      rotate_left
      · intro w hSw
        try dsimp only at hSw
        go_simp
        try with_reducible rfl
      simp only [Act.put, List.getElem_toArray, List.getElem_cons_succ, List.getElem_cons_zero, List.setIfInBounds_toArray, List.set_cons_succ, List.set_cons_zero]
      refine wpAnyH_take (i := 20) (v := ?_) rfl (by kernel_rfl) (by kernel_rfl) (by kernel_rfl) (fun _ _ _ h => h) (Or.inl ⟨by rfl, ?_⟩) (by assumption) ?_
      rotate_left
      · intro w hSw
        try dsimp only at hSw
        go_simp
        try with_reducible rfl
      simp only [Act.put, List.getElem_toArray, List.getElem_cons_succ, List.getElem_cons_zero, List.setIfInBounds_toArray, List.set_cons_succ, List.set_cons_zero]
      refine wpAnyH_take (i := 21) (v := ?_) rfl (by kernel_rfl) (by kernel_rfl) (by kernel_rfl) (fun _ _ _ h => h) (Or.inl ⟨by rfl, ?_⟩) (by assumption) ?_
      rotate_left
      · intro w hSw
        try dsimp only at hSw
        go_simp
        try with_reducible rfl
      simp only [Act.put, List.getElem_toArray, List.getElem_cons_succ, List.getElem_cons_zero, List.setIfInBounds_toArray, List.set_cons_succ, List.set_cons_zero]
      refine wpAnyH_take (i := 22) (v := ?_) rfl (by kernel_rfl) (by kernel_rfl) (by kernel_rfl) (fun _ _ _ h => h) (Or.inl ⟨by rfl, ?_⟩) (by assumption) ?_
      rotate_left
      · intro w hSw
        try dsimp only at hSw
        go_simp
        try with_reducible rfl
      simp only [Act.put, List.getElem_toArray, List.getElem_cons_succ, List.getElem_cons_zero, List.setIfInBounds_toArray, List.set_cons_succ, List.set_cons_zero]
      refine wpAnyH_take (i := 23) (v := ?_) rfl (by kernel_rfl) (by kernel_rfl) (by kernel_rfl) (fun _ _ _ h => h) (Or.inl ⟨by rfl, ?_⟩) (by assumption) ?_
      rotate_left
      · intro w hSw
        try dsimp only at hSw
        go_simp
        try with_reducible rfl
      simp only [Act.put, List.getElem_toArray, List.getElem_cons_succ, List.getElem_cons_zero, List.setIfInBounds_toArray, List.set_cons_succ, List.set_cons_zero]
      refine wpAnyH_take (i := 24) (v := ?_) rfl (by kernel_rfl) (by kernel_rfl) (by kernel_rfl) (fun _ _ _ h => h) (Or.inl ⟨by rfl, ?_⟩) (by assumption) ?_
      rotate_left
      · intro w hSw
        try dsimp only at hSw
        go_simp
        try with_reducible rfl
      simp only [Act.put, List.getElem_toArray, List.getElem_cons_succ, List.getElem_cons_zero, List.setIfInBounds_toArray, List.set_cons_succ, List.set_cons_zero]
      refine wpAnyH_take (i := 25) (v := ?_) rfl (by kernel_rfl) (by kernel_rfl) (by kernel_rfl) (fun _ _ _ h => h) (Or.inl ⟨by rfl, ?_⟩) (by assumption) ?_
      rotate_left
      · intro w hSw
        try dsimp only at hSw
        go_simp
        try with_reducible rfl
      simp only [Act.put, List.getElem_toArray, List.getElem_cons_succ, List.getElem_cons_zero, List.setIfInBounds_toArray, List.set_cons_succ, List.set_cons_zero]
      refine wpAnyH_take (i := 26) (v := undef) rfl (by kernel_rfl) (by kernel_rfl) (by kernel_rfl) (fun _ _ _ h => h) (Or.inr ⟨by kernel_rfl, rfl⟩) (by assumption) ?_
      simp only [Act.put, List.getElem_toArray, List.getElem_cons_succ, List.getElem_cons_zero, List.setIfInBounds_toArray, List.set_cons_succ, List.set_cons_zero]
      refine wpAnyH_take (i := 27) (v := undef) rfl (by kernel_rfl) (by kernel_rfl) (by kernel_rfl) (fun _ _ _ h => h) (Or.inr ⟨by kernel_rfl, rfl⟩) (by assumption) ?_
      simp only [Act.put, List.getElem_toArray, List.getElem_cons_succ, List.getElem_cons_zero, List.setIfInBounds_toArray, List.set_cons_succ, List.set_cons_zero]
      refine wpAnyH_take (i := 28) (v := undef) rfl (by kernel_rfl) (by kernel_rfl) (by kernel_rfl) (fun _ _ _ h => h) (Or.inr ⟨by kernel_rfl, rfl⟩) (by assumption) ?_
      simp only [Act.put, List.getElem_toArray, List.getElem_cons_succ, List.getElem_cons_zero, List.setIfInBounds_toArray, List.set_cons_succ, List.set_cons_zero]
      refine wpAnyH_take (i := 29) (v := undef) rfl (by kernel_rfl) (by kernel_rfl) (by kernel_rfl) (fun _ _ _ h => h) (Or.inr ⟨by kernel_rfl, rfl⟩) (by assumption) ?_
      simp only [Act.put, List.getElem_toArray, List.getElem_cons_succ, List.getElem_cons_zero, List.setIfInBounds_toArray, List.set_cons_succ, List.set_cons_zero]
      refine wpAnyH_take (i := 30) (v := ?_) rfl (by kernel_rfl) (by kernel_rfl) (by kernel_rfl) (fun _ _ _ h => h) (Or.inl ⟨by rfl, ?_⟩) (by assumption) ?_
      rotate_left
      · intro w hSw
        try dsimp only at hSw
        go_simp
        try with_reducible rfl
      simp only [Act.put, List.getElem_toArray, List.getElem_cons_succ, List.getElem_cons_zero, List.setIfInBounds_toArray, List.set_cons_succ, List.set_cons_zero]
      refine wpAnyH_take (i := 31) (v := ?_) rfl (by kernel_rfl) (by kernel_rfl) (by kernel_rfl) (fun _ _ _ h => h) (Or.inl ⟨by rfl, ?_⟩) (by assumption) ?_
      rotate_left
      · intro w hSw
        try dsimp only at hSw
        go_simp
        try with_reducible rfl
      simp only [Act.put, List.getElem_toArray, List.getElem_cons_succ, List.getElem_cons_zero, List.setIfInBounds_toArray, List.set_cons_succ, List.set_cons_zero]
      refine wpAnyH_take (i := 32) (v := ?_) rfl (by kernel_rfl) (by kernel_rfl) (by kernel_rfl) (fun _ _ _ h => h) (Or.inl ⟨by rfl, ?_⟩) (by assumption) ?_
      rotate_left
      · intro w hSw
        try dsimp only at hSw
        go_simp
        try with_reducible rfl
      simp only [Act.put, List.getElem_toArray, List.getElem_cons_succ, List.getElem_cons_zero, List.setIfInBounds_toArray, List.set_cons_succ, List.set_cons_zero]
      obtain ⟨_, _, qf0, _⟩ := two_cells HQ5.out
      obtain ⟨q0, _, _, _⟩ := two_cells HQ5.out
      refine wpAnyH_ready (rs := [33]) (by kernel_rfl) (by simp) ?_
      refine AllReadyH.cons rfl (fun K hK => ?_) AllReadyH.nil
      go_simp
      refine hK.out _ _ ⟨HQ6.out.cell 1, HR6.out.cell 1, HA6.out.cell 0, HB6.out.cell 0⟩ (fun _ => ?_)
      clear hK K
      refine wpAnyH_take (i := 34) (v := ?_) rfl (by kernel_rfl) (by kernel_rfl) (by kernel_rfl) (fun _ _ _ h => h) (Or.inl ⟨by rfl, ?_⟩) (by assumption) ?_
      rotate_left
      · intro w hSw
        try dsimp only at hSw
        go_simp
        try with_reducible rfl
      simp only [Act.put, List.getElem_toArray, List.getElem_cons_succ, List.getElem_cons_zero, List.setIfInBounds_toArray, List.set_cons_succ, List.set_cons_zero]
      refine wpAnyH_take (i := 35) (v := ?_) rfl (by kernel_rfl) (by kernel_rfl) (by kernel_rfl) (fun _ _ _ h => h) (Or.inl ⟨by rfl, ?_⟩) (by assumption) ?_
      rotate_left
      · intro w hSw
        try dsimp only at hSw
        go_simp
        try with_reducible rfl
      simp only [Act.put, List.getElem_toArray, List.getElem_cons_succ, List.getElem_cons_zero, List.setIfInBounds_toArray, List.set_cons_succ, List.set_cons_zero]
      have r0 : (W.setCell ⟨bq, 0, none⟩ (.bool false)).cell? ⟨br, 0, none⟩ = some (.bool false) := HR6.out.cell 0
      have rf0 : W.frozen? ⟨br, 0, none⟩ = false := HR5.out.frozen 0
      refine wpAnyH_ready (rs := [36]) (by kernel_rfl) (by simp) ?_
      refine AllReadyH.cons rfl (fun K hK => ?_) AllReadyH.nil
      go_simp
      refine hK.out _ _ ⟨HQ7.out.cell 1, HR7.out.cell 1, HA7.out.cell 0, HB7.out.cell 0⟩ (fun _ => ?_)
      clear hK K
      refine wpAnyH_done (by kernel_rfl) ?_ _
      focus go_wp2_with fail
      go_ret2
      exact ⟨rfl, HB7.out, HN8.out, ⟨_, HR7.out, HW8.out⟩, HK8.out, fun b c e h h1 h2 => Blk.far1 (Blk.far1 (show Blk W.drew b c e from HKP.out b c e h h1 h2) h1 _) h2 _⟩
    · have hz2 : decide ((0 : Int) < (l'' : Int)) = true := decide_eq_true (by omega)
      focus go_wp2_with fail
      refine wp_region_held_drew (S := fun w' => w'.cell? ⟨bq, 1, none⟩ = some (.slice a' l' c') ∧ w'.cell? ⟨br, 1, none⟩ = some (.slice a'' l'' c'') ∧ w'.cell? ⟨bA, 0, none⟩ = some (.bool false) ∧ w'.cell? ⟨bB, 0, none⟩ = some (.bool false)) (by kernel_rfl) kd (fun hHeld => ?_)
      refine wpAnyH_take (i := 0) (v := ?_) rfl (by kernel_rfl) (by kernel_rfl) (by kernel_rfl) (fun _ _ _ h => h) (Or.inl ⟨by rfl, ?_⟩) (by assumption) ?_
      rotate_left
      · intro w hSw
        try dsimp only at hSw
        go_simp
        try with_reducible rfl
      simp only [Act.put, List.getElem_toArray, List.getElem_cons_zero, List.setIfInBounds_toArray, List.set_cons_succ, List.set_cons_zero]
      refine wpAnyH_take (i := 1) (v := ?_) rfl (by kernel_rfl) (by kernel_rfl) (by kernel_rfl) (fun _ _ _ h => h) (Or.inl ⟨by rfl, ?_⟩) (by assumption) ?_
      rotate_left
      · intro w hSw
        try dsimp only at hSw
        go_simp
        try with_reducible rfl
      simp only [Act.put, List.getElem_toArray, List.getElem_cons_succ, List.getElem_cons_zero, List.setIfInBounds_toArray, List.set_cons_succ, List.set_cons_zero]
      refine wpAnyH_take (i := 2) (v := ?_) rfl (by kernel_rfl) (by kernel_rfl) (by kernel_rfl) (fun _ _ _ h => h) (Or.inl ⟨by rfl, ?_⟩) (by assumption) ?_
      rotate_left
      · intro w hSw
        try dsimp only at hSw
        go_simp
        try with_reducible rfl
      simp only [Act.put, List.getElem_toArray, List.getElem_cons_succ, List.getElem_cons_zero, List.setIfInBounds_toArray, List.set_cons_succ, List.set_cons_zero]
      refine wpAnyH_take (i := 3) (v := ?_) rfl (by kernel_rfl) (by kernel_rfl) (by kernel_rfl) (fun _ _ _ h => h) (Or.inl ⟨by rfl, ?_⟩) (by assumption) ?_
      rotate_left
      · intro w hSw
        try dsimp only at hSw
        go_simp
        try with_reducible rfl
      simp only [Act.put, List.getElem_toArray, List.getElem_cons_succ, List.getElem_cons_zero, List.setIfInBounds_toArray, List.set_cons_succ, List.set_cons_zero]
      refine wpAnyH_take (i := 4) (v := ?_) rfl (by kernel_rfl) (by kernel_rfl) (by kernel_rfl) (fun _ _ _ h => h) (Or.inl ⟨by rfl, ?_⟩) (by assumption) ?_
      rotate_left
      · intro w hSw
        try dsimp only at hSw
        go_simp
        try with_reducible rfl
      simp only [Act.put, List.getElem_toArray, List.getElem_cons_succ, List.getElem_cons_zero, List.setIfInBounds_toArray, List.set_cons_succ, List.set_cons_zero]
      refine wpAnyH_take (i := 5) (v := ?_) rfl (by kernel_rfl) (by kernel_rfl) (by kernel_rfl) (fun _ _ _ h => h) (Or.inl ⟨by rfl, ?_⟩) (by assumption) ?_
      rotate_left
      · intro w hSw
        try dsimp only at hSw
        go_simp
        try with_reducible rfl
      simp only [Act.put, List.getElem_toArray, List.getElem_cons_succ, List.getElem_cons_zero, List.setIfInBounds_toArray, List.set_cons_succ, List.set_cons_zero]
      refine wpAnyH_take (i := 6) (v := ?_) rfl (by kernel_rfl) (by kernel_rfl) (by kernel_rfl) (fun _ _ _ h => h) (Or.inl ⟨by rfl, ?_⟩) (by assumption) ?_
      rotate_left
      · intro w hSw
        try dsimp only at hSw
        go_simp
        try with_reducible rfl
      simp only [Act.put, List.getElem_toArray, List.getElem_cons_succ, List.getElem_cons_zero, List.setIfInBounds_toArray, List.set_cons_succ, List.set_cons_zero]
      refine wpAnyH_take (i := 7) (v := ?_) rfl (by kernel_rfl) (by kernel_rfl) (by kernel_rfl) (fun _ _ _ h => h) (Or.inl ⟨by rfl, ?_⟩) (by assumption) ?_
      rotate_left
      · intro w hSw
        try dsimp only at hSw
        go_simp
        try with_reducible rfl
      simp only [Act.put, List.getElem_toArray, List.getElem_cons_succ, List.getElem_cons_zero, List.setIfInBounds_toArray, List.set_cons_succ, List.set_cons_zero]
      refine wpAnyH_take (i := 8) (v := ?_) rfl (by kernel_rfl) (by kernel_rfl) (by kernel_rfl) (fun _ _ _ h => h) (Or.inl ⟨by rfl, ?_⟩) (by assumption) ?_
      rotate_left
      · intro w hSw
        try dsimp only at hSw
        go_simp
        try with_reducible rfl
      simp only [Act.put, List.getElem_toArray, List.getElem_cons_succ, List.getElem_cons_zero, List.setIfInBounds_toArray, List.set_cons_succ, List.set_cons_zero]
      refine wpAnyH_take (i := 9) (v := ?_) rfl (by kernel_rfl) (by kernel_rfl) (by kernel_rfl) (fun _ _ _ h => h) (Or.inl ⟨by rfl, ?_⟩) (by assumption) ?_
      rotate_left
      · intro w hSw
        try dsimp only at hSw
        go_simp
        try with_reducible rfl
      simp only [Act.put, List.getElem_toArray, List.getElem_cons_succ, List.getElem_cons_zero, List.setIfInBounds_toArray, List.set_cons_succ, List.set_cons_zero]
      refine wpAnyH_take (i := 10) (v := ?_) rfl (by kernel_rfl) (by kernel_rfl) (by kernel_rfl) (fun _ _ _ h => h) (Or.inl ⟨by rfl, ?_⟩) (by assumption) ?_
      rotate_left
      · intro w hSw
        try dsimp only at hSw
        go_simp
        try with_reducible rfl
      simp only [Act.put, List.getElem_toArray, List.getElem_cons_succ, List.getElem_cons_zero, List.setIfInBounds_toArray, List.set_cons_succ, List.set_cons_zero]
      refine wpAnyH_take (i := 11) (v := ?_) rfl (by kernel_rfl) (by kernel_rfl) (by kernel_rfl) (fun _ _ _ h => h) (Or.inl ⟨by rfl, ?_⟩) (by assumption) ?_
      rotate_left
      · intro w hSw
        try dsimp only at hSw
        go_simp
        try with_reducible rfl
      simp only [Act.put, List.getElem_toArray, List.getElem_cons_succ, List.getElem_cons_zero, List.setIfInBounds_toArray, List.set_cons_succ, List.set_cons_zero]
      refine wpAnyH_take (i := 12) (v := ?_) rfl (by kernel_rfl) (by kernel_rfl) (by kernel_rfl) (fun _ _ _ h => h) (Or.inl ⟨by rfl, ?_⟩) (by assumption) ?_
      rotate_left
      · intro w hSw
        try dsimp only at hSw
        go_simp
        try with_reducible rfl
      simp only [Act.put, List.getElem_toArray, List.getElem_cons_succ, List.getElem_cons_zero, List.setIfInBounds_toArray, List.set_cons_succ, List.set_cons_zero]
      refine wpAnyH_take (i := 13) (v := ?_) rfl (by kernel_rfl) (by kernel_rfl) (by kernel_rfl) (fun _ _ _ h => h) (Or.inl ⟨by rfl, ?_⟩) (by assumption) ?_
      rotate_left
      · intro w hSw
        try dsimp only at hSw
        go_simp
        try with_reducible rfl
      simp only [Act.put, List.getElem_toArray, List.getElem_cons_succ, List.getElem_cons_zero, List.setIfInBounds_toArray, List.set_cons_succ, List.set_cons_zero]
      refine wpAnyH_take (i := 14) (v := ?_) rfl (by kernel_rfl) (by kernel_rfl) (by kernel_rfl) (fun _ _ _ h => h) (Or.inl ⟨by rfl, ?_⟩) (by assumption) ?_
      rotate_left
      · intro w hSw
        try dsimp only at hSw
        go_simp
        try with_reducible rfl
      simp only [Act.put, List.getElem_toArray, List.getElem_cons_succ, List.getElem_cons_zero, List.setIfInBounds_toArray, List.set_cons_succ, List.set_cons_zero]
      refine wpAnyH_take (i := 15) (v := ?_) rfl (by kernel_rfl) (by kernel_rfl) (by kernel_rfl) (fun _ _ _ h => h) (Or.inl ⟨by rfl, ?_⟩) (by assumption) ?_
      rotate_left
      · intro w hSw
        try dsimp only at hSw
        go_simp
        try with_reducible rfl
      simp only [Act.put, List.getElem_toArray, List.getElem_cons_succ, List.getElem_cons_zero, List.setIfInBounds_toArray, List.set_cons_succ, List.set_cons_zero]
      refine wpAnyH_take (i := 16) (v := ?_) rfl (by kernel_rfl) (by kernel_rfl) (by kernel_rfl) (fun _ _ _ h => h) (Or.inl ⟨by rfl, ?_⟩) (by assumption) ?_
      rotate_left
      · intro w hSw
        try dsimp only at hSw
        go_simp
        try with_reducible rfl
      simp only [Act.put, List.getElem_toArray, List.getElem_cons_succ, List.getElem_cons_zero, List.setIfInBounds_toArray, List.set_cons_succ, List.set_cons_zero]
      refine wpAnyH_take (i := 17) (v := ?_) rfl (by kernel_rfl) (by kernel_rfl) (by kernel_rfl) (fun _ _ _ h => h) (Or.inl ⟨by rfl, ?_⟩) (by assumption) ?_
      rotate_left
      · intro w hSw
        try dsimp only at hSw
        go_simp
        try with_reducible rfl
      simp only [Act.put, List.getElem_toArray, List.getElem_cons_succ, List.getElem_cons_zero, List.setIfInBounds_toArray, List.set_cons_succ, List.set_cons_zero]
      refine wpAnyH_take (i := 18) (v := ?_) rfl (by kernel_rfl) (by kernel_rfl) (by kernel_rfl) (fun _ _ _ h => h) (Or.inl ⟨by rfl, ?_⟩) (by assumption) ?_
      rotate_left
      · intro w hSw
        try dsimp only at hSw
        go_simp
        try with_reducible rfl
      simp only [Act.put, List.getElem_toArray, List.getElem_cons_succ, List.getElem_cons_zero, List.setIfInBounds_toArray, List.set_cons_succ, List.set_cons_zero]
      refine wpAnyH_take (i := 19) (v := ?_) rfl (by kernel_rfl) (by kernel_rfl) (by kernel_rfl) (fun _ _ _ h => h) (Or.inl ⟨by rfl, ?_⟩) (by assumption) ?_
      rotate_left
      · intro w hSw
        try dsimp only at hSw
        go_simp
        try with_reducible rfl
      simp only [Act.put, List.getElem_toArray, List.getElem_cons_succ, List.getElem_cons_zero, List.setIfInBounds_toArray, List.set_cons_succ, List.set_cons_zero]
      refine wpAnyH_take (i := 20) (v := ?_) rfl (by kernel_rfl) (by kernel_rfl) (by kernel_rfl) (fun _ _ _ h => h) (Or.inl ⟨by rfl, ?_⟩) (by assumption) ?_
      rotate_left
      · intro w hSw
        try dsimp only at hSw
        go_simp
        try with_reducible rfl
      simp only [Act.put, List.getElem_toArray, List.getElem_cons_succ, List.getElem_cons_zero, List.setIfInBounds_toArray, List.set_cons_succ, List.set_cons_zero]
      refine wpAnyH_take (i := 21) (v := ?_) rfl (by kernel_rfl) (by kernel_rfl) (by kernel_rfl) (fun _ _ _ h => h) (Or.inl ⟨by rfl, ?_⟩) (by assumption) ?_
      rotate_left
      · intro w hSw
        try dsimp only at hSw
        go_simp
        try with_reducible rfl
      simp only [Act.put, List.getElem_toArray, List.getElem_cons_succ, List.getElem_cons_zero, List.setIfInBounds_toArray, List.set_cons_succ, List.set_cons_zero]
      refine wpAnyH_take (i := 22) (v := ?_) rfl (by kernel_rfl) (by kernel_rfl) (by kernel_rfl) (fun _ _ _ h => h) (Or.inl ⟨by rfl, ?_⟩) (by assumption) ?_
      rotate_left
      · intro w hSw
        try dsimp only at hSw
        go_simp
        try with_reducible rfl
      simp only [Act.put, List.getElem_toArray, List.getElem_cons_succ, List.getElem_cons_zero, List.setIfInBounds_toArray, List.set_cons_succ, List.set_cons_zero]
      refine wpAnyH_take (i := 23) (v := ?_) rfl (by kernel_rfl) (by kernel_rfl) (by kernel_rfl) (fun _ _ _ h => h) (Or.inl ⟨by rfl, ?_⟩) (by assumption) ?_
      rotate_left
      · intro w hSw
        try dsimp only at hSw
        go_simp
        try with_reducible rfl
      simp only [Act.put, List.getElem_toArray, List.getElem_cons_succ, List.getElem_cons_zero, List.setIfInBounds_toArray, List.set_cons_succ, List.set_cons_zero]
      refine wpAnyH_take (i := 24) (v := ?_) rfl (by kernel_rfl) (by kernel_rfl) (by kernel_rfl) (fun _ _ _ h => h) (Or.inl ⟨by rfl, ?_⟩) (by assumption) ?_
      rotate_left
      · intro w hSw
        try dsimp only at hSw
        go_simp
        try with_reducible rfl
      simp only [Act.put, List.getElem_toArray, List.getElem_cons_succ, List.getElem_cons_zero, List.setIfInBounds_toArray, List.set_cons_succ, List.set_cons_zero]
      refine wpAnyH_take (i := 25) (v := ?_) rfl (by kernel_rfl) (by kernel_rfl) (by kernel_rfl) (fun _ _ _ h => h) (Or.inl ⟨by rfl, ?_⟩) (by assumption) ?_
      rotate_left
      · intro w hSw
        try dsimp only at hSw
        go_simp
        try with_reducible rfl
      simp only [Act.put, List.getElem_toArray, List.getElem_cons_succ, List.getElem_cons_zero, List.setIfInBounds_toArray, List.set_cons_succ, List.set_cons_zero]
      refine wpAnyH_take (i := 26) (v := ?_) rfl (by kernel_rfl) (by kernel_rfl) (by kernel_rfl) (fun _ _ _ h => h) (Or.inl ⟨by rfl, ?_⟩) (by assumption) ?_
      rotate_left
      · intro w hSw
        try dsimp only at hSw
        go_simp
        try with_reducible rfl
      simp only [Act.put, List.getElem_toArray, List.getElem_cons_succ, List.getElem_cons_zero, List.setIfInBounds_toArray, List.set_cons_succ, List.set_cons_zero]
      refine wpAnyH_take (i := 27) (v := ?_) rfl (by kernel_rfl) (by kernel_rfl) (by kernel_rfl) (fun _ _ _ h => h) (Or.inl ⟨by rfl, ?_⟩) (by assumption) ?_
      rotate_left
      · intro w hSw
        try dsimp only at hSw
        go_simp
        try with_reducible rfl
      simp only [Act.put, List.getElem_toArray, List.getElem_cons_succ, List.getElem_cons_zero, List.setIfInBounds_toArray, List.set_cons_succ, List.set_cons_zero]
      refine wpAnyH_take (i := 28) (v := ?_) rfl (by kernel_rfl) (by kernel_rfl) (by kernel_rfl) (fun _ _ _ h => h) (Or.inl ⟨by rfl, ?_⟩) (by assumption) ?_
      rotate_left
      · intro w hSw
        try dsimp only at hSw
        go_simp
        try with_reducible rfl
      simp only [Act.put, List.getElem_toArray, List.getElem_cons_succ, List.getElem_cons_zero, List.setIfInBounds_toArray, List.set_cons_succ, List.set_cons_zero]
      refine wpAnyH_take (i := 29) (v := ?_) rfl (by kernel_rfl) (by kernel_rfl) (by kernel_rfl) (fun _ _ _ h => h) (Or.inl ⟨by rfl, ?_⟩) (by assumption) ?_
      rotate_left
      · intro w hSw
        try dsimp only at hSw
        go_simp
        try with_reducible rfl
      simp only [Act.put, List.getElem_toArray, List.getElem_cons_succ, List.getElem_cons_zero, List.setIfInBounds_toArray, List.set_cons_succ, List.set_cons_zero]
      refine wpAnyH_take (i := 30) (v := ?_) rfl (by kernel_rfl) (by kernel_rfl) (by kernel_rfl) (fun _ _ _ h => h) (Or.inl ⟨by rfl, ?_⟩) (by assumption) ?_
      rotate_left
      · intro w hSw
        try dsimp only at hSw
        go_simp
        try with_reducible rfl
      simp only [Act.put, List.getElem_toArray, List.getElem_cons_succ, List.getElem_cons_zero, List.setIfInBounds_toArray, List.set_cons_succ, List.set_cons_zero]
      refine wpAnyH_take (i := 31) (v := ?_) rfl (by kernel_rfl) (by kernel_rfl) (by kernel_rfl) (fun _ _ _ h => h) (Or.inl ⟨by rfl, ?_⟩) (by assumption) ?_
      rotate_left
      · intro w hSw
        try dsimp only at hSw
        go_simp
        try with_reducible rfl
      simp only [Act.put, List.getElem_toArray, List.getElem_cons_succ, List.getElem_cons_zero, List.setIfInBounds_toArray, List.set_cons_succ, List.set_cons_zero]
      refine wpAnyH_take (i := 32) (v := ?_) rfl (by kernel_rfl) (by kernel_rfl) (by kernel_rfl) (fun _ _ _ h => h) (Or.inl ⟨by rfl, ?_⟩) (by assumption) ?_
      rotate_left
      · intro w hSw
        try dsimp only at hSw
        go_simp
        try with_reducible rfl
      simp only [Act.put, List.getElem_toArray, List.getElem_cons_succ, List.getElem_cons_zero, List.setIfInBounds_toArray, List.set_cons_succ, List.set_cons_zero]
      obtain ⟨_, _, qf0, _⟩ := two_cells HQ5.out
      obtain ⟨q0, _, _, _⟩ := two_cells HQ5.out
      refine wpAnyH_ready (rs := [33]) (by kernel_rfl) (by simp) ?_
      refine AllReadyH.cons rfl (fun K hK => ?_) AllReadyH.nil
      go_simp
      refine hK.out _ _ ⟨HQ6.out.cell 1, HR6.out.cell 1, HA6.out.cell 0, HB6.out.cell 0⟩ (fun _ => ?_)
      clear hK K
      refine wpAnyH_take (i := 34) (v := ?_) rfl (by kernel_rfl) (by kernel_rfl) (by kernel_rfl) (fun _ _ _ h => h) (Or.inl ⟨by rfl, ?_⟩) (by assumption) ?_
      rotate_left
      · intro w hSw
        try dsimp only at hSw
        go_simp
        try with_reducible rfl
      simp only [Act.put, List.getElem_toArray, List.getElem_cons_succ, List.getElem_cons_zero, List.setIfInBounds_toArray, List.set_cons_succ, List.set_cons_zero]
      refine wpAnyH_take (i := 35) (v := ?_) rfl (by kernel_rfl) (by kernel_rfl) (by kernel_rfl) (fun _ _ _ h => h) (Or.inl ⟨by rfl, ?_⟩) (by assumption) ?_
      rotate_left
      · intro w hSw
        try dsimp only at hSw
        go_simp
        try with_reducible rfl
      simp only [Act.put, List.getElem_toArray, List.getElem_cons_succ, List.getElem_cons_zero, List.setIfInBounds_toArray, List.set_cons_succ, List.set_cons_zero]
      have r0 : (W.setCell ⟨bq, 0, none⟩ (.bool false)).cell? ⟨br, 0, none⟩ = some (.bool false) := HR6.out.cell 0
      have rf0 : W.frozen? ⟨br, 0, none⟩ = false := HR5.out.frozen 0
      refine wpAnyH_ready (rs := [36]) (by kernel_rfl) (by simp) ?_
      refine AllReadyH.cons rfl (fun K hK => ?_) AllReadyH.nil
      go_simp
      refine hK.out _ _ ⟨HQ7.out.cell 1, HR7.out.cell 1, HA7.out.cell 0, HB7.out.cell 0⟩ (fun _ => ?_)
      clear hK K
      refine wpAnyH_done (by kernel_rfl) ?_ _
      focus go_wp2_with fail
      go_ret2
      exact ⟨rfl, HB7.out, HN8.out, ⟨_, HR7.out, HW8.out⟩, HK8.out, fun b c e h h1 h2 => Blk.far1 (Blk.far1 (show Blk W.drew b c e from HKP.out b c e h h1 h2) h1 _) h2 _⟩
end Go.Proofs.YtgdgklhfakplhaaGreatDoor
