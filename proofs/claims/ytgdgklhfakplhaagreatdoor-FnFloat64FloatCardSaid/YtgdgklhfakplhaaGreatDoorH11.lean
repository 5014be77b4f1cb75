/- Walks and lemmas for the laws of this seat. -/
import Derived.Test.YtgdgklhfakplhaaGreatDoorH10
namespace Go.Proofs.YtgdgklhfakplhaaGreatDoor
open Go.RowKit Go.Dig
set_option maxRecDepth 100000
theorem len_val {ws : List Nat} {k : Nat} (h : ∀ x ∈ ws, x < 18446744073709551616) (hl : ws.length ≤ k) : (dg 65536 (val 18446744073709551616 ws)).length ≤ 4 * k := by
  apply dg_length_le (by omega)
  have h1 := val_lt (b := 18446744073709551616) (by omega) h
  rw [Nat.pow_mul]
  exact Nat.lt_of_lt_of_le h1 (Nat.pow_le_pow_right (by omega) hl)
/-- What fraction tells of words: a ratio of which the lower part is not 0 unless the upper is, and, if it is told to be one, just what the words say. -/
def Frac (Q : Prop) (n1 : Bool) (ws1 ws2 : List Nat) (w : World) (e : Ending) (w' : World) : Prop :=
  ∃ (neg ok : Bool) (u1 u2 : Value) (P D : Nat), e = .returned (.tuple #[.agg #[.bool neg, u1, u2], .bool ok]) ∧ Nt w' u1 P ∧ Nt w' u2 D ∧ (P = 0 ∨ 0 < D) ∧ (dg 65536 P).length ≤ 200 ∧ (dg 65536 D).length ≤ 200 ∧ Hid (ok = true → Q ∧ neg = n1 ∧ 0 < D ∧ ws1 = dg 18446744073709551616 P ∧ ws2 = dg 18446744073709551616 D ∧ (n1 = true → P ≠ 0)) ∧ Below w.heap.size w w'
theorem fr_none {Q : Prop} {n1 : Bool} {ws1 ws2 : List Nat} {w w' : World} (h : Below w.heap.size w w') : Frac Q n1 ws1 ws2 w (.returned (.tuple #[.agg #[.bool false, .slice none 0 0, .slice none 0 0], .bool false])) w' := by
  have hz : Nt w' (.slice none 0 0) 0 := by unfold Nt; rw [dg_zero]; exact Rt.nil _ _ _
  exact ⟨false, false, _, _, 0, 0, rfl, hz, hz, .inl rfl, by rw [dg_zero]; simp, by rw [dg_zero]; simp, hid (fun h => by cases h), h⟩
theorem fr_some {n1 ok : Bool} {u1 u2 : Value} {P D : Nat} {ws1 ws2 : List Nat} {w w' : World} (h1 : Nt w' u1 P) (h2 : Nt w' u2 D) (hd : 0 < (dg 65536 D).length) (hl1 : (dg 65536 P).length ≤ 200) (hl2 : (dg 65536 D).length ≤ 200)
    (hi : Hid (n1 = (n1 && decide (P ≠ 0)) ∧ ws1 = dg 18446744073709551616 P)) (hh : Hid (ws2 = dg 18446744073709551616 D)) (h : Below w.heap.size w w') : Frac True n1 ws1 ws2 w (.returned (.tuple #[.agg #[.bool n1, u1, u2], .bool ok])) w' := by
  have hD : 0 < D := by
    rcases Nat.eq_zero_or_pos D with h | h
    · rw [h, dg_zero] at hd; simp at hd
    · exact h
  exact ⟨n1, ok, u1, u2, P, D, rfl, h1, h2, .inr hD, hl1, hl2, hid (fun _ => ⟨True.intro, rfl, hD, hi.out.2, hh.out, fun g => by have := hi.out.1; rw [g] at this; simpa using this⟩), h⟩
set_option maxHeartbeats 4000000 in
theorem fraction_any (n1 : Bool) (v1 v2 : Value) (ws1 ws2 : List Nat) (w : World) (h1 : Rd .u64 w v1 ws1) (h2 : Rd .u64 w v2 ws2) (hw1 : ∀ x ∈ ws1, x < 18446744073709551616) (hw2 : ∀ x ∈ ws2, x < 18446744073709551616) (hl1 : ws1.length ≤ 50) (hl2 : ws2.length ≤ 50) :
    Calls Tryz.prog 25 #[.agg #[.bool n1, v1], v2] w (Frac True n1 ws1 ws2 w) := by
  obtain ⟨a1, c1, rfl⟩ := h1.shape
  obtain ⟨a2, c2, rfl⟩ := h2.shape
  have HP : Hid (Blk ((w.alloc (.cells #[.bool n1, .slice a1 ws1.length c1] 24)).alloc (.cells #[.bool false, .slice none 0 0, .slice none 0 0] 31)) w.heap.size #[.bool n1, .slice a1 ws1.length c1] 24) := (blk_new w _ 24).alloc _
  have HR : Hid (Blk ((w.alloc (.cells #[.bool n1, .slice a1 ws1.length c1] 24)).alloc (.cells #[.bool false, .slice none 0 0, .slice none 0 0] 31)) (w.heap.size + 1) #[.bool false, .slice none 0 0, .slice none 0 0] 31) := by
    have := blk_new (w.alloc (.cells #[.bool n1, .slice a1 ws1.length c1] 24)) #[.bool false, .slice none 0 0, .slice none 0 0] 31
    refine hid ?_
    simpa using this
  have HB : Hid (Below w.heap.size w ((w.alloc (.cells #[.bool n1, .slice a1 ws1.length c1] 24)).alloc (.cells #[.bool false, .slice none 0 0, .slice none 0 0] 31))) := ((Below.refl _ _).alloc (Nat.le_refl _) _).alloc (by simp) _
  have H1 := hid (h1.below HB.out (Nat.le_refl _))
  have H2 := hid (h2.below HB.out (Nat.le_refl _))
  have HL1 := hid hl1
  have HL2 := hid hl2
  have HW1 := hid hw1
  have HW2 := hid hw2
  obtain ⟨m, hm⟩ : ∃ m, m = val 18446744073709551616 ws1 := ⟨_, rfl⟩
  obtain ⟨d, hd⟩ : ∃ d, d = val 18446744073709551616 ws2 := ⟨_, rfl⟩
  have HLM : Hid ((dg 65536 m).length ≤ 200) := hid (by rw [hm]; have := len_val hw1 hl1; omega)
  have HLD : Hid ((dg 65536 d).length ≤ 200) := hid (by rw [hd]; have := len_val hw2 hl2; omega)
  have HLM5 : Hid ((dg 65536 m).length ≤ 100000) := hid (by have := HLM.out; omega)
  have HLD5 : Hid ((dg 65536 d).length ≤ 100000) := hid (by have := HLD.out; omega)
  have HDZ : Hid ((dg 65536 d).length = 0 ∨ 0 < (dg 65536 d).length) := hid (Nat.eq_zero_or_pos _)
  have HM1 := hid hm
  have HM2 := hid hd
  clear h1 h2 hl1 hl2 hw1 hw2 hm hd
  have hp0 := HP.out.cell 0
  have hp1 := HP.out.cell 1
  simp only [List.getElem?_toArray, List.getElem?_cons_zero, List.getElem?_cons_succ] at hp0 hp1
  go_enter Tryz.func25, Tryz.ntmps25
  go_wp2_with fail
  generalize ((w.alloc (.cells #[.bool n1, .slice a1 ws1.length c1] 24)).alloc (.cells #[.bool false, .slice none 0 0, .slice none 0 0] 31)) = w0 at *
  have dp : w0.drew.cell? ⟨w.heap.size, 0, none⟩ = some (.bool n1) ∧ w0.drew.cell? ⟨w.heap.size, 1, none⟩ = some (.slice a1 ws1.length c1) := ⟨hp0, hp1⟩
  have HPd : Hid (Blk w0.drew _ _ 24) := HP
  have HDd : Hid (Below w0.heap.size w0 w0.drew) := (Below.refl _ _).drew
  have HD0 : Hid (Below w0.heap.size w0 w0.drew) := (Below.refl _ _).drew
  have H1d := hid (H1.out.below HD0.out (Nat.le_refl _))
  have H2d := hid (H2.out.below HD0.out (Nat.le_refl _))
  refine wp_region_held_drew (S := fun w' => w'.cell? ⟨w.heap.size, 0, none⟩ = some (.bool n1) ∧ w'.cell? ⟨w.heap.size, 1, none⟩ = some (.slice a1 ws1.length c1)) (by kernel_rfl) dp (fun hHeld => ?_)
  refine wpAnyH_take (i := 0) (v := ?_) rfl (by kernel_rfl) (by kernel_rfl) (by kernel_rfl) (fun _ _ _ h => h) (Or.inl ⟨by rfl, ?_⟩) (by assumption) ?_
  rotate_left
  · intro w hSw
    try dsimp only at hSw
    go_simp
    try with_reducible rfl
  try simp only [Act.put, List.setIfInBounds_toArray]
  refine wpAnyH_take (i := 1) (v := ?_) rfl (by kernel_rfl) (by kernel_rfl) (by kernel_rfl) (fun _ _ _ h => h) (Or.inl ⟨by rfl, ?_⟩) (by assumption) ?_
  rotate_left
  · intro w hSw
    try dsimp only at hSw
    go_simp
    try with_reducible rfl
  try simp only [Act.put]
  refine wpAnyH_take (i := 2) (v := ?_) rfl (by kernel_rfl) (by kernel_rfl) (by kernel_rfl) (fun _ _ _ h => h) (Or.inl ⟨by rfl, ?_⟩) (by assumption) ?_
  rotate_left
  · intro w hSw
    try dsimp only at hSw
    go_simp
    try with_reducible rfl
  try simp only [Act.put]
  refine wpAnyH_take (i := 3) (v := ?_) rfl (by kernel_rfl) (by kernel_rfl) (by kernel_rfl) (fun _ _ _ h => h) (Or.inl ⟨by rfl, ?_⟩) (by assumption) ?_
  rotate_left
  · intro w hSw
    try dsimp only at hSw
    go_simp
    try with_reducible rfl
  try simp only [Act.put]
  refine wpAnyH_take (i := 5) (v := ?_) rfl (by kernel_rfl) (by kernel_rfl) (by kernel_rfl) (fun _ _ _ h => h) (Or.inl ⟨by rfl, ?_⟩) (by assumption) ?_
  rotate_left
  · intro w hSw
    try dsimp only at hSw
    go_simp
    try with_reducible rfl
  try simp only [Act.put]
  refine wpAnyH_ready (rs := [4, 8]) (by kernel_rfl) (by simp) ?_
  refine AllReadyH.cons rfl (fun K hK => ?_) (AllReadyH.cons rfl (fun K hK => ?_) AllReadyH.nil)
  · go_simp
    refine (of_any _ _ w0.drew H1d.out HW1.out (by have := HL1.out; omega)).mono ?_
    rintro e w1 ⟨vA, rfl, hv, hb⟩
    rw [← HM1.out] at hv
    obtain ⟨pA, kA, rfl⟩ := hv.shape
    have HNA := hid hv
    have HPA := hid (HPd.out.below hb HPd.out.lt)
    have H2A := hid (H2d.out.below hb (Nat.le_refl _))
    have HDA := hid (below_next HDd.out hb)
    skip
    skip
    clear hv
    go_wp2_with fail
    refine hK.out _ _ ⟨HPA.out.cell 0, HPA.out.cell 1⟩ (fun _ => ?_)
    clear hK K
    refine wpAnyH_ready (rs := [6, 8]) (by kernel_rfl) (by simp) ?_
    refine AllReadyH.cons rfl (fun K hK => ?_) (AllReadyH.cons rfl (fun K hK => ?_) AllReadyH.nil)
    · go_simp
      refine (of_any _ _ w1 H2A.out HW2.out (by have := HL2.out; omega)).mono ?_
      rintro e w2 ⟨vB, rfl, hv, hb⟩
      rw [← HM2.out] at hv
      obtain ⟨pB, kB, rfl⟩ := hv.shape
      have HNB := hid hv
      have HPB := hid (HPA.out.below hb HPA.out.lt)
      have H2B := hid (H2A.out.below hb (Nat.le_refl _))
      have HDB := hid (below_next HDA.out hb)
      skip
      have HM := hid (HNA.out.below hb (Nat.le_refl _))
      clear hv
      go_wp2_with fail
      refine hK.out _ _ ⟨HPB.out.cell 0, HPB.out.cell 1⟩ (fun _ => ?_)
      clear hK K
      refine wpAnyH_take (i := 7) (v := ?_) rfl (by kernel_rfl) (by kernel_rfl) (by kernel_rfl) (fun _ _ _ h => h) (Or.inl ⟨by rfl, ?_⟩) (by assumption) ?_
      rotate_left
      · intro w hSw
        try dsimp only at hSw
        go_simp
        try with_reducible rfl
      try simp only [Act.put]
      refine wpAnyH_ready (rs := [8]) (by kernel_rfl) (by simp) ?_
      refine AllReadyH.cons rfl (fun K hK => ?_) AllReadyH.nil
      go_simp
      have HEC := hid (show Below w2.heap.size w2 (w2.alloc (.cells #[.bool false, .slice none 0 0, .slice none 0 0] 31)) from (Below.refl _ _).alloc (Nat.le_refl _) _)
      have HZC := hid (show Blk (w2.alloc (.cells #[.bool false, .slice none 0 0, .slice none 0 0] 31)) w2.heap.size #[.bool false, .slice none 0 0, .slice none 0 0] 31 from blk_new w2 _ 31)
      have HPC := hid (HPB.out.below HEC.out HPB.out.lt)
      have H2C := hid (H2B.out.below HEC.out (Nat.le_refl _))
      have HDC := hid (below_next HDB.out HEC.out)
      refine hK.out _ _ ⟨HPC.out.cell 0, HPC.out.cell 1⟩ (fun _ => ?_)
      clear hK K
      refine wpAnyH_ready (rs := [9]) (by kernel_rfl) (by simp) ?_
      refine AllReadyH.cons rfl (fun K hK => ?_) AllReadyH.nil
      go_simp
      have HEN := hid (show Below w2.heap.size w2 (w2.alloc (.cells #[.bool n1, .slice pA (dg 65536 m).length kA, .slice pB (dg 65536 d).length kB] 31)) from (Below.refl _ _).alloc (Nat.le_refl _) _)
      have HPF := hid (HPB.out.below HEN.out HPB.out.lt)
      refine hK.out _ _ ⟨HPF.out.cell 0, HPF.out.cell 1⟩ (fun _ => ?_)
      clear hK K
      refine wpAnyH_done (by kernel_rfl) ?_ _
      have HVB := hid (show Blk (w2.alloc (.cells #[.bool n1, .slice pA (dg 65536 m).length kA, .slice pB (dg 65536 d).length kB] 31)) w2.heap.size _ 31 from blk_new w2 _ 31)
      have HBW := hid (below_next HDB.out HEN.out)
      have HX : Hid (w0.heap.size ≤ w2.heap.size) := hid HDB.out.size
      have HUf := hid (HM.out.below HEN.out (Nat.le_refl _))
      have HUg := hid (HNB.out.below HEN.out (Nat.le_refl _))
      clear HEN HPF HM HNB HDB HPB H2B H2A HPA HDA HNA hb
      have HXR : Hid (w.heap.size + 1 < w2.heap.size) := hid (by have := HR.out.lt; have := HX.out; omega)
      generalize (w2.alloc (.cells #[.bool n1, .slice pA (dg 65536 m).length kA, .slice pB (dg 65536 d).length kB] 31)) = W at *
      generalize w2.heap.size = X at *
      have HPd := hid (HP.out.below HBW.out HP.out.lt)
      have HRd := hid (HR.out.below HBW.out HR.out.lt)
      have H1W := hid (H1.out.below HBW.out (Nat.le_refl _))
      have H2d := hid (H2.out.below HBW.out (Nat.le_refl _))
      have HBd := hid (below_next HB.out HBW.out)
      have hXR : X ≠ w.heap.size + 1 := by have := HXR.out; omega
      have hPR : w.heap.size ≠ w.heap.size + 1 := by omega
      clear HP HR H1 H2 HBW hHeld
      have HVd := HVB
      have HUd := HUf
      have HGd := HUg
      clear HVB HUf HUg
      obtain ⟨p0, p1, v0, v1, v2⟩ := cells5 HPd.out HVd.out
      rcases HDZ.out with hdz | hdz
      · obtain ⟨r0, r1, r2, _, _, _⟩ := HRd.out.three
        have hd0 : (((dg 65536 d).length : Int) == 0) = true := by rw [hdz]; rfl
        focus go_wp2_with fail
        have HRF : Hid (Blk (((W.setCell ⟨w.heap.size + 1, 0, none⟩ (.bool false)).setCell ⟨w.heap.size + 1, 1, none⟩ (.slice none 0 0)).setCell ⟨w.heap.size + 1, 2, none⟩ (.slice none 0 0)) (w.heap.size + 1) #[.bool false, .slice none 0 0, .slice none 0 0] 31) := by
          have := ((HRd.out.set 0 (.bool false)).set 1 (.slice none 0 0)).set 2 (.slice none 0 0)
          refine hid ?_
          simpa using this
        clear r0 r1 r2
        obtain ⟨r0, r1, r2, _, _, _⟩ := HRF.out.three
        exact bodyPost_ret (v := .tuple #[.agg #[.bool false, .slice none 0 0, .slice none 0 0], .bool false]) (by simp [results, Tryz.results25, go_sem, r0, r1, r2]) rfl (fr_none (((HBd.out.setCell (p := ⟨w.heap.size + 1, 0, none⟩) (Nat.le_succ _) _).setCell (p := ⟨w.heap.size + 1, 1, none⟩) (Nat.le_succ _) _).setCell (p := ⟨w.heap.size + 1, 2, none⟩) (Nat.le_succ _) _))
      have hd0 : (((dg 65536 d).length : Int) == 0) = false := by simp; intro h; rw [h] at hdz; simp at hdz
      focus go_wp2_with fail
      (with_reducible refine (isNumber_any n1 n1 _ _ ws1 m W H1W.out HUd.out HLM5.out).mono ?_); rintro e We ⟨oke, rfl, hoke, hb⟩
      have HPe := hid (HPd.out.below hb HPd.out.lt)
      have HVe := hid (HVd.out.below hb HVd.out.lt)
      have HRe := hid (HRd.out.below hb HRd.out.lt)
      have HUe := hid (HUd.out.below hb (Nat.le_refl _))
      have HGe := hid (HGd.out.below hb (Nat.le_refl _))
      have H2e := hid (H2d.out.below hb (Nat.le_refl _))
      have HBe := hid (below_next HBd.out hb)
      clear v0 v1 v2 p0 p1 hb HPd HVd HRd HUd HGd H2d HBd
      obtain ⟨p0, p1, v0, v1, v2⟩ := cells5 HPe.out HVe.out
      cases oke
      · obtain ⟨r0, r1, r2, _, _, _⟩ := HRe.out.three
        focus go_wp2_with fail
        have HRF : Hid (Blk (((We.setCell ⟨w.heap.size + 1, 0, none⟩ (.bool false)).setCell ⟨w.heap.size + 1, 1, none⟩ (.slice none 0 0)).setCell ⟨w.heap.size + 1, 2, none⟩ (.slice none 0 0)) (w.heap.size + 1) #[.bool false, .slice none 0 0, .slice none 0 0] 31) := by
          have := ((HRe.out.set 0 (.bool false)).set 1 (.slice none 0 0)).set 2 (.slice none 0 0)
          refine hid ?_
          simpa using this
        clear r0 r1 r2
        obtain ⟨r0, r1, r2, _, _, _⟩ := HRF.out.three
        exact bodyPost_ret (v := .tuple #[.agg #[.bool false, .slice none 0 0, .slice none 0 0], .bool false]) (by simp [results, Tryz.results25, go_sem, r0, r1, r2]) rfl (fr_none (((HBe.out.setCell (p := ⟨w.heap.size + 1, 0, none⟩) (Nat.le_succ _) _).setCell (p := ⟨w.heap.size + 1, 1, none⟩) (Nat.le_succ _) _).setCell (p := ⟨w.heap.size + 1, 2, none⟩) (Nat.le_succ _) _))
      have HISN := hid (hoke.out.1 rfl)
      clear hoke
      focus go_wp2_with fail
      (with_reducible refine (hasWords_any _ _ ws2 d _ H2e.out HGe.out HLD5.out).mono ?_); rintro e Wf ⟨okf, rfl, hokf, hb⟩
      have HPf := hid (HPe.out.below hb HPe.out.lt)
      have HVf := hid (HVe.out.below hb HVe.out.lt)
      have HRf := hid (HRe.out.below hb HRe.out.lt)
      have HUf := hid (HUe.out.below hb (Nat.le_refl _))
      have HGf := hid (HGe.out.below hb (Nat.le_refl _))
      have H2f := hid (H2e.out.below hb (Nat.le_refl _))
      have HBf := hid (below_next HBe.out hb)
      clear v0 v1 v2 p0 p1 hb HPe HVe HRe HUe HGe H2e HBe
      obtain ⟨p0, p1, v0, v1, v2⟩ := cells5 HPf.out HVf.out
      cases okf
      · obtain ⟨r0, r1, r2, _, _, _⟩ := HRf.out.three
        focus go_wp2_with fail
        have HRF : Hid (Blk (((Wf.setCell ⟨w.heap.size + 1, 0, none⟩ (.bool false)).setCell ⟨w.heap.size + 1, 1, none⟩ (.slice none 0 0)).setCell ⟨w.heap.size + 1, 2, none⟩ (.slice none 0 0)) (w.heap.size + 1) #[.bool false, .slice none 0 0, .slice none 0 0] 31) := by
          have := ((HRf.out.set 0 (.bool false)).set 1 (.slice none 0 0)).set 2 (.slice none 0 0)
          refine hid ?_
          simpa using this
        clear r0 r1 r2
        obtain ⟨r0, r1, r2, _, _, _⟩ := HRF.out.three
        exact bodyPost_ret (v := .tuple #[.agg #[.bool false, .slice none 0 0, .slice none 0 0], .bool false]) (by simp [results, Tryz.results25, go_sem, r0, r1, r2]) rfl (fr_none (((HBf.out.setCell (p := ⟨w.heap.size + 1, 0, none⟩) (Nat.le_succ _) _).setCell (p := ⟨w.heap.size + 1, 1, none⟩) (Nat.le_succ _) _).setCell (p := ⟨w.heap.size + 1, 2, none⟩) (Nat.le_succ _) _))
      have HHAS := hid (hokf.out.1 rfl)
      clear hokf
      focus go_wp2_with fail
      have HPg : Hid (Blk Wf.drew _ _ 24) := HPf
      have HVg : Hid (Blk Wf.drew _ _ 31) := HVf
      have HRg : Hid (Blk Wf.drew _ _ 31) := HRf
      have HE : Hid (Below Wf.heap.size Wf Wf.drew) := (Below.refl Wf.heap.size Wf).drew
      have HUg := hid (HUf.out.below HE.out (Nat.le_refl _))
      have HGg := hid (HGf.out.below HE.out (Nat.le_refl _))
      have H2g := hid (H2f.out.below HE.out (Nat.le_refl _))
      have HBg := hid (below_next HBf.out HE.out)
      have kg := cells5 HPg.out HVg.out
      clear p0 p1 v0 v1 v2 HPf HVf HRf HUf HGf H2f HBf HE
      refine wp_region_held_drew (S := fun w' => w'.cell? ⟨w.heap.size, 0, none⟩ = some (.bool n1) ∧ w'.cell? ⟨w.heap.size, 1, none⟩ = some (.slice a1 ws1.length c1) ∧ w'.cell? ⟨X, 0, none⟩ = some (.bool n1) ∧ w'.cell? ⟨X, 1, none⟩ = some (.slice pA (dg 65536 m).length kA) ∧ w'.cell? ⟨X, 2, none⟩ = some (.slice pB (dg 65536 d).length kB)) (by kernel_rfl) kg (fun hHeld => ?_)
      refine wpAnyH_take (i := 0) (v := ?_) rfl (by kernel_rfl) (by kernel_rfl) (by kernel_rfl) (fun _ _ _ h => h) (Or.inl ⟨by rfl, ?_⟩) (by assumption) ?_
      rotate_left
      · intro w hSw
        try dsimp only at hSw
        go_simp
        try with_reducible rfl
      try simp only [Act.put, List.setIfInBounds_toArray]
      refine wpAnyH_take (i := 1) (v := ?_) rfl (by kernel_rfl) (by kernel_rfl) (by kernel_rfl) (fun _ _ _ h => h) (Or.inl ⟨by rfl, ?_⟩) (by assumption) ?_
      rotate_left
      · intro w hSw
        try dsimp only at hSw
        go_simp
        try with_reducible rfl
      try simp only [Act.put]
      refine wpAnyH_take (i := 2) (v := ?_) rfl (by kernel_rfl) (by kernel_rfl) (by kernel_rfl) (fun _ _ _ h => h) (Or.inl ⟨by rfl, ?_⟩) (by assumption) ?_
      rotate_left
      · intro w hSw
        try dsimp only at hSw
        go_simp
        try with_reducible rfl
      try simp only [Act.put]
      refine wpAnyH_take (i := 3) (v := ?_) rfl (by kernel_rfl) (by kernel_rfl) (by kernel_rfl) (fun _ _ _ h => h) (Or.inl ⟨by rfl, ?_⟩) (by assumption) ?_
      rotate_left
      · intro w hSw
        try dsimp only at hSw
        go_simp
        try with_reducible rfl
      try simp only [Act.put]
      refine wpAnyH_take (i := 4) (v := ?_) rfl (by kernel_rfl) (by kernel_rfl) (by kernel_rfl) (fun _ _ _ h => h) (Or.inl ⟨by rfl, ?_⟩) (by assumption) ?_
      rotate_left
      · intro w hSw
        try dsimp only at hSw
        go_simp
        try with_reducible rfl
      try simp only [Act.put]
      refine wpAnyH_ready (rs := [5]) (by kernel_rfl) (by simp) ?_
      refine AllReadyH.cons rfl (fun K hK => ?_) AllReadyH.nil
      go_simp
      (with_reducible refine (gcd_any _ _ m d _ HUg.out HGg.out HLM5.out HLD5.out).mono ?_)
      rintro e Wh ⟨vg, rfl, hg, hb⟩
      obtain ⟨pg, kg_, rfl⟩ := hg.shape
      have HC := hid hg
      clear hg
      have HPh := hid (HPg.out.below hb HPg.out.lt)
      have HVh := hid (HVg.out.below hb HVg.out.lt)
      have HRh := hid (HRg.out.below hb HRg.out.lt)
      have HUh := hid (HUg.out.below hb (Nat.le_refl _))
      have HGh := hid (HGg.out.below hb (Nat.le_refl _))
      have HBh := hid (below_next HBg.out hb)
      have kh := cells5 HPh.out HVh.out
      clear hb HPg HVg HRg HUg HGg HBg
      go_wp2_with fail
      refine hK.out _ _ kh (fun _ => ?_)
      clear hK K
      refine wpAnyH_ready (rs := [6]) (by kernel_rfl) (by simp) ?_
      refine AllReadyH.cons rfl (fun K hK => ?_) AllReadyH.nil
      go_simp
      (with_reducible refine (small_one _).mono ?_)
      rintro e Wi ⟨vo, rfl, ho, hb⟩
      obtain ⟨po, ko, rfl⟩ := ho.shape
      have HO := hid ho
      have HC2 := hid (HC.out.below hb (Nat.le_refl _))
      clear ho
      have HPi := hid (HPh.out.below hb HPh.out.lt)
      have HVi := hid (HVh.out.below hb HVh.out.lt)
      have HRi := hid (HRh.out.below hb HRh.out.lt)
      have HUi := hid (HUh.out.below hb (Nat.le_refl _))
      have HGi := hid (HGh.out.below hb (Nat.le_refl _))
      have HBi := hid (below_next HBh.out hb)
      have ki := cells5 HPi.out HVi.out
      clear hb HPh HVh HRh HUh HGh HBh
      go_wp2_with fail
      refine hK.out _ _ ki (fun _ => ?_)
      clear hK K
      refine wpAnyH_ready (rs := [7]) (by kernel_rfl) (by simp) ?_
      refine AllReadyH.cons rfl (fun K hK => ?_) AllReadyH.nil
      go_simp
      (with_reducible refine (cmp_any _ _ _ _ _ HC2.out HO.out).mono ?_)
      rintro e Wj ⟨nd, rfl, rfl⟩
      have hb : Below Wi.heap.size Wi (Wi.drewN nd) := below_drewN' nd
      generalize cmpI (Nat.gcd m d) 1 = cg at *
      have HPj := hid (HPi.out.below hb HPi.out.lt)
      have HVj := hid (HVi.out.below hb HVi.out.lt)
      have HRj := hid (HRi.out.below hb HRi.out.lt)
      have HUj := hid (HUi.out.below hb (Nat.le_refl _))
      have HGj := hid (HGi.out.below hb (Nat.le_refl _))
      have HBj := hid (below_next HBi.out hb)
      have kj := cells5 HPj.out HVj.out
      clear hb HPi HVi HRi HUi HGi HBi
      generalize Wi.drewN nd = Wj at *
      go_wp2_with fail
      refine hK.out _ _ kj (fun _ => ?_)
      clear hK K
      refine wpAnyH_take (i := 8) (v := ?_) rfl (by kernel_rfl) (by kernel_rfl) (by kernel_rfl) (fun _ _ _ h => h) (Or.inl ⟨by rfl, ?_⟩) (by assumption) ?_
      rotate_left
      · intro w hSw
        try dsimp only at hSw
        go_simp
        try with_reducible rfl
      try simp only [Act.put]
      refine wpAnyH_ready (rs := [9]) (by kernel_rfl) (by simp) ?_
      refine AllReadyH.cons rfl (fun K hK => ?_) AllReadyH.nil
      obtain ⟨z0, z1, z2, z3, z4, z5⟩ := HRj.out.three
      go_simp
      refine hK.out _ _ (cells5 (HPj.out.far3 hPR _ _ _) (HVj.out.far3 hXR _ _ _)) (fun _ => ?_)
      clear hK K
      refine wpAnyH_take (i := 10) (v := ?_) rfl (by kernel_rfl) (by kernel_rfl) (by kernel_rfl) (fun _ _ _ h => h) (Or.inl ⟨by rfl, ?_⟩) (by assumption) ?_
      rotate_left
      · intro w hSw
        try dsimp only at hSw
        go_simp
        try with_reducible rfl
      simp only [Act.put, List.getElem_toArray, List.getElem_cons_succ, List.getElem_cons_zero, List.setIfInBounds_toArray, List.set_cons_succ, List.set_cons_zero]
      refine wpAnyH_done (by kernel_rfl) ?_ _
      have HRF : Hid (Blk (((Wj.setCell ⟨w.heap.size + 1, 0, none⟩ (.bool n1)).setCell ⟨w.heap.size + 1, 1, none⟩ (.slice pA (dg 65536 m).length kA)).setCell ⟨w.heap.size + 1, 2, none⟩ (.slice pB (dg 65536 d).length kB)) (w.heap.size + 1) #[.bool n1, .slice pA (dg 65536 m).length kA, .slice pB (dg 65536 d).length kB] 31) := by
        have := ((HRj.out.set 0 (.bool n1)).set 1 (.slice pA (dg 65536 m).length kA)).set 2 (.slice pB (dg 65536 d).length kB)
        refine hid ?_
        simpa using this
      obtain ⟨r0, r1, r2, _, _, _⟩ := HRF.out.three
      clear z0 z1 z2 z3 z4 z5
      focus go_wp2_with fail
      refine bodyPost_ret (v := .tuple #[.agg #[.bool n1, .slice pA (dg 65536 m).length kA, .slice pB (dg 65536 d).length kB], .bool _]) (by simp [results, Tryz.results25, go_sem, r0, r1, r2]; rfl) rfl (fr_some (HUj.out.set3 HRj.out (by decide) _ _ _) (HGj.out.set3 HRj.out (by decide) _ _ _) hdz HLM.out HLD.out HISN HHAS ?_)
      exact ((HBj.out.setCell (p := ⟨w.heap.size + 1, 0, none⟩) (Nat.le_succ _) _).setCell (p := ⟨w.heap.size + 1, 1, none⟩) (Nat.le_succ _) _).setCell (p := ⟨w.heap.size + 1, 2, none⟩) (Nat.le_succ _) _
    · have HX0 := HDA.out.size
      have HNA' := hid (HNA.out.below (show Below w1.heap.size w1 (w1.alloc (.cells #[.bool false, .slice none 0 0, .slice none 0 0] 31)) from (Below.refl _ _).alloc (Nat.le_refl _) _) (Nat.le_refl _))
      go_simp
      have HEB := hid (show Below w1.heap.size w1 (w1.alloc (.cells #[.bool false, .slice none 0 0, .slice none 0 0] 31)) from (Below.refl _ _).alloc (Nat.le_refl _) _)
      have HZB := hid (show Blk (w1.alloc (.cells #[.bool false, .slice none 0 0, .slice none 0 0] 31)) w1.heap.size #[.bool false, .slice none 0 0, .slice none 0 0] 31 from blk_new w1 _ 31)
      have HPB := hid (HPA.out.below HEB.out HPA.out.lt)
      have H2B := hid (H2A.out.below HEB.out (Nat.le_refl _))
      have HDB := hid (below_next HDA.out HEB.out)
      refine hK.out _ _ ⟨HPB.out.cell 0, HPB.out.cell 1⟩ (fun _ => ?_)
      clear hK K
      refine wpAnyH_ready (rs := [6]) (by kernel_rfl) (by simp) ?_
      refine AllReadyH.cons rfl (fun K hK => ?_) AllReadyH.nil
      go_simp
      refine (of_any _ _ (w1.alloc (.cells #[.bool false, .slice none 0 0, .slice none 0 0] 31)) H2B.out HW2.out (by have := HL2.out; omega)).mono ?_
      rintro e w2 ⟨vC, rfl, hv, hb⟩
      rw [← HM2.out] at hv
      obtain ⟨pC, kC, rfl⟩ := hv.shape
      have HNC := hid hv
      have HPC := hid (HPB.out.below hb HPB.out.lt)
      have H2C := hid (H2B.out.below hb (Nat.le_refl _))
      have HDC := hid (below_next HDB.out hb)
      have HZC := hid (HZB.out.below hb HZB.out.lt)
      have HM := hid (HNA'.out.below hb (Nat.le_refl _))
      clear hv
      go_wp2_with fail
      refine hK.out _ _ ⟨HPC.out.cell 0, HPC.out.cell 1⟩ (fun _ => ?_)
      clear hK K
      refine wpAnyH_take (i := 7) (v := ?_) rfl (by kernel_rfl) (by kernel_rfl) (by kernel_rfl) (fun _ _ _ h => h) (Or.inl ⟨by rfl, ?_⟩) (by assumption) ?_
      rotate_left
      · intro w hSw
        try dsimp only at hSw
        go_simp
        try with_reducible rfl
      try simp only [Act.put]
      refine wpAnyH_ready (rs := [9]) (by kernel_rfl) (by simp) ?_
      refine AllReadyH.cons rfl (fun K hK => ?_) AllReadyH.nil
      obtain ⟨z0, z1, z2, z3, z4, z5⟩ := HZC.out.three
      go_simp
      have HX : Hid (w0.heap.size ≤ w1.heap.size) := hid HX0
      have HPF := hid (HPC.out.far3 (X := w1.heap.size) (by have := HP.out.lt; have := HX.out; omega) (.bool n1) (.slice pA (dg 65536 m).length kA) (.slice pC (dg 65536 d).length kC))
      refine hK.out _ _ ⟨HPF.out.cell 0, HPF.out.cell 1⟩ (fun _ => ?_)
      clear hK K
      refine wpAnyH_done (by kernel_rfl) ?_ _
      have HVB : Hid (Blk (((w2.setCell ⟨w1.heap.size, 0, none⟩ (.bool n1)).setCell ⟨w1.heap.size, 1, none⟩ (.slice pA (dg 65536 m).length kA)).setCell ⟨w1.heap.size, 2, none⟩ (.slice pC (dg 65536 d).length kC)) w1.heap.size #[.bool n1, .slice pA (dg 65536 m).length kA, .slice pC (dg 65536 d).length kC] 31) := by
        have := ((HZC.out.set 0 (.bool n1)).set 1 (.slice pA (dg 65536 m).length kA)).set 2 (.slice pC (dg 65536 d).length kC)
        refine hid ?_
        simpa using this
      have HBW : Hid (Below w0.heap.size w0 (((w2.setCell ⟨w1.heap.size, 0, none⟩ (.bool n1)).setCell ⟨w1.heap.size, 1, none⟩ (.slice pA (dg 65536 m).length kA)).setCell ⟨w1.heap.size, 2, none⟩ (.slice pC (dg 65536 d).length kC))) := ((HDC.out.setCell (p := ⟨w1.heap.size, 0, none⟩) HX.out _).setCell (p := ⟨w1.heap.size, 1, none⟩) HX.out _).setCell (p := ⟨w1.heap.size, 2, none⟩) HX.out _
      have HUf := hid (HM.out.set3 HZC.out (by decide) (.bool n1) (.slice pA (dg 65536 m).length kA) (.slice pC (dg 65536 d).length kC))
      have HUg := hid (HNC.out.set3 HZC.out (by decide) (.bool n1) (.slice pA (dg 65536 m).length kA) (.slice pC (dg 65536 d).length kC))
      clear z0 z1 z2 z3 z4 z5 HPF HM HNC HZC HX0
      generalize (((w2.setCell ⟨w1.heap.size, 0, none⟩ (.bool n1)).setCell ⟨w1.heap.size, 1, none⟩ (.slice pA (dg 65536 m).length kA)).setCell ⟨w1.heap.size, 2, none⟩ (.slice pC (dg 65536 d).length kC)) = W at *
      have HXR : Hid (w.heap.size + 1 < w1.heap.size) := hid (by have := HR.out.lt; have := HX.out; omega)
      obtain ⟨X, hX⟩ : ∃ X, w1.heap.size = X := ⟨_, rfl⟩
      rw [hX] at HVB HX HXR
      rw [hX]
      clear hX
      generalize hpp : pC = pB at *
      generalize hkk : kC = kB at *
      have HPd := hid (HP.out.below HBW.out HP.out.lt)
      have HRd := hid (HR.out.below HBW.out HR.out.lt)
      have H1W := hid (H1.out.below HBW.out (Nat.le_refl _))
      have H2d := hid (H2.out.below HBW.out (Nat.le_refl _))
      have HBd := hid (below_next HB.out HBW.out)
      have hXR : X ≠ w.heap.size + 1 := by have := HXR.out; omega
      have hPR : w.heap.size ≠ w.heap.size + 1 := by omega
      clear HP HR H1 H2 HBW hHeld
      have HVd := HVB
      have HUd := HUf
      have HGd := HUg
      clear HVB HUf HUg
      obtain ⟨p0, p1, v0, v1, v2⟩ := cells5 HPd.out HVd.out
      rcases HDZ.out with hdz | hdz
      · obtain ⟨r0, r1, r2, _, _, _⟩ := HRd.out.three
        have hd0 : (((dg 65536 d).length : Int) == 0) = true := by rw [hdz]; rfl
        focus go_wp2_with fail
        have HRF : Hid (Blk (((W.setCell ⟨w.heap.size + 1, 0, none⟩ (.bool false)).setCell ⟨w.heap.size + 1, 1, none⟩ (.slice none 0 0)).setCell ⟨w.heap.size + 1, 2, none⟩ (.slice none 0 0)) (w.heap.size + 1) #[.bool false, .slice none 0 0, .slice none 0 0] 31) := by
          have := ((HRd.out.set 0 (.bool false)).set 1 (.slice none 0 0)).set 2 (.slice none 0 0)
          refine hid ?_
          simpa using this
        clear r0 r1 r2
        obtain ⟨r0, r1, r2, _, _, _⟩ := HRF.out.three
        exact bodyPost_ret (v := .tuple #[.agg #[.bool false, .slice none 0 0, .slice none 0 0], .bool false]) (by simp [results, Tryz.results25, go_sem, r0, r1, r2]) rfl (fr_none (((HBd.out.setCell (p := ⟨w.heap.size + 1, 0, none⟩) (Nat.le_succ _) _).setCell (p := ⟨w.heap.size + 1, 1, none⟩) (Nat.le_succ _) _).setCell (p := ⟨w.heap.size + 1, 2, none⟩) (Nat.le_succ _) _))
      have hd0 : (((dg 65536 d).length : Int) == 0) = false := by simp; intro h; rw [h] at hdz; simp at hdz
      focus go_wp2_with fail
      (with_reducible refine (isNumber_any n1 n1 _ _ ws1 m W H1W.out HUd.out HLM5.out).mono ?_); rintro e We ⟨oke, rfl, hoke, hb⟩
      have HPe := hid (HPd.out.below hb HPd.out.lt)
      have HVe := hid (HVd.out.below hb HVd.out.lt)
      have HRe := hid (HRd.out.below hb HRd.out.lt)
      have HUe := hid (HUd.out.below hb (Nat.le_refl _))
      have HGe := hid (HGd.out.below hb (Nat.le_refl _))
      have H2e := hid (H2d.out.below hb (Nat.le_refl _))
      have HBe := hid (below_next HBd.out hb)
      clear v0 v1 v2 p0 p1 hb HPd HVd HRd HUd HGd H2d HBd
      obtain ⟨p0, p1, v0, v1, v2⟩ := cells5 HPe.out HVe.out
      cases oke
      · obtain ⟨r0, r1, r2, _, _, _⟩ := HRe.out.three
        focus go_wp2_with fail
        have HRF : Hid (Blk (((We.setCell ⟨w.heap.size + 1, 0, none⟩ (.bool false)).setCell ⟨w.heap.size + 1, 1, none⟩ (.slice none 0 0)).setCell ⟨w.heap.size + 1, 2, none⟩ (.slice none 0 0)) (w.heap.size + 1) #[.bool false, .slice none 0 0, .slice none 0 0] 31) := by
          have := ((HRe.out.set 0 (.bool false)).set 1 (.slice none 0 0)).set 2 (.slice none 0 0)
          refine hid ?_
          simpa using this
        clear r0 r1 r2
        obtain ⟨r0, r1, r2, _, _, _⟩ := HRF.out.three
        exact bodyPost_ret (v := .tuple #[.agg #[.bool false, .slice none 0 0, .slice none 0 0], .bool false]) (by simp [results, Tryz.results25, go_sem, r0, r1, r2]) rfl (fr_none (((HBe.out.setCell (p := ⟨w.heap.size + 1, 0, none⟩) (Nat.le_succ _) _).setCell (p := ⟨w.heap.size + 1, 1, none⟩) (Nat.le_succ _) _).setCell (p := ⟨w.heap.size + 1, 2, none⟩) (Nat.le_succ _) _))
      have HISN := hid (hoke.out.1 rfl)
      clear hoke
      focus go_wp2_with fail
      (with_reducible refine (hasWords_any _ _ ws2 d _ H2e.out HGe.out HLD5.out).mono ?_); rintro e Wf ⟨okf, rfl, hokf, hb⟩
      have HPf := hid (HPe.out.below hb HPe.out.lt)
      have HVf := hid (HVe.out.below hb HVe.out.lt)
      have HRf := hid (HRe.out.below hb HRe.out.lt)
      have HUf := hid (HUe.out.below hb (Nat.le_refl _))
      have HGf := hid (HGe.out.below hb (Nat.le_refl _))
      have H2f := hid (H2e.out.below hb (Nat.le_refl _))
      have HBf := hid (below_next HBe.out hb)
      clear v0 v1 v2 p0 p1 hb HPe HVe HRe HUe HGe H2e HBe
      obtain ⟨p0, p1, v0, v1, v2⟩ := cells5 HPf.out HVf.out
      cases okf
      · obtain ⟨r0, r1, r2, _, _, _⟩ := HRf.out.three
        focus go_wp2_with fail
        have HRF : Hid (Blk (((Wf.setCell ⟨w.heap.size + 1, 0, none⟩ (.bool false)).setCell ⟨w.heap.size + 1, 1, none⟩ (.slice none 0 0)).setCell ⟨w.heap.size + 1, 2, none⟩ (.slice none 0 0)) (w.heap.size + 1) #[.bool false, .slice none 0 0, .slice none 0 0] 31) := by
          have := ((HRf.out.set 0 (.bool false)).set 1 (.slice none 0 0)).set 2 (.slice none 0 0)
          refine hid ?_
          simpa using this
        clear r0 r1 r2
        obtain ⟨r0, r1, r2, _, _, _⟩ := HRF.out.three
        exact bodyPost_ret (v := .tuple #[.agg #[.bool false, .slice none 0 0, .slice none 0 0], .bool false]) (by simp [results, Tryz.results25, go_sem, r0, r1, r2]) rfl (fr_none (((HBf.out.setCell (p := ⟨w.heap.size + 1, 0, none⟩) (Nat.le_succ _) _).setCell (p := ⟨w.heap.size + 1, 1, none⟩) (Nat.le_succ _) _).setCell (p := ⟨w.heap.size + 1, 2, none⟩) (Nat.le_succ _) _))
      have HHAS := hid (hokf.out.1 rfl)
      clear hokf
      focus go_wp2_with fail
      have HPg : Hid (Blk Wf.drew _ _ 24) := HPf
      have HVg : Hid (Blk Wf.drew _ _ 31) := HVf
      have HRg : Hid (Blk Wf.drew _ _ 31) := HRf
      have HE : Hid (Below Wf.heap.size Wf Wf.drew) := (Below.refl Wf.heap.size Wf).drew
      have HUg := hid (HUf.out.below HE.out (Nat.le_refl _))
      have HGg := hid (HGf.out.below HE.out (Nat.le_refl _))
      have H2g := hid (H2f.out.below HE.out (Nat.le_refl _))
      have HBg := hid (below_next HBf.out HE.out)
      have kg := cells5 HPg.out HVg.out
      clear p0 p1 v0 v1 v2 HPf HVf HRf HUf HGf H2f HBf HE
      refine wp_region_held_drew (S := fun w' => w'.cell? ⟨w.heap.size, 0, none⟩ = some (.bool n1) ∧ w'.cell? ⟨w.heap.size, 1, none⟩ = some (.slice a1 ws1.length c1) ∧ w'.cell? ⟨X, 0, none⟩ = some (.bool n1) ∧ w'.cell? ⟨X, 1, none⟩ = some (.slice pA (dg 65536 m).length kA) ∧ w'.cell? ⟨X, 2, none⟩ = some (.slice pB (dg 65536 d).length kB)) (by kernel_rfl) kg (fun hHeld => ?_)
      refine wpAnyH_take (i := 0) (v := ?_) rfl (by kernel_rfl) (by kernel_rfl) (by kernel_rfl) (fun _ _ _ h => h) (Or.inl ⟨by rfl, ?_⟩) (by assumption) ?_
      rotate_left
      · intro w hSw
        try dsimp only at hSw
        go_simp
        try with_reducible rfl
      try simp only [Act.put, List.setIfInBounds_toArray]
      refine wpAnyH_take (i := 1) (v := ?_) rfl (by kernel_rfl) (by kernel_rfl) (by kernel_rfl) (fun _ _ _ h => h) (Or.inl ⟨by rfl, ?_⟩) (by assumption) ?_
      rotate_left
      · intro w hSw
        try dsimp only at hSw
        go_simp
        try with_reducible rfl
      try simp only [Act.put]
      refine wpAnyH_take (i := 2) (v := ?_) rfl (by kernel_rfl) (by kernel_rfl) (by kernel_rfl) (fun _ _ _ h => h) (Or.inl ⟨by rfl, ?_⟩) (by assumption) ?_
      rotate_left
      · intro w hSw
        try dsimp only at hSw
        go_simp
        try with_reducible rfl
      try simp only [Act.put]
      refine wpAnyH_take (i := 3) (v := ?_) rfl (by kernel_rfl) (by kernel_rfl) (by kernel_rfl) (fun _ _ _ h => h) (Or.inl ⟨by rfl, ?_⟩) (by assumption) ?_
      rotate_left
      · intro w hSw
        try dsimp only at hSw
        go_simp
        try with_reducible rfl
      try simp only [Act.put]
      refine wpAnyH_take (i := 4) (v := ?_) rfl (by kernel_rfl) (by kernel_rfl) (by kernel_rfl) (fun _ _ _ h => h) (Or.inl ⟨by rfl, ?_⟩) (by assumption) ?_
      rotate_left
      · intro w hSw
        try dsimp only at hSw
        go_simp
        try with_reducible rfl
      try simp only [Act.put]
      refine wpAnyH_ready (rs := [5]) (by kernel_rfl) (by simp) ?_
      refine AllReadyH.cons rfl (fun K hK => ?_) AllReadyH.nil
      go_simp
      (with_reducible refine (gcd_any _ _ m d _ HUg.out HGg.out HLM5.out HLD5.out).mono ?_)
      rintro e Wh ⟨vg, rfl, hg, hb⟩
      obtain ⟨pg, kg_, rfl⟩ := hg.shape
      have HC := hid hg
      clear hg
      have HPh := hid (HPg.out.below hb HPg.out.lt)
      have HVh := hid (HVg.out.below hb HVg.out.lt)
      have HRh := hid (HRg.out.below hb HRg.out.lt)
      have HUh := hid (HUg.out.below hb (Nat.le_refl _))
      have HGh := hid (HGg.out.below hb (Nat.le_refl _))
      have HBh := hid (below_next HBg.out hb)
      have kh := cells5 HPh.out HVh.out
      clear hb HPg HVg HRg HUg HGg HBg
      go_wp2_with fail
      refine hK.out _ _ kh (fun _ => ?_)
      clear hK K
      refine wpAnyH_ready (rs := [6]) (by kernel_rfl) (by simp) ?_
      refine AllReadyH.cons rfl (fun K hK => ?_) AllReadyH.nil
      go_simp
      (with_reducible refine (small_one _).mono ?_)
      rintro e Wi ⟨vo, rfl, ho, hb⟩
      obtain ⟨po, ko, rfl⟩ := ho.shape
      have HO := hid ho
      have HC2 := hid (HC.out.below hb (Nat.le_refl _))
      clear ho
      have HPi := hid (HPh.out.below hb HPh.out.lt)
      have HVi := hid (HVh.out.below hb HVh.out.lt)
      have HRi := hid (HRh.out.below hb HRh.out.lt)
      have HUi := hid (HUh.out.below hb (Nat.le_refl _))
      have HGi := hid (HGh.out.below hb (Nat.le_refl _))
      have HBi := hid (below_next HBh.out hb)
      have ki := cells5 HPi.out HVi.out
      clear hb HPh HVh HRh HUh HGh HBh
      go_wp2_with fail
      refine hK.out _ _ ki (fun _ => ?_)
      clear hK K
      refine wpAnyH_ready (rs := [7]) (by kernel_rfl) (by simp) ?_
      refine AllReadyH.cons rfl (fun K hK => ?_) AllReadyH.nil
      go_simp
      (with_reducible refine (cmp_any _ _ _ _ _ HC2.out HO.out).mono ?_)
      rintro e Wj ⟨nd, rfl, rfl⟩
      have hb : Below Wi.heap.size Wi (Wi.drewN nd) := below_drewN' nd
      generalize cmpI (Nat.gcd m d) 1 = cg at *
      have HPj := hid (HPi.out.below hb HPi.out.lt)
      have HVj := hid (HVi.out.below hb HVi.out.lt)
      have HRj := hid (HRi.out.below hb HRi.out.lt)
      have HUj := hid (HUi.out.below hb (Nat.le_refl _))
      have HGj := hid (HGi.out.below hb (Nat.le_refl _))
      have HBj := hid (below_next HBi.out hb)
      have kj := cells5 HPj.out HVj.out
      clear hb HPi HVi HRi HUi HGi HBi
      generalize Wi.drewN nd = Wj at *
      go_wp2_with fail
      refine hK.out _ _ kj (fun _ => ?_)
      clear hK K
      refine wpAnyH_take (i := 8) (v := ?_) rfl (by kernel_rfl) (by kernel_rfl) (by kernel_rfl) (fun _ _ _ h => h) (Or.inl ⟨by rfl, ?_⟩) (by assumption) ?_
      rotate_left
      · intro w hSw
        try dsimp only at hSw
        go_simp
        try with_reducible rfl
      try simp only [Act.put]
      refine wpAnyH_ready (rs := [9]) (by kernel_rfl) (by simp) ?_
      refine AllReadyH.cons rfl (fun K hK => ?_) AllReadyH.nil
      obtain ⟨z0, z1, z2, z3, z4, z5⟩ := HRj.out.three
      go_simp
      refine hK.out _ _ (cells5 (HPj.out.far3 hPR _ _ _) (HVj.out.far3 hXR _ _ _)) (fun _ => ?_)
      clear hK K
      refine wpAnyH_take (i := 10) (v := ?_) rfl (by kernel_rfl) (by kernel_rfl) (by kernel_rfl) (fun _ _ _ h => h) (Or.inl ⟨by rfl, ?_⟩) (by assumption) ?_
      rotate_left
      · intro w hSw
        try dsimp only at hSw
        go_simp
        try with_reducible rfl
      simp only [Act.put, List.getElem_toArray, List.getElem_cons_succ, List.getElem_cons_zero, List.setIfInBounds_toArray, List.set_cons_succ, List.set_cons_zero]
      refine wpAnyH_done (by kernel_rfl) ?_ _
      have HRF : Hid (Blk (((Wj.setCell ⟨w.heap.size + 1, 0, none⟩ (.bool n1)).setCell ⟨w.heap.size + 1, 1, none⟩ (.slice pA (dg 65536 m).length kA)).setCell ⟨w.heap.size + 1, 2, none⟩ (.slice pB (dg 65536 d).length kB)) (w.heap.size + 1) #[.bool n1, .slice pA (dg 65536 m).length kA, .slice pB (dg 65536 d).length kB] 31) := by
        have := ((HRj.out.set 0 (.bool n1)).set 1 (.slice pA (dg 65536 m).length kA)).set 2 (.slice pB (dg 65536 d).length kB)
        refine hid ?_
        simpa using this
      obtain ⟨r0, r1, r2, _, _, _⟩ := HRF.out.three
      clear z0 z1 z2 z3 z4 z5
      focus go_wp2_with fail
      refine bodyPost_ret (v := .tuple #[.agg #[.bool n1, .slice pA (dg 65536 m).length kA, .slice pB (dg 65536 d).length kB], .bool _]) (by simp [results, Tryz.results25, go_sem, r0, r1, r2]; rfl) rfl (fr_some (HUj.out.set3 HRj.out (by decide) _ _ _) (HGj.out.set3 HRj.out (by decide) _ _ _) hdz HLM.out HLD.out HISN HHAS ?_)
      exact ((HBj.out.setCell (p := ⟨w.heap.size + 1, 0, none⟩) (Nat.le_succ _) _).setCell (p := ⟨w.heap.size + 1, 1, none⟩) (Nat.le_succ _) _).setCell (p := ⟨w.heap.size + 1, 2, none⟩) (Nat.le_succ _) _
  · have HX0 := Nat.le_refl w0.heap.size
    have H1e := hid (H1d.out.below (show Below w0.drew.heap.size w0.drew (w0.drew.alloc (.cells #[.bool false, .slice none 0 0, .slice none 0 0] 31)) from (Below.refl _ _).alloc (Nat.le_refl _) _) (Nat.le_refl _))
    go_simp
    have HEe := hid (show Below w0.drew.heap.size w0.drew (w0.drew.alloc (.cells #[.bool false, .slice none 0 0, .slice none 0 0] 31)) from (Below.refl _ _).alloc (Nat.le_refl _) _)
    have HZe := hid (show Blk (w0.drew.alloc (.cells #[.bool false, .slice none 0 0, .slice none 0 0] 31)) w0.heap.size #[.bool false, .slice none 0 0, .slice none 0 0] 31 from blk_new w0.drew _ 31)
    have HPe := hid (HPd.out.below HEe.out HPd.out.lt)
    have H2e := hid (H2d.out.below HEe.out (Nat.le_refl _))
    have HDe := hid (below_next HDd.out HEe.out)
    refine hK.out _ _ ⟨HPe.out.cell 0, HPe.out.cell 1⟩ (fun _ => ?_)
    clear hK K
    refine wpAnyH_ready (rs := [4]) (by kernel_rfl) (by simp) ?_
    refine AllReadyH.cons rfl (fun K hK => ?_) AllReadyH.nil
    go_simp
    refine (of_any _ _ (w0.drew.alloc (.cells #[.bool false, .slice none 0 0, .slice none 0 0] 31)) H1e.out HW1.out (by have := HL1.out; omega)).mono ?_
    rintro e w1 ⟨vA, rfl, hv, hb⟩
    rw [← HM1.out] at hv
    obtain ⟨pA, kA, rfl⟩ := hv.shape
    have HNA := hid hv
    have HPA := hid (HPe.out.below hb HPe.out.lt)
    have H2A := hid (H2e.out.below hb (Nat.le_refl _))
    have HDA := hid (below_next HDe.out hb)
    have HZA := hid (HZe.out.below hb HZe.out.lt)
    skip
    clear hv
    go_wp2_with fail
    refine hK.out _ _ ⟨HPA.out.cell 0, HPA.out.cell 1⟩ (fun _ => ?_)
    clear hK K
    refine wpAnyH_ready (rs := [6]) (by kernel_rfl) (by simp) ?_
    refine AllReadyH.cons rfl (fun K hK => ?_) AllReadyH.nil
    go_simp
    refine (of_any _ _ w1 H2A.out HW2.out (by have := HL2.out; omega)).mono ?_
    rintro e w2 ⟨vB, rfl, hv, hb⟩
    rw [← HM2.out] at hv
    obtain ⟨pB, kB, rfl⟩ := hv.shape
    have HNB := hid hv
    have HPB := hid (HPA.out.below hb HPA.out.lt)
    have H2B := hid (H2A.out.below hb (Nat.le_refl _))
    have HDB := hid (below_next HDA.out hb)
    have HZB := hid (HZA.out.below hb HZA.out.lt)
    have HM := hid (HNA.out.below hb (Nat.le_refl _))
    clear hv
    go_wp2_with fail
    refine hK.out _ _ ⟨HPB.out.cell 0, HPB.out.cell 1⟩ (fun _ => ?_)
    clear hK K
    refine wpAnyH_take (i := 7) (v := ?_) rfl (by kernel_rfl) (by kernel_rfl) (by kernel_rfl) (fun _ _ _ h => h) (Or.inl ⟨by rfl, ?_⟩) (by assumption) ?_
    rotate_left
    · intro w hSw
      try dsimp only at hSw
      go_simp
      try with_reducible rfl
    try simp only [Act.put]
    refine wpAnyH_ready (rs := [9]) (by kernel_rfl) (by simp) ?_
    refine AllReadyH.cons rfl (fun K hK => ?_) AllReadyH.nil
    obtain ⟨z0, z1, z2, z3, z4, z5⟩ := HZB.out.three
    go_simp
    have HX : Hid (w0.heap.size ≤ w0.heap.size) := hid HX0
    have HPF := hid (HPB.out.far3 (X := w0.heap.size) (by have := HP.out.lt; have := HX.out; omega) (.bool n1) (.slice pA (dg 65536 m).length kA) (.slice pB (dg 65536 d).length kB))
    refine hK.out _ _ ⟨HPF.out.cell 0, HPF.out.cell 1⟩ (fun _ => ?_)
    clear hK K
    refine wpAnyH_done (by kernel_rfl) ?_ _
    have HVB : Hid (Blk (((w2.setCell ⟨w0.heap.size, 0, none⟩ (.bool n1)).setCell ⟨w0.heap.size, 1, none⟩ (.slice pA (dg 65536 m).length kA)).setCell ⟨w0.heap.size, 2, none⟩ (.slice pB (dg 65536 d).length kB)) w0.heap.size #[.bool n1, .slice pA (dg 65536 m).length kA, .slice pB (dg 65536 d).length kB] 31) := by
      have := ((HZB.out.set 0 (.bool n1)).set 1 (.slice pA (dg 65536 m).length kA)).set 2 (.slice pB (dg 65536 d).length kB)
      refine hid ?_
      simpa using this
    have HBW : Hid (Below w0.heap.size w0 (((w2.setCell ⟨w0.heap.size, 0, none⟩ (.bool n1)).setCell ⟨w0.heap.size, 1, none⟩ (.slice pA (dg 65536 m).length kA)).setCell ⟨w0.heap.size, 2, none⟩ (.slice pB (dg 65536 d).length kB))) := ((HDB.out.setCell (p := ⟨w0.heap.size, 0, none⟩) HX.out _).setCell (p := ⟨w0.heap.size, 1, none⟩) HX.out _).setCell (p := ⟨w0.heap.size, 2, none⟩) HX.out _
    have HUf := hid (HM.out.set3 HZB.out (by decide) (.bool n1) (.slice pA (dg 65536 m).length kA) (.slice pB (dg 65536 d).length kB))
    have HUg := hid (HNB.out.set3 HZB.out (by decide) (.bool n1) (.slice pA (dg 65536 m).length kA) (.slice pB (dg 65536 d).length kB))
    clear z0 z1 z2 z3 z4 z5 HPF HM HNB HZB HX0
    generalize (((w2.setCell ⟨w0.heap.size, 0, none⟩ (.bool n1)).setCell ⟨w0.heap.size, 1, none⟩ (.slice pA (dg 65536 m).length kA)).setCell ⟨w0.heap.size, 2, none⟩ (.slice pB (dg 65536 d).length kB)) = W at *
    have HXR : Hid (w.heap.size + 1 < w0.heap.size) := hid (by have := HR.out.lt; have := HX.out; omega)
    obtain ⟨X, hX⟩ : ∃ X, w0.heap.size = X := ⟨_, rfl⟩
    rw [hX] at HVB HX HXR
    rw [hX]
    clear hX
    generalize hpp : pB = pB at *
    generalize hkk : kB = kB at *
    have HPd := hid (HP.out.below HBW.out HP.out.lt)
    have HRd := hid (HR.out.below HBW.out HR.out.lt)
    have H1W := hid (H1.out.below HBW.out (Nat.le_refl _))
    have H2d := hid (H2.out.below HBW.out (Nat.le_refl _))
    have HBd := hid (below_next HB.out HBW.out)
    have hXR : X ≠ w.heap.size + 1 := by have := HXR.out; omega
    have hPR : w.heap.size ≠ w.heap.size + 1 := by omega
    clear HP HR H1 H2 HBW hHeld
    have HVd := HVB
    have HUd := HUf
    have HGd := HUg
    clear HVB HUf HUg
    obtain ⟨p0, p1, v0, v1, v2⟩ := cells5 HPd.out HVd.out
    rcases HDZ.out with hdz | hdz
    · obtain ⟨r0, r1, r2, _, _, _⟩ := HRd.out.three
      have hd0 : (((dg 65536 d).length : Int) == 0) = true := by rw [hdz]; rfl
      focus go_wp2_with fail
      have HRF : Hid (Blk (((W.setCell ⟨w.heap.size + 1, 0, none⟩ (.bool false)).setCell ⟨w.heap.size + 1, 1, none⟩ (.slice none 0 0)).setCell ⟨w.heap.size + 1, 2, none⟩ (.slice none 0 0)) (w.heap.size + 1) #[.bool false, .slice none 0 0, .slice none 0 0] 31) := by
        have := ((HRd.out.set 0 (.bool false)).set 1 (.slice none 0 0)).set 2 (.slice none 0 0)
        refine hid ?_
        simpa using this
      clear r0 r1 r2
      obtain ⟨r0, r1, r2, _, _, _⟩ := HRF.out.three
      exact bodyPost_ret (v := .tuple #[.agg #[.bool false, .slice none 0 0, .slice none 0 0], .bool false]) (by simp [results, Tryz.results25, go_sem, r0, r1, r2]) rfl (fr_none (((HBd.out.setCell (p := ⟨w.heap.size + 1, 0, none⟩) (Nat.le_succ _) _).setCell (p := ⟨w.heap.size + 1, 1, none⟩) (Nat.le_succ _) _).setCell (p := ⟨w.heap.size + 1, 2, none⟩) (Nat.le_succ _) _))
    have hd0 : (((dg 65536 d).length : Int) == 0) = false := by simp; intro h; rw [h] at hdz; simp at hdz
    focus go_wp2_with fail
    (with_reducible refine (isNumber_any n1 n1 _ _ ws1 m W H1W.out HUd.out HLM5.out).mono ?_); rintro e We ⟨oke, rfl, hoke, hb⟩
    have HPe := hid (HPd.out.below hb HPd.out.lt)
    have HVe := hid (HVd.out.below hb HVd.out.lt)
    have HRe := hid (HRd.out.below hb HRd.out.lt)
    have HUe := hid (HUd.out.below hb (Nat.le_refl _))
    have HGe := hid (HGd.out.below hb (Nat.le_refl _))
    have H2e := hid (H2d.out.below hb (Nat.le_refl _))
    have HBe := hid (below_next HBd.out hb)
    clear v0 v1 v2 p0 p1 hb HPd HVd HRd HUd HGd H2d HBd
    obtain ⟨p0, p1, v0, v1, v2⟩ := cells5 HPe.out HVe.out
    cases oke
    · obtain ⟨r0, r1, r2, _, _, _⟩ := HRe.out.three
      focus go_wp2_with fail
      have HRF : Hid (Blk (((We.setCell ⟨w.heap.size + 1, 0, none⟩ (.bool false)).setCell ⟨w.heap.size + 1, 1, none⟩ (.slice none 0 0)).setCell ⟨w.heap.size + 1, 2, none⟩ (.slice none 0 0)) (w.heap.size + 1) #[.bool false, .slice none 0 0, .slice none 0 0] 31) := by
        have := ((HRe.out.set 0 (.bool false)).set 1 (.slice none 0 0)).set 2 (.slice none 0 0)
        refine hid ?_
        simpa using this
      clear r0 r1 r2
      obtain ⟨r0, r1, r2, _, _, _⟩ := HRF.out.three
      exact bodyPost_ret (v := .tuple #[.agg #[.bool false, .slice none 0 0, .slice none 0 0], .bool false]) (by simp [results, Tryz.results25, go_sem, r0, r1, r2]) rfl (fr_none (((HBe.out.setCell (p := ⟨w.heap.size + 1, 0, none⟩) (Nat.le_succ _) _).setCell (p := ⟨w.heap.size + 1, 1, none⟩) (Nat.le_succ _) _).setCell (p := ⟨w.heap.size + 1, 2, none⟩) (Nat.le_succ _) _))
    have HISN := hid (hoke.out.1 rfl)
    clear hoke
    focus go_wp2_with fail
    (with_reducible refine (hasWords_any _ _ ws2 d _ H2e.out HGe.out HLD5.out).mono ?_); rintro e Wf ⟨okf, rfl, hokf, hb⟩
    have HPf := hid (HPe.out.below hb HPe.out.lt)
    have HVf := hid (HVe.out.below hb HVe.out.lt)
    have HRf := hid (HRe.out.below hb HRe.out.lt)
    have HUf := hid (HUe.out.below hb (Nat.le_refl _))
    have HGf := hid (HGe.out.below hb (Nat.le_refl _))
    have H2f := hid (H2e.out.below hb (Nat.le_refl _))
    have HBf := hid (below_next HBe.out hb)
    clear v0 v1 v2 p0 p1 hb HPe HVe HRe HUe HGe H2e HBe
    obtain ⟨p0, p1, v0, v1, v2⟩ := cells5 HPf.out HVf.out
    cases okf
    · obtain ⟨r0, r1, r2, _, _, _⟩ := HRf.out.three
      focus go_wp2_with fail
      have HRF : Hid (Blk (((Wf.setCell ⟨w.heap.size + 1, 0, none⟩ (.bool false)).setCell ⟨w.heap.size + 1, 1, none⟩ (.slice none 0 0)).setCell ⟨w.heap.size + 1, 2, none⟩ (.slice none 0 0)) (w.heap.size + 1) #[.bool false, .slice none 0 0, .slice none 0 0] 31) := by
        have := ((HRf.out.set 0 (.bool false)).set 1 (.slice none 0 0)).set 2 (.slice none 0 0)
        refine hid ?_
        simpa using this
      clear r0 r1 r2
      obtain ⟨r0, r1, r2, _, _, _⟩ := HRF.out.three
      exact bodyPost_ret (v := .tuple #[.agg #[.bool false, .slice none 0 0, .slice none 0 0], .bool false]) (by simp [results, Tryz.results25, go_sem, r0, r1, r2]) rfl (fr_none (((HBf.out.setCell (p := ⟨w.heap.size + 1, 0, none⟩) (Nat.le_succ _) _).setCell (p := ⟨w.heap.size + 1, 1, none⟩) (Nat.le_succ _) _).setCell (p := ⟨w.heap.size + 1, 2, none⟩) (Nat.le_succ _) _))
    have HHAS := hid (hokf.out.1 rfl)
    clear hokf
    focus go_wp2_with fail
    have HPg : Hid (Blk Wf.drew _ _ 24) := HPf
    have HVg : Hid (Blk Wf.drew _ _ 31) := HVf
    have HRg : Hid (Blk Wf.drew _ _ 31) := HRf
    have HE : Hid (Below Wf.heap.size Wf Wf.drew) := (Below.refl Wf.heap.size Wf).drew
    have HUg := hid (HUf.out.below HE.out (Nat.le_refl _))
    have HGg := hid (HGf.out.below HE.out (Nat.le_refl _))
    have H2g := hid (H2f.out.below HE.out (Nat.le_refl _))
    have HBg := hid (below_next HBf.out HE.out)
    have kg := cells5 HPg.out HVg.out
    clear p0 p1 v0 v1 v2 HPf HVf HRf HUf HGf H2f HBf HE
    refine wp_region_held_drew (S := fun w' => w'.cell? ⟨w.heap.size, 0, none⟩ = some (.bool n1) ∧ w'.cell? ⟨w.heap.size, 1, none⟩ = some (.slice a1 ws1.length c1) ∧ w'.cell? ⟨X, 0, none⟩ = some (.bool n1) ∧ w'.cell? ⟨X, 1, none⟩ = some (.slice pA (dg 65536 m).length kA) ∧ w'.cell? ⟨X, 2, none⟩ = some (.slice pB (dg 65536 d).length kB)) (by kernel_rfl) kg (fun hHeld => ?_)
    refine wpAnyH_take (i := 0) (v := ?_) rfl (by kernel_rfl) (by kernel_rfl) (by kernel_rfl) (fun _ _ _ h => h) (Or.inl ⟨by rfl, ?_⟩) (by assumption) ?_
    rotate_left
    · intro w hSw
      try dsimp only at hSw
      go_simp
      try with_reducible rfl
    try simp only [Act.put, List.setIfInBounds_toArray]
    refine wpAnyH_take (i := 1) (v := ?_) rfl (by kernel_rfl) (by kernel_rfl) (by kernel_rfl) (fun _ _ _ h => h) (Or.inl ⟨by rfl, ?_⟩) (by assumption) ?_
    rotate_left
    · intro w hSw
      try dsimp only at hSw
      go_simp
      try with_reducible rfl
    try simp only [Act.put]
    refine wpAnyH_take (i := 2) (v := ?_) rfl (by kernel_rfl) (by kernel_rfl) (by kernel_rfl) (fun _ _ _ h => h) (Or.inl ⟨by rfl, ?_⟩) (by assumption) ?_
    rotate_left
    · intro w hSw
      try dsimp only at hSw
      go_simp
      try with_reducible rfl
    try simp only [Act.put]
    refine wpAnyH_take (i := 3) (v := ?_) rfl (by kernel_rfl) (by kernel_rfl) (by kernel_rfl) (fun _ _ _ h => h) (Or.inl ⟨by rfl, ?_⟩) (by assumption) ?_
    rotate_left
    · intro w hSw
      try dsimp only at hSw
      go_simp
      try with_reducible rfl
    try simp only [Act.put]
    refine wpAnyH_take (i := 4) (v := ?_) rfl (by kernel_rfl) (by kernel_rfl) (by kernel_rfl) (fun _ _ _ h => h) (Or.inl ⟨by rfl, ?_⟩) (by assumption) ?_
    rotate_left
    · intro w hSw
      try dsimp only at hSw
      go_simp
      try with_reducible rfl
    try simp only [Act.put]
    refine wpAnyH_ready (rs := [5]) (by kernel_rfl) (by simp) ?_
    refine AllReadyH.cons rfl (fun K hK => ?_) AllReadyH.nil
    go_simp
    (with_reducible refine (gcd_any _ _ m d _ HUg.out HGg.out HLM5.out HLD5.out).mono ?_)
    rintro e Wh ⟨vg, rfl, hg, hb⟩
    obtain ⟨pg, kg_, rfl⟩ := hg.shape
    have HC := hid hg
    clear hg
    have HPh := hid (HPg.out.below hb HPg.out.lt)
    have HVh := hid (HVg.out.below hb HVg.out.lt)
    have HRh := hid (HRg.out.below hb HRg.out.lt)
    have HUh := hid (HUg.out.below hb (Nat.le_refl _))
    have HGh := hid (HGg.out.below hb (Nat.le_refl _))
    have HBh := hid (below_next HBg.out hb)
    have kh := cells5 HPh.out HVh.out
    clear hb HPg HVg HRg HUg HGg HBg
    go_wp2_with fail
    refine hK.out _ _ kh (fun _ => ?_)
    clear hK K
    refine wpAnyH_ready (rs := [6]) (by kernel_rfl) (by simp) ?_
    refine AllReadyH.cons rfl (fun K hK => ?_) AllReadyH.nil
    go_simp
    (with_reducible refine (small_one _).mono ?_)
    rintro e Wi ⟨vo, rfl, ho, hb⟩
    obtain ⟨po, ko, rfl⟩ := ho.shape
    have HO := hid ho
    have HC2 := hid (HC.out.below hb (Nat.le_refl _))
    clear ho
    have HPi := hid (HPh.out.below hb HPh.out.lt)
    have HVi := hid (HVh.out.below hb HVh.out.lt)
    have HRi := hid (HRh.out.below hb HRh.out.lt)
    have HUi := hid (HUh.out.below hb (Nat.le_refl _))
    have HGi := hid (HGh.out.below hb (Nat.le_refl _))
    have HBi := hid (below_next HBh.out hb)
    have ki := cells5 HPi.out HVi.out
    clear hb HPh HVh HRh HUh HGh HBh
    go_wp2_with fail
    refine hK.out _ _ ki (fun _ => ?_)
    clear hK K
    refine wpAnyH_ready (rs := [7]) (by kernel_rfl) (by simp) ?_
    refine AllReadyH.cons rfl (fun K hK => ?_) AllReadyH.nil
    go_simp
    (with_reducible refine (cmp_any _ _ _ _ _ HC2.out HO.out).mono ?_)
    rintro e Wj ⟨nd, rfl, rfl⟩
    have hb : Below Wi.heap.size Wi (Wi.drewN nd) := below_drewN' nd
    generalize cmpI (Nat.gcd m d) 1 = cg at *
    have HPj := hid (HPi.out.below hb HPi.out.lt)
    have HVj := hid (HVi.out.below hb HVi.out.lt)
    have HRj := hid (HRi.out.below hb HRi.out.lt)
    have HUj := hid (HUi.out.below hb (Nat.le_refl _))
    have HGj := hid (HGi.out.below hb (Nat.le_refl _))
    have HBj := hid (below_next HBi.out hb)
    have kj := cells5 HPj.out HVj.out
    clear hb HPi HVi HRi HUi HGi HBi
    generalize Wi.drewN nd = Wj at *
    go_wp2_with fail
    refine hK.out _ _ kj (fun _ => ?_)
    clear hK K
    refine wpAnyH_take (i := 8) (v := ?_) rfl (by kernel_rfl) (by kernel_rfl) (by kernel_rfl) (fun _ _ _ h => h) (Or.inl ⟨by rfl, ?_⟩) (by assumption) ?_
    rotate_left
    · intro w hSw
      try dsimp only at hSw
      go_simp
      try with_reducible rfl
    try simp only [Act.put]
    refine wpAnyH_ready (rs := [9]) (by kernel_rfl) (by simp) ?_
    refine AllReadyH.cons rfl (fun K hK => ?_) AllReadyH.nil
    obtain ⟨z0, z1, z2, z3, z4, z5⟩ := HRj.out.three
    go_simp
    refine hK.out _ _ (cells5 (HPj.out.far3 hPR _ _ _) (HVj.out.far3 hXR _ _ _)) (fun _ => ?_)
    clear hK K
    refine wpAnyH_take (i := 10) (v := ?_) rfl (by kernel_rfl) (by kernel_rfl) (by kernel_rfl) (fun _ _ _ h => h) (Or.inl ⟨by rfl, ?_⟩) (by assumption) ?_
    rotate_left
    · intro w hSw
      try dsimp only at hSw
      go_simp
      try with_reducible rfl
    simp only [Act.put, List.getElem_toArray, List.getElem_cons_succ, List.getElem_cons_zero, List.setIfInBounds_toArray, List.set_cons_succ, List.set_cons_zero]
    refine wpAnyH_done (by kernel_rfl) ?_ _
    have HRF : Hid (Blk (((Wj.setCell ⟨w.heap.size + 1, 0, none⟩ (.bool n1)).setCell ⟨w.heap.size + 1, 1, none⟩ (.slice pA (dg 65536 m).length kA)).setCell ⟨w.heap.size + 1, 2, none⟩ (.slice pB (dg 65536 d).length kB)) (w.heap.size + 1) #[.bool n1, .slice pA (dg 65536 m).length kA, .slice pB (dg 65536 d).length kB] 31) := by
      have := ((HRj.out.set 0 (.bool n1)).set 1 (.slice pA (dg 65536 m).length kA)).set 2 (.slice pB (dg 65536 d).length kB)
      refine hid ?_
      simpa using this
    obtain ⟨r0, r1, r2, _, _, _⟩ := HRF.out.three
    clear z0 z1 z2 z3 z4 z5
    focus go_wp2_with fail
    refine bodyPost_ret (v := .tuple #[.agg #[.bool n1, .slice pA (dg 65536 m).length kA, .slice pB (dg 65536 d).length kB], .bool _]) (by simp [results, Tryz.results25, go_sem, r0, r1, r2]; rfl) rfl (fr_some (HUj.out.set3 HRj.out (by decide) _ _ _) (HGj.out.set3 HRj.out (by decide) _ _ _) hdz HLM.out HLD.out HISN HHAS ?_)
    exact ((HBj.out.setCell (p := ⟨w.heap.size + 1, 0, none⟩) (Nat.le_succ _) _).setCell (p := ⟨w.heap.size + 1, 1, none⟩) (Nat.le_succ _) _).setCell (p := ⟨w.heap.size + 1, 2, none⟩) (Nat.le_succ _) _
end Go.Proofs.YtgdgklhfakplhaaGreatDoor
