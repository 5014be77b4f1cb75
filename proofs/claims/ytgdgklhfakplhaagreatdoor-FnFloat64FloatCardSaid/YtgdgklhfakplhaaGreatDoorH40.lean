/- Walks and lemmas for the laws of this seat. -/
import Derived.Test.YtgdgklhfakplhaaGreatDoorH38
import Derived.Test.YtgdgklhfakplhaaGreatDoorH39
import Derived.Defers
namespace Go.Proofs.YtgdgklhfakplhaaGreatDoor
open Go.RowKit Go.Dig
set_option maxRecDepth 100000
theorem getStack_any (w : World) : Calls Tryz.prog 69 #[] w fun e w' => e = .returned (.pointer (some ⟨w.heap.size, 0, none⟩)) ∧ w' = w.alloc (.cells #[.pointer none] 186) := by
  go_enter Tryz.func69, Tryz.ntmps69
  go_wp2_with fail
  go_ret
  exact ⟨rfl, rfl⟩
theorem free_any (b : Nat) (u : FrameMode) (w : World) (h : w.cell? ⟨b, 0, none⟩ = some (.pointer none)) : CallsD Tryz.prog 70 #[.pointer (some ⟨b, 0, none⟩)] u w fun e u' w' => u' = u ∧ e = .returned (.tuple #[]) ∧ w' = w := by
  go_enter_d Tryz.func70, Tryz.ntmps70
  go_wp2_with fail
  exact bodyPost_end (v := .tuple #[]) (by simp [results, Tryz.results70, go_sem]) rfl ⟨rfl, rfl⟩
theorem leaves_tmps {P : Program} {fn : Func} {R : Ending → World → Prop} {t t' : Array Value} (h : ∀ w, (results fn t).run P w = (results fn t').run P w) : ∀ (ds : List Deferred) (u : FrameMode) (w : World), Leaves P fn t R ds u w → Leaves P fn t' R ds u w
  | [], .returning, w, ⟨v, h1, h2⟩ => ⟨v, (h w).symm.trans h1, h2⟩
  | [], .panicking _, _, hl => hl
  | [], .run, _, hl => hl
  | _ :: ds, _, _, ⟨h0, fv, cap, f, args, h1, h2, h3⟩ => ⟨h0, fv, cap, f, args, h1, h2, h3.mono fun e u' w' hr => by
      cases e
      · exact leaves_tmps h ds _ _ hr
      · exact leaves_tmps h ds _ _ hr
      · exact hr⟩
theorem norm_put (a : Act) (dst : Option Nat) (d : Nat) (v : Value) (hd : dst = some d) (hne : d ≠ 2) : ∀ w, (results Tryz.f96 (a.put dst v).tmps).run Tryz.prog w = (results Tryz.f96 a.tmps).run Tryz.prog w := by
  intro w
  subst hd
  rw [results_tmp (t := 2) Tryz.results96, results_tmp (t := 2) Tryz.results96]
  simp only [Act.put, Array.getD_eq_getD_getElem?]
  rw [Array.getElem?_setIfInBounds_ne hne]
theorem four_cells {w : World} {b : Nat} {x0 x1 x2 x3 : Value} {e : TypeId} (h : Blk w b #[x0, x1, x2, x3] e) : (w.cell? ⟨b, 0, none⟩ = some x0 ∧ w.cell? ⟨b, 1, none⟩ = some x1 ∧ w.cell? ⟨b, 2, none⟩ = some x2 ∧ w.cell? ⟨b, 3, none⟩ = some x3) ∧ w.frozen? ⟨b, 0, none⟩ = false ∧ w.frozen? ⟨b, 1, none⟩ = false ∧ w.frozen? ⟨b, 2, none⟩ = false ∧ w.frozen? ⟨b, 3, none⟩ = false := ⟨⟨h.cell 0, h.cell 1, h.cell 2, h.cell 3⟩, h.frozen 0, h.frozen 1, h.frozen 2, h.frozen 3⟩
set_option maxHeartbeats 1000000 in
/-- Rat.norm of a fraction in lowest terms: nothing is turned. -/
theorem norm_frac (bx P D : Nat) (s : Bool) (vP vD : Value) (w : World) (hx : Blk w bx #[.bool s, vP, .bool false, vD] 133) (hP : Nw w vP P) (hD : Nw w vD D) (hlP : (dg 18446744073709551616 P).length ≤ 900) (hlD : (dg 18446744073709551616 D).length ≤ 900) (hP0 : 0 < P) (hD0 : 0 < D) (hw : P < 18446744073709551616 ∨ D < 18446744073709551616) (hg : Nat.gcd P D = 1) :
    Calls Tryz.prog 96 #[.pointer (some ⟨bx, 0, none⟩)] w fun e w' => e = .returned (.pointer (some ⟨bx, 0, none⟩)) ∧ Blk w' bx #[.bool s, vP, .bool false, vD] 133 ∧ Nw w' vP P ∧ Nw w' vD D ∧ Below bx w w' := by
  obtain ⟨aP, lP, cP, rfl, hlp⟩ := nw_shape hP
  obtain ⟨aD, lD, cD, rfl, hld⟩ := nw_shape hD
  have hp : 0 < lP := by rw [hlp.out]; exact len_pos (by omega)
  have hd : 0 < lD := by rw [hld.out]; exact len_pos (by omega)
  have e1 : ((lP : Int) == 0) = false := by simp; omega
  have e2 : ((lD : Int) == 0) = false := by simp; omega
  have HL := hid (And.intro hlP (And.intro hlD (And.intro hP0 (And.intro hD0 (And.intro hw hg)))))
  have HX := hid hx
  have HP := hid hP
  have HD := hid hD
  obtain ⟨⟨x0, x1, x2, x3⟩, _⟩ := four_cells hx
  clear hlP hlD hP0 hD0 hw hg hx hP hD
  go_enter_defers Tryz.func96, Tryz.ntmps96
  go_wp2_with fail
  refine (getStack_any _).mono ?_
  rintro e w1 ⟨rfl, hw1⟩
  have HS := hid (show Blk w1 w.heap.size #[.pointer none] 186 by rw [hw1]; exact blk_new w _ 186)
  have HE : Hid (Below w.heap.size w w1) := hid (by rw [hw1]; exact (Below.refl _ _).alloc (Nat.le_refl _) _)
  have HX1 := hid (HX.out.below HE.out HX.out.lt)
  have HP1 := hid (HP.out.below HE.out (Nat.le_refl _))
  have HD1 := hid (HD.out.below HE.out (Nat.le_refl _))
  have HBS : Hid (bx < w.heap.size) := hid HX.out.lt
  generalize hbs : w.heap.size = bs at *
  have HE1 : Hid (Below bx w w1) := hid (HE.out.mono (Nat.le_of_lt HBS.out))
  clear hw1 x0 x1 x2 x3 HX HP HD HE
  obtain ⟨⟨x0, x1, x2, x3⟩, f0, _, f2, _⟩ := four_cells HX1.out
  go_wp2_with fail
  have HX2 : Hid (Blk ((w1.setCell ⟨bx, 0, none⟩ (.bool false)).setCell ⟨bx, 2, none⟩ (.bool false)) bx #[.bool false, .slice aP lP cP, .bool false, .slice aD lD cD] 133) := by
    have := (HX1.out.set 0 (.bool false)).set 2 (.bool false)
    refine hid ?_
    simpa using this
  have HP2 := hid ((HP1.out.set (p := ⟨bx, 0, none⟩) (.bool false) HX1.out.shape (by decide)).set (p := ⟨bx, 2, none⟩) (.bool false) (by rw [shape_setCell]; exact HX1.out.shape) (by decide))
  have HD2 := hid ((HD1.out.set (p := ⟨bx, 0, none⟩) (.bool false) HX1.out.shape (by decide)).set (p := ⟨bx, 2, none⟩) (.bool false) (by rw [shape_setCell]; exact HX1.out.shape) (by decide))
  have HS2 := hid ((HS.out.far1 (i := 0) (show bs ≠ bx by have := HBS.out; omega) (.bool false)).far1 (i := 2) (show bs ≠ bx by have := HBS.out; omega) (.bool false))
  have HE2 : Hid (Below bx w ((w1.setCell ⟨bx, 0, none⟩ (.bool false)).setCell ⟨bx, 2, none⟩ (.bool false))) := hid (Below.setCell (p := ⟨bx, 2, none⟩) (Below.setCell (p := ⟨bx, 0, none⟩) HE1.out (Nat.le_refl _) _) (Nat.le_refl _) _)
  clear x0 x1 x2 x3 f0 f2 HX1 HP1 HD1 HS HE1
  generalize (w1.setCell ⟨bx, 0, none⟩ (.bool false)).setCell ⟨bx, 2, none⟩ (.bool false) = W at *
  refine wp_region_held_drew (S := fun _ => True) (by kernel_rfl) trivial (fun hHeld => ?_)
  refine wpAnyH_take (i := 1) (v := ?_) rfl (by kernel_rfl) (by kernel_rfl) (by kernel_rfl) (fun _ _ _ h => leaves_tmps (norm_put _ _ _ _ rfl (by decide)) _ _ _ h) (Or.inl ⟨by rfl, ?_⟩) (by assumption) ?_
  rotate_left
  · intro w hSw
    try dsimp only at hSw
    go_simp
    try with_reducible rfl
  try simp only [Act.put, List.setIfInBounds_toArray]
  refine wpAnyH_take (i := 2) (v := ?_) rfl (by kernel_rfl) (by kernel_rfl) (by kernel_rfl) (fun _ _ _ h => leaves_tmps (norm_put _ _ _ _ rfl (by decide)) _ _ _ h) (Or.inl ⟨by rfl, ?_⟩) (by assumption) ?_
  rotate_left
  · intro w hSw
    try dsimp only at hSw
    go_simp
    try with_reducible rfl
  try simp only [Act.put]
  refine wpAnyH_take (i := 3) (v := ?_) rfl (by kernel_rfl) (by kernel_rfl) (by kernel_rfl) (fun _ _ _ h => leaves_tmps (norm_put _ _ _ _ rfl (by decide)) _ _ _ h) (Or.inl ⟨by rfl, ?_⟩) (by assumption) ?_
  rotate_left
  · intro w hSw
    try dsimp only at hSw
    go_simp
    try with_reducible rfl
  try simp only [Act.put]
  refine wpAnyH_take (i := 4) (v := ?_) rfl (by kernel_rfl) (by kernel_rfl) (by kernel_rfl) (fun _ _ _ h => leaves_tmps (norm_put _ _ _ _ rfl (by decide)) _ _ _ h) (Or.inl ⟨by rfl, ?_⟩) (by assumption) ?_
  rotate_left
  · intro w hSw
    try dsimp only at hSw
    go_simp
    try with_reducible rfl
  try simp only [Act.put]
  refine wpAnyH_take (i := 5) (v := ?_) rfl (by kernel_rfl) (by kernel_rfl) (by kernel_rfl) (fun _ _ _ h => leaves_tmps (norm_put _ _ _ _ rfl (by decide)) _ _ _ h) (Or.inl ⟨by rfl, ?_⟩) (by assumption) ?_
  rotate_left
  · intro w hSw
    try dsimp only at hSw
    go_simp
    try with_reducible rfl
  try simp only [Act.put]
  refine wpAnyH_take (i := 6) (v := ?_) rfl (by kernel_rfl) (by kernel_rfl) (by kernel_rfl) (fun _ _ _ h => leaves_tmps (norm_put _ _ _ _ rfl (by decide)) _ _ _ h) (Or.inl ⟨by rfl, ?_⟩) (by assumption) ?_
  rotate_left
  · intro w hSw
    try dsimp only at hSw
    go_simp
    try with_reducible rfl
  try simp only [Act.put]
  refine wpAnyH_ready (rs := [0]) (by kernel_rfl) (by simp) ?_
  refine AllReadyH.cons rfl (fun K hK => ?_) AllReadyH.nil
  go_simp
  refine (newInt0 _).mono ?_
  rintro e w3 ⟨rfl, hw3⟩
  have HE3 : Hid (Below W.heap.size W w3) := hid (by rw [hw3]; exact ((Below.refl _ _).drew).alloc (Nat.le_refl _) _)
  have HZ3 : Hid (Blk w3 W.heap.size #[.bool false, .slice none 0 0] 124) := hid (by rw [hw3]; exact blk_new W.drew _ 124)
  have HX3 := hid (HX2.out.below HE3.out HX2.out.lt)
  have HP3 := hid (HP2.out.below HE3.out (Nat.le_refl _))
  have HD3 := hid (HD2.out.below HE3.out (Nat.le_refl _))
  have HS3 := hid (HS2.out.below HE3.out HS2.out.lt)
  have HE4 := hid (HE2.out.trans (HE3.out.mono (Nat.le_of_lt HX2.out.lt)))
  have HBX : Hid (bx < W.heap.size ∧ bs < W.heap.size) := hid ⟨HX2.out.lt, HS2.out.lt⟩
  clear hw3 HX2 HS2 HE2
  have hwz : W.drew.heap.size = W.heap.size := rfl
  generalize hbz : W.heap.size = bz at *
  try rw [hwz]
  go_wp2_with fail
  refine hK.out _ _ trivial (fun _ => ?_)
  clear hK K
  refine wpAnyH_ready (rs := [7]) (by kernel_rfl) (by simp) ?_
  refine AllReadyH.cons rfl (fun K hK => ?_) AllReadyH.nil
  go_simp
  refine (lehmer_word bz bx P D _ _ _ 133 w3 HZ3.out HX3.out rfl rfl rfl rfl HP3.out HD3.out HL.out.1 HL.out.2.1 HL.out.2.2.1 HL.out.2.2.2.1 HL.out.2.2.2.2.1 (by have := HBX.out; omega)).mono ?_
  rintro e w4 ⟨rfl, hI, hb⟩
  have HI := hid hI
  have HB4 := hid hb
  clear hI hb
  go_wp2_with fail
  refine hK.out _ _ trivial (fun _ => ?_)
  clear hK K
  refine wpAnyH_take (i := 8) (v := ?_) rfl (by kernel_rfl) (by kernel_rfl) (by kernel_rfl) (fun _ _ _ h => leaves_tmps (norm_put _ _ _ _ rfl (by decide)) _ _ _ h) (Or.inl ⟨by rfl, ?_⟩) (by assumption) ?_
  rotate_left
  · intro w hSw
    try dsimp only at hSw
    go_simp
    try with_reducible rfl
  simp only [Act.put, List.getElem_toArray, List.getElem_cons_succ, List.getElem_cons_zero, List.setIfInBounds_toArray, List.set_cons_succ, List.set_cons_zero]
  refine wpAnyH_done (by kernel_rfl) ?_ _
  have HX4 := hid (HX3.out.below HB4.out HBX.out.1)
  have HS4 := hid (HS3.out.below HB4.out HBX.out.2)
  have HP4 := hid (HP2.out.below (HE3.out.trans HB4.out) (Nat.le_of_eq hbz))
  have HD4 := hid (HD2.out.below (HE3.out.trans HB4.out) (Nat.le_of_eq hbz))
  have HE5 := hid (HE4.out.trans (HB4.out.mono (Nat.le_of_lt HBX.out.1)))
  clear HX3 HS3 HP3 HD3 HE4 HZ3 HB4 HP2 HD2 HE3
  go_wp2_with fail
  refine (intOne_any _).mono ?_
  rintro e w5 ⟨b1, rfl, hb1, ⟨v1, h1, hn1⟩, hb⟩
  have H1 := hid h1
  have HN1 := hid hn1
  have HI5 := hid (HI.out.below hb)
  have HX5 := hid (HX4.out.below hb HX4.out.lt)
  have HS5 := hid (HS4.out.below hb HS4.out.lt)
  have HP5 := hid (HP4.out.below hb (Nat.le_refl _))
  have HD5 := hid (HD4.out.below hb (Nat.le_refl _))
  have HE6 := hid (HE5.out.trans (hb.mono (Nat.le_of_lt HX4.out.lt)))
  have HNE : Hid (bz ≠ b1) := hid (by obtain ⟨_, h, _⟩ := HI.out; have := h.lt; have := hb1.out; omega)
  clear h1 hn1 hb hb1 HI HX4 HS4 HP4 HD4 HE5
  obtain ⟨vI, hI1, hI2⟩ := HI5.out
  rw [HL.out.2.2.2.2.2] at hI2
  have HI1 := hid hI1
  have HI2 := hid hI2
  clear hI1 hI2 HI5
  go_wp2_with fail
  refine (intCmp_word bz b1 1 1 vI v1 w5 HI1.out H1.out HI2.out HN1.out (by omega) (by omega) HNE.out).mono ?_
  rintro e w6 ⟨rfl, k, hk⟩
  have HE7 : Hid (Below w5.heap.size w5 w6) := hid (by rw [hk]; exact below_drewN' k)
  have HX6 := hid (HX5.out.below HE7.out HX5.out.lt)
  have HS6 := hid (HS5.out.below HE7.out HS5.out.lt)
  have HP6 := hid (HP5.out.below HE7.out (Nat.le_refl _))
  have HD6 := hid (HD5.out.below HE7.out (Nat.le_refl _))
  have HE8 := hid (HE6.out.trans (HE7.out.mono (Nat.le_of_lt HX5.out.lt)))
  have hc : cmpI 1 1 = 0 := rfl
  rw [hc]
  clear hk hc HX5 HS5 HP5 HD5 HE6 HE7 HI1 HI2 H1 HN1
  obtain ⟨⟨x0, x1, x2, x3⟩, f0, _, _, _⟩ := four_cells HX6.out
  go_wp2_with fail
  have HX7 : Blk (w6.setCell ⟨bx, 0, none⟩ (.bool s)) bx #[.bool s, .slice aP lP cP, .bool false, .slice aD lD cD] 133 := by
    have := HX6.out.set 0 (.bool s)
    simpa using this
  have HS7 := HS6.out.far1 (i := 0) (show bs ≠ bx by have := HBS.out; omega) (.bool s)
  refine leaves_cons (f := 70) (args := #[.pointer (some ⟨bs, 0, none⟩)]) (by simp) (by simp [go_sem]) ?_
  refine (free_any bs .returning _ (HS7.cell 0)).mono ?_
  rintro e u' w'' ⟨rfl, rfl, rfl⟩
  exact ⟨_, results_tmp rfl _ _ _, rfl, HX7, HP6.out.set (p := ⟨bx, 0, none⟩) _ HX6.out.shape (by decide), HD6.out.set (p := ⟨bx, 0, none⟩) _ HX6.out.shape (by decide), Below.setCell (p := ⟨bx, 0, none⟩) HE8.out (Nat.le_refl _) _⟩
end Go.Proofs.YtgdgklhfakplhaaGreatDoor
