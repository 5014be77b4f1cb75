/- Walks and lemmas for the laws of this seat. -/
import Derived.Test.YtgdgklhfakplhaaGreatDoorH19
import Derived.Test.YtgdgklhfakplhaaGreatDoorH18
import Derived.Test.YtgdgklhfakplhaaGreatDoorH14
namespace Go.Proofs.YtgdgklhfakplhaaGreatDoor
open Go.RowKit Go.Dig
set_option maxRecDepth 100000
theorem puts {e b B : Nat} (hb : B ≤ b) : ∀ (ws : List Nat) (o : Nat) (w : World) (l : List Nat), BlkN .u64 e w b l → o + ws.length ≤ l.length →
    BlkN .u64 e (w.setCells b o (cs .u64 ws)) b (l.take o ++ ws ++ l.drop (o + ws.length)) ∧ Below B w (w.setCells b o (cs .u64 ws))
  | [], o, w, l, h, _ => by
    refine ⟨?_, Below.refl _ _⟩
    simp only [cs, List.map_nil, World.setCells, List.append_nil, List.length_nil, Nat.add_zero, List.take_append_drop]
    exact h
  | d :: r, o, w, l, h, hl => by
    simp only [List.length_cons] at hl
    have h1 := h.put o d
    have h2 := puts hb r (o + 1) _ _ h1 (by simp; omega)
    have e1 : (l.set o d).take (o + 1) = l.take o ++ [d] := by
      rw [List.take_add_one, List.getElem?_set_self (by omega), List.take_set_of_le (Nat.le_refl _)]
      rfl
    have e2 : (l.set o d).drop (o + 1 + r.length) = l.drop (o + 1 + r.length) := List.drop_set_of_lt (by omega)
    rw [e1, e2] at h2
    have e3 : l.take o ++ [d] ++ r ++ l.drop (o + 1 + r.length) = l.take o ++ d :: r ++ l.drop (o + (d :: r).length) := by
      simp only [List.append_assoc, List.length_cons, List.cons_append, List.nil_append]
      rw [show o + 1 + r.length = o + (r.length + 1) by omega]
    rw [e3] at h2
    exact ⟨h2.1, ((Below.refl _ _).setCell hb _).trans h2.2⟩
set_option maxHeartbeats 400000 in
theorem copy_words (w1 : World) (B k cap : Nat) (ws l : List Nat) (hB : BlkN .u64 181 w1 B l) (hk : k = ws.length) (hl : k ≤ l.length) (b2 off2 c2 : Nat) (hc : ∀ i, i < ws.length → w1.cell? ⟨b2, off2 + i, none⟩ = some (.int .u64 (ws.getD i 0 : Nat))) :
    (Builtin.copy_ #[118, 118] 3 #[.slice (some ⟨B, 0, none⟩) k cap, .slice (some ⟨b2, off2, none⟩) k c2]).run Tryz.prog w1 = .ok (.int .i64 k) (w1.setCells B 0 (cs .u64 ws)) := by
  subst hk
  have := run_copy_cells (P := Tryz.prog) w1 118 118 3 181 B 0 ws.length cap ⟨b2, off2, none⟩ ws.length c2 (cs .u64 ws) Tryz.underlying118 (by kernel_rfl) (by rw [cs_length]; simp) ?_ ?_ ?_ ?_
  · rw [cs_length] at this
    exact this
  · intro j v hj
    have hjl : j < ws.length := by
      rcases Nat.lt_or_ge j (cs .u64 ws).length with h | h
      · rwa [cs_length] at h
      · rw [List.getElem?_eq_none h] at hj; cases hj
    have h1 := cs_getElem? .u64 ws j hjl
    rw [List.getElem?_toArray, hj] at h1
    injection h1 with h1
    rw [h1]
    have e : (⟨b2, off2, none⟩ : Addr).add j = ⟨b2, off2 + j, none⟩ := by
      cases j with
      | zero => rfl
      | succ j => simp [Addr.add]
    rw [e]
    exact hc j hjl
  · intro j hj
    rw [cs_length] at hj
    rw [Nat.zero_add, hB.at (by omega)]
    rfl
  · intro j hj
    rw [Nat.zero_add]
    exact Blk.frozen hB j
  · intro v hv
    simp only [cs, List.mem_map] at hv
    obtain ⟨d, _, rfl⟩ := hv
    rfl
set_option maxHeartbeats 400000 in
theorem natMake_zero (w : World) : Calls Tryz.prog 106 #[.slice none 0 0, .int .i64 0] w fun e w' => e = .returned (.slice none 0 0) ∧ w' = w := by
  go_enter Tryz.func106, Tryz.ntmps106
  go_wp2_with fail
  go_ret
  exact ⟨rfl, rfl⟩
set_option maxHeartbeats 400000 in
theorem nset_any (vx : Value) (n : Nat) (w : World) (hx : Nw w vx n) (hl : (dg 18446744073709551616 n).length ≤ 900) :
    Calls Tryz.prog 61 #[.slice none 0 0, vx] w fun e w' => ∃ v, e = .returned v ∧ Nw w' v n ∧ (n < 18446744073709551616 → Wd w' w.heap.size v n) ∧ Below w.heap.size w w' := by
  have HX := hid hx
  obtain ⟨ax, cx, ex, h1, h2, h3⟩ := hx
  rcases Nat.lt_or_ge 1 (dg 18446744073709551616 n).length with hl1 | hl1
  · obtain ⟨b, off, rfl, _, hc⟩ := h3 (by omega)
    generalize hds : dg 18446744073709551616 n = ds at *
    subst ex
    have HC := hid hc
    have HM := natMake_any ds.length hl1 (by omega) w
    clear hc h3
    go_enter Tryz.func61, Tryz.ntmps61
    go_wp2_with fail
    refine HM.mono ?_
    rintro e w1 ⟨rfl, hw1⟩
    have hBz : BlkN .u64 181 w1 w.heap.size (List.replicate (ds.length + 4) 0) := by rw [hw1]; exact blk_new w _ 181
    have HB1 : Hid (Below w.heap.size w w1) := by rw [hw1]; exact (Below.refl _ _).alloc (Nat.le_refl _) _
    clear hw1 HM
    have hcp := copy_words w1 w.heap.size ds.length (ds.length + 4) ds _ hBz rfl (by simp) b off cx (fun i hi => (HB1.out.cell (World.block_lt_of_cell? w _ (HC.out i hi))).trans (HC.out i hi))
    obtain ⟨hB2, hb2⟩ := puts (B := w.heap.size) (Nat.le_refl _) ds 0 w1 _ hBz (by simp)
    simp only [List.take_zero, List.nil_append, Nat.zero_add, List.drop_replicate] at hB2
    have HB2 := hid hB2
    have HX2 := hid (HB1.out.trans hb2)
    clear hBz hB2 hb2
    go_wp2_with fail
    go_ret
    have hR := BlkN.rt HB2.out (cap := ds.length + 4) (by simp) (by omega)
    have hR2 := Rt.take (m := ds.length) hR (by simp)
    rw [List.take_left] at hR2
    refine ⟨_, rfl, by rw [Nw, hds]; exact hR2, fun h => ?_, HX2.out⟩
    have := dg_length_le (b := 18446744073709551616) (k := 1) (by omega) (show n < 18446744073709551616 ^ 1 by omega)
    rw [hds] at this
    omega
  · rcases Nat.eq_zero_or_pos n with h0 | h0
    · subst h0
      rw [dg_zero] at ex
      subst ex
      have hcp := fun w => run_copy_none (P := Tryz.prog) w 118 118 3 181 none ax 0 0 0 cx Tryz.underlying118 (by kernel_rfl) rfl
      go_enter Tryz.func61, Tryz.ntmps61
      go_wp2_with fail
      refine (natMake_zero w).mono ?_
      rintro e w1 ⟨rfl, rfl⟩
      go_wp2_with fail
      go_ret
      exact ⟨_, rfl, by rw [Nw, dg_zero]; exact Rt.nil _ _ _, fun _ => .inl ⟨rfl, rfl⟩, Below.refl _ _⟩
    · have hn1 : n < 18446744073709551616 := by
        have := lt_pow_dg_length (b := 18446744073709551616) (by omega) n
        exact Nat.lt_of_lt_of_le this (by
          calc 18446744073709551616 ^ (dg 18446744073709551616 n).length ≤ 18446744073709551616 ^ 1 := Nat.pow_le_pow_right (by omega) hl1
            _ = _ := by omega)
      rw [dg_one h0 hn1] at ex h1 h3
      obtain ⟨b, off, rfl, _, hc⟩ := h3 (by simp)
      subst ex
      have HC := hid hc
      clear hc h3 h1
      go_enter Tryz.func61, Tryz.ntmps61
      go_wp2_with fail
      refine (natMake_one w).mono ?_
      rintro e w1 ⟨rfl, hw1⟩
      have hBz : BlkN .u64 181 w1 w.heap.size [0] := by rw [hw1]; exact blk_new w _ 181
      have HB1 : Hid (Below w.heap.size w w1) := by rw [hw1]; exact (Below.refl _ _).alloc (Nat.le_refl _) _
      clear hw1
      have hcp := copy_words w1 w.heap.size 1 1 [n] _ hBz rfl (by simp) b off cx (fun i hi => (HB1.out.cell (World.block_lt_of_cell? w _ (HC.out i hi))).trans (HC.out i hi))
      obtain ⟨hB2, hb2⟩ := puts (B := w.heap.size) (Nat.le_refl _) [n] 0 w1 _ hBz (by simp)
      have HB2 := hid hB2
      have HX2 := hid (HB1.out.trans hb2)
      clear hBz hB2 hb2
      go_wp2_with fail
      go_ret
      have hW : Wd (w1.setCells w.heap.size 0 (cs .u64 [n])) w.heap.size (.slice (some ⟨w.heap.size, 0, none⟩) 1 1) n := .inr ⟨by omega, _, Nat.le_refl _, rfl, HB2.out⟩
      exact ⟨_, rfl, hW.nw hn1, fun _ => hW, HX2.out⟩
set_option maxHeartbeats 400000 in
/-- Int.Set onto a big number without words. -/
theorem intSet_new (b o bx ox n : Nat) (s0 s : Bool) (vx : Value) (cz cx : Array Value) (tz tx : TypeId) (w : World) (hz : Blk w b cz tz) (h0 : cz[o]? = some (.bool s0)) (h1 : cz[o + 1]? = some (.slice none 0 0)) (hx : Blk w bx cx tx) (hx0 : cx[ox]? = some (.bool s)) (hx1 : cx[ox + 1]? = some vx) (hn : Nw w vx n) (hl : (dg 18446744073709551616 n).length ≤ 900) (hne : b ≠ bx) :
    Calls Tryz.prog 93 #[.pointer (some ⟨b, o, none⟩), .pointer (some ⟨bx, ox, none⟩)] w fun e w' => e = .returned (.pointer (some ⟨b, o, none⟩)) ∧ ∃ v w1, Below w.heap.size w w1 ∧ Nw w1 v n ∧ (n < 18446744073709551616 → Wd w1 w.heap.size v n) ∧ w' = (w1.setCell ⟨b, o + 1, none⟩ v).setCell ⟨b, o, none⟩ (.bool s) := by
  obtain ⟨j, hj, hjs⟩ : ∃ j, Tryz.prog.info? 124 = some j ∧ j.size ≠ 0 := by
    have h : (Tryz.prog.info? 124).map (·.size) = some 2 := by kernel_rfl
    obtain ⟨j, hj, e⟩ := Option.map_eq_some_iff.1 h
    exact ⟨j, hj, by rw [e]; omega⟩
  have hneq := neq_ptr_other (P := Tryz.prog) w (tp := 71) (te := 124) (a := ⟨b, o, none⟩) (b := ⟨bx, ox, none⟩) Tryz.underlying71 hj hjs (fun h => hne (congrArg Addr.block h)) hz hx
  obtain ⟨ax, L, cx', rfl, _⟩ := nw_shape hn
  have HZ := hid hz
  have HX := hid hx
  have HN := hid hn
  have HL := hid hl
  have k0 := (hz.cell o).trans h0
  have k1 := (hz.cell (o + 1)).trans h1
  have k2 := (hx.cell ox).trans hx0
  have k3 := (hx.cell (ox + 1)).trans hx1
  have H0 := hid h0
  have H1 := hid h1
  have X0 := hid hx0
  have X1 := hid hx1
  have HNE := hid hne
  clear hz hx hn hl h0 h1 hx0 hx1 hj hjs hne
  go_enter Tryz.func93, Tryz.ntmps93
  go_wp2_with fail
  have d1 : w.drew.cell? ⟨b, o + 1, none⟩ = some (.slice none 0 0) := k1
  have d3 : w.drew.cell? ⟨bx, ox + 1, none⟩ = some (.slice ax L cx') := k3
  refine wp_region_held_drew (S := fun w' => w'.cell? ⟨bx, ox + 1, none⟩ = some (.slice ax L cx')) (by kernel_rfl) d3 (fun hHeld => ?_)
  refine wpAnyH_take (i := 0) (v := ?_) rfl (by kernel_rfl) (by kernel_rfl) (by kernel_rfl) (fun _ _ _ h => h) (Or.inl ⟨by rfl, ?_⟩) (by assumption) ?_
  rotate_left
  · intro w hSw
    try dsimp only at hSw
    go_simp
    try with_reducible rfl
  try simp only [Act.put, List.setIfInBounds_toArray]
  refine wpAnyH_take (i := 1) (v := ?_) rfl (by kernel_rfl) (by kernel_rfl) (by kernel_rfl) (fun _ _ _ h => h) (Or.inl ⟨by rfl, ?_⟩) (by assumption) ?_
  rotate_left
  · intro w hSw
    try dsimp only at hSw
    go_simp
    try with_reducible rfl
  try simp only [Act.put]
  refine wpAnyH_take (i := 2) (v := ?_) rfl (by kernel_rfl) (by kernel_rfl) (by kernel_rfl) (fun _ _ _ h => h) (Or.inl ⟨by rfl, ?_⟩) (by assumption) ?_
  rotate_left
  · intro w hSw
    try dsimp only at hSw
    go_simp
    try with_reducible rfl
  try simp only [Act.put]
  refine wpAnyH_take (i := 3) (v := ?_) rfl (by kernel_rfl) (by kernel_rfl) (by kernel_rfl) (fun _ _ _ h => h) (Or.inl ⟨by rfl, ?_⟩) (by assumption) ?_
  rotate_left
  · intro w hSw
    try dsimp only at hSw
    go_simp
    try with_reducible rfl
  try simp only [Act.put]
  refine wpAnyH_take (i := 5) (v := ?_) rfl (by kernel_rfl) (by kernel_rfl) (by kernel_rfl) (fun _ _ _ h => h) (Or.inl ⟨by rfl, ?_⟩) (by assumption) ?_
  rotate_left
  · intro w hSw
    try dsimp only at hSw
    go_simp
    try with_reducible rfl
  try simp only [Act.put]
  refine wpAnyH_take (i := 6) (v := ?_) rfl (by kernel_rfl) (by kernel_rfl) (by kernel_rfl) (fun _ _ _ h => h) (Or.inl ⟨by rfl, ?_⟩) (by assumption) ?_
  rotate_left
  · intro w hSw
    try dsimp only at hSw
    go_simp
    try with_reducible rfl
  try simp only [Act.put]
  refine wpAnyH_take (i := 7) (v := ?_) rfl (by kernel_rfl) (by kernel_rfl) (by kernel_rfl) (fun _ _ _ h => h) (Or.inl ⟨by rfl, ?_⟩) (by assumption) ?_
  rotate_left
  · intro w hSw
    try dsimp only at hSw
    go_simp
    try with_reducible rfl
  try simp only [Act.put]
  refine wpAnyH_take (i := 8) (v := ?_) rfl (by kernel_rfl) (by kernel_rfl) (by kernel_rfl) (fun _ _ _ h => h) (Or.inl ⟨by rfl, ?_⟩) (by assumption) ?_
  rotate_left
  · intro w hSw
    try dsimp only at hSw
    go_simp
    try with_reducible rfl
  try simp only [Act.put]
  refine wpAnyH_ready (rs := [4]) (by kernel_rfl) (by simp) ?_
  refine AllReadyH.cons rfl (fun K hK => ?_) AllReadyH.nil
  go_simp
  refine hK.out _ _ d3 (fun _ => ?_)
  clear hK K
  refine wpAnyH_ready (rs := [9]) (by kernel_rfl) (by simp) ?_
  refine AllReadyH.cons rfl (fun K hK => ?_) AllReadyH.nil
  go_simp
  have HE : Hid (Below w.heap.size w w.drew) := (Below.refl _ _).drew
  refine (nset_any _ n w.drew (HN.out.below HE.out (Nat.le_refl _)) HL.out).mono ?_
  rintro e w1 ⟨v, rfl, hv, hd, hb⟩
  have HV := hid hv
  have HD : Hid (n < 18446744073709551616 → Wd w1 w.heap.size v n) := hid hd
  have HB : Hid (Below w.heap.size w w1) := hid (HE.out.trans hb)
  obtain ⟨a, l, c, rfl, _⟩ := nw_shape hv
  have HZ1 := hid (HZ.out.below HB.out HZ.out.lt)
  have HX1 := hid (HX.out.below HB.out HX.out.lt)
  clear k0 k1 k2 k3 d1 d3 hneq hv hd hb
  have k0 := (HZ1.out.cell o).trans H0.out
  have k1 := (HZ1.out.cell (o + 1)).trans H1.out
  have f1 := HZ1.out.frozen (o + 1)
  have f0 := HZ1.out.frozen o
  have x1 := (HX1.out.cell (ox + 1)).trans X1.out
  have k2 : (w1.setCell ⟨b, o + 1, none⟩ (.slice a l c)).cell? ⟨bx, ox, none⟩ = some (.bool s) := by
    rw [World.cell?_setCell_other]
    · exact (HX1.out.cell ox).trans X0.out
    · intro h; exact HNE.out (congrArg Addr.block h)
  have x2 : (w1.setCell ⟨b, o + 1, none⟩ (.slice a l c)).cell? ⟨bx, ox + 1, none⟩ = some (.slice ax L cx') := by
    rw [World.cell?_setCell_other]
    · exact x1
    · intro h; exact HNE.out (congrArg Addr.block h)
  have k3 : (w1.setCell ⟨b, o + 1, none⟩ (.slice a l c)).cell? ⟨b, o, none⟩ = some (.bool s0) := by
    rw [World.cell?_setCell_other]
    · exact k0
    · intro h; injection h with _ h _; omega
  go_wp2_with fail
  refine hK.out _ _ x1 (fun _ => ?_)
  clear hK K
  refine wpAnyH_take (i := 10) (v := ?_) rfl (by kernel_rfl) (by kernel_rfl) (by kernel_rfl) (fun _ _ _ h => h) (Or.inl ⟨by rfl, ?_⟩) (by assumption) ?_
  rotate_left
  · intro w hSw
    try dsimp only at hSw
    go_simp
    try with_reducible rfl
  try simp only [Act.put]
  refine wpAnyH_take (i := 11) (v := ?_) rfl (by kernel_rfl) (by kernel_rfl) (by kernel_rfl) (fun _ _ _ h => h) (Or.inl ⟨by rfl, ?_⟩) (by assumption) ?_
  rotate_left
  · intro w hSw
    try dsimp only at hSw
    go_simp
    try with_reducible rfl
  try simp only [Act.put]
  refine wpAnyH_ready (rs := [12]) (by kernel_rfl) (by simp) ?_
  refine AllReadyH.cons rfl (fun K hK => ?_) AllReadyH.nil
  go_simp
  refine hK.out _ _ x2 (fun _ => ?_)
  clear hK K
  refine wpAnyH_done (by kernel_rfl) ?_ _
  go_wp2_with fail
  go_ret
  exact ⟨rfl, _, w1, HB.out, HV.out, HD.out, rfl⟩
end Go.Proofs.YtgdgklhfakplhaaGreatDoor
namespace Go.Proofs.YtgdgklhfakplhaaGreatDoor
open Go.RowKit Go.Dig
set_option maxRecDepth 100000
theorem puts_ds {b o : Nat} : ∀ (ws : List Nat) (i : Nat) (w : World) (l : List Nat), Ds w b o l → i + ws.length ≤ l.length →
    Ds (w.setCells b (o + i) (cs .u64 ws)) b o (l.take i ++ ws ++ l.drop (i + ws.length)) ∧ Fx b (o + i) ws.length w (w.setCells b (o + i) (cs .u64 ws))
  | [], i, w, l, h, _ => by
    refine ⟨?_, Fx.refl _ _ _ _⟩
    simp only [cs, List.map_nil, World.setCells, List.append_nil, List.length_nil, Nat.add_zero, List.take_append_drop]
    exact h
  | d :: r, i, w, l, h, hl => by
    simp only [List.length_cons] at hl
    have h1 := h.put (i := i) (by omega) d
    have h2 := puts_ds r (i + 1) _ _ h1 (by simp; omega)
    have e1 : (l.set i d).take (i + 1) = l.take i ++ [d] := by
      rw [List.take_add_one, List.getElem?_set_self (by omega), List.take_set_of_le (Nat.le_refl _)]
      rfl
    have e2 : (l.set i d).drop (i + 1 + r.length) = l.drop (i + 1 + r.length) := List.drop_set_of_lt (by omega)
    rw [e1, e2] at h2
    have e3 : l.take i ++ [d] ++ r ++ l.drop (i + 1 + r.length) = l.take i ++ d :: r ++ l.drop (i + (d :: r).length) := by
      simp only [List.append_assoc, List.length_cons, List.cons_append, List.nil_append]
      rw [show i + 1 + r.length = i + (r.length + 1) by omega]
    rw [e3] at h2
    refine ⟨h2.1, ?_⟩
    have f1 := (Fx.refl b (o + i) (r.length + 1) w).setCell (i := o + i) (by omega) (by omega) (.int .u64 (d : Int))
    have f2 := h2.2.mono (o' := o + i) (k' := r.length + 1) (by omega) (by omega)
    exact f1.trans f2
theorem put_ds {w : World} {b o : Nat} {lz ws : List Nat} (h : Ds w b o lz) (hl : ws.length = lz.length) : Ds (w.setCells b o (cs .u64 ws)) b o ws ∧ Fx b o ws.length w (w.setCells b o (cs .u64 ws)) := by
  have := puts_ds ws 0 w lz h (by omega)
  rw [Nat.add_zero, Nat.zero_add, List.drop_eq_nil_of_le (by omega)] at this
  simpa using this
theorem cell_add (b o j : Nat) : (⟨b, o, none⟩ : Addr).add j = ⟨b, o + j, none⟩ := by
  cases j with
  | zero => rfl
  | succ j => simp [Addr.add]
/-- copy: the source is read whole before anything is written. -/
theorem copy_ds (w : World) (b o k c b2 o2 c2 : Nat) (lz xs : List Nat) (hz : Ds w b o lz) (hx : Ds w b2 o2 xs) (hk : k = xs.length) (hl : lz.length = xs.length) :
    (Builtin.copy_ #[118, 118] 3 #[.slice (some ⟨b, o, none⟩) k c, .slice (some ⟨b2, o2, none⟩) k c2]).run Tryz.prog w = .ok (.int .i64 k) (w.setCells b o (cs .u64 xs)) := by
  subst hk
  have := run_copy_cells (P := Tryz.prog) w 118 118 3 181 b o xs.length c ⟨b2, o2, none⟩ xs.length c2 (cs .u64 xs) Tryz.underlying118 (by kernel_rfl) (by rw [cs_length]; simp) ?_ ?_ ?_ ?_
  · rw [cs_length] at this
    exact this
  · intro j v hj
    have hjl : j < xs.length := by
      rcases Nat.lt_or_ge j (cs .u64 xs).length with h | h
      · rwa [cs_length] at h
      · rw [List.getElem?_eq_none h] at hj; cases hj
    have h1 := cs_getElem? .u64 xs j hjl
    rw [List.getElem?_toArray, hj] at h1
    injection h1 with h1
    rw [h1, cell_add]
    exact hx.cell hjl
  · intro j hj
    rw [cs_length] at hj
    rw [hz.cell (by omega)]
    rfl
  · intro j hj
    exact hz.frozen _
  · intro v hv
    simp only [cs, List.mem_map] at hv
    obtain ⟨d, _, rfl⟩ := hv
    rfl
theorem run_clear_ds (b o n c : Nat) (w : World) (l : List Nat) (h : Ds w b o l) (hl : n ≤ l.length) :
    (Builtin.clear_ #[118] 0 #[.slice (some ⟨b, o, none⟩) n c]).run Tryz.prog w = .ok (.tuple #[]) (w.setCells b o (cs .u64 (List.replicate n 0))) := by
  have e : cs .u64 (List.replicate n 0) = List.replicate n (.int .u64 0) := by simp [cs]
  rw [e]
  rcases Nat.eq_zero_or_pos n with h0 | h0
  · subst h0
    simp [Builtin.clear_, run_underlying Tryz.underlying118, World.setCells]
  · refine Go.Lib.run_clear_slice (P := Tryz.prog) w 118 181 0 (.int .u64 0) Tryz.underlying118 (by intro w; kernel_rfl) rfl rfl b o n c h0 ?_ ?_
    · intro j hj
      rw [h.cell (by omega)]
      rfl
    · intro j hj
      exact h.frozen _
set_option maxHeartbeats 400000 in
theorem norm_ds (b o c k : Nat) (ds : List Nat) (w : World) (h : Ds w b o ds) (hk : k = ds.length) (hk2 : k < 1000000) (hc : k ≤ c) :
    Calls Tryz.prog 123 #[.slice (some ⟨b, o, none⟩) k c] w fun e w' => e = .returned (.slice (some ⟨b, o, none⟩) (trim ds).length c) ∧ w' = w ∧ trim ds = ds.take (trim ds).length ∧ (trim ds).length ≤ k := by
  subst hk
  have HA := hid h
  clear h
  go_enter Tryz.func123, Tryz.ntmps123
  go_wp2_with fail
  go_loop [3] (fun v => ∃ m : Nat, v = .int .i64 m ∧ m ≤ ds.length ∧ Hid (∀ i, m ≤ i → i < ds.length → ds.getD i 0 = 0)) (fun v => (intOf v).toNat)
  case atStart => exact ⟨ds.length, rfl, Nat.le_refl _, fun i h1 h2 => by omega⟩
  case round =>
    obtain ⟨m, rfl, hm, hz⟩ := hrel
    rcases Nat.eq_zero_or_pos m with h0 | h0
    · subst h0
      go_wp2_with fail
      go_ret
      have e := trim_take (Nat.zero_le _) hz.out (fun h => absurd h (by omega))
      rw [e]
      exact ⟨by simp, rfl, by simp, by simp⟩
    · obtain ⟨k, rfl⟩ : ∃ k, m = k + 1 := ⟨m - 1, by omega⟩
      have hk := HA.out.cell (i := k) (by omega)
      by_cases hf : ds.getD k 0 = 0
      · rw [hf] at hk
        have HF := hid hf
        clear hf
        go_wp2_with fail
        go_round
        case rel =>
          refine ⟨k, by go_num, by omega, fun i h1 h2 => ?_⟩
          rcases Nat.eq_or_lt_of_le h1 with rfl | h3
          · exact HF.out
          · exact hz.out i h3 h2
        case measure => simp [intOf]
      · have hf' : (((ds.getD k 0 : Nat) : Int) == 0) = false := by simp; simpa using hf
        generalize hg : ds.getD k 0 = d at hk hf'
        have HF := hid hf
        have HG := hid hg
        clear hf hg
        go_wp2_with fail
        go_ret
        have e := trim_take hm hz.out (fun _ => HF.out)
        rw [e]
        exact ⟨by simp; omega, rfl, by simp, by simp; omega⟩
set_option maxHeartbeats 400000 in
theorem make_reuse (a : Option Addr) (l c k : Nat) (hk : k ≤ c) (w : World) : Calls Tryz.prog 106 #[.slice a l c, .int .i64 k] w fun e w' => e = .returned (.slice a k c) ∧ w' = w := by
  go_enter Tryz.func106, Tryz.ntmps106
  go_wp2_with fail
  go_ret
  exact ⟨rfl, rfl⟩
end Go.Proofs.YtgdgklhfakplhaaGreatDoor
namespace Go.Proofs.YtgdgklhfakplhaaGreatDoor
open Go.RowKit Go.Dig
set_option maxRecDepth 100000
/-- A natural number in a block, from its first cell on; c cells of the block are known. -/
def On (w : World) (v : Value) (b c n : Nat) : Prop :=
  v = .slice (some ⟨b, 0, none⟩) (dg 18446744073709551616 n).length c ∧ (dg 18446744073709551616 n).length ≤ c ∧ ∃ l, Ds w b 0 l ∧ l.length = c ∧ l.take (dg 18446744073709551616 n).length = dg 18446744073709551616 n
theorem On.lt {w : World} {v : Value} {b c n : Nat} (h : On w v b c n) : b < w.heap.size := by
  obtain ⟨_, _, l, h, _⟩ := h; exact h.lt
theorem On.ds {w : World} {v : Value} {b c n : Nat} (h : On w v b c n) : Ds w b 0 (dg 18446744073709551616 n) := by
  obtain ⟨_, _, l, h, _, ht⟩ := h
  rw [← ht]; exact h.take _
theorem On.fx {w w1 : World} {v : Value} {b c n b' o k : Nat} (h : On w v b c n) (hf : Fx b' o k w w1) (hd : b ≠ b') : On w1 v b c n := by
  obtain ⟨h0, h1, l, h2, h3⟩ := h
  exact ⟨h0, h1, l, h2.fx hf (.inl hd), h3⟩
theorem On.below {w w1 : World} {v : Value} {b c n B : Nat} (h : On w v b c n) (hf : Below B w w1) (hd : b < B) : On w1 v b c n := by
  obtain ⟨h0, h1, l, h2, h3⟩ := h
  exact ⟨h0, h1, l, h2.below hf hd, h3⟩
set_option maxHeartbeats 400000 in
/-- nat.make: the old block, where it is long enough, or a new one. -/
theorem make_own (b c j k : Nat) (l : List Nat) (w : World) (hb : Ds w b 0 l) (hl : l.length = c) (hk : 1 < k) (hk2 : k < 1000) :
    Calls Tryz.prog 106 #[.slice (some ⟨b, 0, none⟩) j c, .int .i64 k] w fun e w' => ∃ b' c' l', e = .returned (.slice (some ⟨b', 0, none⟩) k c') ∧ Ds w' b' 0 l' ∧ l'.length = c' ∧ k ≤ c' ∧ c' ≤ max c (k + 4) ∧ (b' = b ∧ c' = c ∨ b' = w.heap.size) ∧ Below w.heap.size w w' := by
  rcases Nat.lt_or_ge c k with h | h
  · refine (natMake_gt (some ⟨b, 0, none⟩) j c k h hk hk2 w).mono ?_
    rintro e w' ⟨rfl, rfl⟩
    refine ⟨_, _, _, rfl, Ds.of_blk (blk_new w _ 181), List.length_replicate, by omega, by omega, .inr rfl, (Below.refl _ _).alloc (Nat.le_refl _) _⟩
  · refine (make_reuse (some ⟨b, 0, none⟩) j c k h w).mono ?_
    rintro e w' ⟨rfl, rfl⟩
    exact ⟨b, c, l, rfl, hb, hl, h, by omega, .inl ⟨rfl, rfl⟩, Below.refl _ _⟩
theorem splice_ds {w w1 : World} {b K m : Nat} {l l' : List Nat} (h : Ds w b 0 l) (hf : Fx b K m w w1) (h' : Ds w1 b K l') (hm : l'.length = m) (hl : K + m ≤ l.length) : Ds w1 b 0 (l.take K ++ l' ++ l.drop (K + m)) := by
  have e1 : (l.take K).length = K := by rw [List.length_take]; omega
  have h1 : Ds w1 b 0 (l.take K) := (h.take K).fx hf (.inr (.inl (by omega)))
  have h3 := (h.sub (i := K + m) hl).fx hf (.inr (.inr (by omega)))
  have h2 : Ds w1 b 0 (l.take K ++ l') := h1.join (by rw [e1, Nat.zero_add]; exact h')
  refine h2.join ?_
  rw [List.length_append, e1, hm]; exact h3
/-- The words of a number moved left by K words and some bits. -/
theorem lsh_words {K m n s r top : Nat} {l' : List Nat} (hs : s = 64 * K + r) (hm : l'.length = m) (hd : ∀ d ∈ l', d < 18446744073709551616) (ht : top < 18446744073709551616) (hv : val 18446744073709551616 l' + top * 18446744073709551616 ^ m = n * 2 ^ r) :
    trim (List.replicate K 0 ++ l' ++ [top]) = dg 18446744073709551616 (n * 2 ^ s) := by
  have hd2 : ∀ d ∈ List.replicate K 0 ++ l' ++ [top], d < 18446744073709551616 := by
    intro d h
    simp only [List.mem_append, List.mem_replicate, List.mem_cons, List.not_mem_nil, or_false] at h
    rcases h with (⟨_, rfl⟩ | h) | rfl
    · omega
    · exact hd d h
    · exact ht
  rw [trim_eq (by omega) hd2, List.append_assoc, val_append, val_append, val_replicate, List.length_replicate, hm]
  congr 1
  simp only [val, Nat.mul_zero, Nat.add_zero, Nat.zero_add]
  rw [Nat.mul_comm (18446744073709551616 ^ m) top, hv, show (18446744073709551616 : Nat) ^ K = 2 ^ (64 * K) by rw [Nat.pow_mul], hs, Nat.pow_add, Nat.mul_left_comm]
theorem on_of {w : World} {b c k n : Nat} {L : List Nat} (h : Ds w b 0 L) (hl : L.length = c) (hk : k ≤ c) (he : trim (L.take k) = dg 18446744073709551616 n) (ht : trim (L.take k) = (L.take k).take (trim (L.take k)).length) (hle : (trim (L.take k)).length ≤ k) :
    On w (.slice (some ⟨b, 0, none⟩) (trim (L.take k)).length c) b c n := by
  rw [he] at ht hle ⊢
  refine ⟨rfl, by omega, L, h, hl, ?_⟩
  rw [List.take_take, Nat.min_eq_left hle] at ht
  exact ht.symm
/-- A new block, or the old one again: of what there was only the old block's cells may have turned. -/
theorem fx_own {w w1 w2 : World} {b c b' c' : Nat} (hbb : b' = b ∧ c' = c ∨ b' = w.heap.size) (hf : Below w.heap.size w w1) (h : Fx b' 0 c' w1 w2) : Fx b 0 c w w2 := by
  rcases hbb with ⟨rfl, rfl⟩ | rfl
  · exact (Fx.of_below hf).trans h
  · exact Fx.of_below (hf.trans (h.below (Nat.le_refl _) hf.size))
end Go.Proofs.YtgdgklhfakplhaaGreatDoor
