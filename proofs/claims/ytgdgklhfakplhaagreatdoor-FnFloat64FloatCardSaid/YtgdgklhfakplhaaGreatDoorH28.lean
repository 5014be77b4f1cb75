/- Walks and lemmas for the laws of this seat. -/
import Derived.Test.YtgdgklhfakplhaaGreatDoorH20
import Derived.Test.YtgdgklhfakplhaaGreatDoorH27
import Derived.Defers
namespace Go.Proofs.YtgdgklhfakplhaaGreatDoor
open Go.RowKit Go.Dig
set_option maxRecDepth 100000
set_option maxHeartbeats 1000000 in
/-- Int.Lsh of a number onto itself, by what nat.lsh gives. -/
theorem intLsh_self (b o s : Nat) (s0 : Bool) (a : Option Addr) (l c : Nat) (Q : World → Value → Prop) (hQ : ∀ w v, Q w v → ∃ a l c, v = .slice a l c) (w : World) (k0 : w.cell? ⟨b, o, none⟩ = some (.bool s0)) (k1 : w.cell? ⟨b, o + 1, none⟩ = some (.slice a l c)) (f0 : w.frozen? ⟨b, o, none⟩ = false) (f1 : w.frozen? ⟨b, o + 1, none⟩ = false)
    (H : Calls Tryz.prog 110 #[.slice a l c, .slice a l c, .int .u64 s] w.drew fun e w' => ∃ v, e = .returned v ∧ Q w' v ∧ Below w.heap.size w.drew w') :
    Calls Tryz.prog 95 #[.pointer (some ⟨b, o, none⟩), .pointer (some ⟨b, o, none⟩), .int .u64 s] w fun e w' => e = .returned (.pointer (some ⟨b, o, none⟩)) ∧ ∃ v w1, Below w.heap.size w w1 ∧ Q w1 v ∧ w' = (w1.setCell ⟨b, o + 1, none⟩ v).setCell ⟨b, o, none⟩ (.bool s0) := by
  have HL0 := hid (World.block_lt_of_cell? w _ k0)
  have H0 := hid k0
  have H1 := hid k1
  have F0 := hid f0
  have F1 := hid f1
  clear f0 f1
  go_enter Tryz.func95, Tryz.ntmps95
  go_wp2_with fail
  have d1 : w.drew.cell? ⟨b, o + 1, none⟩ = some (.slice a l c) := k1
  refine wp_region_held_drew (S := fun _ => True) (by kernel_rfl) trivial (fun hHeld => ?_)
  refine wpAnyH_take (i := 0) (v := ?_) rfl (by kernel_rfl) (by kernel_rfl) (by kernel_rfl) (fun _ _ _ h => h) (Or.inl ⟨by rfl, ?_⟩) (by assumption) ?_
  rotate_left
  · intro w hSw
    try dsimp only at hSw
    go_simp
    try with_reducible rfl
  try simp only [Act.put, List.setIfInBounds_toArray]
  refine wpAnyH_take (i := 1) (v := ?_) rfl (by kernel_rfl) (by kernel_rfl) (by kernel_rfl) (fun _ _ _ h => h) (Or.inl ⟨by rfl, ?_⟩) (by assumption) ?_
  rotate_left
  · intro w hSw
    try dsimp only at hSw
    go_simp
    try with_reducible rfl
  try simp only [Act.put]
  refine wpAnyH_take (i := 2) (v := ?_) rfl (by kernel_rfl) (by kernel_rfl) (by kernel_rfl) (fun _ _ _ h => h) (Or.inl ⟨by rfl, ?_⟩) (by assumption) ?_
  rotate_left
  · intro w hSw
    try dsimp only at hSw
    go_simp
    try with_reducible rfl
  try simp only [Act.put]
  refine wpAnyH_take (i := 3) (v := ?_) rfl (by kernel_rfl) (by kernel_rfl) (by kernel_rfl) (fun _ _ _ h => h) (Or.inl ⟨by rfl, ?_⟩) (by assumption) ?_
  rotate_left
  · intro w hSw
    try dsimp only at hSw
    go_simp
    try with_reducible rfl
  try simp only [Act.put]
  refine wpAnyH_take (i := 5) (v := ?_) rfl (by kernel_rfl) (by kernel_rfl) (by kernel_rfl) (fun _ _ _ h => h) (Or.inl ⟨by rfl, ?_⟩) (by assumption) ?_
  rotate_left
  · intro w hSw
    try dsimp only at hSw
    go_simp
    try with_reducible rfl
  try simp only [Act.put]
  refine wpAnyH_take (i := 6) (v := ?_) rfl (by kernel_rfl) (by kernel_rfl) (by kernel_rfl) (fun _ _ _ h => h) (Or.inl ⟨by rfl, ?_⟩) (by assumption) ?_
  rotate_left
  · intro w hSw
    try dsimp only at hSw
    go_simp
    try with_reducible rfl
  try simp only [Act.put]
  refine wpAnyH_take (i := 7) (v := ?_) rfl (by kernel_rfl) (by kernel_rfl) (by kernel_rfl) (fun _ _ _ h => h) (Or.inl ⟨by rfl, ?_⟩) (by assumption) ?_
  rotate_left
  · intro w hSw
    try dsimp only at hSw
    go_simp
    try with_reducible rfl
  try simp only [Act.put]
  refine wpAnyH_take (i := 9) (v := ?_) rfl (by kernel_rfl) (by kernel_rfl) (by kernel_rfl) (fun _ _ _ h => h) (Or.inl ⟨by rfl, ?_⟩) (by assumption) ?_
  rotate_left
  · intro w hSw
    try dsimp only at hSw
    go_simp
    try with_reducible rfl
  try simp only [Act.put]
  refine wpAnyH_ready (rs := [4, 8]) (by kernel_rfl) (by simp) ?_
  refine AllReadyH.cons rfl (fun K hK => ?_) (AllReadyH.cons rfl (fun K hK => ?_) AllReadyH.nil)
  · go_simp
    refine hK.out _ _ trivial (fun _ => ?_)
    clear hK K
    refine wpAnyH_ready (rs := [8]) (by kernel_rfl) (by simp) ?_
    refine AllReadyH.cons rfl (fun K hK => ?_) AllReadyH.nil
    go_simp
    refine hK.out _ _ trivial (fun _ => ?_)
    clear hK K
    refine wpAnyH_ready (rs := [10]) (by kernel_rfl) (by simp) ?_
    refine AllReadyH.cons rfl (fun K hK => ?_) AllReadyH.nil
    go_simp
    refine H.mono ?_
    rintro e w1 ⟨v, rfl, hv, hb⟩
    have HV := hid hv
    have HB : Hid (Below w.heap.size w w1) := hid (((Below.refl w.heap.size w).drew).trans hb)
    obtain ⟨a', l', c', rfl⟩ := hQ _ _ hv
    clear d1 k0 k1 hv hb
    have k0 := (HB.out.cell (p := ⟨b, o, none⟩) HL0.out).trans H0.out
    have k1 := (HB.out.cell (p := ⟨b, o + 1, none⟩) HL0.out).trans H1.out
    have f0 := (HB.out.frozen (p := ⟨b, o, none⟩) HL0.out).trans F0.out
    have f1 := (HB.out.frozen (p := ⟨b, o + 1, none⟩) HL0.out).trans F1.out
    have k2 : (w1.setCell ⟨b, o + 1, none⟩ (.slice a' l' c')).cell? ⟨b, o, none⟩ = some (.bool s0) := by
      rw [World.cell?_setCell_other]
      · exact k0
      · intro h; injection h with _ h _; omega
    go_wp2_with fail
    refine hK.out _ _ trivial (fun _ => ?_)
    clear hK K
    refine wpAnyH_take (i := 11) (v := ?_) rfl (by kernel_rfl) (by kernel_rfl) (by kernel_rfl) (fun _ _ _ h => h) (Or.inl ⟨by rfl, ?_⟩) (by assumption) ?_
    rotate_left
    · intro w hSw
      try dsimp only at hSw
      go_simp
      try with_reducible rfl
    try simp only [Act.put]
    refine wpAnyH_take (i := 12) (v := ?_) rfl (by kernel_rfl) (by kernel_rfl) (by kernel_rfl) (fun _ _ _ h => h) (Or.inl ⟨by rfl, ?_⟩) (by assumption) ?_
    rotate_left
    · intro w hSw
      try dsimp only at hSw
      go_simp
      try with_reducible rfl
    try simp only [Act.put]
    refine wpAnyH_ready (rs := [13]) (by kernel_rfl) (by simp) ?_
    refine AllReadyH.cons rfl (fun K hK => ?_) AllReadyH.nil
    go_simp
    refine hK.out _ _ trivial (fun _ => ?_)
    clear hK K
    refine wpAnyH_done (by kernel_rfl) ?_ _
    go_wp2_with fail
    go_ret
    exact ⟨rfl, _, w1, HB.out, HV.out, rfl⟩
  · go_simp
    refine hK.out _ _ trivial (fun _ => ?_)
    clear hK K
    refine wpAnyH_ready (rs := [4]) (by kernel_rfl) (by simp) ?_
    refine AllReadyH.cons rfl (fun K hK => ?_) AllReadyH.nil
    go_simp
    refine hK.out _ _ trivial (fun _ => ?_)
    clear hK K
    refine wpAnyH_ready (rs := [10]) (by kernel_rfl) (by simp) ?_
    refine AllReadyH.cons rfl (fun K hK => ?_) AllReadyH.nil
    go_simp
    refine H.mono ?_
    rintro e w1 ⟨v, rfl, hv, hb⟩
    have HV := hid hv
    have HB : Hid (Below w.heap.size w w1) := hid (((Below.refl w.heap.size w).drew).trans hb)
    obtain ⟨a', l', c', rfl⟩ := hQ _ _ hv
    clear d1 k0 k1 hv hb
    have k0 := (HB.out.cell (p := ⟨b, o, none⟩) HL0.out).trans H0.out
    have k1 := (HB.out.cell (p := ⟨b, o + 1, none⟩) HL0.out).trans H1.out
    have f0 := (HB.out.frozen (p := ⟨b, o, none⟩) HL0.out).trans F0.out
    have f1 := (HB.out.frozen (p := ⟨b, o + 1, none⟩) HL0.out).trans F1.out
    have k2 : (w1.setCell ⟨b, o + 1, none⟩ (.slice a' l' c')).cell? ⟨b, o, none⟩ = some (.bool s0) := by
      rw [World.cell?_setCell_other]
      · exact k0
      · intro h; injection h with _ h _; omega
    go_wp2_with fail
    refine hK.out _ _ trivial (fun _ => ?_)
    clear hK K
    refine wpAnyH_take (i := 11) (v := ?_) rfl (by kernel_rfl) (by kernel_rfl) (by kernel_rfl) (fun _ _ _ h => h) (Or.inl ⟨by rfl, ?_⟩) (by assumption) ?_
    rotate_left
    · intro w hSw
      try dsimp only at hSw
      go_simp
      try with_reducible rfl
    try simp only [Act.put]
    refine wpAnyH_take (i := 12) (v := ?_) rfl (by kernel_rfl) (by kernel_rfl) (by kernel_rfl) (fun _ _ _ h => h) (Or.inl ⟨by rfl, ?_⟩) (by assumption) ?_
    rotate_left
    · intro w hSw
      try dsimp only at hSw
      go_simp
      try with_reducible rfl
    try simp only [Act.put]
    refine wpAnyH_ready (rs := [13]) (by kernel_rfl) (by simp) ?_
    refine AllReadyH.cons rfl (fun K hK => ?_) AllReadyH.nil
    go_simp
    refine hK.out _ _ trivial (fun _ => ?_)
    clear hK K
    refine wpAnyH_done (by kernel_rfl) ?_ _
    go_wp2_with fail
    go_ret
    exact ⟨rfl, _, w1, HB.out, HV.out, rfl⟩
end Go.Proofs.YtgdgklhfakplhaaGreatDoor
namespace Go.Proofs.YtgdgklhfakplhaaGreatDoor
open Go.RowKit Go.Dig
set_option maxRecDepth 100000
/-- The world behind Int.Set onto a new number. -/
theorem put_blk {w w1 : World} {b : Nat} {v : Value} {s s0 : Bool} (hz : Blk w b #[.bool s0, .slice none 0 0] 124) (hb : Below w.heap.size w w1) : Blk ((w1.setCell ⟨b, 0 + 1, none⟩ v).setCell ⟨b, 0, none⟩ (.bool s)) b #[.bool s, v] 124 := by
  have h1 := hz.below hb hz.lt
  have := (h1.set 1 v).set 0 (.bool s)
  simpa using this
theorem put_nw {w w1 : World} {b : Nat} {v v2 : Value} {s s0 : Bool} {n : Nat} (hz : Blk w b #[.bool s0, .slice none 0 0] 124) (hb : Below w.heap.size w w1) (hv : Nw w1 v2 n) : Nw ((w1.setCell ⟨b, 0 + 1, none⟩ v).setCell ⟨b, 0, none⟩ (.bool s)) v2 n := by
  have h1 := hz.below hb hz.lt
  exact (hv.set (p := ⟨b, 0 + 1, none⟩) v h1.shape (by decide)).set (p := ⟨b, 0, none⟩) (.bool s) (by rw [shape_setCell]; exact h1.shape) (by decide)
/-- Only the block b of a big number's two cells is turned, and what is new. -/
structure Fr1 (w w' : World) (b : Nat) : Prop where
  below : Below b w w'
  kept : ∀ b' c e, Blk w b' c e → b' ≠ b → Blk w' b' c e
  nw : ∀ v n, Nw w v n → Nw w' v n
  wd : ∀ B v n, Wd w B v n → Wd w' B v n
  size : w.heap.size ≤ w'.heap.size
theorem Fr1.refl (w : World) (b : Nat) : Fr1 w w b := ⟨Below.refl _ _, fun _ _ _ h _ => h, fun _ _ h => h, fun _ _ _ h => h, Nat.le_refl _⟩
theorem Fr1.trans {w w1 w2 : World} {b : Nat} (h : Fr1 w w1 b) (h2 : Fr1 w1 w2 b) : Fr1 w w2 b :=
  ⟨h.below.trans h2.below, fun b' c e hb hn => h2.kept b' c e (h.kept b' c e hb hn) hn, fun v n hv => h2.nw v n (h.nw v n hv), fun B v n hv => h2.wd B v n (h.wd B v n hv), Nat.le_trans h.size h2.size⟩
theorem Fr1.of_below {w w1 : World} {b : Nat} (hb : b ≤ w.heap.size) (h : Below w.heap.size w w1) : Fr1 w w1 b :=
  ⟨h.mono hb, fun b' c e hk _ => hk.below h hk.lt, fun v n hv => hv.below h (Nat.le_refl _), fun B v n hv => by
    rcases hv with hv | ⟨h0, g, hg, e, hv⟩
    · exact .inl hv
    · exact .inr ⟨h0, g, hg, e, hv.below h hv.lt⟩, h.size⟩
theorem Fr1.set {w : World} {b i : Nat} {c : Array Value} (hb : Blk w b c 124) (x : Value) : Fr1 w (w.setCell ⟨b, i, none⟩ x) b :=
  ⟨Below.setCell (p := ⟨b, i, none⟩) (Below.refl b w) (Nat.le_refl b) x, fun b' c' e hk hn => hk.far1 hn x, fun v n hv => hv.set (p := ⟨b, i, none⟩) x hb.shape (by decide), fun B v n hv => by
    rcases hv with hv | ⟨h0, g, hg, e, hv⟩
    · exact .inl hv
    · refine .inr ⟨h0, g, hg, e, hv.far1 (fun h => ?_) x⟩
      subst h
      have h1 := hv.shape
      rw [hb.shape] at h1
      exact absurd (congrArg (fun y => (y.getD (0, 0)).1) h1) (by show ¬ (124 : Nat) = 181; decide), by simp⟩
set_option maxHeartbeats 400000 in
/-- Int.Abs onto a new number. -/
theorem intAbs_new (b bx ox n : Nat) (s : Bool) (vx : Value) (cx : Array Value) (tx : TypeId) (w : World) (hz : Blk w b #[.bool false, .slice none 0 0] 124) (hx : Blk w bx cx tx) (hx0 : cx[ox]? = some (.bool s)) (hx1 : cx[ox + 1]? = some vx) (hn : Nw w vx n) (hl : (dg 18446744073709551616 n).length ≤ 900) (hne : b ≠ bx) :
    Calls Tryz.prog 159 #[.pointer (some ⟨b, 0, none⟩), .pointer (some ⟨bx, ox, none⟩)] w fun e w' => e = .returned (.pointer (some ⟨b, 0, none⟩)) ∧ (∃ v, Blk w' b #[.bool false, v] 124 ∧ Nw w' v n ∧ (n < 18446744073709551616 → Wd w' w.heap.size v n)) ∧ Fr1 w w' b := by
  have HS := intSet_new b 0 bx ox n false s vx _ cx 124 tx w hz rfl rfl hx hx0 hx1 hn hl hne
  have HZ := hid hz
  clear hz hx hx0 hx1 hn hl hne
  go_enter Tryz.func159, Tryz.ntmps159
  go_wp2_with fail
  refine HS.mono ?_
  rintro e w2 ⟨rfl, v, w1, hb, hv, hd, hw2⟩
  have F0 := Fr1.of_below (Nat.le_of_lt HZ.out.lt) hb
  have F1 := Fr1.set (i := 0 + 1) (HZ.out.below hb HZ.out.lt) v
  have F2 := Fr1.set (i := 0) (Blk.set (HZ.out.below hb HZ.out.lt) (0 + 1) v) (.bool s)
  have HB2 := hid (put_blk (v := v) (s := s) HZ.out hb)
  have HN2 := hid ((F1.trans F2).nw _ _ hv)
  have HD2 := hid (fun h => (F1.trans F2).wd _ _ _ (hd h))
  have HF := hid (F0.trans (F1.trans F2))
  rw [← hw2] at HB2 HN2 HD2 HF
  clear hw2 hb hv HS F0 F1 F2
  obtain ⟨c0, c1, f0, f1⟩ := two_cells HB2.out
  go_wp2_with fail
  go_ret
  have h3 := HB2.out.set 0 (.bool false)
  have F3 := Fr1.set (i := 0) HB2.out (.bool false)
  exact ⟨rfl, ⟨v, by simpa using h3, F3.nw _ _ HN2.out, fun h => F3.wd _ _ _ (HD2.out h)⟩, HF.out.trans F3⟩
set_option maxHeartbeats 400000 in
theorem euclid_word (bq bA bB br n y : Nat) (vA vB : Value) (w : World) (hq : Blk w bq #[.bool false, .slice none 0 0] 124) (hr : Blk w br #[.bool false, .slice none 0 0] 124) (hA : Blk w bA #[.bool false, vA] 124) (hB : Blk w bB #[.bool false, vB] 124) (hnA : Nw w vA n) (hnB : Nw w vB y)
    (hne : br ≠ bq ∧ bA ≠ bq ∧ bB ≠ bq ∧ bA ≠ br ∧ bB ≠ br) (hl : 1 < (dg 18446744073709551616 n).length) (hl2 : (dg 18446744073709551616 n).length ≤ 900) (hy0 : 0 < y) (hy : y < 18446744073709551616) :
    Calls Tryz.prog 162 #[.pointer (some ⟨bA, 0, none⟩), .pointer (some ⟨bB, 0, none⟩), .pointer none, .pointer none, .pointer (some ⟨bq, 0, none⟩), .pointer (some ⟨br, 0, none⟩), .bool false] w fun e w' => e = .returned (.tuple #[.pointer (some ⟨bB, 0, none⟩), .pointer (some ⟨br, 0, none⟩), .pointer (some ⟨bA, 0, none⟩), .pointer none, .pointer none]) ∧ Blk w' bB #[.bool false, vB] 124 ∧ Nw w' vB y ∧ (∃ v2, Blk w' br #[.bool false, v2] 124 ∧ Nw w' v2 (n % y)) ∧ (∀ K, K ≤ bq → K ≤ br → Below K w w') ∧ ∀ b c e, Blk w b c e → b ≠ bq → b ≠ br → Blk w' b c e := by
  have H := quoRem_word bq bA bB br n y vA vB w hq hr hA hB hnA hnB hne hl hl2 hy0 hy
  clear hq hr hA hB hnA hnB hne hl hl2 hy0 hy
  go_enter Tryz.func162, Tryz.ntmps162
  go_wp2_with fail
  refine H.mono ?_
  rintro e w2 ⟨rfl, h1, h2, h3, h4⟩
  have HX := hid (And.intro h1 (And.intro h2 (And.intro h3 h4)))
  clear h1 h2 h3 h4 H
  go_wp2_with fail
  exact bodyPost_ret (v := .tuple #[.pointer (some ⟨bB, 0, none⟩), .pointer (some ⟨br, 0, none⟩), .pointer (some ⟨bA, 0, none⟩), .pointer none, .pointer none]) (by simp [results, Tryz.results162, go_sem]) rfl ⟨rfl, HX.out⟩
set_option maxHeartbeats 400000 in
theorem newInt0 (w : World) : Calls Tryz.prog 135 #[.int .i64 0] w fun e w' => e = .returned (.pointer (some ⟨w.heap.size, 0, none⟩)) ∧ w' = w.alloc (.cells #[.bool false, .slice none 0 0] 124) := by
  go_enter Tryz.func135, Tryz.ntmps135
  go_wp2_with fail
  go_ret
  exact ⟨rfl, rfl⟩
set_option maxHeartbeats 400000 in
theorem natOne_any (w : World) : Calls Tryz.prog 68 #[] w fun e w' => e = .returned (.slice (some ⟨w.heap.size, 0, none⟩) 1 1) ∧ w' = w.alloc (.cells #[.int .u64 1] 181) := by
  go_enter Tryz.func68, Tryz.ntmps68
  go_wp2_with fail
  go_ret
  exact ⟨rfl, rfl⟩
set_option maxHeartbeats 400000 in
theorem intOne_any (w : World) : Calls Tryz.prog 94 #[] w fun e w' => ∃ b, e = .returned (.pointer (some ⟨b, 0, none⟩)) ∧ Hid (w.heap.size ≤ b) ∧ (∃ v, Blk w' b #[.bool false, v] 124 ∧ Nw w' v 1) ∧ Below w.heap.size w w' := by
  go_enter Tryz.func94, Tryz.ntmps94
  go_wp2_with (go_at_call 68; refine (natOne_any _).mono ?_; rintro e w' ⟨rfl, rfl⟩)
  have hB : BlkN .u64 181 (w.alloc (.cells #[.int .u64 1] 181)) w.heap.size [1] := blk_new w _ 181
  have hB2 : BlkN .u64 181 ((w.alloc (.cells #[.int .u64 1] 181)).alloc (.cells #[.bool false, .slice (some ⟨w.heap.size, 0, none⟩) 1 1] 124)) w.heap.size [1] := hB.alloc _
  have hr := BlkN.rt hB2 (cap := 1) (by simp) (by omega)
  have hI : Blk ((w.alloc (.cells #[.int .u64 1] 181)).alloc (.cells #[.bool false, .slice (some ⟨w.heap.size, 0, none⟩) 1 1] 124)) (w.heap.size + 1) #[.bool false, .slice (some ⟨w.heap.size, 0, none⟩) 1 1] 124 := by
    have := blk_new (w.alloc (.cells #[.int .u64 1] 181)) #[.bool false, .slice (some ⟨w.heap.size, 0, none⟩) 1 1] 124
    simpa using this
  refine bodyPost_ret (v := .pointer (some ⟨w.heap.size + 1, 0, none⟩)) (by simp [results, Tryz.results94, go_sem]) rfl ⟨_, rfl, hid (by omega), ⟨_, hI, ?_⟩, ((Below.refl _ _).alloc (Nat.le_refl _) _).alloc (by simp) _⟩
  rw [Nw, dg_one (by omega) (by omega)]
  exact hr
end Go.Proofs.YtgdgklhfakplhaaGreatDoor
namespace Go.Proofs.YtgdgklhfakplhaaGreatDoor
open Go.RowKit Go.Dig
set_option maxRecDepth 100000
set_option maxHeartbeats 400000 in
theorem natMake_cap (g : Nat) (w : World) : Calls Tryz.prog 106 #[.slice (some ⟨g, 0, none⟩) 1 1, .int .i64 1] w fun e w' => e = .returned (.slice (some ⟨g, 0, none⟩) 1 1) ∧ w' = w := by
  go_enter Tryz.func106, Tryz.ntmps106
  go_wp2_with fail
  go_ret
  exact ⟨rfl, rfl⟩
set_option maxHeartbeats 400000 in
theorem setWord_cap (g : Nat) (w : World) (hB : BlkN .u64 181 w g [1]) : Calls Tryz.prog 121 #[.slice (some ⟨g, 0, none⟩) 1 1, .int .u64 1] w fun e w' => e = .returned (.slice (some ⟨g, 0, none⟩) 1 1) ∧ w' = w.setCell ⟨g, 0, none⟩ (.int .u64 1) := by
  have hc := hB.at (i := 0) (by simp)
  have hf := Blk.frozen hB 0
  clear hB
  go_enter Tryz.func121, Tryz.ntmps121
  go_wp2_with fail
  refine (natMake_cap g w).mono ?_
  rintro e w' ⟨rfl, rfl⟩
  go_wp2_with fail
  go_ret
  exact ⟨rfl, rfl⟩
set_option maxHeartbeats 1000000 in
/-- Rat.norm of 0. -/
theorem norm_zero (bx g : Nat) (s : Bool) (w : World) (hx : Blk w bx #[.bool s, .slice none 0 0, .bool false, .slice (some ⟨g, 0, none⟩) 1 1] 133) (hB : BlkN .u64 181 w g [1]) (hg : bx < g) :
    Calls Tryz.prog 96 #[.pointer (some ⟨bx, 0, none⟩)] w fun e w' => e = .returned (.pointer (some ⟨bx, 0, none⟩)) ∧ Blk w' bx #[.bool false, .slice none 0 0, .bool false, .slice (some ⟨g, 0, none⟩) 1 1] 133 ∧ BlkN .u64 181 w' g [1] ∧ Below bx w w' := by
  have HX := hid hx
  have HB := hid hB
  have x0 := hx.cell 0
  have x1 := hx.cell 1
  have x3 := hx.cell 3
  have f0 := hx.frozen 0
  simp only [List.getElem?_toArray, List.getElem?_cons_zero, List.getElem?_cons_succ] at x0 x1 x3
  have k3 : (w.setCell ⟨bx, 0, none⟩ (.bool false)).cell? ⟨bx, 3, none⟩ = some (.slice (some ⟨g, 0, none⟩) 1 1) := (hx.set 0 (.bool false)).cell 3
  clear hx hB
  go_enter_defers Tryz.func96, Tryz.ntmps96
  go_wp2_with fail
  have HX1 : Hid (Blk (w.setCell ⟨bx, 0, none⟩ (.bool false)) bx #[.bool false, .slice none 0 0, .bool false, .slice (some ⟨g, 0, none⟩) 1 1] 133) := by
    have := HX.out.set 0 (.bool false)
    refine hid ?_
    simpa using this
  have HB1 := hid (HB.out.far1 (i := 0) (show g ≠ bx by omega) (.bool false))
  have HE1 : Hid (Below bx w (w.setCell ⟨bx, 0, none⟩ (.bool false))) := hid (Below.setCell (p := ⟨bx, 0, none⟩) (Below.refl _ _) (Nat.le_refl _) _)
  clear x0 x1 x3 f0 k3 HX HB
  generalize w.setCell ⟨bx, 0, none⟩ (.bool false) = w1 at *
  refine (setWord_cap g w1 HB1.out).mono ?_
  rintro e w2 ⟨rfl, hw2⟩
  have HB2 : Hid (BlkN .u64 181 w2 g [1]) := hid (by rw [hw2]; exact BlkN.put HB1.out 0 1)
  have HX2 := hid (show Blk w2 bx _ 133 by rw [hw2]; exact HX1.out.far1 (show bx ≠ g by omega) _)
  have HE2 : Hid (Below bx w w2) := hid (by rw [hw2]; exact Below.setCell (p := ⟨g, 0, none⟩) HE1.out (Nat.le_of_lt hg) _)
  clear hw2 HB1 HX1 HE1
  have y3 := HX2.out.cell 3
  have g3 := HX2.out.frozen 3
  simp only [List.getElem?_toArray, List.getElem?_cons_zero, List.getElem?_cons_succ] at y3
  go_wp2_with fail
  have HX3 : Blk (w2.setCell ⟨bx, 3, none⟩ (.slice (some ⟨g, 0, none⟩) 1 1)) bx #[.bool false, .slice none 0 0, .bool false, .slice (some ⟨g, 0, none⟩) 1 1] 133 := by
    have := HX2.out.set 3 (.slice (some ⟨g, 0, none⟩) 1 1)
    simpa using this
  exact ⟨_, results_tmp rfl _ _ _, rfl, HX3, HB2.out.far1 (show g ≠ bx by omega) _, Below.setCell (p := ⟨bx, 3, none⟩) HE2.out (Nat.le_refl _) _⟩
end Go.Proofs.YtgdgklhfakplhaaGreatDoor
namespace Go.Proofs.YtgdgklhfakplhaaGreatDoor
open Go.RowKit Go.Dig
set_option maxRecDepth 100000
theorem eql_ptr_same {P : Program} (w : World) {tp te : TypeId} {j : TypeInfo} (a : Addr) (hp : P.underlying tp = some (.pointer te)) (hte : P.info? te = some j) :
    (binOp .eql tp (.pointer (some a)) (.pointer (some a))).run P w = .ok (.bool true) w := by
  have h : ∀ d : Nat, (Op.equalIn (d + 1) tp (.pointer (some a)) (.pointer (some a))).run P w = .ok true w := fun d => by
    simp [Op.equalIn, run_underlying hp, sizeOf, typeInfo, hte, run_sameAddr_same]
  simp only [binOp]
  simp [Op.equal, Op.maxDepth, h 9999]
set_option maxHeartbeats 400000 in
theorem same_word (g : Nat) (w : World) : Calls Tryz.prog 144 #[.slice (some ⟨g, 0, none⟩) 1 1, .slice (some ⟨g, 0, none⟩) 1 1] w fun e w' => e = .returned (.bool true) ∧ ∃ k, w' = w.drewN k := by
  obtain ⟨j, hj⟩ : ∃ j, Tryz.prog.info? 181 = some j := by
    obtain ⟨i, hi, _⟩ := Option.map_eq_some_iff.1 info158
    exact ⟨i, hi⟩
  have he := fun W => eql_ptr_same (P := Tryz.prog) W (tp := 232) (te := 181) ⟨g, 0, none⟩ Tryz.underlying232 hj
  clear hj
  go_enter Tryz.func144, Tryz.ntmps144
  go_wp2_with fail
  go_quiet (fail)
  go_wp2_with fail
  go_ret
  exact ⟨rfl, _, rfl⟩
set_option maxHeartbeats 400000 in
theorem same_nil (w : World) : Calls Tryz.prog 144 #[.slice none 0 0, .slice none 0 0] w fun e w' => e = .returned (.bool false) ∧ ∃ k, w' = w.drewN k := by
  go_enter Tryz.func144, Tryz.ntmps144
  go_wp2_with fail
  go_quiet (fail)
  go_wp2_with fail
  go_ret
  exact ⟨rfl, _, rfl⟩
set_option maxHeartbeats 400000 in
theorem alias_nil (w : World) : Calls Tryz.prog 145 #[.slice none 0 0, .slice none 0 0] w fun e w' => e = .returned (.bool false) ∧ ∃ k, w' = w.drewN k := by
  go_enter Tryz.func145, Tryz.ntmps145
  go_wp2_with fail
  go_quiet (fail)
  go_wp2_with fail
  go_ret
  exact ⟨rfl, _, rfl⟩
set_option maxHeartbeats 400000 in
/-- Shifted by nothing: itself. -/
theorem lsh_zero (B m : Nat) (v : Value) (w : World) (hv : Wd w B v m) : Calls Tryz.prog 110 #[v, v, .int .u64 0] w fun e w' => ∃ v', e = .returned v' ∧ (v' = v ∧ Wd w' B v m) ∧ Below w.heap.size w w' := by
  rcases hv with ⟨rfl, rfl⟩ | ⟨h0, g, hg, rfl, hB⟩
  · go_enter Tryz.func110, Tryz.ntmps110
    go_wp2_with fail
    refine (same_nil w).mono ?_
    rintro e w1 ⟨rfl, k, rfl⟩
    go_wp2_with fail
    refine (alias_nil _).mono ?_
    rintro e w1 ⟨rfl, k2, rfl⟩
    go_wp2_with fail
    refine (nset_any (.slice none 0 0) 0 _ (by rw [Nw, dg_zero]; exact Rt.nil _ _ _) (by rw [dg_zero]; simp)).mono ?_
    rintro e w2 ⟨v, rfl, _, hd, hb⟩
    obtain rfl : v = .slice none 0 0 := by
      rcases hd (by omega) with ⟨_, h⟩ | ⟨h, _⟩
      · exact h
      · exact absurd rfl h
    have HB : Hid (Below w.heap.size w w2) := hid ((below_drewN' (k + k2)).trans hb)
    clear hd hb
    go_wp2_with fail
    go_ret
    exact ⟨_, rfl, ⟨rfl, .inl ⟨rfl, rfl⟩⟩, HB.out⟩
  · have HB := hid hB
    clear hB
    go_enter Tryz.func110, Tryz.ntmps110
    go_wp2_with fail
    refine (same_word g w).mono ?_
    rintro e w1 ⟨rfl, k, rfl⟩
    go_wp2_with fail
    go_ret
    exact ⟨_, rfl, ⟨rfl, .inr ⟨h0, g, hg, rfl, HB.out⟩⟩, below_drewN' k⟩
end Go.Proofs.YtgdgklhfakplhaaGreatDoor
