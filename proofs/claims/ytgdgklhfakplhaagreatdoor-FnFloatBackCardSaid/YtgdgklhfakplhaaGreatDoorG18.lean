/- Walks and lemmas for the laws of this seat. -/
import Derived.Test.YtgdgklhfakplhaaGreatDoorG17
namespace Go.Proofs.YtgdgklhfakplhaaGreatDoor
open Go.RowKit Go.Dig
set_option maxRecDepth 100000
theorem Fx.setNew {b o k : Nat} {w w1 : World} (h : Fx b o k w w1) {p : Addr} (hb : b ≠ p.block) (hp : w.heap.size ≤ p.block) (v : Value) : Fx b o k w (w1.setCell p v) := by
  refine ⟨h.os, h.tape, h.output, Nat.le_trans h.size (by simp [World.setCell]), fun c hc h2 => (Below.heap_setCell _ _ _ _ (by omega)).trans (h.block c hc h2), fun cur e hc => ?_⟩
  obtain ⟨c1, b1, s1, e1⟩ := h.own cur e hc
  exact ⟨c1, (Below.heap_setCell _ _ _ _ hb).trans b1, s1, e1⟩
theorem Blk.setOther {w : World} {b : Nat} {c : Array Value} {e : TypeId} (h : Blk w b c e) {p : Addr} (hb : b ≠ p.block) (v : Value) : Blk (w.setCell p v) b c e := (Below.heap_setCell _ _ _ _ hb).trans h
theorem round4 : ∀ n : Nat, n < 64 → bits .andNot .i64 ((n : Int) + 3) 3 = ((4 * ((n + 3) / 4) : Nat) : Int) := by
  decide
set_option maxHeartbeats 1000000 in
theorem siNat_nil (si n : Nat) (hn : 0 < n) (hn1 : n < 60) (w : World) (hb : Blk w si #[.slice none 0 0] 207) :
    Calls Tryz.prog 203 #[.pointer (some ⟨si, 0, none⟩), .int .i64 n] w fun e w' => ∃ cap L, e = .returned (.slice (some ⟨w.heap.size, 0, none⟩) n n) ∧ Ds w' w.heap.size 0 L ∧ L.length = cap ∧ 4 * ((n + 3) / 4) ≤ cap ∧ cap ≤ 9223372036854775807 ∧ Blk w' si #[.slice (some ⟨w.heap.size, 0, none⟩) (4 * ((n + 3) / 4)) cap] 207 ∧ Fx si 0 1 w w' := by
  have hr := round4 n (by omega)
  obtain ⟨nr, hnr⟩ : ∃ nr, 4 * ((n + 3) / 4) = nr := ⟨_, rfl⟩
  rw [hnr] at hr ⊢
  have hle : n ≤ nr ∧ nr ≤ n + 3 := by omega
  have hc0 := hb.cell 0
  simp only [List.getElem?_toArray, List.getElem?_cons_zero] at hc0
  have hf0 := hb.frozen 0
  have HG := growW_nil nr (by omega) (by omega) w
  clear hnr
  go_enter Tryz.func203, Tryz.ntmps203
  go_wp2_with fail
  refine HG.mono ?_
  rintro e w1 ⟨cap, rfl, h1, h2, h3, h4⟩
  have hb1 : Blk w1 si #[.slice none 0 0] 207 := hb.below h4 hb.lt
  have hne : si ≠ w.heap.size := by have := hb.lt; omega
  have hc1 := hb1.cell 0
  simp only [List.getElem?_toArray, List.getElem?_cons_zero] at hc1
  have hf1 := hb1.frozen 0
  have hb2 := hb1.set 0 (.slice (some ⟨w.heap.size, 0, none⟩) 0 cap)
  have hb3 := hb2.set 0 (.slice (some ⟨w.heap.size, 0, none⟩) nr cap)
  simp only [List.setIfInBounds_toArray, List.set_cons_zero] at hb2 hb3
  have hc2 := hb2.cell 0
  have hf2 := hb2.frozen 0
  have hc3 := hb3.cell 0
  simp only [List.getElem?_toArray, List.getElem?_cons_zero] at hc2 hc3
  have F2 : Fx si 0 1 w1 ((w1.setCell ⟨si, 0, none⟩ (.slice (some ⟨w.heap.size, 0, none⟩) 0 cap)).setCell ⟨si, 0, none⟩ (.slice (some ⟨w.heap.size, 0, none⟩) nr cap)) := ((Fx.refl si 0 1 w1).setCell (Nat.le_refl _) (by omega) _).setCell (Nat.le_refl _) (by omega) _
  have hG := h3.fx F2 (.inl (Ne.symm hne))
  have hcG := hG.cell (i := 0) (by simp; omega)
  have hfG := hG.frozen 0
  rw [Nat.add_zero] at hcG
  have hG4 := hG.put (i := 0) (by simp; omega) 1043915
  rw [Nat.add_zero] at hG4
  have hb4 := hb3.setOther (p := ⟨w.heap.size, 0, none⟩) hne (.int .u64 ((1043915 : Nat) : Int))
  have F4 := (((Fx.of_below (b := si) (o := 0) (k := 1) h4).trans F2).setNew (p := ⟨w.heap.size, 0, none⟩) hne (Nat.le_refl _) (.int .u64 ((1043915 : Nat) : Int)))
  clear HG hb hc0 hf0
  focus go_wp2_with fail
  go_ret
  exact ⟨cap, _, rfl, hG4, by simp, h1, h2, hb4, F4⟩
set_option maxHeartbeats 1000000 in
theorem siNat_own (si n g len cap : Nat) (l : List Nat) (hn : 0 < n) (hn1 : n < 60) (w : World) (hb : Blk w si #[.slice (some ⟨g, 0, none⟩) len cap] 207) (hg : Ds w g 0 l) (hl : l.length = cap) (hlc : len ≤ cap) (hcm : cap ≤ 9223372036854775807) (hlen : len < 100) :
    Calls Tryz.prog 203 #[.pointer (some ⟨si, 0, none⟩), .int .i64 n] w fun e w' => ∃ g' cap' L, e = .returned (.slice (some ⟨g', len, none⟩) n n) ∧ Ds w' g' 0 L ∧ L.length = cap' ∧ len + 4 * ((n + 3) / 4) ≤ cap' ∧ cap' ≤ 9223372036854775807 ∧ (g' = g ∨ g' = w.heap.size) ∧ Blk w' si #[.slice (some ⟨g', 0, none⟩) (len + 4 * ((n + 3) / 4)) cap'] 207 ∧ (∀ b o m, Ds w b o m → (b ≠ g ∨ o + m.length ≤ len) → Ds w' b o m) ∧ (∀ c, c ≠ si → c ≠ g → c < w.heap.size → w'.heap[c]? = w.heap[c]?) ∧ (∀ B, B ≤ si → B ≤ g → Below B w w') := by
  have hr := round4 n (by omega)
  obtain ⟨nr, hnr⟩ : ∃ nr, 4 * ((n + 3) / 4) = nr := ⟨_, rfl⟩
  rw [hnr] at hr ⊢
  have hle : n ≤ nr ∧ nr ≤ n + 3 := by omega
  have hsg : si ≠ g := by
    intro h; subst h
    obtain ⟨cur, hg, _⟩ := hg
    have e := hb.symm.trans hg
    simp at e
  have hc0 := hb.cell 0
  simp only [List.getElem?_toArray, List.getElem?_cons_zero] at hc0
  have hf0 := hb.frozen 0
  have HG : Calls Tryz.prog 225 #[.slice (some ⟨g, 0, none⟩) len cap, .int .i64 nr] w fun e w' => ∃ g' cap' L, e = .returned (.slice (some ⟨g', 0, none⟩) len cap') ∧ Ds w' g' 0 L ∧ L.length = cap' ∧ len + nr ≤ cap' ∧ cap' ≤ 9223372036854775807 ∧ (g' = g ∨ g' = w.heap.size) ∧ Below w.heap.size w w' := by
    rcases Nat.lt_or_ge cap (len + nr) with h | h
    · refine (growW_more g nr len cap l w hg hl hlc h (by omega)).mono ?_
      rintro e w' ⟨cap2, rfl, h1, h2, h3, h4⟩
      exact ⟨_, cap2, _, rfl, h3, by rw [List.length_append, hl, List.length_replicate]; omega, h1, h2, .inr rfl, h4⟩
    · refine (growW_room g nr len cap h hcm (by omega) w).mono ?_
      rintro e w' ⟨rfl, rfl⟩
      exact ⟨g, cap, l, rfl, hg, hl, h, hcm, .inl rfl, Below.refl _ _⟩
  have HGG := hid hg
  clear hnr hg
  go_enter Tryz.func203, Tryz.ntmps203
  go_wp2_with fail
  refine HG.mono ?_
  rintro e w1 ⟨g', cap', L, rfl, h3, hL, h1, h2, hgg, h4⟩
  have hb1 : Blk w1 si #[.slice (some ⟨g, 0, none⟩) len cap] 207 := hb.below h4 hb.lt
  have hgl := HGG.out.lt
  have hne : si ≠ g' := by have := hb.lt; omega
  have hc1 := hb1.cell 0
  simp only [List.getElem?_toArray, List.getElem?_cons_zero] at hc1
  have hf1 := hb1.frozen 0
  have hb2 := hb1.set 0 (.slice (some ⟨g', 0, none⟩) len cap')
  have hb3 := hb2.set 0 (.slice (some ⟨g', 0, none⟩) (len + nr) cap')
  simp only [List.setIfInBounds_toArray, List.set_cons_zero] at hb2 hb3
  have hc2 := hb2.cell 0
  have hf2 := hb2.frozen 0
  have hc3 := hb3.cell 0
  simp only [List.getElem?_toArray, List.getElem?_cons_zero] at hc2 hc3
  have F2 : Fx si 0 1 w1 ((w1.setCell ⟨si, 0, none⟩ (.slice (some ⟨g', 0, none⟩) len cap')).setCell ⟨si, 0, none⟩ (.slice (some ⟨g', 0, none⟩) (len + nr) cap')) := ((Fx.refl si 0 1 w1).setCell (Nat.le_refl _) (by omega) _).setCell (Nat.le_refl _) (by omega) _
  have hG := h3.fx F2 (.inl (Ne.symm hne))
  have hcG := hG.cell (i := len) (by omega)
  have hfG := hG.frozen len
  rw [Nat.zero_add] at hcG
  have hG4 := hG.put (i := len) (by omega) 1043915
  rw [Nat.zero_add] at hG4
  have hb4 := hb3.setOther (p := ⟨g', len, none⟩) hne (.int .u64 ((1043915 : Nat) : Int))
  have F4 := (Fx.refl g' len 1 ((w1.setCell ⟨si, 0, none⟩ (.slice (some ⟨g', 0, none⟩) len cap')).setCell ⟨si, 0, none⟩ (.slice (some ⟨g', 0, none⟩) (len + nr) cap'))).setCell (i := len) (Nat.le_refl _) (by omega) (.int .u64 ((1043915 : Nat) : Int))
  have HK : Hid (∀ b o m, Ds w b o m → (b ≠ g ∨ o + m.length ≤ len) → Ds (((w1.setCell ⟨si, 0, none⟩ (.slice (some ⟨g', 0, none⟩) len cap')).setCell ⟨si, 0, none⟩ (.slice (some ⟨g', 0, none⟩) (len + nr) cap')).setCell ⟨g', len, none⟩ (.int .u64 ((1043915 : Nat) : Int))) b o m) := by
    refine hid (fun b o m hd ho => ?_)
    have hsb : b ≠ si := by
      intro h; subst h
      obtain ⟨cur, hg, _⟩ := hd
      have e := hb.symm.trans hg
      simp at e
    have hbl := hd.lt
    exact ((hd.below h4 hbl).fx F2 (.inl hsb)).fx F4 (by omega)
  have HH : Hid (∀ c, c ≠ si → c ≠ g → c < w.heap.size → (((w1.setCell ⟨si, 0, none⟩ (.slice (some ⟨g', 0, none⟩) len cap')).setCell ⟨si, 0, none⟩ (.slice (some ⟨g', 0, none⟩) (len + nr) cap')).setCell ⟨g', len, none⟩ (.int .u64 ((1043915 : Nat) : Int))).heap[c]? = w.heap[c]?) := by
    refine hid (fun c h5 h6 h7 => ?_)
    rw [F4.block c (by omega) (by have := h4.size; have := F2.size; omega), F2.block c h5 (by have := h4.size; omega)]
    exact h4.block c h7
  have HB : Hid (∀ B, B ≤ si → B ≤ g → Below B w (((w1.setCell ⟨si, 0, none⟩ (.slice (some ⟨g', 0, none⟩) len cap')).setCell ⟨si, 0, none⟩ (.slice (some ⟨g', 0, none⟩) (len + nr) cap')).setCell ⟨g', len, none⟩ (.int .u64 ((1043915 : Nat) : Int)))) := by
    refine hid (fun B h5 h6 => ?_)
    exact (((h4.mono (by omega)).setCell (p := ⟨si, 0, none⟩) h5 _).setCell (p := ⟨si, 0, none⟩) h5 _).setCell (p := ⟨g', len, none⟩) (show B ≤ g' by omega) _
  clear HG hb hc0 hf0
  focus go_wp2_with fail
  rw [Nat.add_sub_cancel_left]
  go_ret
  exact ⟨g', cap', _, rfl, hG4, by rw [List.length_set]; exact hL, h1, h2, hgg, hb4, HK.out, HH.out, HB.out⟩
end Go.Proofs.YtgdgklhfakplhaaGreatDoor
namespace Go.Proofs.YtgdgklhfakplhaaGreatDoor
open Go.RowKit Go.Dig
set_option maxRecDepth 100000
set_option maxHeartbeats 1000000 in
theorem stkNat_small (sp n : Nat) (hn : 0 < n) (hn1 : n ≤ 4) (w : World) (hb : Blk w sp #[.pointer none] 186) :
    Calls Tryz.prog 175 #[.pointer (some ⟨sp, 0, none⟩), .int .i64 n] w fun e w' => ∃ cap L, e = .returned (.slice (some ⟨w.heap.size, 0, none⟩) n cap) ∧ Ds w' w.heap.size 0 L ∧ L.length = cap ∧ n ≤ cap ∧ cap ≤ 9223372036854775807 ∧ Below w.heap.size w w' := by
  have hc0 := hb.cell 0
  simp only [List.getElem?_toArray, List.getElem?_cons_zero] at hc0
  have HG := grow_nil n hn (by omega) w
  go_enter Tryz.func175, Tryz.ntmps175
  go_wp2_with fail
  refine HG.mono ?_
  rintro e w1 ⟨cap, rfl, h1, h2, h3, h4⟩
  have hcG := h3.cell (i := 0) (by simp; omega)
  have hfG := h3.frozen 0
  rw [Nat.add_zero] at hcG
  have hG4 := h3.put (i := 0) (by simp; omega) 11259375
  rw [Nat.add_zero] at hG4
  have hB := h4.setCell (p := ⟨w.heap.size, 0, none⟩) (Nat.le_refl _) (.int .u64 ((11259375 : Nat) : Int))
  clear HG hb hc0
  focus go_wp2_with fail
  go_ret
  exact ⟨cap, _, rfl, hG4, by simp, h1, h2, hB⟩
set_option maxHeartbeats 1000000 in
theorem stkNat_big (sp n : Nat) (hn : 4 < n) (hn1 : n < 60) (w : World) (hb : Blk w sp #[.pointer none] 186) :
    Calls Tryz.prog 175 #[.pointer (some ⟨sp, 0, none⟩), .int .i64 n] w fun e w' => ∃ si g cap L, e = .returned (.slice (some ⟨g, 0, none⟩) n n) ∧ w.heap.size ≤ si ∧ w.heap.size ≤ g ∧ Ds w' g 0 L ∧ L.length = cap ∧ 4 * ((n + 3) / 4) ≤ cap ∧ cap ≤ 9223372036854775807 ∧ Blk w' sp #[.pointer (some ⟨si, 0, none⟩)] 186 ∧ Blk w' si #[.slice (some ⟨g, 0, none⟩) (4 * ((n + 3) / 4)) cap] 207 ∧ Fx sp 0 1 w w' := by
  have hbl := hb.lt
  have hc0 := hb.cell 0
  simp only [List.getElem?_toArray, List.getElem?_cons_zero] at hc0
  have hf0 := hb.frozen 0
  have ha := hb.alloc (.cells #[.slice none 0 0] 207)
  have hc1 := ha.cell 0
  simp only [List.getElem?_toArray, List.getElem?_cons_zero] at hc1
  have hf1 := ha.frozen 0
  have hb1 := hb.set 0 (.pointer (some ⟨w.heap.size, 0, none⟩))
  simp only [List.setIfInBounds_toArray, List.set_cons_zero] at hb1
  have hsz1 : (w.setCell ⟨sp, 0, none⟩ (.pointer (some ⟨w.heap.size, 0, none⟩))).heap.size = w.heap.size := by simp [World.setCell]
  have hbi2 := blk_new (w.setCell ⟨sp, 0, none⟩ (.pointer (some ⟨w.heap.size, 0, none⟩))) #[.slice none 0 0] 207
  have hb2 := hb1.alloc (.cells #[.slice none 0 0] 207)
  have F1 := (Fx.refl sp 0 1 w).setCell (i := 0) (Nat.le_refl _) (by omega) (.pointer (some ⟨w.heap.size, 0, none⟩))
  have F2 := F1.trans (Fx.of_below ((Below.refl _ _).alloc (Nat.le_refl _) (.cells #[.slice none 0 0] 207)))
  have hsz2 : ((w.setCell ⟨sp, 0, none⟩ (.pointer (some ⟨w.heap.size, 0, none⟩))).alloc (.cells #[.slice none 0 0] 207)).heap.size = w.heap.size + 1 := by rw [← hsz1]; simp
  rw [hsz1] at hbi2
  have HN := siNat_nil w.heap.size n (by omega) hn1 _ hbi2
  have HF1 := hid F2
  have HB2 := hid hb2
  clear F1 F2 hb1 hb2 hbi2 hb ha hsz1
  go_enter Tryz.func175, Tryz.ntmps175
  go_wp2_with fail
  generalize ((w.setCell ⟨sp, 0, none⟩ (.pointer (some ⟨w.heap.size, 0, none⟩))).alloc (.cells #[.slice none 0 0] 207)) = w2 at *
  refine HN.mono ?_
  rintro e w3 ⟨cap, L, rfl, h1, h2, h3, h4, h5, h6⟩
  have HR := hid (And.intro h1 (And.intro h2 (And.intro h3 (And.intro h4 (And.intro h5 h6)))))
  clear HN h1 h2 h3 h4 h5 h6 hc1 hf1
  focus go_wp2_with fail
  go_ret
  obtain ⟨h1, h2, h3, h4, h5, h6⟩ := HR.out
  rw [hsz2] at h1 h5
  refine ⟨w.heap.size, w.heap.size + 1, cap, L, rfl, Nat.le_refl _, by omega, h1, h2, h3, h4, ?_, h5, ?_⟩
  · exact (h6.block sp (by omega) (by omega)).trans HB2.out
  · refine ⟨h6.os.trans HF1.out.os, h6.tape.trans HF1.out.tape, h6.output.trans HF1.out.output, Nat.le_trans HF1.out.size h6.size, fun c hc h7 => (h6.block c (by omega) (by omega)).trans (HF1.out.block c hc h7), fun cur e hc => ?_⟩
    obtain ⟨c1, b1, s1, e1⟩ := HF1.out.own cur e hc
    exact ⟨c1, (h6.block sp (by omega) (by omega)).trans b1, s1, e1⟩
set_option maxHeartbeats 1000000 in
theorem stkNat_own (sp si g len cap n : Nat) (l : List Nat) (hn : 0 < n) (hn1 : n < 60) (w : World) (hs : Blk w sp #[.pointer (some ⟨si, 0, none⟩)] 186) (hb : Blk w si #[.slice (some ⟨g, 0, none⟩) len cap] 207) (hg : Ds w g 0 l) (hl : l.length = cap) (hlc : len ≤ cap) (hcm : cap ≤ 9223372036854775807) (hlen : len < 100) :
    Calls Tryz.prog 175 #[.pointer (some ⟨sp, 0, none⟩), .int .i64 n] w fun e w' => ∃ g' cap' L, e = .returned (.slice (some ⟨g', len, none⟩) n n) ∧ Ds w' g' 0 L ∧ L.length = cap' ∧ len + 4 * ((n + 3) / 4) ≤ cap' ∧ cap' ≤ 9223372036854775807 ∧ (g' = g ∨ g' = w.heap.size) ∧ Blk w' si #[.slice (some ⟨g', 0, none⟩) (len + 4 * ((n + 3) / 4)) cap'] 207 ∧ (∀ b o m, Ds w b o m → (b ≠ g ∨ o + m.length ≤ len) → Ds w' b o m) ∧ (∀ c, c ≠ si → c ≠ g → c < w.heap.size → w'.heap[c]? = w.heap[c]?) ∧ (∀ B, B ≤ si → B ≤ g → Below B w w') := by
  have HN := siNat_own si n g len cap l hn hn1 w hb hg hl hlc hcm hlen
  have hc0 := hs.cell 0
  simp only [List.getElem?_toArray, List.getElem?_cons_zero] at hc0
  clear hs hb hg hl hlc hcm
  go_enter Tryz.func175, Tryz.ntmps175
  go_wp2_with fail
  refine HN.mono ?_
  rintro e w3 ⟨g', cap', L, rfl, HR⟩
  have HR := hid HR
  clear HN
  focus go_wp2_with fail
  go_ret
  exact ⟨g', cap', L, rfl, HR.out⟩
set_option maxHeartbeats 400000 in
theorem stkSave_nil (sp : Nat) (w : World) (hb : Blk w sp #[.pointer none] 186) : Calls Tryz.prog 174 #[.pointer (some ⟨sp, 0, none⟩)] w fun e w' => e = .returned (.int .i64 0) ∧ w' = w := by
  have hc0 := hb.cell 0
  simp only [List.getElem?_toArray, List.getElem?_cons_zero] at hc0
  go_enter Tryz.func174, Tryz.ntmps174
  go_wp2_with fail
  go_ret
  exact ⟨rfl, rfl⟩
set_option maxHeartbeats 400000 in
theorem siSave (si len cap : Nat) (a : Option Addr) (w : World) (hb : Blk w si #[.slice a len cap] 207) : Calls Tryz.prog 201 #[.pointer (some ⟨si, 0, none⟩)] w fun e w' => e = .returned (.int .i64 len) ∧ w' = w := by
  have hc0 := hb.cell 0
  simp only [List.getElem?_toArray, List.getElem?_cons_zero] at hc0
  go_enter Tryz.func201, Tryz.ntmps201
  go_wp2_with fail
  go_ret
  exact ⟨rfl, rfl⟩
set_option maxHeartbeats 400000 in
theorem stkSave_own (sp si len cap : Nat) (a : Option Addr) (w : World) (hs : Blk w sp #[.pointer (some ⟨si, 0, none⟩)] 186) (hb : Blk w si #[.slice a len cap] 207) : Calls Tryz.prog 174 #[.pointer (some ⟨sp, 0, none⟩)] w fun e w' => e = .returned (.int .i64 len) ∧ w' = w := by
  have hc0 := hs.cell 0
  simp only [List.getElem?_toArray, List.getElem?_cons_zero] at hc0
  have HN := siSave si len cap a w hb
  go_enter Tryz.func174, Tryz.ntmps174
  go_wp2_with fail
  refine HN.mono ?_
  rintro e w3 ⟨rfl, rfl⟩
  go_wp2_with fail
  go_ret
  exact ⟨rfl, rfl⟩
set_option maxHeartbeats 400000 in
theorem stkRestore_nil (sp : Nat) (n : Int) (u : FrameMode) (w : World) (hb : Blk w sp #[.pointer none] 186) : CallsD Tryz.prog 173 #[.pointer (some ⟨sp, 0, none⟩), .int .i64 n] u w fun e u' w' => u' = u ∧ e = .returned (.tuple #[]) ∧ w' = w := by
  have hc0 := hb.cell 0
  simp only [List.getElem?_toArray, List.getElem?_cons_zero] at hc0
  go_enter_d Tryz.func173, Tryz.ntmps173
  go_wp2_with fail
  exact bodyPost_ret (v := .tuple #[]) (by simp [results, Tryz.results173, go_sem]) rfl ⟨rfl, rfl⟩
set_option maxHeartbeats 400000 in
theorem siRestore (si len cap n : Nat) (g : Nat) (w : World) (hb : Blk w si #[.slice (some ⟨g, 0, none⟩) len cap] 207) (hn : n ≤ cap) (_hc : cap ≤ 9223372036854775807) : Calls Tryz.prog 200 #[.pointer (some ⟨si, 0, none⟩), .int .i64 n] w fun e w' => e = .returned (.tuple #[]) ∧ w' = w.setCell ⟨si, 0, none⟩ (.slice (some ⟨g, 0, none⟩) n cap) := by
  have hc0 := hb.cell 0
  simp only [List.getElem?_toArray, List.getElem?_cons_zero] at hc0
  have hf0 := hb.frozen 0
  go_enter Tryz.func200, Tryz.ntmps200
  go_wp2_with fail
  exact bodyPost_end (v := .tuple #[]) (by simp [results, Tryz.results200, go_sem]) rfl ⟨rfl, rfl⟩
set_option maxHeartbeats 400000 in
theorem stkRestore_own (sp si len cap n g : Nat) (u : FrameMode) (w : World) (hs : Blk w sp #[.pointer (some ⟨si, 0, none⟩)] 186) (hb : Blk w si #[.slice (some ⟨g, 0, none⟩) len cap] 207) (hn : n ≤ cap) (hc : cap ≤ 9223372036854775807) : CallsD Tryz.prog 173 #[.pointer (some ⟨sp, 0, none⟩), .int .i64 n] u w fun e u' w' => u' = u ∧ e = .returned (.tuple #[]) ∧ w' = w.setCell ⟨si, 0, none⟩ (.slice (some ⟨g, 0, none⟩) n cap) := by
  have hc0 := hs.cell 0
  simp only [List.getElem?_toArray, List.getElem?_cons_zero] at hc0
  have HN := siRestore si len cap n g w hb hn hc
  clear hs hb
  go_enter_d Tryz.func173, Tryz.ntmps173
  go_wp2_with fail
  refine HN.mono ?_
  rintro e w3 ⟨rfl, rfl⟩
  go_wp2_with fail
  exact bodyPost_end (v := .tuple #[]) (by simp [results, Tryz.results173, go_sem]) rfl ⟨rfl, rfl⟩
set_option maxHeartbeats 400000 in
theorem siFree (si len cap : Nat) (g : Nat) (w : World) (hb : Blk w si #[.slice (some ⟨g, 0, none⟩) len cap] 207) : Calls Tryz.prog 109 #[.pointer (some ⟨si, 0, none⟩)] w fun e w' => e = .returned (.tuple #[]) ∧ w' = w.setCell ⟨si, 0, none⟩ (.slice (some ⟨g, 0, none⟩) 0 cap) := by
  have hc0 := hb.cell 0
  simp only [List.getElem?_toArray, List.getElem?_cons_zero] at hc0
  have hf0 := hb.frozen 0
  go_enter Tryz.func109, Tryz.ntmps109
  go_wp2_with fail
  exact bodyPost_end (v := .tuple #[]) (by simp [results, Tryz.results109, go_sem]) rfl ⟨rfl, rfl⟩
set_option maxHeartbeats 400000 in
theorem stkFree_own (sp si len cap g : Nat) (u : FrameMode) (w : World) (hs : Blk w sp #[.pointer (some ⟨si, 0, none⟩)] 186) (hb : Blk w si #[.slice (some ⟨g, 0, none⟩) len cap] 207) : CallsD Tryz.prog 70 #[.pointer (some ⟨sp, 0, none⟩)] u w fun e u' w' => u' = u ∧ e = .returned (.tuple #[]) ∧ w' = w.setCell ⟨si, 0, none⟩ (.slice (some ⟨g, 0, none⟩) 0 cap) := by
  have hc0 := hs.cell 0
  simp only [List.getElem?_toArray, List.getElem?_cons_zero] at hc0
  have HN := siFree si len cap g w hb
  clear hs hb
  go_enter_d Tryz.func70, Tryz.ntmps70
  go_wp2_with fail
  refine HN.mono ?_
  rintro e w3 ⟨rfl, rfl⟩
  go_wp2_with fail
  exact bodyPost_end (v := .tuple #[]) (by simp [results, Tryz.results70, go_sem]) rfl ⟨rfl, rfl⟩
end Go.Proofs.YtgdgklhfakplhaaGreatDoor
