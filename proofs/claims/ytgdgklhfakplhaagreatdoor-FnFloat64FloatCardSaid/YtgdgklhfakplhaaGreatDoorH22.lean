/- Walks and lemmas for the laws of this seat. -/
import Derived.Test.YtgdgklhfakplhaaGreatDoorH21
import Derived.Test.YtgdgklhfakplhaaGreatDoorH03
import Derived.Shelf.Small.Bits
import Derived.Shelf.Strconv.Itoa0
namespace Go.Proofs.YtgdgklhfakplhaaGreatDoor
open Go.RowKit Go.Dig
set_option maxRecDepth 100000
set_option maxHeartbeats 1000000 in
theorem stkNat_small (sp n : Nat) (hn : 0 < n) (hn1 : n ≤ 4) (w : World) (hb : Blk w sp #[.pointer none] 186) :
    Calls Tryz.prog 175 #[.pointer (some ⟨sp, 0, none⟩), .int .i64 n] w fun e w' => ∃ cap L, e = .returned (.slice (some ⟨w.heap.size, 0, none⟩) n cap) ∧ Ds w' w.heap.size 0 L ∧ L.length = cap ∧ n ≤ cap ∧ cap ≤ 9223372036854775807 ∧ Below w.heap.size w w' := by
  have hc0 := hb.cell 0
  simp only [List.getElem?_toArray, List.getElem?_cons_zero] at hc0
  have HG := grow_nil n hn (by omega) w
  go_enter Tryz.func175, Tryz.ntmps175
  go_wp2_with fail
  refine HG.mono ?_
  rintro e w1 ⟨cap, rfl, h1, h2, h3, h4⟩
  have hcG := h3.cell (i := 0) (by simp; omega)
  have hfG := h3.frozen 0
  rw [Nat.add_zero] at hcG
  have hG4 := h3.put (i := 0) (by simp; omega) 11259375
  rw [Nat.add_zero] at hG4
  have hB := h4.setCell (p := ⟨w.heap.size, 0, none⟩) (Nat.le_refl _) (.int .u64 ((11259375 : Nat) : Int))
  clear HG hb hc0
  focus go_wp2_with fail
  go_ret
  exact ⟨cap, _, rfl, hG4, by simp, h1, h2, hB⟩
set_option maxHeartbeats 1000000 in
theorem stkNat_big (sp n : Nat) (hn : 4 < n) (hn1 : n < 60) (w : World) (hb : Blk w sp #[.pointer none] 186) :
    Calls Tryz.prog 175 #[.pointer (some ⟨sp, 0, none⟩), .int .i64 n] w fun e w' => ∃ si g cap L, e = .returned (.slice (some ⟨g, 0, none⟩) n n) ∧ w.heap.size ≤ si ∧ w.heap.size ≤ g ∧ Ds w' g 0 L ∧ L.length = cap ∧ 4 * ((n + 3) / 4) ≤ cap ∧ cap ≤ 9223372036854775807 ∧ Blk w' sp #[.pointer (some ⟨si, 0, none⟩)] 186 ∧ Blk w' si #[.slice (some ⟨g, 0, none⟩) (4 * ((n + 3) / 4)) cap] 207 ∧ Fx sp 0 1 w w' := by
  have hbl := hb.lt
  have hc0 := hb.cell 0
  simp only [List.getElem?_toArray, List.getElem?_cons_zero] at hc0
  have hf0 := hb.frozen 0
  have ha := hb.alloc (.cells #[.slice none 0 0] 207)
  have hc1 := ha.cell 0
  simp only [List.getElem?_toArray, List.getElem?_cons_zero] at hc1
  have hf1 := ha.frozen 0
  have hb1 := hb.set 0 (.pointer (some ⟨w.heap.size, 0, none⟩))
  simp only [List.setIfInBounds_toArray, List.set_cons_zero] at hb1
  have hsz1 : (w.setCell ⟨sp, 0, none⟩ (.pointer (some ⟨w.heap.size, 0, none⟩))).heap.size = w.heap.size := by simp [World.setCell]
  have hbi2 := blk_new (w.setCell ⟨sp, 0, none⟩ (.pointer (some ⟨w.heap.size, 0, none⟩))) #[.slice none 0 0] 207
  have hb2 := hb1.alloc (.cells #[.slice none 0 0] 207)
  have F1 := (Fx.refl sp 0 1 w).setCell (i := 0) (Nat.le_refl _) (by omega) (.pointer (some ⟨w.heap.size, 0, none⟩))
  have F2 := F1.trans (Fx.of_below ((Below.refl _ _).alloc (Nat.le_refl _) (.cells #[.slice none 0 0] 207)))
  have hsz2 : ((w.setCell ⟨sp, 0, none⟩ (.pointer (some ⟨w.heap.size, 0, none⟩))).alloc (.cells #[.slice none 0 0] 207)).heap.size = w.heap.size + 1 := by rw [← hsz1]; simp
  rw [hsz1] at hbi2
  have HN := siNat_nil w.heap.size n (by omega) hn1 _ hbi2
  have HF1 := hid F2
  have HB2 := hid hb2
  clear F1 F2 hb1 hb2 hbi2 hb ha hsz1
  go_enter Tryz.func175, Tryz.ntmps175
  go_wp2_with fail
  generalize ((w.setCell ⟨sp, 0, none⟩ (.pointer (some ⟨w.heap.size, 0, none⟩))).alloc (.cells #[.slice none 0 0] 207)) = w2 at *
  refine HN.mono ?_
  rintro e w3 ⟨cap, L, rfl, h1, h2, h3, h4, h5, h6⟩
  have HR := hid (And.intro h1 (And.intro h2 (And.intro h3 (And.intro h4 (And.intro h5 h6)))))
  clear HN h1 h2 h3 h4 h5 h6 hc1 hf1
  focus go_wp2_with fail
  go_ret
  obtain ⟨h1, h2, h3, h4, h5, h6⟩ := HR.out
  rw [hsz2] at h1 h5
  refine ⟨w.heap.size, w.heap.size + 1, cap, L, rfl, Nat.le_refl _, by omega, h1, h2, h3, h4, ?_, h5, ?_⟩
  · exact (h6.block sp (by omega) (by omega)).trans HB2.out
  · refine ⟨h6.os.trans HF1.out.os, h6.tape.trans HF1.out.tape, h6.output.trans HF1.out.output, Nat.le_trans HF1.out.size h6.size, fun c hc h7 => (h6.block c (by omega) (by omega)).trans (HF1.out.block c hc h7), fun cur e hc => ?_⟩
    obtain ⟨c1, b1, s1, e1⟩ := HF1.out.own cur e hc
    exact ⟨c1, (h6.block sp (by omega) (by omega)).trans b1, s1, e1⟩
set_option maxHeartbeats 1000000 in
theorem stkNat_own (sp si g len cap n : Nat) (l : List Nat) (hn : 0 < n) (hn1 : n < 60) (w : World) (hs : Blk w sp #[.pointer (some ⟨si, 0, none⟩)] 186) (hb : Blk w si #[.slice (some ⟨g, 0, none⟩) len cap] 207) (hg : Ds w g 0 l) (hl : l.length = cap) (hlc : len ≤ cap) (hcm : cap ≤ 9223372036854775807) (hlen : len < 100) :
    Calls Tryz.prog 175 #[.pointer (some ⟨sp, 0, none⟩), .int .i64 n] w fun e w' => ∃ g' cap' L, e = .returned (.slice (some ⟨g', len, none⟩) n n) ∧ Ds w' g' 0 L ∧ L.length = cap' ∧ len + 4 * ((n + 3) / 4) ≤ cap' ∧ cap' ≤ 9223372036854775807 ∧ (g' = g ∨ g' = w.heap.size) ∧ Blk w' si #[.slice (some ⟨g', 0, none⟩) (len + 4 * ((n + 3) / 4)) cap'] 207 ∧ (∀ b o m, Ds w b o m → (b ≠ g ∨ o + m.length ≤ len) → Ds w' b o m) ∧ (∀ c, c ≠ si → c ≠ g → c < w.heap.size → w'.heap[c]? = w.heap[c]?) ∧ (∀ B, B ≤ si → B ≤ g → Below B w w') := by
  have HN := siNat_own si n g len cap l hn hn1 w hb hg hl hlc hcm hlen
  have hc0 := hs.cell 0
  simp only [List.getElem?_toArray, List.getElem?_cons_zero] at hc0
  clear hs hb hg hl hlc hcm
  go_enter Tryz.func175, Tryz.ntmps175
  go_wp2_with fail
  refine HN.mono ?_
  rintro e w3 ⟨g', cap', L, rfl, HR⟩
  have HR := hid HR
  clear HN
  focus go_wp2_with fail
  go_ret
  exact ⟨g', cap', L, rfl, HR.out⟩
set_option maxHeartbeats 400000 in
theorem stkSave_nil (sp : Nat) (w : World) (hb : Blk w sp #[.pointer none] 186) : Calls Tryz.prog 174 #[.pointer (some ⟨sp, 0, none⟩)] w fun e w' => e = .returned (.int .i64 0) ∧ w' = w := by
  have hc0 := hb.cell 0
  simp only [List.getElem?_toArray, List.getElem?_cons_zero] at hc0
  go_enter Tryz.func174, Tryz.ntmps174
  go_wp2_with fail
  go_ret
  exact ⟨rfl, rfl⟩
set_option maxHeartbeats 400000 in
theorem siSave (si len cap : Nat) (a : Option Addr) (w : World) (hb : Blk w si #[.slice a len cap] 207) : Calls Tryz.prog 201 #[.pointer (some ⟨si, 0, none⟩)] w fun e w' => e = .returned (.int .i64 len) ∧ w' = w := by
  have hc0 := hb.cell 0
  simp only [List.getElem?_toArray, List.getElem?_cons_zero] at hc0
  go_enter Tryz.func201, Tryz.ntmps201
  go_wp2_with fail
  go_ret
  exact ⟨rfl, rfl⟩
set_option maxHeartbeats 400000 in
theorem stkSave_own (sp si len cap : Nat) (a : Option Addr) (w : World) (hs : Blk w sp #[.pointer (some ⟨si, 0, none⟩)] 186) (hb : Blk w si #[.slice a len cap] 207) : Calls Tryz.prog 174 #[.pointer (some ⟨sp, 0, none⟩)] w fun e w' => e = .returned (.int .i64 len) ∧ w' = w := by
  have hc0 := hs.cell 0
  simp only [List.getElem?_toArray, List.getElem?_cons_zero] at hc0
  have HN := siSave si len cap a w hb
  go_enter Tryz.func174, Tryz.ntmps174
  go_wp2_with fail
  refine HN.mono ?_
  rintro e w3 ⟨rfl, rfl⟩
  go_wp2_with fail
  go_ret
  exact ⟨rfl, rfl⟩
set_option maxHeartbeats 400000 in
theorem stkRestore_nil (sp : Nat) (n : Int) (u : FrameMode) (w : World) (hb : Blk w sp #[.pointer none] 186) : CallsD Tryz.prog 173 #[.pointer (some ⟨sp, 0, none⟩), .int .i64 n] u w fun e u' w' => u' = u ∧ e = .returned (.tuple #[]) ∧ w' = w := by
  have hc0 := hb.cell 0
  simp only [List.getElem?_toArray, List.getElem?_cons_zero] at hc0
  go_enter_d Tryz.func173, Tryz.ntmps173
  go_wp2_with fail
  exact bodyPost_ret (v := .tuple #[]) (by simp [results, Tryz.results173, go_sem]) rfl ⟨rfl, rfl⟩
set_option maxHeartbeats 400000 in
theorem siRestore (si len cap n : Nat) (g : Nat) (w : World) (hb : Blk w si #[.slice (some ⟨g, 0, none⟩) len cap] 207) (hn : n ≤ cap) (_hc : cap ≤ 9223372036854775807) : Calls Tryz.prog 200 #[.pointer (some ⟨si, 0, none⟩), .int .i64 n] w fun e w' => e = .returned (.tuple #[]) ∧ w' = w.setCell ⟨si, 0, none⟩ (.slice (some ⟨g, 0, none⟩) n cap) := by
  have hc0 := hb.cell 0
  simp only [List.getElem?_toArray, List.getElem?_cons_zero] at hc0
  have hf0 := hb.frozen 0
  go_enter Tryz.func200, Tryz.ntmps200
  go_wp2_with fail
  exact bodyPost_end (v := .tuple #[]) (by simp [results, Tryz.results200, go_sem]) rfl ⟨rfl, rfl⟩
set_option maxHeartbeats 400000 in
theorem stkRestore_own (sp si len cap n g : Nat) (u : FrameMode) (w : World) (hs : Blk w sp #[.pointer (some ⟨si, 0, none⟩)] 186) (hb : Blk w si #[.slice (some ⟨g, 0, none⟩) len cap] 207) (hn : n ≤ cap) (hc : cap ≤ 9223372036854775807) : CallsD Tryz.prog 173 #[.pointer (some ⟨sp, 0, none⟩), .int .i64 n] u w fun e u' w' => u' = u ∧ e = .returned (.tuple #[]) ∧ w' = w.setCell ⟨si, 0, none⟩ (.slice (some ⟨g, 0, none⟩) n cap) := by
  have hc0 := hs.cell 0
  simp only [List.getElem?_toArray, List.getElem?_cons_zero] at hc0
  have HN := siRestore si len cap n g w hb hn hc
  clear hs hb
  go_enter_d Tryz.func173, Tryz.ntmps173
  go_wp2_with fail
  refine HN.mono ?_
  rintro e w3 ⟨rfl, rfl⟩
  go_wp2_with fail
  exact bodyPost_end (v := .tuple #[]) (by simp [results, Tryz.results173, go_sem]) rfl ⟨rfl, rfl⟩
set_option maxHeartbeats 400000 in
theorem siFree (si len cap : Nat) (g : Nat) (w : World) (hb : Blk w si #[.slice (some ⟨g, 0, none⟩) len cap] 207) : Calls Tryz.prog 109 #[.pointer (some ⟨si, 0, none⟩)] w fun e w' => e = .returned (.tuple #[]) ∧ w' = w.setCell ⟨si, 0, none⟩ (.slice (some ⟨g, 0, none⟩) 0 cap) := by
  have hc0 := hb.cell 0
  simp only [List.getElem?_toArray, List.getElem?_cons_zero] at hc0
  have hf0 := hb.frozen 0
  go_enter Tryz.func109, Tryz.ntmps109
  go_wp2_with fail
  exact bodyPost_end (v := .tuple #[]) (by simp [results, Tryz.results109, go_sem]) rfl ⟨rfl, rfl⟩
set_option maxHeartbeats 400000 in
theorem stkFree_own (sp si len cap g : Nat) (u : FrameMode) (w : World) (hs : Blk w sp #[.pointer (some ⟨si, 0, none⟩)] 186) (hb : Blk w si #[.slice (some ⟨g, 0, none⟩) len cap] 207) : CallsD Tryz.prog 70 #[.pointer (some ⟨sp, 0, none⟩)] u w fun e u' w' => u' = u ∧ e = .returned (.tuple #[]) ∧ w' = w.setCell ⟨si, 0, none⟩ (.slice (some ⟨g, 0, none⟩) 0 cap) := by
  have hc0 := hs.cell 0
  simp only [List.getElem?_toArray, List.getElem?_cons_zero] at hc0
  have HN := siFree si len cap g w hb
  clear hs hb
  go_enter_d Tryz.func70, Tryz.ntmps70
  go_wp2_with fail
  refine HN.mono ?_
  rintro e w3 ⟨rfl, rfl⟩
  go_wp2_with fail
  exact bodyPost_end (v := .tuple #[]) (by simp [results, Tryz.results70, go_sem]) rfl ⟨rfl, rfl⟩
end Go.Proofs.YtgdgklhfakplhaaGreatDoor
namespace Go.Proofs.YtgdgklhfakplhaaGreatDoor
open Go.RowKit Go.Dig
set_option maxRecDepth 100000
/-- The stack of numbers: nothing yet, or its inner object si, the block g and how much of it is taken. -/
def Stk (w : World) (K sp : Nat) : Option (Nat × Nat × Nat) → Prop
  | none => K ≤ sp ∧ Blk w sp #[.pointer none] 186
  | some (si, g, len) => K ≤ sp ∧ K ≤ si ∧ K ≤ g ∧ len < 100 ∧ Blk w sp #[.pointer (some ⟨si, 0, none⟩)] 186 ∧ ∃ cap l, Blk w si #[.slice (some ⟨g, 0, none⟩) len cap] 207 ∧ Ds w g 0 l ∧ l.length = cap ∧ len ≤ cap ∧ cap ≤ 9223372036854775807
/-- The block b is not the stack's. -/
def Off : Option (Nat × Nat × Nat) → Nat → Prop
  | none, _ => True
  | some (_, g, _), b => b ≠ g
/-- What ends at k in the block b is not free room of the stack. -/
def Saf : Option (Nat × Nat × Nat) → Nat → Nat → Prop
  | none, _, _ => True
  | some (_, g, len), b, k => b ≠ g ∨ k ≤ len
def tlen : Option (Nat × Nat × Nat) → Nat
  | none => 0
  | some (_, _, len) => len
theorem Off.saf {t : Option (Nat × Nat × Nat)} {b : Nat} (h : Off t b) (k : Nat) : Saf t b k := by
  rcases t with _ | ⟨si, g, len⟩
  · trivial
  · exact .inl h
theorem Blk.type_eq {w : World} {b : Nat} {c c' : Array Value} {e e' : TypeId} (h : Blk w b c e) (h' : Blk w b c' e') : e = e' := by
  have := h.symm.trans h'
  simp at this; exact this.2
theorem Ds.ne {w : World} {b o : Nat} {l : List Nat} (h : Ds w b o l) {b' : Nat} {c : Array Value} {e : TypeId} (h' : Blk w b' c e) (he : e ≠ 181) : b ≠ b' := by
  rintro rfl
  obtain ⟨cur, hb, _⟩ := h
  exact he (h'.type_eq hb)
theorem Fx.blk {b o k : Nat} {w w1 : World} (h : Fx b o k w w1) {c : Nat} {v : Array Value} {e : TypeId} (hb : Blk w c v e) (hd : c ≠ b) : Blk w1 c v e := (h.block c hd hb.lt).trans hb
theorem Stk.le {w : World} {K sp : Nat} {t : Option (Nat × Nat × Nat)} (h : Stk w K sp t) : K ≤ sp := by
  rcases t with _ | ⟨si, g, len⟩ <;> exact h.1
/-- Words are written into a row that is not the stack's free room. -/
theorem Stk.put {w w1 : World} {K sp b o : Nat} {t : Option (Nat × Nat × Nat)} {l0 l1 : List Nat} (h : Stk w K sp t) (hs : Saf t b (o + l1.length)) (h0 : Ds w b o l0) (hf : Fx b o l1.length w w1) (h1 : Ds w1 b o l1) : Stk w1 K sp t := by
  rcases t with _ | ⟨si, g, len⟩
  · exact ⟨h.1, hf.blk h.2 (h0.ne h.2 (by decide)).symm⟩
  · obtain ⟨k1, k2, k3, k4, hsp, cap, l, hsi, hg, hl, hlc, hc⟩ := h
    have n1 := (h0.ne hsp (by decide)).symm
    have n2 := (h0.ne hsi (by decide)).symm
    by_cases hbg : g = b
    · subst hbg
      have hk : o + l1.length ≤ l.length := by
        rcases hs with h | h
        · exact absurd rfl h
        · omega
      exact ⟨k1, k2, k3, k4, hf.blk hsp n1, cap, _, hf.blk hsi n2, splice_ds hg hf h1 rfl hk, by simp only [List.length_append, List.length_take, List.length_drop]; omega, hlc, hc⟩
    · exact ⟨k1, k2, k3, k4, hf.blk hsp n1, cap, l, hf.blk hsi n2, hg.fx hf (.inl hbg), hl, hlc, hc⟩
theorem Stk.below {w w1 : World} {K sp : Nat} {t : Option (Nat × Nat × Nat)} (h : Stk w K sp t) (hf : Below w.heap.size w w1) : Stk w1 K sp t := by
  rcases t with _ | ⟨si, g, len⟩
  · exact ⟨h.1, h.2.below hf h.2.lt⟩
  · obtain ⟨k1, k2, k3, k4, hsp, cap, l, hsi, hg, r⟩ := h
    exact ⟨k1, k2, k3, k4, hsp.below hf hsp.lt, cap, l, hsi.below hf hsi.lt, hg.below hf hg.lt, r⟩
theorem Stk.size {w : World} {K sp : Nat} {t : Option (Nat × Nat × Nat)} (h : Stk w K sp t) : K ≤ w.heap.size := by
  rcases t with _ | ⟨si, g, len⟩
  · have := h.1; have := h.2.lt; omega
  · obtain ⟨k1, _, _, _, hsp, _⟩ := h
    have := hsp.lt; omega
/-- stack.nat: a row of n words that meets no row that is there. -/
theorem stk_nat (K sp n : Nat) (t : Option (Nat × Nat × Nat)) (hn : 0 < n) (hn1 : n < 60) (w : World) (h : Stk w K sp t) (hlim : tlen t + n + 3 < 100) :
    Calls Tryz.prog 175 #[.pointer (some ⟨sp, 0, none⟩), .int .i64 n] w fun e w' => ∃ (bh oh : Nat) (hl : List Nat) (ch : Nat) (t' : Option (Nat × Nat × Nat)), e = .returned (.slice (some ⟨bh, oh, none⟩) n ch) ∧ n ≤ ch ∧ Ds w' bh oh hl ∧ hl.length = n ∧ Stk w' K sp t' ∧ Saf t' bh (oh + n) ∧ tlen t ≤ tlen t' ∧ tlen t' ≤ tlen t + n + 3 ∧
      (∀ b o m, Ds w b o m → Saf t b (o + m.length) → Ds w' b o m ∧ Saf t' b (o + m.length) ∧ (b ≠ bh ∨ o + m.length ≤ oh)) ∧ (∀ b, b < w.heap.size → Off t b → Off t' b ∧ b ≠ bh) ∧ Below K w w' ∧ K ≤ bh := by
  have hKs := h.size
  rcases t with _ | ⟨si, g, len⟩
  · obtain ⟨hK, hsp⟩ := h
    rcases Nat.lt_or_ge 4 n with h4 | h4
    · refine (stkNat_big sp n h4 hn1 w hsp).mono ?_
      rintro e w' ⟨si, g, cap, L, rfl, h1, h2, h3, hl, h5, h6, h7, h8, h9⟩
      refine ⟨g, 0, L.take n, n, some (si, g, 4 * ((n + 3) / 4)), rfl, Nat.le_refl _, h3.take n, by rw [List.length_take]; omega, ⟨hK, by omega, by omega, by simp only [tlen] at hlim; omega, h7, cap, L, h8, h3, hl, h5, h6⟩, .inr (by omega), Nat.zero_le _, by simp only [tlen]; omega, ?_, ?_, h9.below hK hKs, by omega⟩
      · intro b o m hd _
        have hlt := hd.lt
        exact ⟨hd.fx h9 (.inl (hd.ne hsp (by decide))), .inl (by omega), .inl (by omega)⟩
      · intro b hb _
        exact ⟨(by omega : b ≠ g), by omega⟩
    · refine (stkNat_small sp n hn h4 w hsp).mono ?_
      rintro e w' ⟨cap, L, rfl, h1, h2, h3, h5, h6⟩
      refine ⟨w.heap.size, 0, L.take n, cap, none, rfl, h3, h1.take n, by rw [List.length_take]; omega, ⟨hK, hsp.below h6 hsp.lt⟩, trivial, Nat.le_refl _, by simp only [tlen]; omega, ?_, ?_, h6.mono hKs, hKs⟩
      · intro b o m hd _
        have hlt := hd.lt
        exact ⟨hd.below h6 hlt, trivial, .inl (by omega)⟩
      · intro b hb _
        exact ⟨trivial, by omega⟩
  · obtain ⟨k1, k2, k3, k4, hsp, cap, l, hsi, hg, hl, hlc, hc⟩ := h
    simp only [tlen] at hlim
    refine (stkNat_own sp si g len cap n l hn hn1 w hsp hsi hg hl hlc hc k4).mono ?_
    rintro e w' ⟨g', cap', L, rfl, h1, h2, h3, h5, h6, h7, h8, h9, h10⟩
    have hB := h10 K k2 k3
    have n1 : sp ≠ si := by rintro rfl; exact absurd (hsp.type_eq hsi) (by decide)
    have n2 : sp ≠ g := (hg.ne hsp (by decide)).symm
    have hg' : K ≤ g' := by rcases h6 with rfl | rfl <;> omega
    refine ⟨g', len, (L.drop len).take n, n, some (si, g', len + 4 * ((n + 3) / 4)), rfl, Nat.le_refl _, ?_, by rw [List.length_take, List.length_drop]; omega, ⟨k1, k2, hg', by omega, (h9 sp n1 n2 hsp.lt).trans hsp, cap', L, h7, h1, h2, h3, h5⟩, .inr (by omega), by simp only [tlen]; omega, by simp only [tlen]; omega, ?_, ?_, hB, hg'⟩
    · have := (h1.sub (i := len) (by omega)).take n
      rwa [Nat.zero_add] at this
    · intro b o m hd hs
      have hlt := hd.lt
      refine ⟨h8 b o m hd hs, ?_, ?_⟩
      · rcases h6 with rfl | rfl
        · rcases hs with h | h
          · exact .inl h
          · exact .inr (by omega)
        · exact .inl (by omega)
      · rcases h6 with rfl | rfl
        · exact hs
        · exact .inl (by omega)
    · intro b hb ho
      have ho' : b ≠ g := ho
      have : b ≠ g' := by rcases h6 with rfl | rfl <;> omega
      exact ⟨this, this⟩
theorem stk_save (K sp : Nat) (t : Option (Nat × Nat × Nat)) (w : World) (h : Stk w K sp t) : Calls Tryz.prog 174 #[.pointer (some ⟨sp, 0, none⟩)] w fun e w' => e = .returned (.int .i64 (tlen t)) ∧ w' = w := by
  rcases t with _ | ⟨si, g, len⟩
  · exact stkSave_nil sp w h.2
  · obtain ⟨k1, k2, k3, k4, hsp, cap, l, hsi, hg, hl, hlc, hc⟩ := h
    exact stkSave_own sp si len cap _ w hsp hsi
theorem si_set {w : World} {K sp si g len n cap : Nat} {l : List Nat} (k1 : K ≤ sp) (k2 : K ≤ si) (k3 : K ≤ g) (k4 : n < 100) (hsp : Blk w sp #[.pointer (some ⟨si, 0, none⟩)] 186) (hsi : Blk w si #[.slice (some ⟨g, 0, none⟩) len cap] 207) (hg : Ds w g 0 l) (hl : l.length = cap) (hn : n ≤ cap) (hc : cap ≤ 9223372036854775807) :
    Stk (w.setCell ⟨si, 0, none⟩ (.slice (some ⟨g, 0, none⟩) n cap)) K sp (some (si, g, n)) ∧ (∀ b o m, Ds w b o m → Ds (w.setCell ⟨si, 0, none⟩ (.slice (some ⟨g, 0, none⟩) n cap)) b o m) ∧ Below K w (w.setCell ⟨si, 0, none⟩ (.slice (some ⟨g, 0, none⟩) n cap)) := by
  have n1 : sp ≠ si := by rintro rfl; exact absurd (hsp.type_eq hsi) (by decide)
  have hF : Fx si 0 1 w (w.setCell ⟨si, 0, none⟩ (.slice (some ⟨g, 0, none⟩) n cap)) := (Fx.refl _ _ _ _).setCell (Nat.le_refl _) (by omega) _
  have hD : ∀ b o m, Ds w b o m → Ds (w.setCell ⟨si, 0, none⟩ (.slice (some ⟨g, 0, none⟩) n cap)) b o m := fun b o m hd => hd.fx hF (.inl (hd.ne hsi (by decide)))
  refine ⟨⟨k1, k2, k3, k4, hF.blk hsp n1, cap, l, ?_, hD _ _ _ hg, hl, hn, hc⟩, hD, hF.below k2 ?_⟩
  · have := hsi.set 0 (.slice (some ⟨g, 0, none⟩) n cap)
    simpa using this
  · have := hsi.lt; omega
theorem stk_restore (K sp n : Nat) (t : Option (Nat × Nat × Nat)) (hn : n ≤ tlen t) (u : FrameMode) (w : World) (h : Stk w K sp t) : CallsD Tryz.prog 173 #[.pointer (some ⟨sp, 0, none⟩), .int .i64 n] u w fun e u' w' => u' = u ∧ e = .returned (.tuple #[]) ∧ ∃ t', Stk w' K sp t' ∧ tlen t' = n ∧ (∀ b, Off t b → Off t' b) ∧ (∀ b o m, Ds w b o m → Ds w' b o m) ∧ Below K w w' := by
  rcases t with _ | ⟨si, g, len⟩
  · refine (stkRestore_nil sp n u w h.2).mono ?_
    rintro e u' w' ⟨rfl, rfl, rfl⟩
    exact ⟨rfl, rfl, none, h, by simp only [tlen] at hn ⊢; omega, fun _ h => h, fun _ _ _ h => h, Below.refl _ _⟩
  · obtain ⟨k1, k2, k3, k4, hsp, cap, l, hsi, hg, hl, hlc, hc⟩ := h
    simp only [tlen] at hn
    refine (stkRestore_own sp si len cap n g u w hsp hsi (by omega) hc).mono ?_
    rintro e u' w' ⟨rfl, rfl, rfl⟩
    obtain ⟨s1, s2, s3⟩ := si_set (n := n) k1 k2 k3 (by omega) hsp hsi hg hl (by omega) hc
    exact ⟨rfl, rfl, some (si, g, n), s1, rfl, fun _ h => h, s2, s3⟩
theorem stkFree_nil (sp : Nat) (u : FrameMode) (w : World) (hb : Blk w sp #[.pointer none] 186) : CallsD Tryz.prog 70 #[.pointer (some ⟨sp, 0, none⟩)] u w fun e u' w' => u' = u ∧ e = .returned (.tuple #[]) ∧ w' = w := by
  have hc0 := hb.cell 0
  simp only [List.getElem?_toArray, List.getElem?_cons_zero] at hc0
  go_enter_d Tryz.func70, Tryz.ntmps70
  go_wp2_with fail
  exact bodyPost_end (v := .tuple #[]) (by simp [results, Tryz.results70, go_sem]) rfl ⟨rfl, rfl⟩
theorem stk_free (K sp : Nat) (t : Option (Nat × Nat × Nat)) (u : FrameMode) (w : World) (h : Stk w K sp t) : CallsD Tryz.prog 70 #[.pointer (some ⟨sp, 0, none⟩)] u w fun e u' w' => u' = u ∧ e = .returned (.tuple #[]) ∧ (∀ b o m, Ds w b o m → Ds w' b o m) ∧ Below K w w' := by
  rcases t with _ | ⟨si, g, len⟩
  · refine (stkFree_nil sp u w h.2).mono ?_
    rintro e u' w' ⟨rfl, rfl, rfl⟩
    exact ⟨rfl, rfl, fun _ _ _ h => h, Below.refl _ _⟩
  · obtain ⟨k1, k2, k3, k4, hsp, cap, l, hsi, hg, hl, hlc, hc⟩ := h
    refine (stkFree_own sp si len cap g u w hsp hsi).mono ?_
    rintro e u' w' ⟨rfl, rfl, rfl⟩
    obtain ⟨s1, s2, s3⟩ := si_set (n := 0) k1 k2 k3 (by omega) hsp hsi hg hl (by omega) hc
    exact ⟨rfl, rfl, s2, s3⟩
end Go.Proofs.YtgdgklhfakplhaaGreatDoor
namespace Go.Proofs.YtgdgklhfakplhaaGreatDoor
open Go.Shelf
set_option maxRecDepth 100000
def sh_lays129_ren : Go.Shelf.Ren := ⟨fun | 129 => 171 | n => n, fun | 53 => 34 | 3 => 3 | 4 => 4 | 46 => 41 | 5 => 5 | 9 => 9 | n => n, fun | n => n⟩
theorem sh_lays129 : Go.Proofs.Lays.n129 Tryz.prog sh_lays129_ren := {
  mixed := by kernel_rfl
  f129 := Tryz.func171.trans (congrArg some (by kernel_rfl))
  t3 := Tryz.underlying3
  a3 := Tryz.isAgg3
  z3 := Tryz.sizeOf3
  v3 := Tryz.zeroValue3
  t4 := Tryz.underlying4
  a4 := Tryz.isAgg4
  z4 := Tryz.sizeOf4
  v4 := Tryz.zeroValue4
  t5 := Tryz.underlying5
  a5 := Tryz.isAgg5
  z5 := Tryz.sizeOf5
  v5 := Tryz.zeroValue5
  t9 := Tryz.underlying9
  a9 := Tryz.isAgg9
  z9 := Tryz.sizeOf9
  v9 := Tryz.zeroValue9
  t46 := Tryz.underlying41
  a46 := Tryz.isAgg41
  z46 := Tryz.sizeOf41
  v46 := Tryz.zeroValue41
  t53 := Tryz.underlying34
  a53 := Tryz.isAgg34
  z53 := Tryz.sizeOf34
  v53 := Tryz.zeroValue34 }
theorem sh_bits_Len64 (x : Int) (w : World) (h0 : 0 ≤ x) (h1 : x ≤ 18446744073709551615) :
    Calls Tryz.prog 171 #[.int .u64 x] w fun e w' => e = .returned (.int .i64 (Lib.bitLen x.toNat)) ∧ w' = w := Any.bits_Len64 sh_lays129 x w h0 h1
def sh_lays134_ren : Go.Shelf.Ren := ⟨fun | 134 => 234 | 129 => 171 | n => n, fun | 53 => 34 | 3 => 3 | 4 => 4 | 46 => 41 | 5 => 5 | 9 => 9 | n => n, fun | n => n⟩
theorem sh_lays134 : Go.Proofs.Lays.n134 Tryz.prog sh_lays134_ren := {
  mixed := by kernel_rfl
  f129 := Tryz.func171.trans (congrArg some (by kernel_rfl))
  f134 := Tryz.func234.trans (congrArg some (by kernel_rfl))
  t3 := Tryz.underlying3
  a3 := Tryz.isAgg3
  z3 := Tryz.sizeOf3
  v3 := Tryz.zeroValue3
  t4 := Tryz.underlying4
  a4 := Tryz.isAgg4
  z4 := Tryz.sizeOf4
  v4 := Tryz.zeroValue4
  t5 := Tryz.underlying5
  a5 := Tryz.isAgg5
  z5 := Tryz.sizeOf5
  v5 := Tryz.zeroValue5
  t9 := Tryz.underlying9
  a9 := Tryz.isAgg9
  z9 := Tryz.sizeOf9
  v9 := Tryz.zeroValue9
  t46 := Tryz.underlying41
  a46 := Tryz.isAgg41
  z46 := Tryz.sizeOf41
  v46 := Tryz.zeroValue41
  t53 := Tryz.underlying34
  a53 := Tryz.isAgg34
  z53 := Tryz.sizeOf34
  v53 := Tryz.zeroValue34 }
theorem sh_bits_LeadingZeros64 (x : Int) (w : World) (h0 : 0 ≤ x) (h1 : x ≤ 18446744073709551615) :
    Calls Tryz.prog 234 #[.int .u64 x] w fun e w' => e = .returned (.int .i64 (64 - (Lib.bitLen x.toNat : Int))) ∧ w' = w := Any.bits_LeadingZeros64 sh_lays134 x w h0 h1
open Go.RowKit
theorem bitLen_8 (x : Nat) (h0 : 128 ≤ x) (h1 : x < 256) : Lib.bitLen x = 8 := by
  have e : x / 2 ^ 7 = 1 := by omega
  rw [Lib.bitLen_shift 7 x h0 (by omega), e]
  decide
end Go.Proofs.YtgdgklhfakplhaaGreatDoor
