/- Walks and lemmas for the laws of this seat. -/
import Derived.Test.YtgdgklhfakplhaaGreatDoorH11
import Derived.Test.YtgdgklhfakplhaaGreatDoorH05
import Derived.Test.YtgdgklhfakplhaaGreatDoorH03
import Derived.Test.YtgdgklhfakplhaaGreatDoorH06
import Derived.Test.YtgdgklhfakplhaaGreatDoorH02
import Derived.Test.YtgdgklhfakplhaaGreatDoorH04
namespace Go.Proofs.YtgdgklhfakplhaaGreatDoor
open Go.RowKit Go.Dig
set_option maxRecDepth 100000
theorem fr_mono {Q R : Prop} {n1 : Bool} {ws1 ws2 : List Nat} {w : World} {e : Ending} {w' : World} (h : Frac Q n1 ws1 ws2 w e w') (hR : Q → R) : Frac R n1 ws1 ws2 w e w' := by
  obtain ⟨neg, ok, u1, u2, P, D, h1, h2, h3, h4, h5, h6, h7, h8⟩ := h
  exact ⟨neg, ok, u1, u2, P, D, h1, h2, h3, h4, h5, h6, hid (fun h => ⟨hR (h7.out h).1, (h7.out h).2⟩), h8⟩
set_option maxHeartbeats 1000000 in
theorem rational_any (k : Int) (t : Bool) (s : ByteArray) (n1 n2 : Bool) (v1 v2 : Value) (ws1 ws2 : List Nat) (a3 a4 : Option Addr) (l3 l4 c3 c4 : Nat) (w : World) (h1 : Rd .u64 w v1 ws1) (h2 : Rd .u64 w v2 ws2) (hw1 : ∀ x ∈ ws1, x < 18446744073709551616) (hw2 : ∀ x ∈ ws2, x < 18446744073709551616) (hl1 : ws1.length ≤ 50) (hl2 : ws2.length ≤ 50) :
    Calls Tryz.prog 13 #[.agg #[.int .i64 k, .bool t, .string s, .bool n1, v1, v2, .bool n2, .slice a3 l3 c3, .slice a4 l4 c4]] w (Frac (k = 4) n1 ws1 ws2 w) := by
  obtain ⟨a1, c1, rfl⟩ := h1.shape
  obtain ⟨a2, c2, rfl⟩ := h2.shape
  by_cases hk : k = 4
  · subst hk
    have HF := fun W h1 h2 => fraction_any n1 (.slice a1 ws1.length c1) (.slice a2 ws2.length c2) ws1 ws2 W h1 h2 hw1 hw2 hl1 hl2
    have HK := hid ((blk_new w #[.int .i64 4, .bool t, .string s, .bool n1, .slice a1 ws1.length c1, .slice a2 ws2.length c2, .bool n2, .slice a3 l3 c3, .slice a4 l4 c4] 26).alloc (.cells #[.bool false, .slice none 0 0, .slice none 0 0] 31))
    have HR : Hid (Blk ((w.alloc (.cells #[.int .i64 4, .bool t, .string s, .bool n1, .slice a1 ws1.length c1, .slice a2 ws2.length c2, .bool n2, .slice a3 l3 c3, .slice a4 l4 c4] 26)).alloc (.cells #[.bool false, .slice none 0 0, .slice none 0 0] 31)) (w.heap.size + 1) #[.bool false, .slice none 0 0, .slice none 0 0] 31) := by
      have := blk_new (w.alloc (.cells #[.int .i64 4, .bool t, .string s, .bool n1, .slice a1 ws1.length c1, .slice a2 ws2.length c2, .bool n2, .slice a3 l3 c3, .slice a4 l4 c4] 26)) #[.bool false, .slice none 0 0, .slice none 0 0] 31
      refine hid ?_
      simpa using this
    have HB : Hid (Below w.heap.size w ((w.alloc (.cells #[.int .i64 4, .bool t, .string s, .bool n1, .slice a1 ws1.length c1, .slice a2 ws2.length c2, .bool n2, .slice a3 l3 c3, .slice a4 l4 c4] 26)).alloc (.cells #[.bool false, .slice none 0 0, .slice none 0 0] 31))) := ((Below.refl _ _).alloc (Nat.le_refl _) _).alloc (by simp) _
    have H1 := hid (h1.below HB.out (Nat.le_refl _))
    have H2 := hid (h2.below HB.out (Nat.le_refl _))
    clear h1 h2 hw1 hw2 hl1 hl2
    obtain ⟨b0, b1, b2, b3, b4, b5, b6, b7, b8, f0, f1, f2, f3, f4, f5, f6, f7, f8⟩ := HK.out.nine
    generalize ws1.length = L1 at *
    generalize ws2.length = L2 at *
    go_enter Tryz.func13, Tryz.ntmps13
    go_wp2_with fail
    generalize ((w.alloc (.cells #[.int .i64 4, .bool t, .string s, .bool n1, .slice a1 L1 c1, .slice a2 L2 c2, .bool n2, .slice a3 l3 c3, .slice a4 l4 c4] 26)).alloc (.cells #[.bool false, .slice none 0 0, .slice none 0 0] 31)) = w0 at *
    refine (rest_any 4 t s n1 n2 _ _ _ _ _ _ _ _ _ _ _ _ _).mono ?_
    rintro e w1 ⟨ok, rfl, hb⟩
    have HK1 := hid (HK.out.below hb HK.out.lt)
    have HR1 := hid (HR.out.below hb HR.out.lt)
    have HB1 := hid (below_next HB.out hb)
    have H11 := hid (H1.out.below hb (Nat.le_refl _))
    have H21 := hid (H2.out.below hb (Nat.le_refl _))
    clear b0 b1 b2 b3 b4 b5 b6 b7 b8 f0 f1 f2 f3 f4 f5 f6 f7 f8 HK HR HB H1 H2 hb
    cases ok
    · obtain ⟨r0, r1, r2, g0, g1, g2⟩ := HR1.out.three
      go_wp2_with fail
      have HRF : Hid (Blk (((w1.setCell ⟨w.heap.size + 1, 0, none⟩ (.bool false)).setCell ⟨w.heap.size + 1, 1, none⟩ (.slice none 0 0)).setCell ⟨w.heap.size + 1, 2, none⟩ (.slice none 0 0)) (w.heap.size + 1) #[.bool false, .slice none 0 0, .slice none 0 0] 31) := by
        have := ((HR1.out.set 0 (.bool false)).set 1 (.slice none 0 0)).set 2 (.slice none 0 0)
        refine hid ?_
        simpa using this
      clear r0 r1 r2 g0 g1 g2
      obtain ⟨r0, r1, r2, _, _, _⟩ := HRF.out.three
      exact bodyPost_ret (v := .tuple #[.agg #[.bool false, .slice none 0 0, .slice none 0 0], .bool false]) (by simp [results, Tryz.results13, go_sem, r0, r1, r2]) rfl (fr_none (((HB1.out.setCell (p := ⟨w.heap.size + 1, 0, none⟩) (Nat.le_succ _) _).setCell (p := ⟨w.heap.size + 1, 1, none⟩) (Nat.le_succ _) _).setCell (p := ⟨w.heap.size + 1, 2, none⟩) (Nat.le_succ _) _))
    obtain ⟨b0, b1, b2, b3, b4, b5, b6, b7, b8, f0, f1, f2, f3, f4, f5, f6, f7, f8⟩ := HK1.out.nine
    go_wp2_with fail
    refine (HF w1 H11.out H21.out).mono ?_
    rintro e w2 ⟨neg, ok2, u1, u2, P, D, rfl, h1, h2, hz, hlP, hlD, hok, hb⟩
    have HU1 := hid h1
    have HU2 := hid h2
    have HR2 := hid (HR1.out.below hb HR1.out.lt)
    have HB2 := hid (below_next HB1.out hb)
    have HZ := hid hz
    have HLP := hid hlP
    have HLD := hid hlD
    obtain ⟨p1, k1, rfl⟩ := h1.shape
    obtain ⟨p2, k2, rfl⟩ := h2.shape
    clear b0 b1 b2 b3 b4 b5 b6 b7 b8 f0 f1 f2 f3 f4 f5 f6 f7 f8 HK1 HR1 HB1 H11 H21 hb h1 h2 hz hlP hlD
    obtain ⟨r0, r1, r2, g0, g1, g2⟩ := HR2.out.three
    go_wp2_with fail
    have HRF : Hid (Blk (((w2.setCell ⟨w.heap.size + 1, 0, none⟩ (.bool neg)).setCell ⟨w.heap.size + 1, 1, none⟩ (.slice p1 (dg 65536 P).length k1)).setCell ⟨w.heap.size + 1, 2, none⟩ (.slice p2 (dg 65536 D).length k2)) (w.heap.size + 1) #[.bool neg, .slice p1 (dg 65536 P).length k1, .slice p2 (dg 65536 D).length k2] 31) := by
      have := ((HR2.out.set 0 (.bool neg)).set 1 (.slice p1 (dg 65536 P).length k1)).set 2 (.slice p2 (dg 65536 D).length k2)
      refine hid ?_
      simpa using this
    clear r0 r1 r2 g0 g1 g2
    obtain ⟨r0, r1, r2, g0, g1, g2⟩ := HRF.out.three
    refine bodyPost_ret (v := .tuple #[.agg #[.bool neg, .slice p1 (dg 65536 P).length k1, .slice p2 (dg 65536 D).length k2], .bool ok2]) (by simp [results, Tryz.results13, go_sem, r0, r1, r2]) rfl ⟨neg, ok2, _, _, P, D, rfl, ?_, ?_, HZ.out, HLP.out, HLD.out, hid (fun h => ⟨by first | exact True.intro | rfl, (hok.out h).2⟩), ?_⟩
    · exact HU1.out.set3 HR2.out (by decide) _ _ _
    · exact HU2.out.set3 HR2.out (by decide) _ _ _
    · exact ((HB2.out.setCell (p := ⟨w.heap.size + 1, 0, none⟩) (Nat.le_succ _) _).setCell (p := ⟨w.heap.size + 1, 1, none⟩) (Nat.le_succ _) _).setCell (p := ⟨w.heap.size + 1, 2, none⟩) (Nat.le_succ _) _
  · have hk' : (k != 4) = true := bne_iff_ne.2 hk
    clear hk
    go_enter Tryz.func13, Tryz.ntmps13
    go_wp2_with fail
    refine bodyPost_ret (v := .tuple #[.agg #[.bool false, .slice none 0 0, .slice none 0 0], .bool false]) (by simp [results, Tryz.results13, go_sem]) rfl (fr_none (((Below.refl _ _).alloc (Nat.le_refl _) _).alloc (by simp) _))
end Go.Proofs.YtgdgklhfakplhaaGreatDoor
namespace Go.Proofs.YtgdgklhfakplhaaGreatDoor
open Go.RowKit Go.Dig
set_option maxRecDepth 100000
/-- Words that lie in the block b from its cell o on. -/
def Ds (w : World) (b o : Nat) (l : List Nat) : Prop :=
  ∃ cur, Blk w b cur 181 ∧ o + l.length ≤ cur.size ∧ ∀ i, i < l.length → cur[o + i]? = some (.int .u64 (l.getD i 0 : Nat))
/-- Of what there was only the k cells of the block b from o on may have turned. -/
structure Fx (b o k : Nat) (w w' : World) : Prop where
  os : w'.os = w.os
  tape : w'.tape = w.tape
  output : w'.output = w.output
  size : w.heap.size ≤ w'.heap.size
  block : ∀ c, c ≠ b → c < w.heap.size → w'.heap[c]? = w.heap[c]?
  own : ∀ cur e, Blk w b cur e → ∃ cur', Blk w' b cur' e ∧ cur'.size = cur.size ∧ ∀ i, (i < o ∨ o + k ≤ i) → cur'[i]? = cur[i]?
theorem Fx.refl (b o k : Nat) (w : World) : Fx b o k w w := ⟨rfl, rfl, rfl, Nat.le_refl _, fun _ _ _ => rfl, fun cur _ h => ⟨cur, h, rfl, fun _ _ => rfl⟩⟩
theorem Fx.trans {b o k : Nat} {w w1 w2 : World} (h : Fx b o k w w1) (h2 : Fx b o k w1 w2) : Fx b o k w w2 := by
  refine ⟨h2.os.trans h.os, h2.tape.trans h.tape, h2.output.trans h.output, Nat.le_trans h.size h2.size, fun c h1 h3 => (h2.block c h1 (Nat.lt_of_lt_of_le h3 h.size)).trans (h.block c h1 h3), fun cur e hb => ?_⟩
  obtain ⟨c1, b1, s1, e1⟩ := h.own cur e hb
  obtain ⟨c2, b2, s2, e2⟩ := h2.own c1 e b1
  exact ⟨c2, b2, s2.trans s1, fun i hi => (e2 i hi).trans (e1 i hi)⟩
theorem Fx.mono {b o k o' k' : Nat} {w w1 : World} (h : Fx b o k w w1) (h1 : o' ≤ o) (h2 : o + k ≤ o' + k') : Fx b o' k' w w1 := by
  refine ⟨h.os, h.tape, h.output, h.size, h.block, fun cur e hb => ?_⟩
  obtain ⟨c1, b1, s1, e1⟩ := h.own cur e hb
  exact ⟨c1, b1, s1, fun i hi => e1 i (by omega)⟩
theorem Fx.setCell {b o k : Nat} {w w1 : World} (h : Fx b o k w w1) {i : Nat} (h1 : o ≤ i) (h2 : i < o + k) (v : Value) : Fx b o k w (w1.setCell ⟨b, i, none⟩ v) := by
  refine h.trans ⟨rfl, rfl, rfl, by simp [World.setCell], fun c hc _ => Below.heap_setCell _ _ _ _ hc, fun cur e hb => ⟨_, hb.set i v, by simp, fun j hj => ?_⟩⟩
  rw [Array.getElem?_setIfInBounds_ne (by omega)]
theorem Fx.drewN {b o k : Nat} {w w1 : World} (h : Fx b o k w w1) (n : Nat) : Fx b o k w (w1.drewN n) := ⟨h.os, h.tape, h.output, h.size, h.block, h.own⟩
theorem Fx.drew {b o k : Nat} {w w1 : World} (h : Fx b o k w w1) : Fx b o k w w1.drew := ⟨h.os, h.tape, h.output, h.size, h.block, h.own⟩
theorem Fx.below {b o k B : Nat} {w w1 : World} (h : Fx b o k w w1) (hb : B ≤ b) (hB : B ≤ w.heap.size) : Below B w w1 :=
  ⟨h.os, h.tape, h.output, h.size, fun c hc => h.block c (by omega) (by omega)⟩
theorem Fx.of_below {b o k : Nat} {w w1 : World} (h : Below w.heap.size w w1) : Fx b o k w w1 :=
  ⟨h.os, h.tape, h.output, h.size, fun c _ h2 => h.block c h2, fun cur _ hb => ⟨cur, hb.below h hb.lt, rfl, fun _ _ => rfl⟩⟩
theorem Ds.lt {w : World} {b o : Nat} {l : List Nat} (h : Ds w b o l) : b < w.heap.size := by
  obtain ⟨cur, hb, _⟩ := h; exact hb.lt
theorem Ds.cell {w : World} {b o : Nat} {l : List Nat} (h : Ds w b o l) {i : Nat} (hi : i < l.length) : w.cell? ⟨b, o + i, none⟩ = some (.int .u64 (l.getD i 0 : Nat)) := by
  obtain ⟨cur, hb, _, hc⟩ := h; rw [hb.cell]; exact hc i hi
theorem Ds.frozen {w : World} {b o : Nat} {l : List Nat} (h : Ds w b o l) (i : Nat) : w.frozen? ⟨b, i, none⟩ = false := by
  obtain ⟨cur, hb, _, hc⟩ := h; exact hb.frozen i
theorem Ds.shape {w : World} {b o : Nat} {l : List Nat} (h : Ds w b o l) : ∃ m, w.shape? b = some (181, m) := by
  obtain ⟨cur, hb, _⟩ := h; exact ⟨_, hb.shape⟩
theorem Ds.fx {w w1 : World} {b o k b' o' : Nat} {l : List Nat} (h : Ds w b' o' l) (hf : Fx b o k w w1) (hd : b' ≠ b ∨ o' + l.length ≤ o ∨ o + k ≤ o') : Ds w1 b' o' l := by
  obtain ⟨cur, hb, hs, hc⟩ := h
  by_cases he : b' = b
  · subst he
    obtain ⟨c1, b1, s1, e1⟩ := hf.own cur _ hb
    refine ⟨c1, b1, by omega, fun i hi => ?_⟩
    rw [e1 _ (by omega)]
    exact hc i hi
  · exact ⟨cur, (hf.block b' he hb.lt).trans hb, hs, hc⟩
theorem Ds.below {w w1 : World} {b o B : Nat} {l : List Nat} (h : Ds w b o l) (hf : Below B w w1) (hd : b < B) : Ds w1 b o l := by
  obtain ⟨cur, hb, hs, hc⟩ := h
  exact ⟨cur, hb.below hf hd, hs, hc⟩
theorem Ds.drewN {w : World} {b o : Nat} {l : List Nat} (h : Ds w b o l) (n : Nat) : Ds (w.drewN n) b o l := h
theorem Ds.drew {w : World} {b o : Nat} {l : List Nat} (h : Ds w b o l) : Ds w.drew b o l := h
theorem Ds.put {w : World} {b o : Nat} {l : List Nat} (h : Ds w b o l) {i : Nat} (hi : i < l.length) (d : Nat) : Ds (w.setCell ⟨b, o + i, none⟩ (.int .u64 (d : Int))) b o (l.set i d) := by
  obtain ⟨cur, hb, hs, hc⟩ := h
  refine ⟨_, hb.set (o + i) _, by rw [List.length_set, Array.size_setIfInBounds]; exact hs, fun j hj => ?_⟩
  rw [List.length_set] at hj
  by_cases hij : i = j
  · subst hij
    rw [Array.getElem?_setIfInBounds_self_of_lt (by omega), List.getD_eq_getElem?_getD, List.getElem?_set_self hi]; rfl
  · rw [Array.getElem?_setIfInBounds_ne (by omega), List.getD_eq_getElem?_getD, List.getElem?_set, if_neg hij, ← List.getD_eq_getElem?_getD]
    exact hc j hj
theorem Ds.of_blk {w : World} {b : Nat} {l : List Nat} (h : BlkN .u64 181 w b l) : Ds w b 0 l := by
  refine ⟨_, h, by simp [cs], fun i hi => ?_⟩
  rw [Nat.zero_add, cs_getElem? _ l i hi]
theorem getD_ext {l m : List Nat} (h1 : l.length = m.length) (h2 : ∀ i, i < l.length → l.getD i 0 = m.getD i 0) : l = m := by
  apply List.ext_getElem h1
  intro i hi1 hi2
  have := h2 i hi1
  simpa [List.getD_eq_getElem?_getD, List.getElem?_eq_getElem hi1, List.getElem?_eq_getElem hi2] using this
theorem Ds.sub {w : World} {b o : Nat} {l : List Nat} (h : Ds w b o l) {i : Nat} (hi : i ≤ l.length) : Ds w b (o + i) (l.drop i) := by
  obtain ⟨cur, hb, hs, hc⟩ := h
  refine ⟨cur, hb, by rw [List.length_drop]; omega, fun j hj => ?_⟩
  rw [List.length_drop] at hj
  rw [Nat.add_assoc, hc (i + j) (by omega)]
  simp only [List.getD_eq_getElem?_getD, List.getElem?_drop]
theorem Ds.take {w : World} {b o : Nat} {l : List Nat} (h : Ds w b o l) (k : Nat) : Ds w b o (l.take k) := by
  obtain ⟨cur, hb, hs, hc⟩ := h
  refine ⟨cur, hb, by rw [List.length_take]; omega, fun j hj => ?_⟩
  rw [List.length_take] at hj
  rw [hc j (by omega)]
  simp only [List.getD_eq_getElem?_getD]
  rw [List.getElem?_take_of_lt (by omega)]
/-- Two neighbouring rows of words are one. -/
theorem Ds.join {w : World} {b o : Nat} {l m : List Nat} (h : Ds w b o l) (h2 : Ds w b (o + l.length) m) : Ds w b o (l ++ m) := by
  obtain ⟨cur, hb, hs, hc⟩ := h
  obtain ⟨cur2, hb2, hs2, hc2⟩ := h2
  have : cur2 = cur := by
    have e := hb.symm.trans hb2
    simp at e; exact e.symm
  subst this
  refine ⟨cur2, hb, by rw [List.length_append]; omega, fun j hj => ?_⟩
  rw [List.length_append] at hj
  rcases Nat.lt_or_ge j l.length with h | h
  · rw [hc j h]
    simp only [List.getD_eq_getElem?_getD]
    rw [List.getElem?_append_left h]
  · have := hc2 (j - l.length) (by omega)
    rw [show o + l.length + (j - l.length) = o + j by omega] at this
    rw [this]
    simp only [List.getD_eq_getElem?_getD]
    rw [List.getElem?_append_right h]
theorem mem_getD {l : List Nat} {P : Nat → Prop} (h : ∀ i, i < l.length → P (l.getD i 0)) : ∀ d ∈ l, P d := by
  intro d hd
  obtain ⟨i, hi, rfl⟩ := List.getElem_of_mem hd
  have := h i hi
  simpa [List.getD_eq_getElem?_getD, List.getElem?_eq_getElem hi] using this
end Go.Proofs.YtgdgklhfakplhaaGreatDoor
namespace Go.Proofs.YtgdgklhfakplhaaGreatDoor
open Go.RowKit Go.Dig
set_option maxRecDepth 100000
/-- What a word counts to. -/
abbrev WB : Nat := 18446744073709551616
/-- A slice of words that reads as a natural number. -/
abbrev Nw (w : World) (v : Value) (n : Nat) : Prop := Rt 181 .u64 w v (dg 18446744073709551616 n)
/-- A big integer behind a pointer. -/
def Iv (w : World) (b : Nat) (s : Bool) (n : Nat) : Prop := ∃ v, Blk w b #[.bool s, v] 124 ∧ Nw w v n
theorem Iv.below {w w' : World} {b n : Nat} {s : Bool} (h : Iv w b s n) (hb : Below w.heap.size w w') : Iv w' b s n := by
  obtain ⟨v, h1, h2⟩ := h
  exact ⟨v, h1.below hb h1.lt, h2.below hb (Nat.le_refl _)⟩
set_option maxHeartbeats 400000 in
theorem low64_any (v : Value) (n : Nat) (w : World) (h : Nw w v n) : Calls Tryz.prog 112 #[v] w fun e w' => e = .returned (.int .u64 ((n % 18446744073709551616 : Nat) : Int)) ∧ w' = w := by
  obtain ⟨a, cap, rfl, h1, h2, h3⟩ := h
  rcases Nat.eq_zero_or_pos (dg 18446744073709551616 n).length with hl | hl
  · have hn : n = 0 := (dg_nil_iff (b := 18446744073709551616) (by omega)).1 (List.eq_nil_of_length_eq_zero hl)
    subst hn
    rw [hl]
    clear h1 h2 h3
    go_enter Tryz.func112, Tryz.ntmps112
    go_wp2_with fail
    go_ret
    exact ⟨rfl, rfl⟩
  · obtain ⟨b, off, rfl, _, hb3⟩ := h3 hl
    have hk := hb3 0 hl
    rw [dg_getD (by omega), Nat.pow_zero, Nat.div_one, Nat.add_zero] at hk
    clear hb3 h3
    generalize n % 18446744073709551616 = x at *
    go_enter Tryz.func112, Tryz.ntmps112
    go_wp2_with fail
    go_ret
    exact ⟨rfl, rfl⟩
end Go.Proofs.YtgdgklhfakplhaaGreatDoor
namespace Go.Proofs.YtgdgklhfakplhaaGreatDoor
open Go.RowKit Go.Dig
set_option maxRecDepth 100000
set_option maxHeartbeats 400000 in
theorem isInt64_any (b : Nat) (s : Bool) (n : Nat) (w : World) (h : Iv w b s n) : Calls Tryz.prog 114 #[.pointer (some ⟨b, 0, none⟩)] w fun e w' => e = .returned (.bool (fitI (sgn s n))) ∧ w' = w := by
  obtain ⟨v, hB, hN⟩ := h
  obtain ⟨a, cap, rfl⟩ := hN.shape
  have HN := hid hN
  have hc0 := hB.cell 0
  have hc1 := hB.cell 1
  simp only [List.getElem?_toArray, List.getElem?_cons_zero, List.getElem?_cons_succ] at hc0 hc1
  clear hN
  rcases Nat.lt_or_ge n 18446744073709551616 with hn | hn
  · have hl : (dg 18446744073709551616 n).length ≤ 1 := dg_length_le (by omega) (by omega)
    have e0 : n % 18446744073709551616 = n := Nat.mod_eq_of_lt hn
    rcases Nat.lt_or_ge n 9223372036854775808 with h2 | h2
    · have ef : fitI (sgn s n) = true := by cases s <;> simp [fitI, sgn] <;> omega
      rw [ef]
      go_enter Tryz.func114, Tryz.ntmps114
      go_wp2_with fail
      refine (low64_any _ n w HN.out).mono ?_
      rintro e w' ⟨rfl, rfl⟩
      rw [e0]
      go_wp2_with fail
      go_ret
      exact ⟨rfl, rfl⟩
    · obtain ⟨z, hz⟩ : ∃ z, wrap64 (n : Int) = z := ⟨_, rfl⟩
      obtain ⟨y, hy⟩ : ∃ y, wrap64 (-z) = y := ⟨_, rfl⟩
      have hz0 : z < 0 := by rw [← hz]; unfold wrap64; omega
      cases s
      · have ef : fitI (sgn false n) = false := by simp [fitI, sgn]; omega
        rw [ef]
        go_enter Tryz.func114, Tryz.ntmps114
        go_wp2_with fail
        refine (low64_any _ n w HN.out).mono ?_
        rintro e w' ⟨rfl, rfl⟩
        rw [e0]
        go_wp2_with fail
        go_ret
        exact ⟨by simpa using hz0, rfl⟩
      · rcases Nat.eq_or_lt_of_le h2 with h3 | h3
        · have hyz : y = z := by rw [← hy, ← hz, ← h3]; unfold wrap64; omega
          subst hyz
          have ef : fitI (sgn true n) = true := by rw [← h3]; decide
          rw [ef]
          go_enter Tryz.func114, Tryz.ntmps114
          go_wp2_with fail
          refine (low64_any _ n w HN.out).mono ?_
          rintro e w' ⟨rfl, rfl⟩
          rw [e0]
          go_wp2_with fail
          go_ret
          exact ⟨by simp, rfl⟩
        · have hyz : z ≠ y := by rw [← hy, ← hz]; unfold wrap64; omega
          have ef : fitI (sgn true n) = false := by simp [fitI, sgn]; omega
          rw [ef]
          go_enter Tryz.func114, Tryz.ntmps114
          go_wp2_with fail
          refine (low64_any _ n w HN.out).mono ?_
          rintro e w' ⟨rfl, rfl⟩
          rw [e0]
          go_wp2_with fail
          go_ret
          exact ⟨by simpa [hyz] using hz0, rfl⟩
  · have hl : 1 < (dg 18446744073709551616 n).length := by
      rcases Nat.lt_or_ge 1 (dg 18446744073709551616 n).length with h | h
      · exact h
      · have := Nat.lt_of_lt_of_le (lt_pow_dg_length (b := 18446744073709551616) (by omega) n) (Nat.pow_le_pow_right (by omega) h)
        omega
    have ef : fitI (sgn s n) = false := by cases s <;> simp [fitI, sgn] <;> omega
    rw [ef]
    go_enter Tryz.func114, Tryz.ntmps114
    go_wp2_with fail
    go_ret
    exact ⟨rfl, rfl⟩
set_option maxHeartbeats 400000 in
theorem intInt64_any (b : Nat) (s : Bool) (n : Nat) (w : World) (h : Iv w b s n) : Calls Tryz.prog 115 #[.pointer (some ⟨b, 0, none⟩)] w fun e w' => ∃ z, e = .returned (.int .i64 z) ∧ Hid (fitI (sgn s n) = true → z = sgn s n) ∧ w' = w := by
  obtain ⟨v, hB, hN⟩ := h
  obtain ⟨a, cap, rfl⟩ := hN.shape
  have HN := hid hN
  have hc0 := hB.cell 0
  have hc1 := hB.cell 1
  simp only [List.getElem?_toArray, List.getElem?_cons_zero, List.getElem?_cons_succ] at hc0 hc1
  clear hN
  obtain ⟨z, hz⟩ : ∃ z, wrap64 ((n % 18446744073709551616 : Nat) : Int) = z := ⟨_, rfl⟩
  obtain ⟨y, hy⟩ : ∃ y, wrap64 (-z) = y := ⟨_, rfl⟩
  obtain ⟨m, hm⟩ : ∃ m, n % 18446744073709551616 = m := ⟨_, rfl⟩
  have HF1 : Hid (fitI (sgn false n) = true → z = sgn false n) := by
    intro hf
    rw [fitI, decide_eq_true_eq, sgn] at hf
    rw [← hz, sgn]
    simp at hf ⊢
    unfold wrap64; omega
  have HF2 : Hid (fitI (sgn true n) = true → y = sgn true n) := by
    intro hf
    rw [fitI, decide_eq_true_eq, sgn] at hf
    rw [← hy, ← hz, sgn]
    simp at hf ⊢
    unfold wrap64; omega
  rw [hm] at hz
  have hm1 : m < 18446744073709551616 := by omega
  cases s
  · go_enter Tryz.func115, Tryz.ntmps115
    go_wp2_with fail
    refine (low64_any _ n w HN.out).mono ?_
    rintro e w' ⟨rfl, rfl⟩
    rw [hm]
    clear hm
    go_wp2_with fail
    go_ret
    exact ⟨_, rfl, by rw [hz]; exact HF1, rfl⟩
  · go_enter Tryz.func115, Tryz.ntmps115
    go_wp2_with fail
    refine (low64_any _ n w HN.out).mono ?_
    rintro e w' ⟨rfl, rfl⟩
    rw [hm]
    clear hm
    go_wp2_with fail
    go_ret
    exact ⟨_, rfl, by rw [hy]; exact HF2, rfl⟩
end Go.Proofs.YtgdgklhfakplhaaGreatDoor

namespace Go.Proofs.YtgdgklhfakplhaaGreatDoor
open Go.RowKit Go.Dig
set_option maxRecDepth 100000
/-- What makeInt gives: the number itself if it is an int64, else the big one, boxed. -/
def Mk (b : Nat) (x : Int) (v : Value) : Prop := (fitI x = true ∧ v = .iface 70 (.int .i64 x)) ∨ (fitI x = false ∧ v = .iface 73 (.agg #[.pointer (some ⟨b, 0, none⟩)]))
set_option maxHeartbeats 400000 in
theorem makeInt_any (b : Nat) (s : Bool) (n : Nat) (w : World) (h : Iv w b s n) : Calls Tryz.prog 72 #[.pointer (some ⟨b, 0, none⟩)] w fun e w' => ∃ v, e = .returned v ∧ Mk b (sgn s n) v ∧ Below w.heap.size w w' := by
  have H := hid h
  clear h
  cases hf : fitI (sgn s n) with
  | true =>
    have HF := hid hf
    go_enter Tryz.func72, Tryz.ntmps72
    go_wp2_with fail
    refine (isInt64_any b s n w H.out).mono ?_
    rintro e w' ⟨rfl, rfl⟩
    rw [hf]
    clear hf
    go_wp2_with fail
    refine (intInt64_any b s n _ H.out).mono ?_
    rintro e w1 ⟨z, rfl, HZ, rfl⟩
    go_wp2_with fail
    go_ret
    exact ⟨_, rfl, .inl ⟨HF.out, by rw [HZ.out HF.out]; rfl⟩, Below.refl _ _⟩
  | false =>
    have HF := hid hf
    go_enter Tryz.func72, Tryz.ntmps72
    go_wp2_with fail
    refine (isInt64_any b s n w H.out).mono ?_
    rintro e w' ⟨rfl, rfl⟩
    rw [hf]
    clear hf
    go_wp2_with fail
    go_ret
    exact ⟨_, rfl, .inr ⟨HF.out, rfl⟩, Below.refl _ _⟩
end Go.Proofs.YtgdgklhfakplhaaGreatDoor

namespace Go.Proofs.YtgdgklhfakplhaaGreatDoor
open Go.RowKit Go.Dig
set_option maxRecDepth 100000
theorem iv_zero (w : World) (s : Bool) : Iv (w.alloc (.cells #[.bool s, .slice none 0 0] 124)) w.heap.size s 0 :=
  ⟨_, blk_new w _ 124, by rw [Nw, dg_zero]; exact Rt.nil _ _ _⟩
theorem dg_one {n : Nat} (h0 : 0 < n) (h1 : n < 18446744073709551616) : dg 18446744073709551616 n = [n] := by
  rw [dg_pos (by omega) (by omega), Nat.mod_eq_of_lt h1, Nat.div_eq_of_lt h1, dg_zero]
theorem iv_new (w : World) (s : Bool) (z : Int) (n : Nat) (hz : z = (n : Int)) (h0 : 0 < n) (h1 : n < 18446744073709551616) :
    Iv ((w.alloc (.cells #[.int .u64 z] 181)).alloc (.cells #[.bool s, .slice (some ⟨w.heap.size, 0, none⟩) 1 1] 124)) (w.heap.size + 1) s n := by
  subst hz
  refine ⟨.slice (some ⟨w.heap.size, 0, none⟩) 1 1, ?_, ?_⟩
  · have := blk_new (w.alloc (.cells #[.int .u64 (n : Int)] 181)) #[.bool s, .slice (some ⟨w.heap.size, 0, none⟩) 1 1] 124
    simpa using this
  · have hB : BlkN .u64 181 (w.alloc (.cells #[.int .u64 (n : Int)] 181)) w.heap.size [n] := blk_new w _ 181
    have h := BlkN.rt hB (cap := 1) (by simp) (by omega)
    rw [← dg_one h0 h1] at h
    rw [show (dg 18446744073709551616 n).length = 1 by rw [dg_one h0 h1]; rfl] at h
    exact h.below ((Below.refl _ _).alloc (Nat.le_refl _) _) (Nat.le_refl _)
set_option maxHeartbeats 400000 in
theorem bigNewInt_any (x : Int) (w : World) (h0 : -9223372036854775808 ≤ x) (h1 : x ≤ 9223372036854775807) : Calls Tryz.prog 135 #[.int .i64 x] w fun e w' => ∃ b, e = .returned (.pointer (some ⟨b, 0, none⟩)) ∧ Hid (w.heap.size ≤ b) ∧ Iv w' b (decide (x < 0)) x.natAbs ∧ Below w.heap.size w w' := by
  rcases Int.lt_trichotomy x 0 with hx | hx | hx
  · obtain ⟨n, rfl⟩ : ∃ n : Nat, x = -(n : Int) := ⟨x.natAbs, by omega⟩
    have hu := u64_neg n (by omega) (by omega)
    rw [Int.natAbs_neg, Int.natAbs_natCast]
    go_enter Tryz.func135, Tryz.ntmps135
    go_wp2_with fail
    go_ret
    have e : decide (-(n : Int) < 0) = true := decide_eq_true hx
    rw [e]
    exact ⟨_, rfl, hid (by omega), iv_new w _ _ n rfl (by omega) (by omega), ((Below.refl _ _).alloc (Nat.le_refl _) _).alloc (by simp) _⟩
  · subst hx
    go_enter Tryz.func135, Tryz.ntmps135
    go_wp2_with fail
    go_ret
    exact ⟨_, rfl, hid (Nat.le_refl _), iv_zero w false, (Below.refl _ _).alloc (Nat.le_refl _) _⟩
  · obtain ⟨n, rfl⟩ : ∃ n : Nat, x = (n : Int) := ⟨x.natAbs, by omega⟩
    rw [Int.natAbs_natCast]
    go_enter Tryz.func135, Tryz.ntmps135
    go_wp2_with fail
    go_ret
    have e : decide ((n : Int) < 0) = false := decide_eq_false (by omega)
    rw [e]
    exact ⟨_, rfl, hid (by omega), iv_new w _ _ n rfl (by omega) (by omega), ((Below.refl _ _).alloc (Nat.le_refl _) _).alloc (by simp) _⟩
end Go.Proofs.YtgdgklhfakplhaaGreatDoor
