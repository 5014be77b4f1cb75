/- Walks and lemmas for the laws of this seat. -/
import Derived.Test.YtgdgklhfakplhaaGreatDoorG18
import Derived.Test.YtgdgklhfakplhaaGreatDoorG03
import Derived.Shelf.Small.Bits
import Derived.Shelf.Strconv.Itoa0
namespace Go.Proofs.YtgdgklhfakplhaaGreatDoor
open Go.RowKit Go.Dig
set_option maxRecDepth 100000
/-- The stack of numbers: nothing yet, or its inner object si, the block g and how much of it is taken. -/
def Stk (w : World) (K sp : Nat) : Option (Nat × Nat × Nat) → Prop
  | none => K ≤ sp ∧ Blk w sp #[.pointer none] 186
  | some (si, g, len) => K ≤ sp ∧ K ≤ si ∧ K ≤ g ∧ len < 100 ∧ Blk w sp #[.pointer (some ⟨si, 0, none⟩)] 186 ∧ ∃ cap l, Blk w si #[.slice (some ⟨g, 0, none⟩) len cap] 207 ∧ Ds w g 0 l ∧ l.length = cap ∧ len ≤ cap ∧ cap ≤ 9223372036854775807
/-- The block b is not the stack's. -/
def Off : Option (Nat × Nat × Nat) → Nat → Prop
  | none, _ => True
  | some (_, g, _), b => b ≠ g
/-- What ends at k in the block b is not free room of the stack. -/
def Saf : Option (Nat × Nat × Nat) → Nat → Nat → Prop
  | none, _, _ => True
  | some (_, g, len), b, k => b ≠ g ∨ k ≤ len
def tlen : Option (Nat × Nat × Nat) → Nat
  | none => 0
  | some (_, _, len) => len
theorem Off.saf {t : Option (Nat × Nat × Nat)} {b : Nat} (h : Off t b) (k : Nat) : Saf t b k := by
  rcases t with _ | ⟨si, g, len⟩
  · trivial
  · exact .inl h
theorem Blk.type_eq {w : World} {b : Nat} {c c' : Array Value} {e e' : TypeId} (h : Blk w b c e) (h' : Blk w b c' e') : e = e' := by
  have := h.symm.trans h'
  simp at this; exact this.2
theorem Ds.ne {w : World} {b o : Nat} {l : List Nat} (h : Ds w b o l) {b' : Nat} {c : Array Value} {e : TypeId} (h' : Blk w b' c e) (he : e ≠ 181) : b ≠ b' := by
  rintro rfl
  obtain ⟨cur, hb, _⟩ := h
  exact he (h'.type_eq hb)
theorem Fx.blk {b o k : Nat} {w w1 : World} (h : Fx b o k w w1) {c : Nat} {v : Array Value} {e : TypeId} (hb : Blk w c v e) (hd : c ≠ b) : Blk w1 c v e := (h.block c hd hb.lt).trans hb
theorem Stk.le {w : World} {K sp : Nat} {t : Option (Nat × Nat × Nat)} (h : Stk w K sp t) : K ≤ sp := by
  rcases t with _ | ⟨si, g, len⟩ <;> exact h.1
/-- Words are written into a row that is not the stack's free room. -/
theorem Stk.put {w w1 : World} {K sp b o : Nat} {t : Option (Nat × Nat × Nat)} {l0 l1 : List Nat} (h : Stk w K sp t) (hs : Saf t b (o + l1.length)) (h0 : Ds w b o l0) (hf : Fx b o l1.length w w1) (h1 : Ds w1 b o l1) : Stk w1 K sp t := by
  rcases t with _ | ⟨si, g, len⟩
  · exact ⟨h.1, hf.blk h.2 (h0.ne h.2 (by decide)).symm⟩
  · obtain ⟨k1, k2, k3, k4, hsp, cap, l, hsi, hg, hl, hlc, hc⟩ := h
    have n1 := (h0.ne hsp (by decide)).symm
    have n2 := (h0.ne hsi (by decide)).symm
    by_cases hbg : g = b
    · subst hbg
      have hk : o + l1.length ≤ l.length := by
        rcases hs with h | h
        · exact absurd rfl h
        · omega
      exact ⟨k1, k2, k3, k4, hf.blk hsp n1, cap, _, hf.blk hsi n2, splice_ds hg hf h1 rfl hk, by simp only [List.length_append, List.length_take, List.length_drop]; omega, hlc, hc⟩
    · exact ⟨k1, k2, k3, k4, hf.blk hsp n1, cap, l, hf.blk hsi n2, hg.fx hf (.inl hbg), hl, hlc, hc⟩
theorem Stk.below {w w1 : World} {K sp : Nat} {t : Option (Nat × Nat × Nat)} (h : Stk w K sp t) (hf : Below w.heap.size w w1) : Stk w1 K sp t := by
  rcases t with _ | ⟨si, g, len⟩
  · exact ⟨h.1, h.2.below hf h.2.lt⟩
  · obtain ⟨k1, k2, k3, k4, hsp, cap, l, hsi, hg, r⟩ := h
    exact ⟨k1, k2, k3, k4, hsp.below hf hsp.lt, cap, l, hsi.below hf hsi.lt, hg.below hf hg.lt, r⟩
theorem Stk.size {w : World} {K sp : Nat} {t : Option (Nat × Nat × Nat)} (h : Stk w K sp t) : K ≤ w.heap.size := by
  rcases t with _ | ⟨si, g, len⟩
  · have := h.1; have := h.2.lt; omega
  · obtain ⟨k1, _, _, _, hsp, _⟩ := h
    have := hsp.lt; omega
/-- stack.nat: a row of n words that meets no row that is there. -/
theorem stk_nat (K sp n : Nat) (t : Option (Nat × Nat × Nat)) (hn : 0 < n) (hn1 : n < 60) (w : World) (h : Stk w K sp t) (hlim : tlen t + n + 3 < 100) :
    Calls Tryz.prog 175 #[.pointer (some ⟨sp, 0, none⟩), .int .i64 n] w fun e w' => ∃ (bh oh : Nat) (hl : List Nat) (ch : Nat) (t' : Option (Nat × Nat × Nat)), e = .returned (.slice (some ⟨bh, oh, none⟩) n ch) ∧ n ≤ ch ∧ Ds w' bh oh hl ∧ hl.length = n ∧ Stk w' K sp t' ∧ Saf t' bh (oh + n) ∧ tlen t ≤ tlen t' ∧ tlen t' ≤ tlen t + n + 3 ∧
      (∀ b o m, Ds w b o m → Saf t b (o + m.length) → Ds w' b o m ∧ Saf t' b (o + m.length) ∧ (b ≠ bh ∨ o + m.length ≤ oh)) ∧ (∀ b, b < w.heap.size → Off t b → Off t' b ∧ b ≠ bh) ∧ Below K w w' ∧ K ≤ bh := by
  have hKs := h.size
  rcases t with _ | ⟨si, g, len⟩
  · obtain ⟨hK, hsp⟩ := h
    rcases Nat.lt_or_ge 4 n with h4 | h4
    · refine (stkNat_big sp n h4 hn1 w hsp).mono ?_
      rintro e w' ⟨si, g, cap, L, rfl, h1, h2, h3, hl, h5, h6, h7, h8, h9⟩
      refine ⟨g, 0, L.take n, n, some (si, g, 4 * ((n + 3) / 4)), rfl, Nat.le_refl _, h3.take n, by rw [List.length_take]; omega, ⟨hK, by omega, by omega, by simp only [tlen] at hlim; omega, h7, cap, L, h8, h3, hl, h5, h6⟩, .inr (by omega), Nat.zero_le _, by simp only [tlen]; omega, ?_, ?_, h9.below hK hKs, by omega⟩
      · intro b o m hd _
        have hlt := hd.lt
        exact ⟨hd.fx h9 (.inl (hd.ne hsp (by decide))), .inl (by omega), .inl (by omega)⟩
      · intro b hb _
        exact ⟨(by omega : b ≠ g), by omega⟩
    · refine (stkNat_small sp n hn h4 w hsp).mono ?_
      rintro e w' ⟨cap, L, rfl, h1, h2, h3, h5, h6⟩
      refine ⟨w.heap.size, 0, L.take n, cap, none, rfl, h3, h1.take n, by rw [List.length_take]; omega, ⟨hK, hsp.below h6 hsp.lt⟩, trivial, Nat.le_refl _, by simp only [tlen]; omega, ?_, ?_, h6.mono hKs, hKs⟩
      · intro b o m hd _
        have hlt := hd.lt
        exact ⟨hd.below h6 hlt, trivial, .inl (by omega)⟩
      · intro b hb _
        exact ⟨trivial, by omega⟩
  · obtain ⟨k1, k2, k3, k4, hsp, cap, l, hsi, hg, hl, hlc, hc⟩ := h
    simp only [tlen] at hlim
    refine (stkNat_own sp si g len cap n l hn hn1 w hsp hsi hg hl hlc hc k4).mono ?_
    rintro e w' ⟨g', cap', L, rfl, h1, h2, h3, h5, h6, h7, h8, h9, h10⟩
    have hB := h10 K k2 k3
    have n1 : sp ≠ si := by rintro rfl; exact absurd (hsp.type_eq hsi) (by decide)
    have n2 : sp ≠ g := (hg.ne hsp (by decide)).symm
    have hg' : K ≤ g' := by rcases h6 with rfl | rfl <;> omega
    refine ⟨g', len, (L.drop len).take n, n, some (si, g', len + 4 * ((n + 3) / 4)), rfl, Nat.le_refl _, ?_, by rw [List.length_take, List.length_drop]; omega, ⟨k1, k2, hg', by omega, (h9 sp n1 n2 hsp.lt).trans hsp, cap', L, h7, h1, h2, h3, h5⟩, .inr (by omega), by simp only [tlen]; omega, by simp only [tlen]; omega, ?_, ?_, hB, hg'⟩
    · have := (h1.sub (i := len) (by omega)).take n
      rwa [Nat.zero_add] at this
    · intro b o m hd hs
      have hlt := hd.lt
      refine ⟨h8 b o m hd hs, ?_, ?_⟩
      · rcases h6 with rfl | rfl
        · rcases hs with h | h
          · exact .inl h
          · exact .inr (by omega)
        · exact .inl (by omega)
      · rcases h6 with rfl | rfl
        · exact hs
        · exact .inl (by omega)
    · intro b hb ho
      have ho' : b ≠ g := ho
      have : b ≠ g' := by rcases h6 with rfl | rfl <;> omega
      exact ⟨this, this⟩
theorem stk_save (K sp : Nat) (t : Option (Nat × Nat × Nat)) (w : World) (h : Stk w K sp t) : Calls Tryz.prog 174 #[.pointer (some ⟨sp, 0, none⟩)] w fun e w' => e = .returned (.int .i64 (tlen t)) ∧ w' = w := by
  rcases t with _ | ⟨si, g, len⟩
  · exact stkSave_nil sp w h.2
  · obtain ⟨k1, k2, k3, k4, hsp, cap, l, hsi, hg, hl, hlc, hc⟩ := h
    exact stkSave_own sp si len cap _ w hsp hsi
theorem si_set {w : World} {K sp si g len n cap : Nat} {l : List Nat} (k1 : K ≤ sp) (k2 : K ≤ si) (k3 : K ≤ g) (k4 : n < 100) (hsp : Blk w sp #[.pointer (some ⟨si, 0, none⟩)] 186) (hsi : Blk w si #[.slice (some ⟨g, 0, none⟩) len cap] 207) (hg : Ds w g 0 l) (hl : l.length = cap) (hn : n ≤ cap) (hc : cap ≤ 9223372036854775807) :
    Stk (w.setCell ⟨si, 0, none⟩ (.slice (some ⟨g, 0, none⟩) n cap)) K sp (some (si, g, n)) ∧ (∀ b o m, Ds w b o m → Ds (w.setCell ⟨si, 0, none⟩ (.slice (some ⟨g, 0, none⟩) n cap)) b o m) ∧ Below K w (w.setCell ⟨si, 0, none⟩ (.slice (some ⟨g, 0, none⟩) n cap)) := by
  have n1 : sp ≠ si := by rintro rfl; exact absurd (hsp.type_eq hsi) (by decide)
  have hF : Fx si 0 1 w (w.setCell ⟨si, 0, none⟩ (.slice (some ⟨g, 0, none⟩) n cap)) := (Fx.refl _ _ _ _).setCell (Nat.le_refl _) (by omega) _
  have hD : ∀ b o m, Ds w b o m → Ds (w.setCell ⟨si, 0, none⟩ (.slice (some ⟨g, 0, none⟩) n cap)) b o m := fun b o m hd => hd.fx hF (.inl (hd.ne hsi (by decide)))
  refine ⟨⟨k1, k2, k3, k4, hF.blk hsp n1, cap, l, ?_, hD _ _ _ hg, hl, hn, hc⟩, hD, hF.below k2 ?_⟩
  · have := hsi.set 0 (.slice (some ⟨g, 0, none⟩) n cap)
    simpa using this
  · have := hsi.lt; omega
theorem stk_restore (K sp n : Nat) (t : Option (Nat × Nat × Nat)) (hn : n ≤ tlen t) (u : FrameMode) (w : World) (h : Stk w K sp t) : CallsD Tryz.prog 173 #[.pointer (some ⟨sp, 0, none⟩), .int .i64 n] u w fun e u' w' => u' = u ∧ e = .returned (.tuple #[]) ∧ ∃ t', Stk w' K sp t' ∧ tlen t' = n ∧ (∀ b, Off t b → Off t' b) ∧ (∀ b o m, Ds w b o m → Ds w' b o m) ∧ Below K w w' := by
  rcases t with _ | ⟨si, g, len⟩
  · refine (stkRestore_nil sp n u w h.2).mono ?_
    rintro e u' w' ⟨rfl, rfl, rfl⟩
    exact ⟨rfl, rfl, none, h, by simp only [tlen] at hn ⊢; omega, fun _ h => h, fun _ _ _ h => h, Below.refl _ _⟩
  · obtain ⟨k1, k2, k3, k4, hsp, cap, l, hsi, hg, hl, hlc, hc⟩ := h
    simp only [tlen] at hn
    refine (stkRestore_own sp si len cap n g u w hsp hsi (by omega) hc).mono ?_
    rintro e u' w' ⟨rfl, rfl, rfl⟩
    obtain ⟨s1, s2, s3⟩ := si_set (n := n) k1 k2 k3 (by omega) hsp hsi hg hl (by omega) hc
    exact ⟨rfl, rfl, some (si, g, n), s1, rfl, fun _ h => h, s2, s3⟩
theorem stkFree_nil (sp : Nat) (u : FrameMode) (w : World) (hb : Blk w sp #[.pointer none] 186) : CallsD Tryz.prog 70 #[.pointer (some ⟨sp, 0, none⟩)] u w fun e u' w' => u' = u ∧ e = .returned (.tuple #[]) ∧ w' = w := by
  have hc0 := hb.cell 0
  simp only [List.getElem?_toArray, List.getElem?_cons_zero] at hc0
  go_enter_d Tryz.func70, Tryz.ntmps70
  go_wp2_with fail
  exact bodyPost_end (v := .tuple #[]) (by simp [results, Tryz.results70, go_sem]) rfl ⟨rfl, rfl⟩
theorem stk_free (K sp : Nat) (t : Option (Nat × Nat × Nat)) (u : FrameMode) (w : World) (h : Stk w K sp t) : CallsD Tryz.prog 70 #[.pointer (some ⟨sp, 0, none⟩)] u w fun e u' w' => u' = u ∧ e = .returned (.tuple #[]) ∧ (∀ b o m, Ds w b o m → Ds w' b o m) ∧ Below K w w' := by
  rcases t with _ | ⟨si, g, len⟩
  · refine (stkFree_nil sp u w h.2).mono ?_
    rintro e u' w' ⟨rfl, rfl, rfl⟩
    exact ⟨rfl, rfl, fun _ _ _ h => h, Below.refl _ _⟩
  · obtain ⟨k1, k2, k3, k4, hsp, cap, l, hsi, hg, hl, hlc, hc⟩ := h
    refine (stkFree_own sp si len cap g u w hsp hsi).mono ?_
    rintro e u' w' ⟨rfl, rfl, rfl⟩
    obtain ⟨s1, s2, s3⟩ := si_set (n := 0) k1 k2 k3 (by omega) hsp hsi hg hl (by omega) hc
    exact ⟨rfl, rfl, s2, s3⟩
end Go.Proofs.YtgdgklhfakplhaaGreatDoor
namespace Go.Proofs.YtgdgklhfakplhaaGreatDoor
open Go.Shelf
set_option maxRecDepth 100000
def sh_lays129_ren : Go.Shelf.Ren := ⟨fun | 129 => 171 | n => n, fun | 53 => 34 | 3 => 3 | 4 => 4 | 46 => 41 | 5 => 5 | 9 => 9 | n => n, fun | n => n⟩
theorem sh_lays129 : Go.Proofs.Lays.n129 Tryz.prog sh_lays129_ren := {
  mixed := by kernel_rfl
  f129 := Tryz.func171.trans (congrArg some (by kernel_rfl))
  t3 := Tryz.underlying3
  a3 := Tryz.isAgg3
  z3 := Tryz.sizeOf3
  v3 := Tryz.zeroValue3
  t4 := Tryz.underlying4
  a4 := Tryz.isAgg4
  z4 := Tryz.sizeOf4
  v4 := Tryz.zeroValue4
  t5 := Tryz.underlying5
  a5 := Tryz.isAgg5
  z5 := Tryz.sizeOf5
  v5 := Tryz.zeroValue5
  t9 := Tryz.underlying9
  a9 := Tryz.isAgg9
  z9 := Tryz.sizeOf9
  v9 := Tryz.zeroValue9
  t46 := Tryz.underlying41
  a46 := Tryz.isAgg41
  z46 := Tryz.sizeOf41
  v46 := Tryz.zeroValue41
  t53 := Tryz.underlying34
  a53 := Tryz.isAgg34
  z53 := Tryz.sizeOf34
  v53 := Tryz.zeroValue34 }
theorem sh_bits_Len64 (x : Int) (w : World) (h0 : 0 ≤ x) (h1 : x ≤ 18446744073709551615) :
    Calls Tryz.prog 171 #[.int .u64 x] w fun e w' => e = .returned (.int .i64 (Lib.bitLen x.toNat)) ∧ w' = w := Any.bits_Len64 sh_lays129 x w h0 h1
def sh_lays134_ren : Go.Shelf.Ren := ⟨fun | 134 => 234 | 129 => 171 | n => n, fun | 53 => 34 | 3 => 3 | 4 => 4 | 46 => 41 | 5 => 5 | 9 => 9 | n => n, fun | n => n⟩
theorem sh_lays134 : Go.Proofs.Lays.n134 Tryz.prog sh_lays134_ren := {
  mixed := by kernel_rfl
  f129 := Tryz.func171.trans (congrArg some (by kernel_rfl))
  f134 := Tryz.func234.trans (congrArg some (by kernel_rfl))
  t3 := Tryz.underlying3
  a3 := Tryz.isAgg3
  z3 := Tryz.sizeOf3
  v3 := Tryz.zeroValue3
  t4 := Tryz.underlying4
  a4 := Tryz.isAgg4
  z4 := Tryz.sizeOf4
  v4 := Tryz.zeroValue4
  t5 := Tryz.underlying5
  a5 := Tryz.isAgg5
  z5 := Tryz.sizeOf5
  v5 := Tryz.zeroValue5
  t9 := Tryz.underlying9
  a9 := Tryz.isAgg9
  z9 := Tryz.sizeOf9
  v9 := Tryz.zeroValue9
  t46 := Tryz.underlying41
  a46 := Tryz.isAgg41
  z46 := Tryz.sizeOf41
  v46 := Tryz.zeroValue41
  t53 := Tryz.underlying34
  a53 := Tryz.isAgg34
  z53 := Tryz.sizeOf34
  v53 := Tryz.zeroValue34 }
theorem sh_bits_LeadingZeros64 (x : Int) (w : World) (h0 : 0 ≤ x) (h1 : x ≤ 18446744073709551615) :
    Calls Tryz.prog 234 #[.int .u64 x] w fun e w' => e = .returned (.int .i64 (64 - (Lib.bitLen x.toNat : Int))) ∧ w' = w := Any.bits_LeadingZeros64 sh_lays134 x w h0 h1
open Go.RowKit
theorem bitLen_8 (x : Nat) (h0 : 128 ≤ x) (h1 : x < 256) : Lib.bitLen x = 8 := by
  have e : x / 2 ^ 7 = 1 := by omega
  rw [Lib.bitLen_shift 7 x h0 (by omega), e]
  decide
end Go.Proofs.YtgdgklhfakplhaaGreatDoor
namespace Go.DivPl

/-- What the guess keeps from round to round: q*y1 + r = u, and q is not too small. -/
structure Guess (B y1 y0 u d q r : Nat) : Prop where
  eq : q * y1 + r = u
  big : u * B + d < (q + 1) * (y1 * B + y0)

theorem expand (B y1 y0 q r d : Nat) : (q * y1 + r) * B + d + q * y0 = q * (y1 * B + y0) + (B * r + d) := by
  rw [Nat.add_mul, Nat.mul_add, Nat.mul_assoc, Nat.mul_comm r B]; omega

theorem guess_start {B y1 y0 u d : Nat} (hy : 0 < y1) (hd : d < B) : Guess B y1 y0 u d (u / y1) (u % y1) := by
  refine ⟨by rw [Nat.mul_comm]; exact Nat.div_add_mod u y1, ?_⟩
  have h : u + 1 ≤ (u / y1 + 1) * y1 := by
    have := Nat.div_add_mod u y1
    have hm := Nat.mod_lt u hy
    rw [Nat.add_mul, Nat.mul_comm (u / y1)]; omega
  have h2 : (u + 1) * B ≤ (u / y1 + 1) * y1 * B := Nat.mul_le_mul_right B h
  rw [Nat.mul_add, ← Nat.mul_assoc]
  rw [Nat.add_mul] at h2
  omega

theorem guess_low {B y1 y0 u d q r : Nat} (g : Guess B y1 y0 u d q r) (h : q * y0 ≤ B * r + d) : q * (y1 * B + y0) ≤ u * B + d := by
  have := expand B y1 y0 q r d
  rw [g.eq] at this
  omega

theorem guess_done {B y1 y0 u d q r : Nat} (g : Guess B y1 y0 u d q r) (h : q * y0 ≤ B * r + d) : q = (u * B + d) / (y1 * B + y0) := by
  have h1 := guess_low g h
  have h2 := g.big
  have hY : 0 < y1 * B + y0 := by
    rcases Nat.eq_zero_or_pos (y1 * B + y0) with e | e
    · rw [e] at h2; simp at h2
    · exact e
  refine (Nat.div_eq_of_lt_le ?_ ?_).symm
  · omega
  · exact h2

theorem guess_step {B y1 y0 u d q r : Nat} (g : Guess B y1 y0 u d q r) (hu : u < y1 * B + y0) (hd : d < B) (h : B ≤ q ∨ B * r + d < q * y0) :
    0 < q ∧ Guess B y1 y0 u d (q - 1) (r + y1) := by
  have hlt : u * B + d < q * (y1 * B + y0) := by
    rcases h with h | h
    · have h1 : (u + 1) * B ≤ (y1 * B + y0) * B := Nat.mul_le_mul_right B hu
      have h2 : B * (y1 * B + y0) ≤ q * (y1 * B + y0) := Nat.mul_le_mul_right _ h
      rw [Nat.mul_comm B] at h2
      rw [Nat.add_mul] at h1
      omega
    · have := expand B y1 y0 q r d
      rw [g.eq] at this
      omega
  have hq : 0 < q := by
    rcases Nat.eq_zero_or_pos q with e | e
    · rw [e] at hlt; simp at hlt
    · exact e
  refine ⟨hq, ?_, ?_⟩
  · have := g.eq
    obtain ⟨k, rfl⟩ : ∃ k, q = k + 1 := ⟨q - 1, by omega⟩
    rw [Nat.add_mul] at this
    simp; omega
  · rw [Nat.sub_add_cancel hq]; exact hlt

theorem guess_small {B y1 y0 u d q r : Nat} (g : Guess B y1 y0 u d q r) (hu : u < y1 * B + y0) (h0 : y0 < B) (hr : B ≤ r) : q < B := by
  have := g.eq
  rcases Nat.lt_or_ge q B with h | h
  · exact h
  · have : B * y1 ≤ q * y1 := Nat.mul_le_mul_right y1 h
    rw [Nat.mul_comm B] at this
    omega

theorem guess_break {B y1 y0 u d q r : Nat} (g : Guess B y1 y0 u d q r) (hu : u < y1 * B + y0) (h0 : y0 < B) (hr : B ≤ r) : q * y0 ≤ B * r + d := by
  have hq := guess_small g hu h0 hr
  have h1 : q * y0 ≤ B * y0 := Nat.mul_le_mul_right y0 (Nat.le_of_lt hq)
  have h2 : B * y0 ≤ B * r := Nat.mul_le_mul_left B (by omega)
  omega

/-- Two digits of a quotient, one behind the other. -/
theorem two_digits {B Y U d1 d0 : Nat} (hY : 0 < Y) :
    (U * B + d1) / Y * B + ((U * B + d1) % Y * B + d0) / Y = (U * (B * B) + (d1 * B + d0)) / Y ∧
    ((U * B + d1) % Y * B + d0) % Y = (U * (B * B) + (d1 * B + d0)) % Y := by
  have e : U * (B * B) + (d1 * B + d0) = Y * ((U * B + d1) / Y * B) + ((U * B + d1) % Y * B + d0) := by
    have := Nat.div_add_mod (U * B + d1) Y
    have h2 : (Y * ((U * B + d1) / Y) + (U * B + d1) % Y) * B = (U * B + d1) * B := by rw [this]
    rw [Nat.add_mul, Nat.add_mul] at h2
    rw [← Nat.mul_assoc, ← Nat.mul_assoc]
    omega
  rw [e]
  constructor
  · rw [Nat.mul_add_div hY]
  · rw [Nat.mul_add_mod]


theorem guess_step' {B y1 y0 u d q r : Nat} (g : Guess B y1 y0 u d q r) (h : B * r + d < q * y0) :
    0 < q ∧ Guess B y1 y0 u d (q - 1) (r + y1) := by
  have hlt : u * B + d < q * (y1 * B + y0) := by
    have := expand B y1 y0 q r d
    rw [g.eq] at this
    omega
  have hq : 0 < q := by
    rcases Nat.eq_zero_or_pos q with e | e
    · rw [e] at hlt; simp at hlt
    · exact e
  refine ⟨hq, ?_, ?_⟩
  · have := g.eq
    obtain ⟨k, rfl⟩ : ∃ k, q = k + 1 := ⟨q - 1, by omega⟩
    rw [Nat.add_mul] at this
    simp; omega
  · rw [Nat.sub_add_cancel hq]; exact hlt

theorem guess_break' {B y0 d q r : Nat} (hq : q < B) (h0 : y0 < B) (hr : B ≤ r) : q * y0 ≤ B * r + d := by
  have h1 : q * y0 ≤ B * y0 := Nat.mul_le_mul_right y0 (Nat.le_of_lt hq)
  have h2 : B * y0 ≤ B * r := Nat.mul_le_mul_left B (by omega)
  omega

theorem digit_lt {B x1 x0 y1 : Nat} (h1 : x1 < y1) (h0 : x0 < B) : (x1 * B + x0) / y1 < B := by
  apply Nat.div_lt_of_lt_mul
  have : (x1 + 1) * B ≤ y1 * B := Nat.mul_le_mul_right B h1
  rw [Nat.add_mul] at this
  omega

/-- The first guess of a 2-by-1 division with a reciprocal m: at most 2 too small. -/
theorem recip_guess {B d m x1 x0 : Nat} (hdB : d < B) (hm : m + B = (B * B - 1) / d) (hd : 0 < d) (h1 : x1 < d) (h0 : x0 < B) :
    ((m * x1 + x0) / B + x1) * d ≤ x1 * B + x0 ∧ x1 * B + x0 < ((m * x1 + x0) / B + x1) * d + B + d := by
  have hB : 0 < B := by omega
  have hBB : 1 ≤ B * B := Nat.mul_pos hB hB
  have e1 : d * (m + B) ≤ B * B - 1 := by rw [hm]; exact Nat.mul_div_le _ _
  have e2 : B * B - 1 < d * (m + B) + d := by
    have := Nat.lt_mul_div_succ (B * B - 1) hd
    rw [← hm, Nat.mul_add, Nat.mul_one] at this
    exact this
  have eq : (m * x1 + x0) / B + x1 = (x1 * (m + B) + x0) / B := by
    rw [Nat.mul_add, Nat.mul_comm x1 m]
    rw [show m * x1 + x1 * B + x0 = m * x1 + x0 + B * x1 from by rw [Nat.mul_comm x1 B]; omega, Nat.add_mul_div_left _ _ hB]
  rw [eq]
  generalize hQ : (x1 * (m + B) + x0) / B = Q
  have q1 : Q * B ≤ x1 * (m + B) + x0 := by rw [← hQ]; exact Nat.div_mul_le_self _ _
  have q2 : x1 * (m + B) + x0 < Q * B + B := by
    have := Nat.lt_mul_div_succ (x1 * (m + B) + x0) hB
    rw [hQ, Nat.mul_comm B, Nat.add_mul, Nat.one_mul] at this
    exact this
  -- multiply by d
  have d1 : d * (Q * B) ≤ d * (x1 * (m + B) + x0) := Nat.mul_le_mul_left d q1
  have d2 : d * (x1 * (m + B) + x0) < d * (Q * B + B) := Nat.mul_lt_mul_of_pos_left q2 hd
  have ek : d * (x1 * (m + B) + x0) = x1 * (d * (m + B)) + d * x0 := by
    rw [Nat.mul_add, Nat.mul_left_comm]
  rw [ek] at d1 d2
  have d3 : x1 * (d * (m + B)) + d * x0 < d * (Q * B) + d * B := by rw [← Nat.mul_add]; exact d2
  clear d2
  have p1 : x1 * (d * (m + B)) ≤ x1 * (B * B - 1) := Nat.mul_le_mul_left x1 e1
  have p2 : x1 * (B * B) ≤ x1 * (d * (m + B) + d) := Nat.mul_le_mul_left x1 (by omega)
  have p1' : x1 * (B * B - 1) ≤ x1 * (B * B) := Nat.mul_le_mul_left x1 (by omega)
  rw [Nat.mul_add] at p2
  have s1 : d * x0 ≤ B * x0 := Nat.mul_le_mul_right x0 (by omega)
  have l1 : d * (Q * B) = (Q * d) * B := by rw [← Nat.mul_assoc, Nat.mul_comm d Q]
  have l2 : x1 * (B * B) = (x1 * B) * B := by rw [Nat.mul_assoc]
  rw [l1] at d1 d3
  rw [l2] at p1' p2
  constructor
  · apply Nat.le_of_mul_le_mul_right (c := B) _ hB
    rw [Nat.add_mul, Nat.mul_comm x0 B]; omega
  · apply Nat.lt_of_mul_lt_mul_right (a := B)
    rw [Nat.add_mul, Nat.add_mul, Nat.add_mul]
    -- x0*B + x1*d ≤ d*x0 + B*B
    obtain ⟨e, rfl⟩ : ∃ e, B = d + e := ⟨B - d, by omega⟩
    have t1 : x0 * e ≤ (d + e) * e := Nat.mul_le_mul_right e (by omega)
    have t2 : x1 * d ≤ (d + e) * d := Nat.mul_le_mul_right d (by omega)
    have t3 : x0 * (d + e) = x0 * d + x0 * e := Nat.mul_add _ _ _
    have t4 : (d + e) * (d + e) = (d + e) * d + (d + e) * e := Nat.mul_add _ _ _
    have t5 : d * x0 = x0 * d := Nat.mul_comm _ _
    omega

/-- Quotient and remainder, known by what they are. -/
theorem quot_rem {X d Q r : Nat} (h : X = Q * d + r) (hr : r < d) : Q = X / d ∧ r = X % d := by
  have hd : 0 < d := by omega
  rw [Nat.mul_comm] at h
  constructor
  · rw [h, Nat.mul_add_div hd, Nat.div_eq_of_lt hr]; omega
  · rw [h, Nat.mul_add_mod, Nat.mod_eq_of_lt hr]

theorem scaled_div {X y k : Nat} (hk : 0 < k) : X * k / (y * k) = X / y := Nat.mul_div_mul_right X y hk
theorem scaled_mod {X y k : Nat} : X * k % (y * k) = X % y * k := Nat.mul_mod_mul_right k X y

/-- The 3-by-2 guess is the quotient's digit or one more. -/
theorem three_by_two {K V2 T vl ul : Nat} (hK : 0 < K) (hvl : vl < K) (hul : ul < K) (hV : 0 < V2) (hq : T / V2 ≤ V2) :
    (T * K + ul) / (V2 * K + vl) ≤ T / V2 ∧ T / V2 ≤ (T * K + ul) / (V2 * K + vl) + 1 := by
  have hv : 0 < V2 * K + vl := by have := Nat.mul_pos hV hK; omega
  constructor
  · rw [Nat.le_div_iff_mul_le hV]
    have h1 : (T * K + ul) / (V2 * K + vl) * (V2 * K + vl) ≤ T * K + ul := Nat.div_mul_le_self _ _
    generalize (T * K + ul) / (V2 * K + vl) = q at h1 ⊢
    rw [Nat.mul_add, ← Nat.mul_assoc] at h1
    have h2 : q * V2 * K < (T + 1) * K := by rw [Nat.add_mul]; omega
    have := Nat.lt_of_mul_lt_mul_right h2
    omega
  · generalize hQ : T / V2 = Q at hq ⊢
    have hT : Q * V2 ≤ T := by rw [← hQ]; exact Nat.div_mul_le_self _ _
    rcases Nat.eq_zero_or_pos Q with e | e
    · rw [e]; exact Nat.zero_le _
    · have : Q - 1 ≤ (T * K + ul) / (V2 * K + vl) := by
        rw [Nat.le_div_iff_mul_le hv]
        obtain ⟨k, rfl⟩ : ∃ k, Q = k + 1 := ⟨Q - 1, by omega⟩
        show k * (V2 * K + vl) ≤ _
        have a1 : (k + 1) * V2 * K ≤ T * K := Nat.mul_le_mul_right K hT
        have a2 : k * vl ≤ k * K := Nat.mul_le_mul_left k (by omega)
        have a3 : k * K ≤ V2 * K := Nat.mul_le_mul_right K (by omega)
        rw [Nat.add_mul, Nat.add_mul, Nat.one_mul] at a1
        rw [Nat.mul_add, ← Nat.mul_assoc]
        omega
      exact Nat.sub_le_iff_le_add.1 this

/-- Where the leading digits are one, the greatest digit is the quotient's or one more. -/
theorem top_equal {B P y vl ul : Nat} (hB : 2 ≤ B) (hy : B ≤ 2 * y) (hvl : vl < P) (hlt : y * (P * B) + ul < (y * P + vl) * B) (_hP : 0 < P) :
    (y * (P * B) + ul) / (y * P + vl) ≤ B - 1 ∧ B - 1 ≤ (y * (P * B) + ul) / (y * P + vl) + 1 := by
  have hv : 0 < y * P + vl := by
    rcases Nat.eq_zero_or_pos (y * P + vl) with e | e
    · rw [e] at hlt; simp at hlt
    · exact e
  constructor
  · have := Nat.div_lt_of_lt_mul hlt
    omega
  · have : B - 2 ≤ (y * (P * B) + ul) / (y * P + vl) := by
      rw [Nat.le_div_iff_mul_le hv]
      obtain ⟨k, rfl⟩ : ∃ k, B = k + 2 := ⟨B - 2, by omega⟩
      show k * (y * P + vl) ≤ _
      have a1 : k * vl ≤ k * P := Nat.mul_le_mul_left k (by omega)
      have a2 : k * P ≤ (2 * y) * P := Nat.mul_le_mul_right P (by omega)
      have a3 : 2 * y * P = y * P + y * P := by rw [Nat.mul_assoc, Nat.two_mul]
      have a4 : y * (P * (k + 2)) = k * (y * P) + (y * P + y * P) := by
        rw [← Nat.mul_assoc, Nat.mul_add, Nat.mul_two, Nat.mul_comm]
      rw [Nat.mul_add, a4]
      omega
    have h2 : B - 1 = (B - 2) + 1 := by omega
    rw [h2]
    exact Nat.succ_le_succ this

end Go.DivPl
