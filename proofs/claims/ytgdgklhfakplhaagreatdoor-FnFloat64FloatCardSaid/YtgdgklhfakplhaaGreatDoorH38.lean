/- Walks and lemmas for the laws of this seat. -/
import Derived.Test.YtgdgklhfakplhaaGreatDoorH28
import Derived.Test.YtgdgklhfakplhaaGreatDoorH15
import Derived.Deep.DeepCutAuto
namespace Go.Proofs.YtgdgklhfakplhaaGreatDoor
open Go.RowKit Go.Dig
set_option maxRecDepth 100000
theorem Wd.mono {w : World} {B B' n : Nat} {v : Value} (h : Wd w B v n) (hb : B' ≤ B) : Wd w B' v n := by
  rcases h with h | ⟨h0, g, hg, e, h⟩
  · exact .inl h
  · exact .inr ⟨h0, g, Nat.le_trans hb hg, e, h⟩
/-- The two numbers of a step of the greatest common divisor: the second is a word. -/
structure GP (W : World) (bz bA bq G b1 b2 n y : Nat) (v1 v2 : Value) : Prop where
  k1 : Blk W b1 #[.bool false, v1] 124
  k2 : Blk W b2 #[.bool false, v2] 124
  n1 : Nw W v1 n
  n2 : Nw W v2 y
  d1 : n < 18446744073709551616 → Wd W bA v1 n
  d2 : Wd W bA v2 y
  y0 : 0 < y
  yw : y < 18446744073709551616
  n0 : 0 < n
  l : (dg 18446744073709551616 n).length ≤ 900
  g : Nat.gcd n y = G
  r1 : bz < b1 ∧ b1 < bq
  r2 : bz < b2 ∧ b2 < bq
theorem blk_ne {w : World} {g b : Nat} {c c' : Array Value} {e e' : TypeId} (h : Blk w g c e) (h' : Blk w b c' e') (hne : e ≠ e') : g ≠ b := by
  intro h1
  subst h1
  have h2 := h.shape
  rw [h'.shape] at h2
  exact hne (congrArg (fun y => (y.getD (0, 0)).1) h2).symm
/-- Behind a step: two words, the second perhaps 0. -/
structure GE (w W : World) (bz bA G e1 e2 p q : Nat) (v1 v2 : Value) : Prop where
  k1 : Blk W e1 #[.bool false, v1] 124
  k2 : Blk W e2 #[.bool false, v2] 124
  d1 : Wd W bA v1 p
  n2 : Nw W v2 q
  p0 : 0 < p
  pw : p < 18446744073709551616
  qw : q < 18446744073709551616
  g : Nat.gcd p q = G
  r1 : bz < e1
  r2 : bz < e2
  b : Below bA w W
/-- At the end: the one word that is left. -/
structure GF (w W : World) (bz bA G e1 : Nat) (v1 : Value) : Prop where
  k1 : Blk W e1 #[.bool false, v1] 124
  n1 : Nw W v1 G
  w1 : G < 18446744073709551616
  r1 : bz < e1
  b : Below bA w W
theorem ncmp_word (vx vy : Value) (m n : Nat) (w : World) (hx : Nw w vx m) (hy : Nw w vy n) (hm : 0 < m) (hn : 0 < n) (hw : m < 18446744073709551616 ∨ n < 18446744073709551616) :
    Calls Tryz.prog 147 #[vx, vy] w fun e w' => e = .returned (.int .i64 (cmpI m n)) ∧ ∃ k, w' = w.drewN k := by
  by_cases h1 : m < 18446744073709551616
  · by_cases h2 : n < 18446744073709551616
    · exact ncmp_small vx vy m n w hx hy h1 h2
    · have hl : (dg 18446744073709551616 m).length < (dg 18446744073709551616 n).length := by
        rw [dg_one hm h1]
        rcases Nat.lt_or_ge [m].length (dg 18446744073709551616 n).length with h | h
        · exact h
        · have h3 := lt_pow_dg_length (b := 18446744073709551616) (by omega) n
          have h4 : 18446744073709551616 ^ (dg 18446744073709551616 n).length ≤ 18446744073709551616 ^ 1 := Nat.pow_le_pow_right (by omega) h
          omega
      refine (ncmp_len vx vy m n w hx hy (.inl (by omega))).mono ?_
      rintro e w' ⟨rfl, rfl⟩
      rw [if_pos hl, cmpI, if_pos (by omega)]
      exact ⟨rfl, 0, rfl⟩
  · have h2 : n < 18446744073709551616 := by omega
    have hl : (dg 18446744073709551616 n).length < (dg 18446744073709551616 m).length := by
      rw [dg_one hn h2]
      rcases Nat.lt_or_ge [n].length (dg 18446744073709551616 m).length with h | h
      · exact h
      · have h3 := lt_pow_dg_length (b := 18446744073709551616) (by omega) m
        have h4 : 18446744073709551616 ^ (dg 18446744073709551616 m).length ≤ 18446744073709551616 ^ 1 := Nat.pow_le_pow_right (by omega) h
        omega
    refine (ncmp_len vx vy m n w hx hy (.inl (by omega))).mono ?_
    rintro e w' ⟨rfl, rfl⟩
    rw [if_neg (by omega), if_pos hl, cmpI, if_neg (by omega), if_neg (by omega)]
    exact ⟨rfl, 0, rfl⟩
set_option maxHeartbeats 1000000 in
/-- The greatest common divisor of two numbers of which one is a word. -/
theorem lehmer_word (bz bx P D : Nat) (vP vD : Value) (cx : Array Value) (tx : TypeId) (w : World) (hz : Blk w bz #[.bool false, .slice none 0 0] 124) (hx : Blk w bx cx tx) (h0 : cx[0]? = some (.bool false)) (h1 : cx[1]? = some vP) (h2 : cx[2]? = some (.bool false)) (h3 : cx[3]? = some vD) (hP : Nw w vP P) (hD : Nw w vD D) (hlP : (dg 18446744073709551616 P).length ≤ 900) (hlD : (dg 18446744073709551616 D).length ≤ 900) (hP0 : 0 < P) (hD0 : 0 < D) (hw : P < 18446744073709551616 ∨ D < 18446744073709551616) (hne : bx ≠ bz) :
    Calls Tryz.prog 136 #[.pointer (some ⟨bz, 0, none⟩), .pointer none, .pointer none, .pointer (some ⟨bx, 0, none⟩), .pointer (some ⟨bx, 2, none⟩)] w fun e w' => e = .returned (.pointer (some ⟨bz, 0, none⟩)) ∧ Iv w' bz false (Nat.gcd P D) ∧ Below bz w w' := by
  have HZ := hid hz
  have HX := hid hx
  have HP := hid hP
  have HD := hid hD
  have HC := hid (And.intro h0 (And.intro h1 (And.intro h2 h3)))
  have HL := hid (And.intro hlP hlD)
  have HPD := hid (And.intro hP0 hD0)
  have HW := hid hw
  have HNE := hid hne
  clear hz hx hP hD h0 h1 h2 h3 hlP hlD hP0 hD0 hw hne
  go_enter Tryz.func136, Tryz.ntmps136
  go_wp2_with fail
  -- Abs of the first
  have HA0 := hid (blk_new w #[.bool false, .slice none 0 0] 124)
  have HE0 : Hid (Below w.heap.size w (w.alloc (.cells #[.bool false, .slice none 0 0] 124))) := (Below.refl _ _).alloc (Nat.le_refl _) _
  have HX0 := hid (HX.out.alloc (.cells #[.bool false, .slice none 0 0] 124))
  refine (intAbs_new w.heap.size bx 0 P false vP cx tx _ HA0.out HX0.out HC.out.1 HC.out.2.1 (HP.out.below HE0.out (Nat.le_refl _)) HL.out.1 (by have := HX.out.lt; omega)).mono ?_
  rintro e w1 ⟨rfl, ⟨vA, hA, hnA, hdA⟩, F1⟩
  have FA : Fr1 w w1 w.heap.size := (Fr1.of_below (Nat.le_refl _) HE0.out).trans F1
  have HA1 := hid hA
  have HNA1 := hid hnA
  have HDA1 := hid hdA
  have HX1 := hid (FA.kept _ _ _ HX.out (by have := HX.out.lt; omega))
  have HZ1 := hid (FA.kept _ _ _ HZ.out (by have := HZ.out.lt; omega))
  have HD1 := hid (FA.nw _ _ HD.out)
  have HFA := hid FA
  have HlA : Hid (w.heap.size < w1.heap.size) := hid hA.lt
  clear hA hnA hdA F1 FA HA0 HX0 HE0
  obtain ⟨aA, lA, cA, rfl, _⟩ := nw_shape HNA1.out
  generalize hA0 : w.heap.size = bA at *
  focus go_wp2_with fail
  -- Abs of the second
  have HB0 := hid (blk_new w1 #[.bool false, .slice none 0 0] 124)
  have HE1 : Hid (Fr1 w1 (w1.alloc (.cells #[.bool false, .slice none 0 0] 124)) w1.heap.size) := hid (Fr1.of_below (Nat.le_refl _) ((Below.refl _ _).alloc (Nat.le_refl _) _))
  refine (intAbs_new w1.heap.size bx 2 D false vD cx tx _ HB0.out (HX1.out.alloc _) HC.out.2.2.1 HC.out.2.2.2 (HE1.out.nw _ _ HD1.out) HL.out.2 (by have := HX1.out.lt; omega)).mono ?_
  rintro e w2 ⟨rfl, ⟨vB, hB, hnB, hdB⟩, F2⟩
  have FB : Fr1 w1 w2 w1.heap.size := HE1.out.trans F2
  have HB2 := hid hB
  have HNB2 := hid hnB
  have HDB2 := hid hdB
  have HA2 := hid (FB.kept _ _ _ HA1.out (by have := HlA.out; omega))
  have HNA2 := hid (FB.nw _ _ HNA1.out)
  have HDA2 := hid (fun h => FB.wd _ _ _ (HDA1.out h))
  have HZ2 := hid (FB.kept _ _ _ HZ1.out (by have := HZ1.out.lt; omega))
  have HK2 : Hid (Below bA w w2) := hid (HFA.out.below.trans (FB.below.mono (by have := HlA.out; omega)))
  have HlB : Hid (w1.heap.size < w2.heap.size) := hid hB.lt
  clear hB hnB hdB F2 FB HB0 HE1 HA1 HNA1 HDA1 HX1 HZ1 HD1 HFA HP HD
  have HCX := HC
  clear HC
  obtain ⟨aB, lB, cB, rfl, _⟩ := nw_shape HNB2.out
  generalize hB0 : w1.heap.size = bB at *
  focus go_wp2_with fail
  have HE3 : Hid (Below w2.heap.size w2 ((w2.alloc (.cells #[.bool false, .slice none 0 0] 124)).alloc (.cells #[.bool false, .slice none 0 0] 124))) := ((Below.refl _ _).alloc (Nat.le_refl _) _).alloc (by simp) _
  have HQ3 := hid ((blk_new w2 #[.bool false, .slice none 0 0] 124).alloc (.cells #[.bool false, .slice none 0 0] 124))
  have HR3 : Hid (Blk ((w2.alloc (.cells #[.bool false, .slice none 0 0] 124)).alloc (.cells #[.bool false, .slice none 0 0] 124)) (w2.heap.size + 1) #[.bool false, .slice none 0 0] 124) := by
    have := blk_new (w2.alloc (.cells #[.bool false, .slice none 0 0] 124)) #[.bool false, .slice none 0 0] 124
    refine hid ?_
    simpa using this
  have F3 := Fr1.of_below (Nat.le_refl _) HE3.out
  have HA3 := hid (HA2.out.below HE3.out HA2.out.lt)
  have HB3 := hid (HB2.out.below HE3.out HB2.out.lt)
  have HZ3 := hid (HZ2.out.below HE3.out HZ2.out.lt)
  have HNA3 := hid (F3.nw _ _ HNA2.out)
  have HNB3 := hid (F3.nw _ _ HNB2.out)
  have HDA3 := hid (fun h => F3.wd _ _ _ (HDA2.out h))
  have HDB3 := hid (fun h => F3.wd _ _ _ (HDB2.out h))
  have HK3 := hid (HK2.out.trans (HE3.out.mono (by have := HlA.out; have := HlB.out; omega)))
  have HO : Hid (bA < bB ∧ bB < w2.heap.size ∧ bz < bA) := hid ⟨HlA.out, HlB.out, by have := HZ.out.lt; omega⟩
  clear HE3 F3 HA2 HB2 HZ2 HNA2 HNB2 HDA2 HDB2 HK2 HlA HlB
  generalize (w2.alloc (.cells #[.bool false, .slice none 0 0] 124)).alloc (.cells #[.bool false, .slice none 0 0] 124) = W at *
  generalize w2.heap.size = bq at *
  have hAc := HA3.out.cell 1
  have hBc := HB3.out.cell 1
  simp only [List.getElem?_toArray, List.getElem?_cons_zero, List.getElem?_cons_succ] at hAc hBc
  have HC := hid (fun k => ncmp_word _ _ P D (W.drewN k) (HNA3.out.below (below_drewN' k) (Nat.le_refl _)) (HNB3.out.below (below_drewN' k) (Nat.le_refl _)) HPD.out.1 HPD.out.2 HW.out)
  go_quiet ((go_at_call 147; exact Calls.quiet_of (HC.out _)))
  clear hAc hBc HC
  focus go_upto_if 60 with fail
  have HE4 : Hid (Below W.heap.size W (W.drewN nq)) := hid (below_drewN' nq)
  have F4 := Fr1.of_below (Nat.le_refl _) HE4.out
  have HQ4 := hid (HQ3.out.below HE4.out HQ3.out.lt)
  have HR4 := hid (HR3.out.below HE4.out HR3.out.lt)
  have HA4 := hid (HA3.out.below HE4.out HA3.out.lt)
  have HB4 := hid (HB3.out.below HE4.out HB3.out.lt)
  have HZ4 := hid (HZ3.out.below HE4.out HZ3.out.lt)
  have HNA4 := hid (F4.nw _ _ HNA3.out)
  have HNB4 := hid (F4.nw _ _ HNB3.out)
  have HDA4 := hid (fun h => (F4.wd _ _ _ (HDA3.out h)).mono (B' := bA) (by have := HO.out; simp; omega))
  have HDB4 := hid (fun h => (F4.wd _ _ _ (HDB3.out h)).mono (B' := bA) (by have := HO.out; simp; omega))
  have HK4 := hid (HK3.out.trans (HE4.out.mono (by have := HQ3.out.lt; have := HO.out; omega)))
  clear HE4 F4 HQ3 HR3 HA3 HB3 HZ3 HNA3 HNB3 HDA3 HDB3 HK3
  generalize W.drewN nq = W4 at *
  go_cut [11, 12, 13, 14] (fun p q u u' wx => ∃ b1 b2 n y v1 v2, p = .pointer (some ⟨b1, 0, none⟩) ∧ q = .pointer (some ⟨b2, 0, none⟩) ∧ u = .pointer none ∧ u' = .pointer none ∧ Hid (GP W4 bz bA bq (Nat.gcd P D) b1 b2 n y v1 v2) ∧ wx = W4)
  case first =>
    as_aux_lemma =>
      by_cases hlt : P < D
      · have hc : cmpI P D < 0 := by rw [cmpI, if_pos hlt]; omega
        go_wp2_with fail
        go_meet
        have hPw : P < 18446744073709551616 := by have := HW.out; omega
        exact ⟨bB, bA, D, P, _, _, rfl, rfl, rfl, rfl, hid ⟨HB4.out, HA4.out, HNB4.out, HNA4.out, HDB4.out, HDA4.out hPw, HPD.out.1, hPw, HPD.out.2, HL.out.2, Nat.gcd_comm D P, by have := HO.out; omega, by have := HO.out; omega⟩, rfl⟩
      · have hc : ¬ cmpI P D < 0 := by rw [cmpI, if_neg hlt]; split <;> omega
        go_wp2_with fail
        go_meet
        have hDw : D < 18446744073709551616 := by have := HW.out; omega
        exact ⟨bA, bB, P, D, _, _, rfl, rfl, rfl, rfl, hid ⟨HA4.out, HB4.out, HNA4.out, HNB4.out, HDA4.out, HDB4.out hDw, HPD.out.2, hDw, HPD.out.1, HL.out.1, rfl, by have := HO.out; omega, by have := HO.out; omega⟩, rfl⟩
  case rest =>
    obtain ⟨b1, b2, n, y, v1, v2, rfl, rfl, rfl, rfl, HG, rfl⟩ := hcut
    clear HA4 HB4 HNA4 HNB4 HDA4 HDB4
    obtain ⟨a1, l1, c1, rfl, hl1⟩ := nw_shape HG.out.n1
    obtain ⟨a2, l2, c2, rfl, hl2⟩ := nw_shape HG.out.n2
    have hl2' : l2 = 1 := by rw [hl2.out, dg_one HG.out.y0 HG.out.yw]; rfl
    subst hl2'
    have k2 := HG.out.k2.cell 1
    have k1 := HG.out.k1.cell 1
    simp only [List.getElem?_toArray, List.getElem?_cons_zero, List.getElem?_cons_succ] at k1 k2
    go_wp2_with fail
    go_loopw [11, 12, 13, 14, 17] (fun p q u u' r wr => p = .pointer (some ⟨b1, 0, none⟩) ∧ q = .pointer (some ⟨b2, 0, none⟩) ∧ u = .pointer none ∧ u' = .pointer none ∧ r = .pointer (some ⟨bq + 1, 0, none⟩) ∧ wr = wc) (fun _ _ _ _ _ _ => 0)
    case atStart => exact ⟨rfl, rfl, rfl, rfl, rfl, rfl⟩
    case round =>
      obtain ⟨rfl, rfl, rfl, rfl, rfl, rfl⟩ := hrel
      focus go_upto_if 128 with fail
      go_cut [11, 12, 13, 14, 17] (fun p q u u' r wx => ∃ e1 e2 p2 q2 x1 x2, p = .pointer (some ⟨e1, 0, none⟩) ∧ q = .pointer (some ⟨e2, 0, none⟩) ∧ u = .pointer none ∧ u' = .pointer none ∧ Hid (GE w wx bz bA (Nat.gcd P D) e1 e2 p2 q2 x1 x2))
      case first =>
        as_aux_lemma =>
          by_cases h1 : 1 < l1
          · have h1' : decide ((1 : Int) < (l1 : Int)) = true := decide_eq_true (by omega)
            have HE := euclid_word bq b1 b2 (bq + 1) n y _ _ wr HQ4.out HR4.out HG.out.k1 HG.out.k2 HG.out.n1 HG.out.n2 (by have := HG.out.r1; have := HG.out.r2; omega) (by rw [← hl1.out]; exact h1) HG.out.l HG.out.y0 HG.out.yw
            go_wp2_with fail
            refine HE.mono ?_
            rintro e w5 ⟨rfl, g1, g2, ⟨x2, g3, g4⟩, g5, g6⟩
            have HGE : Hid (GE w w5 bz bA (Nat.gcd P D) b2 (bq + 1) y (n % y) (.slice a2 1 c2) x2) := by
              refine hid ⟨g1, g3, ?_, g4, HG.out.y0, HG.out.yw, Nat.lt_trans (Nat.mod_lt _ HG.out.y0) HG.out.yw, ?_, HG.out.r2.1, by have := HG.out.r2; omega, HK4.out.trans (g5 bA (by have := HO.out; omega) (by have := HO.out; omega))⟩
              · rcases HG.out.d2 with h | ⟨h0, g, hg, e, h⟩
                · exact .inl h
                · exact .inr ⟨h0, g, hg, e, g6 _ _ _ h (blk_ne h HQ4.out (by decide)) (blk_ne h HR4.out (by decide))⟩
              · rw [Nat.gcd_comm, ← HG.out.g, Nat.gcd_comm n y, ← Nat.gcd_rec]
            clear g1 g2 g3 g4 g5 g6 HE
            go_wp2_with fail
            go_meet
            exact ⟨b2, bq + 1, y, n % y, _, x2, rfl, rfl, rfl, rfl, HGE⟩
          · have h1' : decide ((1 : Int) < (l1 : Int)) = false := decide_eq_false (by omega)
            have hnw : n < 18446744073709551616 := by
              have h3 := lt_pow_dg_length (b := 18446744073709551616) (by omega) n
              have h4 : 18446744073709551616 ^ (dg 18446744073709551616 n).length ≤ 18446744073709551616 ^ 1 := Nat.pow_le_pow_right (by omega) (by rw [← hl1.out]; omega)
              omega
            go_wp2_with fail
            go_meet
            exact ⟨b1, b2, n, y, _, _, rfl, rfl, rfl, rfl, hid ⟨HG.out.k1, HG.out.k2, HG.out.d1 hnw, HG.out.n2, HG.out.n0, hnw, HG.out.yw, HG.out.g, HG.out.r1.1, HG.out.r2.1, HK4.out⟩⟩
      case rest =>
        obtain ⟨e1, e2, p2, q2, x1, x2, rfl, rfl, rfl, rfl, HGE⟩ := hcut
        clear HG HQ4 HR4 hl1 hl2 k1 k2
        rcases HGE.out.d1 with ⟨h0, _⟩ | ⟨_, g, hg, rfl, hgB⟩
        · exact absurd h0 (by have := HGE.out.p0; omega)
        obtain ⟨a2', l2', c2', rfl, hl2⟩ := nw_shape HGE.out.n2
        have HGB := hid hgB
        clear hgB
        have k2 := HGE.out.k2.cell 1
        have k1 := HGE.out.k1.cell 1
        simp only [List.getElem?_toArray, List.getElem?_cons_zero, List.getElem?_cons_succ] at k1 k2
        focus go_upto_if 148 with fail
        go_cut [23, 24] (fun _ _ wx => Hid (GF w wx bz bA (Nat.gcd P D) e1 (.slice (some ⟨g, 0, none⟩) 1 1)))
        case first =>
          as_aux_lemma =>
            rcases Nat.eq_zero_or_pos q2 with hq | hq
            · have hl0 : l2' = 0 := by rw [hl2.out, hq, dg_zero]; rfl
              subst hl0
              go_wp2_with fail
              go_meet
              have hG : p2 = Nat.gcd P D := by rw [← HGE.out.g, hq, Nat.gcd_zero_right]
              have hN := HGE.out.d1.nw HGE.out.pw
              rw [hG] at hN
              exact hid ⟨HGE.out.k1, hN, by rw [← hG]; exact HGE.out.pw, HGE.out.r1, HGE.out.b⟩
            · have hl1 : l2' = 1 := by rw [hl2.out, dg_one hq HGE.out.qw]; rfl
              subst hl1
              obtain ⟨b4, o4, rfl, hk4⟩ : ∃ b4 o4, a2' = some ⟨b4, o4, none⟩ ∧ wc.cell? ⟨b4, o4, none⟩ = some (.int .u64 (q2 : Nat)) := by
                obtain ⟨a, cap, e, _, _, h⟩ := HGE.out.n2
                rw [dg_one hq HGE.out.qw] at e h
                injection e with e1 e2 e3
                subst e1
                obtain ⟨b4, o4, rfl, _, hc⟩ := h (by simp)
                exact ⟨b4, o4, rfl, by simpa using hc 0 (by simp)⟩
              have hk3 := HGB.out.at (i := 0) (by simp)
              simp only [List.getD_cons_zero] at hk3
              go_wp2_with fail
              go_quiet (fail)
              have k5 : ∃ k, wc.drewN nq = wc.drewN k := ⟨nq, rfl⟩
              generalize wc.drewN nq = wq at *
              clear k1 k2 hk3 hk4
              focus go_wp2_with fail
              go_loopw [23, 24] (fun p q wr => ∃ x y' k : Nat, p = .int .u64 x ∧ q = .int .u64 y' ∧ 0 < x ∧ x < 18446744073709551616 ∧ y' < 18446744073709551616 ∧ Hid (Nat.gcd x y' = Nat.gcd P D) ∧ Hid (wr = wc.drewN k)) (fun _ q _ => (intOf q).toNat)
              case atStart =>
                obtain ⟨k, hk⟩ := k5
                exact ⟨p2, q2, k, rfl, rfl, HGE.out.p0, HGE.out.pw, HGE.out.qw, hid HGE.out.g, hid hk⟩
              case round =>
                obtain ⟨x, y', k, rfl, rfl, hx0, hxw, hyw, HGG, HWR⟩ := hrel
                rcases Nat.eq_zero_or_pos y' with hy | hy
                · subst hy
                  have k1 : wr.cell? ⟨e1, 1, none⟩ = some (.slice (some ⟨g, 0, none⟩) 1 1) := by rw [HWR.out]; exact HGE.out.k1.cell 1
                  have k3 : wr.cell? ⟨g, 0, none⟩ = some (.int .u64 ((p2 : Nat) : Int)) := by rw [HWR.out]; exact HGB.out.at (i := 0) (by simp)
                  have f3 : wr.frozen? ⟨g, 0, none⟩ = false := by rw [HWR.out]; exact Blk.frozen HGB.out 0
                  go_wp2_with fail
                  go_meet
                  have hG : x = Nat.gcd P D := by rw [← HGG.out, Nat.gcd_zero_right]
                  have HBL : Below wc.heap.size wc wr := by rw [HWR.out]; exact below_drewN' k
                  have hB2 : BlkN .u64 181 (wr.setCell ⟨g, 0, none⟩ (.int .u64 (x : Int))) g [x] := BlkN.put (Blk.below HGB.out HBL HGB.out.lt) 0 x
                  have hr := BlkN.rt hB2 (cap := 1) (by simp) (by omega)
                  refine hid ⟨(HGE.out.k1.below HBL HGE.out.k1.lt).far1 (blk_ne HGE.out.k1 HGB.out (by decide)) _, ?_, by rw [← hG]; exact hxw, HGE.out.r1, Below.setCell (p := ⟨g, 0, none⟩) (HGE.out.b.trans (HBL.mono (by have := HGB.out.lt; omega))) hg _⟩
                  rw [Nw, ← hG, dg_one hx0 hxw]
                  exact hr
                · have y0 : ((y' : Int) != 0) = true := by simp; omega
                  have yn : (y' : Int) ≠ 0 := by omega
                  have yn2 : ¬ y' = 0 := by omega
                  have hm : x % y' < y' := Nat.mod_lt _ hy
                  have HGR : Hid (Nat.gcd y' (x % y') = Nat.gcd P D) := hid (by rw [← HGG.out, Nat.gcd_comm x y', Nat.gcd_rec y' x, Nat.gcd_comm])
                  have t2 : Int.tmod (x : Int) (y' : Int) = ((x % y' : Nat) : Int) := by
                    rw [Int.tmod_eq_emod_of_nonneg (by omega)]; simp
                  have t3 := wrapN' (x % y') (by omega)
                  generalize x % y' = z' at *
                  go_wp2_with fail
                  go_quiet (fail)
                  go_wp2_with fail
                  exact ⟨⟨y', z', k + nq, rfl, rfl, hy, hyw, by omega, HGR, hid (by rw [HWR.out, World.drewN_drewN])⟩, by simp [intOf]; omega⟩
        case rest =>
          as_aux_lemma =>
            have HGF := hcut
            clear hcut HGE HGB k1 k2
            have HX5 := hid (Blk.below HX.out HGF.out.b (by have := HX.out.lt; omega))
            have HZ5 := hid (Blk.below HZ.out HGF.out.b (by have := HZ.out.lt; omega))
            have ka := (HX5.out.cell 0).trans HCX.out.1
            have hlG : (dg 18446744073709551616 (Nat.gcd P D)).length ≤ 900 := by
              have := dg_length_le (b := 18446744073709551616) (n := Nat.gcd P D) (k := 1) (by omega) (by have := HGF.out.w1; omega)
              omega
            have HSS := hid (intSet_new bz 0 e1 0 (Nat.gcd P D) false false _ _ _ 124 124 wc HZ5.out rfl rfl HGF.out.k1 rfl rfl HGF.out.n1 hlG (by have := HGF.out.r1; omega))
            clear hlG
            go_wp2_with fail
            refine HSS.out.mono ?_
            rintro e w9 ⟨rfl, v, w10, hb, hv, _, hw9⟩
            have HI : Hid (Iv w9 bz false (Nat.gcd P D)) := by
              refine hid ⟨v, ?_, ?_⟩
              · rw [hw9]; exact put_blk HZ5.out hb
              · rw [hw9]; exact put_nw HZ5.out hb hv
            have HBB : Hid (Below bz w w9) := by
              refine hid ?_
              rw [hw9]
              exact Below.setCell (p := ⟨bz, 0, none⟩) (Below.setCell (p := ⟨bz, 0 + 1, none⟩) (show Below bz w w10 from (HGF.out.b.mono (show bz ≤ bA by have := HO.out; omega)).trans (hb.mono (show bz ≤ wc.heap.size by have := HZ5.out.lt; omega))) (Nat.le_refl _) _) (Nat.le_refl _) _
            clear hb hv hw9
            go_wp2_with fail
            go_ret
            exact ⟨rfl, HI.out, HBB.out⟩
end Go.Proofs.YtgdgklhfakplhaaGreatDoor
