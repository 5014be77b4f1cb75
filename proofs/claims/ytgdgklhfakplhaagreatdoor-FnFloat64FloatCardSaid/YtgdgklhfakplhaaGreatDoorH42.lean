/- Walks and lemmas for the laws of this seat. -/
import Derived.Test.YtgdgklhfakplhaaGreatDoorH40
import Derived.Test.YtgdgklhfakplhaaGreatDoorH28
import Derived.Test.YtgdgklhfakplhaaGreatDoorH34
import Derived.Test.YtgdgklhfakplhaaGreatDoorH41
import Derived.Deep.CutBlock
namespace Go.Proofs.YtgdgklhfakplhaaGreatDoor
open Go.RowKit Go.Dig
set_option maxRecDepth 100000
theorem or_top (M : Nat) (h : M < 4503599627370496) : bits .or .u64 (M : Int) 4503599627370496 = ((M + 4503599627370496 : Nat) : Int) := by
  have h1 := bits_or_u64_nat M 4503599627370496 (by omega) (by omega)
  have h2 : M ||| 4503599627370496 = M + 4503599627370496 := by
    rw [Nat.or_comm, show (4503599627370496 : Nat) = 1 <<< 52 from rfl, ← Nat.shiftLeft_add_eq_or_of_lt (show M < 2 ^ 52 from h), Nat.add_comm]
  rw [h2] at h1
  exact h1
theorem band1 (z : Nat) (h : z < 18446744073709551616) : bits .and .u64 (z : Int) 1 = ((z % 2 : Nat) : Int) := by
  rw [u64_and _ 1 (by omega) (by omega) (by omega) (by omega), show (1 : Int).toNat = 2 ^ 1 - 1 from rfl, Nat.and_two_pow_sub_one_eq_mod]
  simp
theorem put4_b {w w1 : World} {b : Nat} {v v0 vA : Value} {s : Bool} (hz : Blk w b #[.bool s, vA, .bool false, v0] 133) (hb : Below w.heap.size w w1) : Blk ((w1.setCell ⟨b, 2 + 1, none⟩ v).setCell ⟨b, 2, none⟩ (.bool false)) b #[.bool s, vA, .bool false, v] 133 := by
  have h1 := hz.below hb hz.lt
  have := (h1.set 3 v).set 2 (.bool false)
  simpa using this
theorem put4_a {w w1 : World} {b : Nat} {v v0 vD : Value} {s : Bool} (hz : Blk w b #[.bool s, v0, .bool false, vD] 133) (hb : Below w.heap.size w w1) : Blk ((w1.setCell ⟨b, 0 + 1, none⟩ v).setCell ⟨b, 0, none⟩ (.bool s)) b #[.bool s, v, .bool false, vD] 133 := by
  have h1 := hz.below hb hz.lt
  have := (h1.set 1 v).set 0 (.bool s)
  simpa using this
theorem put4_nw {w w1 : World} {b i j n : Nat} {c : Array Value} {v v2 x : Value} (hz : Blk w b c 133) (hb : Below w.heap.size w w1) (hv : Nw w1 v2 n) : Nw ((w1.setCell ⟨b, i, none⟩ v).setCell ⟨b, j, none⟩ x) v2 n := by
  have h1 := hz.below hb hz.lt
  exact (hv.set (p := ⟨b, i, none⟩) v h1.shape (by decide)).set (p := ⟨b, j, none⟩) x (by rw [shape_setCell]; exact h1.shape) (by decide)
theorem lsh_wd (B m s : Nat) (v : Value) (w : World) (hv : Wd w B v m) (hm0 : m ≠ 0) (hm : m < 18446744073709551616) (hs : s < 2000) : Calls Tryz.prog 110 #[v, v, .int .u64 s] w fun e w' => ∃ v', e = .returned v' ∧ Nw w' v' (m * 2 ^ s) ∧ Below w.heap.size w w' := by
  rcases Nat.eq_zero_or_pos s with h | h
  · subst h
    refine (lsh_zero B m v w hv).mono ?_
    rintro e w' ⟨v', rfl, ⟨rfl, h2⟩, hb⟩
    exact ⟨_, rfl, by rw [Nat.pow_zero, Nat.mul_one]; exact h2.nw hm, hb⟩
  · rcases hv with ⟨h0, _⟩ | ⟨_, g, _, rfl, hg⟩
    · exact absurd h0 hm0
    · exact lsh_one g m s hm hm0 h hs w hg
theorem word_len {n : Nat} (h : n < 18446744073709551616) : (dg 18446744073709551616 n).length ≤ 900 := by
  have := dg_length_le (b := 18446744073709551616) (n := n) (k := 1) (by omega) (by omega)
  omega
theorem pow64_gen {m k K : Nat} (hm : m < 9007199254740992) (hK : 53 + k ≤ 64 * K) : m * 2 ^ k < 18446744073709551616 ^ K := by
  calc m * 2 ^ k < 2 ^ 53 * 2 ^ k := Nat.mul_lt_mul_of_pos_right hm (Nat.two_pow_pos k)
    _ = 2 ^ (53 + k) := by rw [Nat.pow_add]
    _ ≤ 2 ^ (64 * K) := Nat.pow_le_pow_right (by omega) hK
    _ = 18446744073709551616 ^ K := by rw [Nat.pow_mul]
theorem pow_len' {m : Nat} (k : Nat) (hm : m < 9007199254740992) (hk : k ≤ 1100) : (dg 18446744073709551616 (m * 2 ^ k)).length ≤ 900 := by
  have h1 := pow64_gen (K := 20) hm (show 53 + k ≤ 64 * 20 by omega)
  have := dg_length_le (b := 18446744073709551616) (by omega) h1
  omega
theorem pow_len (k : Nat) (hk : k ≤ 1100) : (dg 18446744073709551616 (2 ^ k)).length ≤ 900 := by
  have := pow_len' (m := 1) k (by omega) hk
  rwa [Nat.one_mul] at this
set_option maxHeartbeats 8000000 in
theorem setFloat_any (bx x : Nat) (w : World) (hx : x < 18446744073709551616) (hf : x % 9223372036854775808 < 9218868437227405312) (hB : Blk w bx #[.bool false, .slice none 0 0, .bool false, .slice none 0 0] 133) :
    Calls Tryz.prog 49 #[.pointer (some ⟨bx, 0, none⟩), .float .f64 x] w fun e w' => ∃ P D vP vD, e = .returned (.pointer (some ⟨bx, 0, none⟩)) ∧ Hid (P = ofM x * 2 ^ (ofE x).toNat / Nat.gcd (ofM x * 2 ^ (ofE x).toNat) (2 ^ (-ofE x).toNat) ∧ D = 2 ^ (-ofE x).toNat / Nat.gcd (ofM x * 2 ^ (ofE x).toNat) (2 ^ (-ofE x).toNat) ∧ Nat.gcd P D = 1) ∧ Blk w' bx #[.bool (decide (9223372036854775808 ≤ x) && decide (P ≠ 0)), vP, .bool false, vD] 133 ∧ Nw w' vP P ∧ Nw w' vD D ∧ Below bx w w' := by
  have hb1 := f64bits_z x
  have e1 := band_exp x hx
  have e2 := band52 (x : Int) (by omega) (by omega)
  have hE : x / 4503599627370496 % 2048 < 2047 := by omega
  have hM : x % 4503599627370496 < 4503599627370496 := Nat.mod_lt _ (by omega)
  have e3 : (x : Int) % 4503599627370496 = ((x % 4503599627370496 : Nat) : Int) := by omega
  rw [e3] at e2
  have HMZ : Hid (x / 4503599627370496 % 2048 = 0 → ofM x = x % 4503599627370496 ∧ ofE x = -1074) := hid fun h => ⟨by simp only [ofM, h]; simp, by simp only [ofE, h]; simp⟩
  have HMN : Hid (0 < x / 4503599627370496 % 2048 → ofM x = x % 4503599627370496 + 4503599627370496 ∧ ofE x = ((x / 4503599627370496 % 2048 : Nat) : Int) - 1 - 1074) := hid fun h => ⟨by simp only [ofM]; rw [if_pos h], by simp only [ofE]; rw [if_pos h]⟩
  have HZ0 : Hid (x % 9223372036854775808 = 0 → ofM x = 0) := hid fun h => by
    have h1 : ¬ 0 < x / 4503599627370496 % 2048 := by omega
    simp only [ofM]
    rw [if_neg h1]
    omega
  have HZ1 : Hid (0 ≤ ofE x → ofM x ≠ 0) := hid fun h => by
    simp only [ofE] at h
    simp only [ofM]
    split at h
    · rename_i h1; rw [if_pos h1]; omega
    · omega
  have hm0 := ofM_lt x
  have he0 := ofE_bd x
  have HO := hid (Go.Fl.order_zero hx hf)
  have HBX := hid hB
  have e4 := or_top (x % 4503599627370496) hM
  clear hB
  generalize x / 4503599627370496 % 2048 = E at *
  generalize x % 4503599627370496 = M at *
  generalize ofM x = m0 at *
  generalize ofE x = ee at *
  have n1 : ((E : Int) == 2047) = false := by simp; omega
  go_enter Tryz.func49, Tryz.ntmps49
  go_upto_block 0 with fail
  go_cut [6, 7] (fun v6 v7 wx => v6 = .int .u64 (m0 : Nat) ∧ v7 = .int .i64 (52 + ee) ∧ wx = w)
  case first =>
    as_aux_lemma =>
      rcases Nat.eq_zero_or_pos E with h | h
      · obtain ⟨q1, q2⟩ := HMZ.out h
        subst q1 q2
        subst h
        go_wp2_with fail
        go_meet
        exact ⟨rfl, by go_num, rfl⟩
      · obtain ⟨q1, q2⟩ := HMN.out h
        have n2 : ((E : Int) == 0) = false := by simp; omega
        subst q2
        have e5 : bits .or .u64 (M : Int) 4503599627370496 = (m0 : Int) := by rw [e4, q1]
        clear e4
        have q3 := hid q1
        clear q1
        go_wp2_with fail
        go_meet
        exact ⟨rfl, by go_num, rfl⟩
  case rest =>
    obtain ⟨rfl, rfl, rfl⟩ := hcut
    clear e1 e2 e3 e4 hb1 n1 HMZ HMN hE hM
    have s1 : (52 : Int) - (52 + ee) = -ee := by omega
    go_upto_block 1 with fail
    go_cut [6, 8] (fun v6 v8 wx => ∃ (m : Nat) (sh : Int), v6 = .int .u64 m ∧ v8 = .int .i64 sh ∧ m < 9007199254740992 ∧ -972 ≤ sh ∧ sh ≤ 1074 ∧ Hid (Go.Pn.Kept m0 ee m sh) ∧ Hid (m % 2 = 1 ∨ sh ≤ 0) ∧ wx = wc)
    case first =>
      as_aux_lemma =>
        go_wp2_with fail
        go_loopw [6, 8] (fun v6 v8 wr => ∃ (m : Nat) (sh : Int), v6 = .int .u64 m ∧ v8 = .int .i64 sh ∧ m < 9007199254740992 ∧ -972 ≤ sh ∧ sh ≤ 1074 ∧ Hid (Go.Pn.Kept m0 ee m sh) ∧ wr = wc) (fun _ v8 _ => (intOf v8 + 1000).toNat)
        case atStart => exact ⟨m0, -ee, rfl, rfl, hm0, by omega, by omega, hid (Go.Pn.kept_start _ _), rfl⟩
        case round =>
          obtain ⟨m, sh, rfl, rfl, hm, hs1, hs2, HK, rfl⟩ := hrel
          have b1 := band1 m (by omega)
          by_cases hodd : m % 2 = 0
          · rw [hodd] at b1
            by_cases hsh : 0 < sh
            · have c1 : decide (0 < sh) = true := decide_eq_true hsh
              have HS := hid (Go.Pn.kept_step HK.out hodd hsh)
              have HO2 := hid hodd
              clear hodd
              go_wp2_with fail
              refine ⟨⟨m / 2, sh - 1, by go_num, rfl, by omega, by omega, by omega, HS, trivial⟩, by simp [intOf]; omega⟩
            · have c1 : decide (0 < sh) = false := decide_eq_false hsh
              have HO2 := hid hodd
              clear hodd
              go_wp2_with fail
              go_meet
              exact ⟨m, sh, rfl, rfl, hm, hs1, hs2, HK, hid (.inr (by omega)), rfl⟩
          · have hm1 : m % 2 = 1 := by omega
            rw [hm1] at b1
            have HO2 := hid hm1
            clear hodd hm1
            go_wp2_with fail
            go_meet
            exact ⟨m, sh, rfl, rfl, hm, hs1, hs2, HK, hid (.inl HO2.out), rfl⟩
    case rest =>
      obtain ⟨m, sh, rfl, rfl, hm, hs1, hs2, HK, HX, rfl⟩ := hcut
      have HF := hid (Go.Pn.kept_end HK.out HX.out)
      have HKK := hid (And.intro HK.out HX.out)
      have HM0 : Hid (m ≠ 0 → m0 ≠ 0) := hid fun h => by
        rcases Int.lt_or_le ee 0 with he | he
        · rw [← (HK.out.1 he).2.2]
          exact Nat.mul_ne_zero h (Nat.pos_iff_ne_zero.1 (Nat.two_pow_pos _))
        · rw [← (HK.out.2 he).2]; exact h
      clear HK HX
      obtain ⟨⟨x0, x1, x2, x3⟩, f0, f1, f2, f3⟩ := four_cells HBX.out
      go_wp2_with fail
      refine (intSetU_new bx 0 m false wc x0 x1 f0 f1).mono ?_
      rintro e w2 ⟨rfl, vA, w1, hb, hv, hw2⟩
      have hx1 := HBX.out.below hb HBX.out.lt
      have hx2 := (hx1.set (0 + 1) vA).set 0 (.bool false)
      rw [← hw2] at hx2
      have HX2 : Hid (Blk w2 bx #[.bool false, vA, .bool false, .slice none 0 0] 133) := by
        refine hid ?_
        simpa using hx2
      have HA2 : Hid (Wd w2 wc.heap.size vA m) := by
        refine hid ?_
        rw [hw2]
        rcases hv with h | ⟨h0, g, hg, e, h⟩
        · exact .inl h
        · have hne : g ≠ bx := by have := HBX.out.lt; omega
          exact .inr ⟨h0, g, hg, e, (Blk.far1 h hne _).far1 hne _⟩
      have HE2 : Hid (Below bx wc w2) := by
        refine hid ?_
        rw [hw2]
        exact Below.setCell (p := ⟨bx, 0, none⟩) (Below.setCell (p := ⟨bx, 0 + 1, none⟩) (hb.mono (Nat.le_of_lt HBX.out.lt)) (Nat.le_refl _) _) (Nat.le_refl _) _
      clear hb hv hw2 hx1 hx2 x0 x1 x2 x3 f0 f1 f2 f3
      obtain ⟨⟨x0, x1, x2, x3⟩, f0, f1, f2, f3⟩ := four_cells HX2.out
      have ho : (FloatKind.f64.format.order x 0 == some .lt) = _ := HO.out
      go_wp2_with fail
      have HX3 : Hid (Blk (w2.setCell ⟨bx, 0, none⟩ (.bool (decide (9223372036854775808 ≤ x) && !decide (x % 9223372036854775808 = 0)))) bx #[.bool (decide (9223372036854775808 ≤ x) && !decide (x % 9223372036854775808 = 0)), vA, .bool false, .slice none 0 0] 133) := by
        have := HX2.out.set 0 (.bool (decide (9223372036854775808 ≤ x) && !decide (x % 9223372036854775808 = 0)))
        refine hid ?_
        simpa using this
      have HA3 : Hid (Wd (w2.setCell ⟨bx, 0, none⟩ (.bool (decide (9223372036854775808 ≤ x) && !decide (x % 9223372036854775808 = 0)))) (bx + 1) vA m) := by
        refine hid ?_
        rcases HA2.out with h | ⟨h0, g, hg, e, h⟩
        · exact .inl h
        · have hne : bx < g := by have := HBX.out.lt; omega
          exact .inr ⟨h0, g, hne, e, Blk.far1 h (by omega) _⟩
      have HE3 : Hid (Below bx wc (w2.setCell ⟨bx, 0, none⟩ (.bool (decide (9223372036854775808 ≤ x) && !decide (x % 9223372036854775808 = 0))))) := hid (Below.setCell (p := ⟨bx, 0, none⟩) HE2.out (Nat.le_refl _) _)
      clear HX2 HA2 HE2 x0 x1 x2 x3 f0 f1 f2 f3 ho
      generalize w2.setCell ⟨bx, 0, none⟩ (.bool (decide (9223372036854775808 ≤ x) && !decide (x % 9223372036854775808 = 0))) = w3 at *
      obtain ⟨sg, hsg⟩ : ∃ sg, sg = (decide (9223372036854775808 ≤ x) && !decide (x % 9223372036854775808 = 0)) := ⟨_, rfl⟩
      rw [← hsg] at HX3
      have HSG := hid hsg
      clear hsg
      refine wp_region_held_drew (S := fun _ => True) (by kernel_rfl) trivial (fun hHeld => ?_)
      refine wpAnyH_take (i := 0) (v := ?_) rfl (by kernel_rfl) (by kernel_rfl) (by kernel_rfl) (fun _ _ _ h => h) (Or.inl ⟨by rfl, ?_⟩) (by assumption) ?_
      rotate_left
      · intro w hSw
        try dsimp only at hSw
        go_simp
        try with_reducible rfl
      try simp only [Act.put, List.setIfInBounds_toArray]
      refine wpAnyH_take (i := 1) (v := ?_) rfl (by kernel_rfl) (by kernel_rfl) (by kernel_rfl) (fun _ _ _ h => h) (Or.inl ⟨by rfl, ?_⟩) (by assumption) ?_
      rotate_left
      · intro w hSw
        try dsimp only at hSw
        go_simp
        try with_reducible rfl
      try simp only [Act.put]
      refine wpAnyH_take (i := 2) (v := ?_) rfl (by kernel_rfl) (by kernel_rfl) (by kernel_rfl) (fun _ _ _ h => h) (Or.inl ⟨by rfl, ?_⟩) (by assumption) ?_
      rotate_left
      · intro w hSw
        try dsimp only at hSw
        go_simp
        try with_reducible rfl
      try simp only [Act.put]
      refine wpAnyH_ready (rs := [3]) (by kernel_rfl) (by simp) ?_
      refine AllReadyH.cons rfl (fun K hK => ?_) AllReadyH.nil
      go_simp
      refine (intOne_any _).mono ?_
      rintro e w4 ⟨b1, rfl, hb1, ⟨v1, h1, hn1⟩, hb⟩
      have HE4 : Hid (Below w3.heap.size w3 w4) := hid ((Below.refl _ _).drew.trans hb)
      have H1 := hid h1
      have HN1 := hid hn1
      have HX4 := hid (HX3.out.below HE4.out HX3.out.lt)
      have HA4 : Hid (Wd w4 (bx + 1) vA m) := by
        refine hid ?_
        rcases HA3.out with h | ⟨h0, g, hg, e, h⟩
        · exact .inl h
        · exact .inr ⟨h0, g, hg, e, h.below HE4.out h.lt⟩
      have HE5 := hid (HE3.out.trans (HE4.out.mono (Nat.le_of_lt HX3.out.lt)))
      have HNE : Hid (bx ≠ b1) := hid (by have := HX3.out.lt; have h := hb1.out; have h2 : w3.drew.heap.size = w3.heap.size := rfl; omega)
      clear h1 hn1 hb hb1 HX3 HA3 HE3 HE4
      go_wp2_with fail
      refine hK.out _ _ trivial (fun _ => ?_)
      clear hK K
      refine wpAnyH_ready (rs := [4]) (by kernel_rfl) (by simp) ?_
      refine AllReadyH.cons rfl (fun K hK => ?_) AllReadyH.nil
      go_simp
      refine (intSet_new bx 2 b1 0 1 false false v1 _ _ 133 124 w4 HX4.out rfl rfl H1.out rfl rfl HN1.out (by rw [dg_one (by omega) (by omega)]; simp) HNE.out).mono ?_
      rintro e w5 ⟨rfl, vB, w6, hb, hvB, hdB, hw5⟩
      have hd := hdB (by omega)
      obtain ⟨g, hg, rfl, hgB⟩ : ∃ g, w4.heap.size ≤ g ∧ vB = .slice (some ⟨g, 0, none⟩) 1 1 ∧ BlkN .u64 181 w6 g [1] := by
        rcases hd with ⟨h, _⟩ | ⟨_, g, hg, e, h⟩
        · exact absurd h (by omega)
        · exact ⟨g, hg, e, h⟩
      have hbxg : bx < g := by have := HX4.out.lt; omega
      have HX5 : Hid (Blk w5 bx #[.bool sg, vA, .bool false, .slice (some ⟨g, 0, none⟩) 1 1] 133) := by
        have := ((HX4.out.below hb HX4.out.lt).set (2 + 1) (.slice (some ⟨g, 0, none⟩) 1 1)).set 2 (.bool false)
        rw [← hw5] at this
        refine hid ?_
        simpa using this
      have HB5 : Hid (BlkN .u64 181 w5 g [1]) := hid (by rw [hw5]; exact Blk.far1 (Blk.far1 hgB (by omega) _) (by omega) _)
      have HA5 : Hid (Wd w5 (bx + 1) vA m) := by
        refine hid ?_
        rw [hw5]
        rcases HA4.out with h | ⟨h0, g', hg', e, h⟩
        · exact .inl h
        · exact .inr ⟨h0, g', hg', e, Blk.far1 (Blk.far1 (h.below hb h.lt) (by omega) _) (by omega) _⟩
      have HE6 : Hid (Below bx wc w5) := hid (by rw [hw5]; exact Below.setCell (p := ⟨bx, 2, none⟩) (Below.setCell (p := ⟨bx, 2 + 1, none⟩) (HE5.out.trans (hb.mono (Nat.le_of_lt HX4.out.lt))) (Nat.le_refl _) _) (Nat.le_refl _) _)
      have HG := hid hbxg
      clear hb hvB hdB hw5 hd hg hgB hbxg HX4 HA4 HE5 H1 HN1 HNE
      go_wp2_with fail
      refine hK.out _ _ trivial (fun _ => ?_)
      clear hK K
      refine wpAnyH_done (by kernel_rfl) ?_ _
      rcases Int.lt_or_le 0 sh with hs | hs
      · have c1 : decide (0 < sh) = true := decide_eq_true hs
        have hodd : m % 2 = 1 := by have := HKK.out.2; omega
        have hm0' : m ≠ 0 := by omega
        obtain ⟨sn, hsn⟩ : ∃ sn : Nat, sh = sn := ⟨sh.toNat, by omega⟩
        subst hsn
        have HFF := HF.out
        have et : (-(sn : Int)).toNat = 0 := by omega
        rw [et, Nat.pow_zero, Nat.mul_one, Int.toNat_natCast] at HFF
        have HFF2 := hid HFF
        clear HFF hodd et
        have cv : IntKind.u64.wrap (sn : Int) = (sn : Int) := by rw [IntKind.wrap_u64]; omega
        go_wp2_with fail
        refine wp_region_held_drew (S := fun _ => True) (by kernel_rfl) trivial (fun hHeld => ?_)
        refine wpAnyH_take (i := 0) (v := ?_) rfl (by kernel_rfl) (by kernel_rfl) (by kernel_rfl) (fun _ _ _ h => h) (Or.inl ⟨by rfl, ?_⟩) (by assumption) ?_
        rotate_left
        · intro w hSw
          try dsimp only at hSw
          go_simp
          try with_reducible rfl
        try simp only [Act.put, List.setIfInBounds_toArray]
        refine wpAnyH_take (i := 1) (v := ?_) rfl (by kernel_rfl) (by kernel_rfl) (by kernel_rfl) (fun _ _ _ h => h) (Or.inl ⟨by rfl, ?_⟩) (by assumption) ?_
        rotate_left
        · intro w hSw
          try dsimp only at hSw
          go_simp
          try with_reducible rfl
        try simp only [Act.put]
        refine wpAnyH_take (i := 2) (v := ?_) rfl (by kernel_rfl) (by kernel_rfl) (by kernel_rfl) (fun _ _ _ h => h) (Or.inl ⟨by rfl, ?_⟩) (by assumption) ?_
        rotate_left
        · intro w hSw
          try dsimp only at hSw
          go_simp
          try with_reducible rfl
        try simp only [Act.put]
        refine wpAnyH_take (i := 3) (v := ?_) rfl (by kernel_rfl) (by kernel_rfl) (by kernel_rfl) (fun _ _ _ h => h) (Or.inl ⟨by rfl, ?_⟩) (by assumption) ?_
        rotate_left
        · intro w hSw
          try dsimp only at hSw
          go_simp
          try with_reducible rfl
        try simp only [Act.put]
        refine wpAnyH_take (i := 4) (v := ?_) rfl (by kernel_rfl) (by kernel_rfl) (by kernel_rfl) (fun _ _ _ h => h) (Or.inl ⟨by rfl, ?_⟩) (by assumption) ?_
        rotate_left
        · intro w hSw
          try dsimp only at hSw
          go_simp
          try with_reducible rfl
        try simp only [Act.put]
        refine wpAnyH_take (i := 5) (v := ?_) rfl (by kernel_rfl) (by kernel_rfl) (by kernel_rfl) (fun _ _ _ h => h) (Or.inl ⟨by rfl, ?_⟩) (by assumption) ?_
        rotate_left
        · intro w hSw
          try dsimp only at hSw
          go_simp
          try with_reducible rfl
        try simp only [Act.put]
        refine wpAnyH_take (i := 6) (v := ?_) rfl (by kernel_rfl) (by kernel_rfl) (by kernel_rfl) (fun _ _ _ h => h) (Or.inl ⟨by rfl, ?_⟩) (by assumption) ?_
        rotate_left
        · intro w hSw
          try dsimp only at hSw
          go_simp
          try with_reducible rfl
        try simp only [Act.put]
        refine wpAnyH_take (i := 7) (v := ?_) rfl (by kernel_rfl) (by kernel_rfl) (by kernel_rfl) (fun _ _ _ h => h) (Or.inl ⟨by rfl, ?_⟩) (by assumption) ?_
        rotate_left
        · intro w hSw
          try dsimp only at hSw
          go_simp
          try with_reducible rfl
        try simp only [Act.put]
        refine wpAnyH_ready (rs := [8]) (by kernel_rfl) (by simp) ?_
        refine AllReadyH.cons rfl (fun K hK => ?_) AllReadyH.nil
        go_simp
        obtain ⟨⟨x0, x1, x2, x3⟩, f0, f1, f2, f3⟩ := four_cells HX5.out
        refine (intLsh_self bx 2 sn false _ _ _ (fun w v => Nw w v (1 * 2 ^ sn)) (fun w v h => by obtain ⟨a, l, c, rfl, _⟩ := nw_shape h; exact ⟨_, _, _, rfl⟩) w5.drew x2 x3 f2 f3 ((lsh_one g 1 sn (by omega) (by omega) (by omega) (by omega) w5.drew.drew HB5.out).mono (fun e w' ⟨v, h1, h2, h3⟩ => ⟨v, h1, h2, h3⟩))).mono ?_
        rintro e w8 ⟨rfl, vD, w7, hb, hvD, hw8⟩
        rw [Nat.one_mul] at hvD
        clear x0 x1 x2 x3 f0 f1 f2 f3
        have HBB : Hid (Below w5.heap.size w5 w7) := hid ((Below.refl w5.heap.size w5).drew.trans hb)
        have HX8 := put4_b (v := vD) HX5.out HBB.out
        have HP8 : Hid (Nw w8 vA m) := hid (by rw [hw8]; exact put4_nw HX5.out HBB.out ((HA5.out.nw (by omega)).below HBB.out (Nat.le_refl _)))
        have HD8 : Hid (Nw w8 vD (2 ^ sn)) := hid (by rw [hw8]; exact put4_nw HX5.out HBB.out hvD)
        have HE8 : Hid (Below bx wc w8) := hid (by rw [hw8]; exact Below.setCell (p := ⟨bx, 2, none⟩) (Below.setCell (p := ⟨bx, 2 + 1, none⟩) (HE6.out.trans (HBB.out.mono (Nat.le_of_lt HX5.out.lt))) (Nat.le_refl _) _) (Nat.le_refl _) _)
        rw [← hw8] at HX8
        clear hb hvD hw8 HBB HX5 HB5 HA5 HE6
        have HX8h := hid HX8
        clear HX8
        go_wp2_with fail
        refine hK.out _ _ trivial (fun _ => ?_)
        clear hK K
        refine wpAnyH_done (by kernel_rfl) ?_ _
        go_wp2_with fail
        have HX8 := HX8h.out
        have HFF := HFF2.out
        have HFG := HFF.2.2
        have HSGT : sg = (decide (9223372036854775808 ≤ x) && decide (m ≠ 0)) := by
          have h1 : x % 9223372036854775808 ≠ 0 := fun h => HM0.out hm0' (HZ0.out h)
          have h2 : m ≠ 0 := hm0'
          rw [HSG.out, decide_eq_false h1, decide_eq_true h2]
          rfl
        rw [HSGT] at HX8
        have HX8' := hid HX8
        refine (norm_frac bx (m) (2 ^ sn) _ _ _ w8 HX8'.out HP8.out HD8.out (word_len (by omega)) (pow_len sn (by omega)) (Nat.pos_of_ne_zero (hm0')) (Nat.two_pow_pos _) (.inl (by omega)) HFG).mono ?_
        rintro e w9 ⟨rfl, n1, n2, n3, n4⟩
        have HN := hid (And.intro n1 (And.intro n2 n3))
        have HE9 := hid (HE8.out.trans n4)
        clear n1 n2 n3 n4 HX8' HP8 HD8 HE8 HX8 HSGT
        go_wp2_with fail
        go_ret
        exact ⟨_, _, _, _, rfl, hid HFF, HN.out.1, HN.out.2.1, HN.out.2.2, HE9.out⟩
      · have c1 : decide (0 < sh) = false := decide_eq_false (by omega)
        obtain ⟨sn, hsn⟩ : ∃ sn : Nat, sh = -(sn : Int) := ⟨(-sh).toNat, by omega⟩
        subst hsn
        have HFF := HF.out
        have et : (-(sn : Int)).toNat = 0 := by omega
        rw [et, Int.neg_neg, Int.toNat_natCast, Nat.pow_zero] at HFF
        have HFF2 := hid HFF
        clear HFF et
        have cn : -(-(sn : Int)) = (sn : Int) := Int.neg_neg _
        have cv : IntKind.u64.wrap (sn : Int) = (sn : Int) := by rw [IntKind.wrap_u64]; omega
        go_wp2_with fail
        refine wp_region_held_drew (S := fun _ => True) (by kernel_rfl) trivial (fun hHeld => ?_)
        refine wpAnyH_take (i := 0) (v := ?_) rfl (by kernel_rfl) (by kernel_rfl) (by kernel_rfl) (fun _ _ _ h => h) (Or.inl ⟨by rfl, ?_⟩) (by assumption) ?_
        rotate_left
        · intro w hSw
          try dsimp only at hSw
          go_simp
          try with_reducible rfl
        try simp only [Act.put, List.setIfInBounds_toArray]
        refine wpAnyH_take (i := 1) (v := ?_) rfl (by kernel_rfl) (by kernel_rfl) (by kernel_rfl) (fun _ _ _ h => h) (Or.inl ⟨by rfl, ?_⟩) (by assumption) ?_
        rotate_left
        · intro w hSw
          try dsimp only at hSw
          go_simp
          try with_reducible rfl
        try simp only [Act.put]
        refine wpAnyH_take (i := 2) (v := ?_) rfl (by kernel_rfl) (by kernel_rfl) (by kernel_rfl) (fun _ _ _ h => h) (Or.inl ⟨by rfl, ?_⟩) (by assumption) ?_
        rotate_left
        · intro w hSw
          try dsimp only at hSw
          go_simp
          try with_reducible rfl
        try simp only [Act.put]
        refine wpAnyH_take (i := 3) (v := ?_) rfl (by kernel_rfl) (by kernel_rfl) (by kernel_rfl) (fun _ _ _ h => h) (Or.inl ⟨by rfl, ?_⟩) (by assumption) ?_
        rotate_left
        · intro w hSw
          try dsimp only at hSw
          go_simp
          try with_reducible rfl
        try simp only [Act.put]
        refine wpAnyH_take (i := 4) (v := ?_) rfl (by kernel_rfl) (by kernel_rfl) (by kernel_rfl) (fun _ _ _ h => h) (Or.inl ⟨by rfl, ?_⟩) (by assumption) ?_
        rotate_left
        · intro w hSw
          try dsimp only at hSw
          go_simp
          try with_reducible rfl
        try simp only [Act.put]
        refine wpAnyH_take (i := 5) (v := ?_) rfl (by kernel_rfl) (by kernel_rfl) (by kernel_rfl) (fun _ _ _ h => h) (Or.inl ⟨by rfl, ?_⟩) (by assumption) ?_
        rotate_left
        · intro w hSw
          try dsimp only at hSw
          go_simp
          try with_reducible rfl
        try simp only [Act.put]
        refine wpAnyH_take (i := 6) (v := ?_) rfl (by kernel_rfl) (by kernel_rfl) (by kernel_rfl) (fun _ _ _ h => h) (Or.inl ⟨by rfl, ?_⟩) (by assumption) ?_
        rotate_left
        · intro w hSw
          try dsimp only at hSw
          go_simp
          try with_reducible rfl
        try simp only [Act.put]
        refine wpAnyH_take (i := 7) (v := ?_) rfl (by kernel_rfl) (by kernel_rfl) (by kernel_rfl) (fun _ _ _ h => h) (Or.inl ⟨by rfl, ?_⟩) (by assumption) ?_
        rotate_left
        · intro w hSw
          try dsimp only at hSw
          go_simp
          try with_reducible rfl
        try simp only [Act.put]
        refine wpAnyH_take (i := 8) (v := ?_) rfl (by kernel_rfl) (by kernel_rfl) (by kernel_rfl) (fun _ _ _ h => h) (Or.inl ⟨by rfl, ?_⟩) (by assumption) ?_
        rotate_left
        · intro w hSw
          try dsimp only at hSw
          go_simp
          try with_reducible rfl
        try simp only [Act.put]
        refine wpAnyH_ready (rs := [9]) (by kernel_rfl) (by simp) ?_
        refine AllReadyH.cons rfl (fun K hK => ?_) AllReadyH.nil
        go_simp
        obtain ⟨⟨x0, x1, x2, x3⟩, f0, f1, f2, f3⟩ := four_cells HX5.out
        rcases Nat.eq_zero_or_pos m with hm0' | hm0''
        · subst hm0'
          obtain rfl : sn = 0 := by
            rcases Int.lt_or_le ee 0 with he | he
            · have := (HKK.out.1.1 he).1; omega
            · exact absurd (HKK.out.1.2 he).2.symm (HZ1.out he)
          obtain rfl : vA = .slice none 0 0 := by
            rcases HA5.out with ⟨_, h⟩ | ⟨h, _⟩
            · exact h
            · exact absurd rfl h
          have cw0 : IntKind.u64.wrap (IntKind.i64.wrap ((0 : Nat) : Int)) = 0 := rfl
          rw [cw0]
          have H0 := intLsh_self bx 0 0 sg none 0 0 (fun _ v => v = .slice none 0 0) (fun w v h => ⟨_, _, _, h⟩) w5.drew x0 x1 f0 f1 ((lsh_zero 0 0 (.slice none 0 0) w5.drew.drew (.inl ⟨rfl, rfl⟩)).mono (fun e w' ⟨v, h1, h2, h3⟩ => ⟨v, h1, h2.1, h3⟩))
          refine H0.mono ?_
          rintro e w8 ⟨rfl, vP, w7, hb, rfl, hw8⟩
          clear x0 x1 x2 x3 f0 f1 f2 f3 H0
          have HBB : Hid (Below w5.heap.size w5 w7) := hid ((Below.refl w5.heap.size w5).drew.trans hb)
          have HX8 := put4_a (v := .slice none 0 0) HX5.out HBB.out
          have HB8 : Hid (BlkN .u64 181 w8 g [1]) := hid (by rw [hw8]; exact Blk.far1 (Blk.far1 (HB5.out.below HBB.out HB5.out.lt) (by have := HG.out; omega) _) (by have := HG.out; omega) _)
          have HE8 : Hid (Below bx wc w8) := hid (by rw [hw8]; exact Below.setCell (p := ⟨bx, 0, none⟩) (Below.setCell (p := ⟨bx, 0 + 1, none⟩) (HE6.out.trans (HBB.out.mono (Nat.le_of_lt HX5.out.lt))) (Nat.le_refl _) _) (Nat.le_refl _) _)
          rw [← hw8] at HX8
          have HX8h := hid HX8
          clear hb hw8 HBB HX5 HB5 HA5 HE6 HX8 cw0
          go_wp2_with fail
          refine hK.out _ _ trivial (fun _ => ?_)
          clear hK K
          refine wpAnyH_done (by kernel_rfl) ?_ _
          go_wp2_with fail
          refine (norm_zero bx g sg w8 HX8h.out HB8.out HG.out).mono ?_
          rintro e w9 ⟨rfl, n1, n2, n3⟩
          have HN := hid (And.intro n1 n2)
          have HE9 := hid (HE8.out.trans n3)
          clear n1 n2 n3 HX8h HB8 HE8
          go_wp2_with fail
          go_ret
          have hr := BlkN.rt HN.out.2 (cap := 1) (by simp) (by omega)
          refine ⟨0 * 2 ^ 0, 1, .slice none 0 0, .slice (some ⟨g, 0, none⟩) 1 1, rfl, hid HFF2.out, ?_, ?_, ?_, HE9.out⟩
          · rw [Nat.zero_mul]
            have : (decide (9223372036854775808 ≤ x) && decide (0 ≠ 0)) = false := by simp
            rw [this]
            exact HN.out.1
          · rw [Nat.zero_mul, Nw, dg_zero]; exact Rt.nil _ _ _
          · rw [Nw, dg_one (by omega) (by omega)]; exact hr
        · have hm0' : m ≠ 0 := by omega
          obtain ⟨aA, lA, cA, rfl⟩ : ∃ a l c, vA = .slice a l c := by
            rcases HA5.out with ⟨_, rfl⟩ | ⟨_, g', _, rfl, _⟩ <;> exact ⟨_, _, _, rfl⟩
          have cw : IntKind.i64.wrap (sn : Int) = (sn : Int) := by rw [IntKind.wrap_i64]; omega
          rw [cw, cv]
          have H0 := intLsh_self bx 0 sn sg aA lA cA (fun w v => Nw w v (m * 2 ^ sn)) (fun w v h => by obtain ⟨a, l, c, rfl, _⟩ := nw_shape h; exact ⟨_, _, _, rfl⟩) w5.drew x0 x1 f0 f1 (lsh_wd (bx + 1) m sn _ w5.drew.drew HA5.out hm0' (by omega) (by omega))
          refine H0.mono ?_
          rintro e w8 ⟨rfl, vP, w7, hb, hvP, hw8⟩
          clear x0 x1 x2 x3 f0 f1 f2 f3 H0
          have HBB : Hid (Below w5.heap.size w5 w7) := hid ((Below.refl w5.heap.size w5).drew.trans hb)
          have HX8 := put4_a (v := vP) HX5.out HBB.out
          have hr := BlkN.rt HB5.out (cap := 1) (by simp) (by omega)
          have hD5 : Nw w5 (.slice (some ⟨g, 0, none⟩) 1 1) 1 := by rw [Nw, dg_one (by omega) (by omega)]; exact hr
          have HP8 : Hid (Nw w8 vP (m * 2 ^ sn)) := hid (by rw [hw8]; exact put4_nw HX5.out HBB.out hvP)
          have HD8 : Hid (Nw w8 (.slice (some ⟨g, 0, none⟩) 1 1) 1) := hid (by rw [hw8]; exact put4_nw HX5.out HBB.out (hD5.below HBB.out (Nat.le_refl _)))
          have HE8 : Hid (Below bx wc w8) := hid (by rw [hw8]; exact Below.setCell (p := ⟨bx, 0, none⟩) (Below.setCell (p := ⟨bx, 0 + 1, none⟩) (HE6.out.trans (HBB.out.mono (Nat.le_of_lt HX5.out.lt))) (Nat.le_refl _) _) (Nat.le_refl _) _)
          rw [← hw8] at HX8
          obtain ⟨aP, lP, cP, rfl, _⟩ := nw_shape hvP
          have HX8h := hid HX8
          clear hb hvP hw8 HBB HX5 HB5 HA5 HE6 hr hD5 HX8 cw
          go_wp2_with fail
          refine hK.out _ _ trivial (fun _ => ?_)
          clear hK K
          refine wpAnyH_done (by kernel_rfl) ?_ _
          go_wp2_with fail
          have HX8 := HX8h.out
          have HFF := HFF2.out
          have HFG := HFF.2.2
          have hPP : m * 2 ^ sn ≠ 0 := Nat.mul_ne_zero hm0' (Nat.pos_iff_ne_zero.1 (Nat.two_pow_pos _))
          have HSGT : sg = (decide (9223372036854775808 ≤ x) && decide (m * 2 ^ sn ≠ 0)) := by
            have h1 : x % 9223372036854775808 ≠ 0 := fun h => HM0.out hm0' (HZ0.out h)
            have h2 : m * 2 ^ sn ≠ 0 := hPP
            rw [HSG.out, decide_eq_false h1, decide_eq_true h2]
            rfl
          rw [HSGT] at HX8
          have HX8' := hid HX8
          refine (norm_frac bx (m * 2 ^ sn) (1) _ _ _ w8 HX8'.out HP8.out HD8.out (pow_len' sn hm (by omega)) (word_len (by omega)) (Nat.pos_of_ne_zero (hPP)) (by omega) (.inr (by omega)) HFG).mono ?_
          rintro e w9 ⟨rfl, n1, n2, n3, n4⟩
          have HN := hid (And.intro n1 (And.intro n2 n3))
          have HE9 := hid (HE8.out.trans n4)
          clear n1 n2 n3 n4 HX8' HP8 HD8 HE8 HX8 HSGT
          go_wp2_with fail
          go_ret
          exact ⟨_, _, _, _, rfl, hid HFF, HN.out.1, HN.out.2.1, HN.out.2.2, HE9.out⟩
end Go.Proofs.YtgdgklhfakplhaaGreatDoor
