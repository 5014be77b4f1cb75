/- Walks and lemmas for the laws of this seat. -/
import Derived.Test.YtgdgklhfakplhaaGreatDoorH12
import Derived.Test.YtgdgklhfakplhaaGreatDoorH47
import Derived.Test.YtgdgklhfakplhaaGreatDoorH03
import Derived.Deep.Slices
import Derived.ChangeArms
import Derived.ChangeSame
namespace Go.Proofs.YtgdgklhfakplhaaGreatDoor
open Go.RowKit Go.Dig Go.Rnd
set_option maxRecDepth 100000
set_option maxHeartbeats 1000000 in
theorem ratio7_any (k : Int) (t : Bool) (s : ByteArray) (n1 n2 : Bool) (v1 v2 : Value) (ws1 ws2 : List Nat) (a3 a4 : Option Addr) (l3 l4 c3 c4 : Nat) (w : World) (h1 : Rd .u64 w v1 ws1) (h2 : Rd .u64 w v2 ws2) (hw1 : ∀ x ∈ ws1, x < 18446744073709551616) (hw2 : ∀ x ∈ ws2, x < 18446744073709551616) :
    Calls Tryz.prog 7 #[.agg #[.int .i64 k, .bool t, .string s, .bool n1, v1, v2, .bool n2, .slice a3 l3 c3, .slice a4 l4 c4], .int .i64 7] w (Frac (k = 4 ∧ ws1.length ≤ 7 ∧ ws2.length ≤ 7) n1 ws1 ws2 w) := by
  obtain ⟨a1, c1, rfl⟩ := h1.shape
  obtain ⟨a2, c2, rfl⟩ := h2.shape
  have HR : Hid (Blk ((w.alloc (.cells #[.int .i64 k, .bool t, .string s, .bool n1, .slice a1 ws1.length c1, .slice a2 ws2.length c2, .bool n2, .slice a3 l3 c3, .slice a4 l4 c4] 26)).alloc (.cells #[.bool false, .slice none 0 0, .slice none 0 0] 31)) (w.heap.size + 1) #[.bool false, .slice none 0 0, .slice none 0 0] 31) := by
    have := blk_new (w.alloc (.cells #[.int .i64 k, .bool t, .string s, .bool n1, .slice a1 ws1.length c1, .slice a2 ws2.length c2, .bool n2, .slice a3 l3 c3, .slice a4 l4 c4] 26)) #[.bool false, .slice none 0 0, .slice none 0 0] 31
    refine hid ?_
    simpa using this
  have HB : Hid (Below w.heap.size w ((w.alloc (.cells #[.int .i64 k, .bool t, .string s, .bool n1, .slice a1 ws1.length c1, .slice a2 ws2.length c2, .bool n2, .slice a3 l3 c3, .slice a4 l4 c4] 26)).alloc (.cells #[.bool false, .slice none 0 0, .slice none 0 0] 31))) := ((Below.refl _ _).alloc (Nat.le_refl _) _).alloc (by simp) _
  have H1 := hid (h1.below HB.out (Nat.le_refl _))
  have H2 := hid (h2.below HB.out (Nat.le_refl _))
  have HW1 := hid hw1
  have HW2 := hid hw2
  obtain ⟨L1, hL1⟩ : ∃ L, ws1.length = L := ⟨_, rfl⟩
  obtain ⟨L2, hL2⟩ : ∃ L, ws2.length = L := ⟨_, rfl⟩
  clear h1 h2 hw1 hw2
  have HR1 : ∀ (W : World), Rd .u64 W (.slice a1 L1 c1) ws1 → Rd .u64 W (.slice a2 L2 c2) ws2 → L1 ≤ 7 → L2 ≤ 7 → Calls Tryz.prog 13 #[.agg #[.int .i64 k, .bool t, .string s, .bool n1, .slice a1 L1 c1, .slice a2 L2 c2, .bool n2, .slice a3 l3 c3, .slice a4 l4 c4]] W (Frac (k = 4) n1 ws1 ws2 W) :=
    fun W h1 h2 g1 g2 => rational_any k t s n1 n2 _ _ ws1 ws2 a3 a4 l3 l4 c3 c4 W h1 h2 HW1.out HW2.out (by omega) (by omega)
  obtain ⟨QQ, hQQ⟩ : ∃ QQ : Prop, QQ = (k = 4 ∧ ws1.length ≤ 7 ∧ ws2.length ≤ 7) := ⟨_, rfl⟩
  have HQQ : Hid (L1 ≤ 7 → L2 ≤ 7 → k = 4 → QQ) := hid (fun g1 g2 g3 => by rw [hQQ, hL1, hL2]; exact ⟨g3, g1, g2⟩)
  rw [← hQQ]
  rw [hL1] at H1 H2 HR HB ⊢
  rw [hL2] at H1 H2 HR HB ⊢
  clear hL1 hL2 hQQ
  have HRA := hid HR1
  clear HR1
  go_enter Tryz.func7, Tryz.ntmps7
  go_wp2_with fail
  · exact bodyPost_ret (v := .tuple #[.agg #[.bool false, .slice none 0 0, .slice none 0 0], .bool false]) (by simp [results, Tryz.results7, go_sem]) rfl (fr_none (((Below.refl _ _).alloc (Nat.le_refl _) _).alloc (by simp) _))
  · rename_i hg1 hg2
    have hl1 : L1 ≤ 7 := by omega
    have hl2 : L2 ≤ 7 := by omega
    generalize ((w.alloc (.cells #[.int .i64 k, .bool t, .string s, .bool n1, .slice a1 L1 c1, .slice a2 L2 c2, .bool n2, .slice a3 l3 c3, .slice a4 l4 c4] 26)).alloc (.cells #[.bool false, .slice none 0 0, .slice none 0 0] 31)) = w0 at *
    refine (HRA.out w0 H1.out H2.out hl1 hl2).mono ?_
    rintro e w2 ⟨neg, ok2, u1, u2, P, D, rfl, h1, h2, hz, hlP, hlD, hok, hb⟩
    have HU1 := hid h1
    have HU2 := hid h2
    have HR2 := hid (HR.out.below hb HR.out.lt)
    have HB2 := hid (below_next HB.out hb)
    have HZ := hid hz
    have HLP := hid hlP
    have HLD := hid hlD
    have HQ3 := hid (HQQ.out hl1 hl2)
    obtain ⟨p1, k1, rfl⟩ := h1.shape
    obtain ⟨p2, k2, rfl⟩ := h2.shape
    clear HR HB H1 H2 hb h1 h2 hz hlP hlD HRA HQQ
    obtain ⟨r0, r1, r2, g0, g1, g2⟩ := HR2.out.three
    go_wp2_with fail
    have HRF : Hid (Blk (((w2.setCell ⟨w.heap.size + 1, 0, none⟩ (.bool neg)).setCell ⟨w.heap.size + 1, 1, none⟩ (.slice p1 (dg 65536 P).length k1)).setCell ⟨w.heap.size + 1, 2, none⟩ (.slice p2 (dg 65536 D).length k2)) (w.heap.size + 1) #[.bool neg, .slice p1 (dg 65536 P).length k1, .slice p2 (dg 65536 D).length k2] 31) := by
      have := ((HR2.out.set 0 (.bool neg)).set 1 (.slice p1 (dg 65536 P).length k1)).set 2 (.slice p2 (dg 65536 D).length k2)
      refine hid ?_
      simpa using this
    clear r0 r1 r2 g0 g1 g2
    obtain ⟨r0, r1, r2, g0, g1, g2⟩ := HRF.out.three
    refine bodyPost_ret (v := .tuple #[.agg #[.bool neg, .slice p1 (dg 65536 P).length k1, .slice p2 (dg 65536 D).length k2], .bool ok2]) (by simp [results, Tryz.results7, go_sem, r0, r1, r2]) rfl ⟨neg, ok2, _, _, P, D, rfl, ?_, ?_, HZ.out, HLP.out, HLD.out, hid (fun h => ⟨HQ3.out (hok.out h).1, (hok.out h).2⟩), ?_⟩
    · exact HU1.out.set3 HR2.out (by decide) _ _ _
    · exact HU2.out.set3 HR2.out (by decide) _ _ _
    · exact ((HB2.out.setCell (p := ⟨w.heap.size + 1, 0, none⟩) (Nat.le_succ _) _).setCell (p := ⟨w.heap.size + 1, 1, none⟩) (Nat.le_succ _) _).setCell (p := ⟨w.heap.size + 1, 2, none⟩) (Nat.le_succ _) _
  · exact bodyPost_ret (v := .tuple #[.agg #[.bool false, .slice none 0 0, .slice none 0 0], .bool false]) (by simp [results, Tryz.results7, go_sem]) rfl (fr_none (((Below.refl _ _).alloc (Nat.le_refl _) _).alloc (by simp) _))
theorem b64_u1 (P D : Nat) (hP0 : 0 < P) (hD0 : 0 < D) : 53 < blen (uq P D (max ((blen P : Int) - blen D - 53) (-1074))) → uni P D = max ((blen P : Int) - blen D - 53) (-1074) + 1 := (spec_unit hP0 hD0 _ rfl).1
theorem b64_u2 (P D : Nat) (hP0 : 0 < P) (hD0 : 0 < D) : blen (uq P D (max ((blen P : Int) - blen D - 53) (-1074))) ≤ 53 → uni P D = max ((blen P : Int) - blen D - 53) (-1074) := (spec_unit hP0 hD0 _ rfl).2
theorem b64_u3 (P D : Nat) (hP0 : 0 < P) (hD0 : 0 < D) : uq P D (uni P D) < 9007199254740992 := (unit_facts hP0 hD0).1
theorem b64_u4 (P D : Nat) (hP0 : 0 < P) (hD0 : 0 < D) : (-1074) < uni P D → 4503599627370496 ≤ near P D (uni P D) := (unit_facts hP0 hD0).2
theorem b64_u5 (neg : Bool) (vN vD : Value) (P D : Nat) (w : World) (hN : Nt w vN P) (hD : Nt w vD D) (hP0 : 0 < P) (hD0 : 0 < D) (hlN : (dg 65536 P).length ≤ 200) (hlD : (dg 65536 D).length ≤ 200) :
    Calls Tryz.prog 15 #[.agg #[.bool neg, vN, vD], .int .i64 52, .int .i64 (-1074), .int .i64 2047] w fun e' w' => e' = .returned (.tuple #[.int .i64 ((min ((uni P D - (-1074)).toNat * 4503599627370496 + near P D (uni P D)) 9218868437227405312 : Nat) : Int), .bool (decide (left P D (uni P D) = 0) && decide ((uni P D - (-1074)).toNat * 4503599627370496 + near P D (uni P D) < 9218868437227405312))]) ∧ Hid (Below w.heap.size w w') :=
  bits52 neg vN vD P D (uni P D) w hN hD hP0 hD0 hlN hlD (b64_u1 P D hP0 hD0) (b64_u2 P D hP0 hD0) (b64_u3 P D hP0 hD0) (b64_u4 P D hP0 hD0)
theorem b64_u6 (P D : Nat) : res64 P D = min ((uni P D - (-1074)).toNat * 4503599627370496 + near P D (uni P D)) 9218868437227405312 := by
  rw [show uni P D - (-1074) = uni P D + 1074 by omega]
  unfold res64
  rfl
theorem b64_u7 (P D : Nat) : exa64 P D = (decide (left P D (uni P D) = 0) && decide ((uni P D - (-1074)).toNat * 4503599627370496 + near P D (uni P D) < 9218868437227405312)) := by
  rw [show uni P D - (-1074) = uni P D + 1074 by omega]
  unfold exa64
  rfl
theorem bits64_any (neg : Bool) (vN vD : Value) (P D : Nat) (w : World) (hN : Nt w vN P) (hD : Nt w vD D) (hP0 : 0 < P) (hD0 : 0 < D) (hlN : (dg 65536 P).length ≤ 200) (hlD : (dg 65536 D).length ≤ 200) :
    Calls Tryz.prog 15 #[.agg #[.bool neg, vN, vD], .int .i64 52, .int .i64 (-1074), .int .i64 2047] w fun e' w' => e' = .returned (.tuple #[.int .i64 (res64 P D : Nat), .bool (exa64 P D)]) ∧ Hid (Below w.heap.size w w') := by
  rw [b64_u6, b64_u7]
  exact b64_u5 neg vN vD P D w hN hD hP0 hD0 hlN hlD
set_option maxHeartbeats 1000000 in
theorem floatOf_any (neg : Bool) (vN vD : Value) (P D : Nat) (w : World) (hN : Nt w vN P) (hD : Nt w vD D) (hz : P = 0 ∨ 0 < D) (hlN : (dg 65536 P).length ≤ 200) (hlD : (dg 65536 D).length ≤ 200) :
    Calls Tryz.prog 8 #[.agg #[.bool neg, vN, vD], .int .i64 52, .int .i64 (-1074), .int .i64 2047] w fun e' w' => e' = .returned (.tuple #[.int .u64 (out64 false P D : Nat), .bool (ox64 P D)]) ∧ Hid (Below w.heap.size w w') := by
  have HN := hid hN
  have HD := hid hD
  obtain ⟨aN, lN, cN, rfl⟩ : ∃ a l c, vN = .slice a l c := by obtain ⟨a, c, h, _⟩ := hN; exact ⟨a, _, c, h⟩
  obtain ⟨aD, lD, cD, rfl⟩ : ∃ a l c, vD = .slice a l c := by obtain ⟨a, c, h, _⟩ := hD; exact ⟨a, _, c, h⟩
  clear hN hD
  obtain ⟨r, hr⟩ : ∃ r, r = out64 false P D := ⟨_, rfl⟩
  obtain ⟨ex, hex⟩ : ∃ ex, ex = ox64 P D := ⟨_, rfl⟩
  rw [← hr, ← hex]
  have HRR := hid hr
  have HXX := hid hex
  clear hr hex
  have hB0 : Blk (w.alloc (.cells #[.bool neg, .slice aN lN cN, .slice aD lD cD] 31)) w.heap.size #[.bool neg, .slice aN lN cN, .slice aD lD cD] 31 := blk_new w _ 31
  have hb0 : Below w.heap.size w (w.alloc (.cells #[.bool neg, .slice aN lN cN, .slice aD lD cD] 31)) := (Below.refl _ _).alloc (Nat.le_refl _) _
  go_enter Tryz.func8, Tryz.ntmps8
  go_wp2_with fail
  generalize w.alloc (.cells #[.bool neg, .slice aN lN cN, .slice aD lD cD] 31) = w0 at *
  have HB0 := hid hB0
  have HE0 := hid hb0
  have HN0 := hid (HN.out.below hb0 (Nat.le_refl _))
  have HD0 := hid (HD.out.below hb0 (Nat.le_refl _))
  clear hB0 hb0 HN HD
  refine (signOf_any neg _ _ P w0 HN0.out).mono ?_
  rintro e w1 ⟨rfl, hb⟩
  have HB1 := hid (HB0.out.below hb HB0.out.lt)
  have HE1 := hid (below_next HE0.out hb)
  have HN1 := hid (HN0.out.below hb (Nat.le_refl _))
  have HD1 := hid (HD0.out.below hb (Nat.le_refl _))
  obtain ⟨b0, b1, b2, _, _, _⟩ := HB1.out.three
  clear hb HB0 HE0 HN0 HD0
  rcases Nat.eq_zero_or_pos P with h0 | h0
  · subst h0
    rw [if_pos rfl]
    have e1 : r = 0 := by rw [HRR.out]; unfold out64; rw [if_pos rfl]
    have e2 : ex = true := by rw [HXX.out]; unfold ox64; rw [if_pos rfl]
    clear HRR HXX
    subst e1 e2
    go_wp2_with fail
    go_ret2
    exact ⟨rfl, HE1⟩
  · have hs : ((if P = 0 then (0 : Int) else if neg = true then -1 else 1) == 0) = false := by
      rw [if_neg (by omega)]; cases neg <;> rfl
    generalize (if P = 0 then (0 : Int) else if neg = true then -1 else 1) = sg at *
    have HBI := bits64_any neg _ _ P D w1 HN1.out HD1.out h0 (by omega) hlN hlD
    have hr := res64_lt P D
    have e1 : res64 P D = r := by rw [HRR.out]; unfold out64; rw [if_neg (by omega), if_neg (by decide)]
    have e2 : exa64 P D = ex := by rw [HXX.out]; unfold ox64; rw [if_neg (by omega)]
    rw [e1] at hr HBI
    rw [e2] at HBI
    clear e1 e2 HRR HXX
    go_wp2_with fail
    refine HBI.mono ?_
    rintro e w2 ⟨rfl, hb⟩
    have HE2 := hid (below_next HE1.out hb.out)
    have ew : IntKind.u64.wrap (r : Int) = r := by rw [IntKind.wrap_u64]; omega
    clear HBI hb
    go_wp2_with fail
    go_ret2
    exact ⟨rfl, HE2⟩
end Go.Proofs.YtgdgklhfakplhaaGreatDoor
namespace Go.Proofs.YtgdgklhfakplhaaGreatDoor
open Go.RowKit Go.Dig
set_option maxRecDepth 100000
theorem low_of {P D : Nat} (hD : 0 < D) (h : ¬ (out64 false P D = 0 ∧ ox64 P D = false)) : P = 0 ∨ -1128 ≤ e1 P D := by
  rcases Nat.eq_zero_or_pos P with h0 | hP
  · exact .inl h0
  · rcases Int.lt_or_le (e1 P D) (-1128) with g | g
    · exfalso
      apply h
      obtain ⟨c1, c2, c3⟩ := too_small hP hD g
      constructor
      · unfold out64
        rw [if_neg (by omega), if_neg (by decide)]
        unfold res64
        rw [c1, c2, show ((-1074 : Int) + 1074).toNat = 0 by decide, Nat.zero_mul]
        simp
      · unfold ox64
        rw [if_neg (by omega)]
        unfold exa64
        rw [c1, decide_eq_false c3, Bool.false_and]
    · exact .inr g
theorem out_neg {P D : Nat} (h : P ≠ 0) : out64 true P D = out64 false P D + 9223372036854775808 := by
  unfold out64
  rw [if_neg h, if_neg h, if_pos rfl, if_neg (by decide)]
set_option maxHeartbeats 2000000 in
theorem ffl_any (k : Int) (t : Bool) (s : ByteArray) (n1 n2 : Bool) (v1 v2 : Value) (ws1 ws2 : List Nat) (a3 a4 : Option Addr) (l3 l4 c3 c4 : Nat) (w : World) (h1 : Rd .u64 w v1 ws1) (h2 : Rd .u64 w v2 ws2) (hw1 : ∀ x ∈ ws1, x < 18446744073709551616) (hw2 : ∀ x ∈ ws2, x < 18446744073709551616) (hthr : w.cell? ⟨1, 0, none⟩ = some (.int .i64 40)) :
    Calls Tryz.prog 3 #[.agg #[.int .i64 k, .bool t, .string s, .bool n1, v1, v2, .bool n2, .slice a3 l3 c3, .slice a4 l4 c4]] w fun e w' => e = .returned (.bool true) ∧ Below w.heap.size w w' := by
  obtain ⟨a1, c1, rfl⟩ := h1.shape
  obtain ⟨a2, c2, rfl⟩ := h2.shape
  have h1w := World.block_lt_of_cell? w _ hthr
  have HK := hid (blk_new w #[.int .i64 k, .bool t, .string s, .bool n1, .slice a1 ws1.length c1, .slice a2 ws2.length c2, .bool n2, .slice a3 l3 c3, .slice a4 l4 c4] 26)
  have HB : Hid (Below w.heap.size w (w.alloc (.cells #[.int .i64 k, .bool t, .string s, .bool n1, .slice a1 ws1.length c1, .slice a2 ws2.length c2, .bool n2, .slice a3 l3 c3, .slice a4 l4 c4] 26))) := (Below.refl _ _).alloc (Nat.le_refl _) _
  have H1 := hid (h1.below HB.out (Nat.le_refl _))
  have H2 := hid (h2.below HB.out (Nat.le_refl _))
  have HW1 := hid hw1
  have HW2 := hid hw2
  have HTHR := hid hthr
  have H1W := hid h1w
  clear h1 h2 hw1 hw2 hthr h1w
  generalize hL1 : ws1.length = L1 at *
  generalize hL2 : ws2.length = L2 at *
  have HL1 := hid hL1
  have HL2 := hid hL2
  clear hL1 hL2
  go_enter Tryz.func3, Tryz.ntmps3
  go_wp2_with fail
  generalize w.alloc (.cells #[.int .i64 k, .bool t, .string s, .bool n1, .slice a1 L1 c1, .slice a2 L2 c2, .bool n2, .slice a3 l3 c3, .slice a4 l4 c4] 26) = w0 at *
  refine (zzFits1_any k t s n1 n2 _ _ _ _ _ _ _ _ _ _ _ _ w0).mono ?_
  rintro e w1 ⟨ok, rfl, hb⟩
  have HK1 := hid (HK.out.below hb HK.out.lt)
  have HB1 := hid (below_next HB.out hb)
  have H11 := hid (H1.out.below hb (Nat.le_refl _))
  have H21 := hid (H2.out.below hb (Nat.le_refl _))
  clear hb HK HB H1 H2
  cases ok
  · go_wp2_with fail
    go_ret
    exact ⟨rfl, HB1.out⟩
  obtain ⟨b0, b1, b2, b3, b4, b5, b6, b7, b8, f0, f1, f2, f3, f4, f5, f6, f7, f8⟩ := HK1.out.nine
  go_wp2_with fail
  have HRT := ratio7_any k t s n1 n2 (.slice a1 L1 c1) (.slice a2 L2 c2) ws1 ws2 a3 a4 l3 l4 c3 c4 w1 H11.out H21.out HW1.out HW2.out
  refine HRT.mono ?_
  rintro e w2 ⟨neg, ok2, u1, u2, P, D, rfl, hN, hD, hz, hlP, hlD, hok, hb⟩
  have HK2 := hid (HK1.out.below hb HK1.out.lt)
  have HB2 := hid (below_next HB1.out hb)
  have H12 := hid (H11.out.below hb (Nat.le_refl _))
  have H22 := hid (H21.out.below hb (Nat.le_refl _))
  have HN2 := hid hN
  have HD2 := hid hD
  have HZ := hid hz
  have HLP := hid hlP
  have HLD := hid hlD
  have HOK := hid hok.out
  obtain ⟨p1, q1, r1, rfl⟩ : ∃ a l c, u1 = .slice a l c := by obtain ⟨a, c, h, _⟩ := hN; exact ⟨a, _, c, h⟩
  obtain ⟨p2, q2, r2, rfl⟩ : ∃ a l c, u2 = .slice a l c := by obtain ⟨a, c, h, _⟩ := hD; exact ⟨a, _, c, h⟩
  clear hb HK1 HB1 H11 H21 hN hD hz hlP hlD hok HRT b0 b1 b2 b3 b4 b5 b6 b7 b8 f0 f1 f2 f3 f4 f5 f6 f7 f8
  go_wp2_with fail
  have hbA : Below w2.heap.size w2 (w2.alloc (.cells #[.bool neg, .slice p1 q1 r1, .slice p2 q2 r2] 31)) := (Below.refl _ _).alloc (Nat.le_refl _) _
  have HV := hid (blk_new w2 #[.bool neg, .slice p1 q1 r1, .slice p2 q2 r2] 31)
  have HK3 := hid (HK2.out.below hbA HK2.out.lt)
  have HB3 := hid (below_next HB2.out hbA)
  have H13 := hid (H12.out.below hbA (Nat.le_refl _))
  have H23 := hid (H22.out.below hbA (Nat.le_refl _))
  have HN3 := hid (HN2.out.below hbA (Nat.le_refl _))
  have HD3 := hid (HD2.out.below hbA (Nat.le_refl _))
  clear hbA HK2 HB2 H12 H22 HN2 HD2
  generalize w2.alloc (.cells #[.bool neg, .slice p1 q1 r1, .slice p2 q2 r2] 31) = w3 at *
  generalize w2.heap.size = V at *
  obtain ⟨wt, hwt⟩ : ∃ r, out64 false P D = r := ⟨_, rfl⟩
  obtain ⟨rt, hrt⟩ : ∃ ex, ox64 P D = ex := ⟨_, rfl⟩
  have HFO := floatOf_any neg (.slice p1 q1 r1) (.slice p2 q2 r2) P D w3 HN3.out HD3.out HZ.out HLP.out HLD.out
  rw [hwt, hrt] at HFO
  refine HFO.mono ?_
  rintro e w4 ⟨rfl, hb4⟩
  have hb := hb4.out
  have HK4 := hid (HK3.out.below hb HK3.out.lt)
  have HV4 := hid (HV.out.below hb HV.out.lt)
  have HB4 := hid (below_next HB3.out hb)
  have H14 := hid (H13.out.below hb (Nat.le_refl _))
  have H24 := hid (H23.out.below hb (Nat.le_refl _))
  have HWT := hid hwt
  have HRTT := hid hrt
  have hwb : wt < 9223372036854775808 := by
    rw [← hwt]
    have := res64_lt P D
    unfold out64
    split
    · omega
    · rw [if_neg (by decide)]; omega
  clear hb hb4 hwt hrt HFO HN3 HD3 HK3 HV HB3 H13 H23
  obtain ⟨z0, z1, z2, y0, y1, y2⟩ := HV4.out.three
  cases ok2
  · go_wp2_with fail
    go_ret
    exact ⟨rfl, HB4.out⟩
  obtain ⟨g0, rfl, g2, g3, g4, g5⟩ := HOK.out rfl
  obtain ⟨rfl, g6, g7⟩ := g0
  rcases Nat.eq_zero_or_pos wt with hw0 | hw0
  · subst hw0
    cases rt
    · go_wp2_with fail
      go_ret
      exact ⟨rfl, HB4.out⟩
    · skip
      have HLOW := low_of g2 (fun h => by rw [HWT.out, HRTT.out] at h; cases h.2)
      have hthr4 : w4.cell? ⟨1, 0, none⟩ = some (.int .i64 40) := (HB4.out.cell (p := ⟨1, 0, none⟩) H1W.out).trans HTHR.out
      have HF := f64Float_any (.bool t) (.string s) neg (.slice a1 L1 c1) (.slice a2 L2 c2) (.bool n2) (.slice a3 l3 c3) (.slice a4 l4 c4) P D w4 (g3 ▸ H14.out) (g4 ▸ H24.out) (by rw [← g3]; omega) (by rw [← g4]; omega) g2 HLOW hthr4
      rw [HRTT.out] at HF
      have HON : Hid (neg = true → out64 neg P D = 0 + 9223372036854775808) := hid (fun h => by rw [h, out_neg (g5 h), HWT.out])
      have HOF : Hid (neg = false → out64 neg P D = 0) := hid (fun h => by rw [h, HWT.out])
      clear hthr4 HLOW g2 g3 g4 g5 g6 g7 HWT HRTT H14 H24
      obtain ⟨b0, b1, b2, b3, b4, b5, b6, b7, b8, f0, f1, f2, f3, f4, f5, f6, f7, f8⟩ := HK4.out.nine
      cases neg
      · rw [HOF.out rfl] at HF
        go_wp2_with fail
        refine HF.mono ?_
        rintro e w5 ⟨rfl, hb5⟩
        have HB5 := hid (below_next HB4.out hb5.out)
        clear HF hb5
        go_wp2_with fail
        go_ret
        exact ⟨rfl, HB5.out⟩
      · rw [HON.out rfl] at HF
        go_wp2_with fail
        refine HF.mono ?_
        rintro e w5 ⟨rfl, hb5⟩
        have HB5 := hid (below_next HB4.out hb5.out)
        clear HF hb5
        go_wp2_with fail
        go_ret
        exact ⟨rfl, HB5.out⟩
  · have hwn : ((wt : Int) == 0) = false := by simp; omega
    have HLOW := low_of g2 (fun h => by rw [HWT.out, HRTT.out] at h; have := h.1; omega)
    have hthr4 : w4.cell? ⟨1, 0, none⟩ = some (.int .i64 40) := (HB4.out.cell (p := ⟨1, 0, none⟩) H1W.out).trans HTHR.out
    have HF := f64Float_any (.bool t) (.string s) neg (.slice a1 L1 c1) (.slice a2 L2 c2) (.bool n2) (.slice a3 l3 c3) (.slice a4 l4 c4) P D w4 (g3 ▸ H14.out) (g4 ▸ H24.out) (by rw [← g3]; omega) (by rw [← g4]; omega) g2 HLOW hthr4
    rw [HRTT.out] at HF
    have HON : Hid (neg = true → out64 neg P D = wt + 9223372036854775808) := hid (fun h => by rw [h, out_neg (g5 h), HWT.out])
    have HOF : Hid (neg = false → out64 neg P D = wt) := hid (fun h => by rw [h, HWT.out])
    clear hthr4 HLOW g2 g3 g4 g5 g6 g7 HWT HRTT H14 H24
    obtain ⟨b0, b1, b2, b3, b4, b5, b6, b7, b8, f0, f1, f2, f3, f4, f5, f6, f7, f8⟩ := HK4.out.nine
    cases neg
    · rw [HOF.out rfl] at HF
      go_wp2_with fail
      refine HF.mono ?_
      rintro e w5 ⟨rfl, hb5⟩
      have HB5 := hid (below_next HB4.out hb5.out)
      clear HF hb5
      go_wp2_with fail
      go_ret
      exact ⟨rfl, HB5.out⟩
    · rw [HON.out rfl] at HF
      go_wp2_with fail
      refine HF.mono ?_
      rintro e w5 ⟨rfl, hb5⟩
      have HB5 := hid (below_next HB4.out hb5.out)
      clear HF hb5
      go_wp2_with fail
      go_ret
      exact ⟨rfl, HB5.out⟩
end Go.Proofs.YtgdgklhfakplhaaGreatDoor
namespace Go.Proofs.YtgdgklhfakplhaaGreatDoor
open Go.ChangeShapes Go.WideShapes Go.ChangeAt Go.RowKit Go.Deep
set_option maxRecDepth 100000
theorem cells26 : Tryz.prog.cellsOf 26 = 9 := by kernel_rfl
theorem cells24 : Tryz.prog.cellsOf 24 = 2 := by kernel_rfl
theorem cells22 : Tryz.prog.cellsOf 22 = 1 := by kernel_rfl
theorem cells3 : Tryz.prog.cellsOf 3 = 1 := by kernel_rfl
theorem cells4 : Tryz.prog.cellsOf 4 = 1 := by kernel_rfl
theorem cells9 : Tryz.prog.cellsOf 9 = 1 := by kernel_rfl
theorem cells44 : Tryz.prog.cellsOf 44 = 1 := by kernel_rfl
theorem wf_range {k : IntKind} {n : Int} (h : (Lit.int k n).wf = true) : k.min ≤ n ∧ n ≤ k.max := by simpa [Lit.wf] using h
section
variable {H : Type} {enc : TypeId × Value → H} {W : World} {sp : Nat → Bool}
/-- A slice of words that came in. -/
theorem open_words {fuel : Nat} {c : Value} {x : DataW H × List MemPlace} (h : DataW.trod enc Tryz.prog W 0 sp true fuel 22 [c] = some x) :
    ∃ ws : List Nat, Rd .u64 W c ws ∧ ∀ x ∈ ws, x < 18446744073709551616 := by
  rcases open_slice1 Tryz.underlying22 cells44 h with ⟨e, _⟩ | ⟨a, len, cap, m, n, V, D, Pl, e, _, hl, hm, hmm, _, hx⟩
  · simp only [List.cons.injEq, and_true] at e
    subst e
    exact ⟨[], Rd.nil .u64 W, by simp⟩
  · simp only [List.cons.injEq, and_true] at e
    subst e
    have hle : len ≤ m := by rw [hmm]; split <;> omega
    have hV : ∀ i, i < len → V i = .int .u64 ((intOf (V i)).toNat : Nat) ∧ (intOf (V i)).toNat < 18446744073709551616 := fun i hi => by
      obtain ⟨_, h2⟩ := hx i (by omega)
      obtain ⟨z, e1, _, hw⟩ := DataW.trod_int Tryz.underlying41 h2
      simp only [List.cons.injEq, and_true] at e1
      have hr := wf_range hw
      have h0 : 0 ≤ z := hr.1
      have h1 : z ≤ 18446744073709551615 := hr.2
      rw [e1]
      refine ⟨?_, ?_⟩
      · show Value.int .u64 z = .int .u64 ((z.toNat : Nat) : Int)
        rw [Int.toNat_of_nonneg h0]
      · show z.toNat < _
        omega
    refine ⟨(List.range len).map fun i => (intOf (V i)).toNat, ⟨some a, cap, by simp, by simpa using hl, by unfold maxLen at hm; omega, fun hp => ?_⟩, ?_⟩
    · simp only [List.length_map, List.length_range] at hp
      obtain ⟨b, off, spot⟩ := a
      have g0 := (hx 0 (by omega)).1
      have hs : spot = none := by simpa [Addr.add] using World.cell?_spot g0
      subst hs
      refine ⟨b, off, rfl, fun i hi => ?_⟩
      simp only [List.length_map, List.length_range] at hi
      have gi := (hx i (by omega)).1
      rw [Addr.add_lit, (hV i hi).1] at gi
      rw [gi, List.getD_eq_getElem?_getD, List.getElem?_map, List.getElem?_range hi]
      rfl
    · intro y hy
      obtain ⟨i, hi, rfl⟩ := List.mem_map.1 hy
      exact (hV i (List.mem_range.1 hi)).2
/-- A value of the thin package that came in. -/
theorem open_value {base : Nat} {v : Value} {d : DataW H} {ps : List MemPlace} (hval : Value.okWide Tryz.prog W .any base 26 v) (h : DataW.Trod enc Tryz.prog W 0 sp true 26 v d ps) :
    ∃ (k : Int) (t : Bool) (s : ByteArray) (n1 : Bool) (v1 v2 : Value) (n2 : Bool) (v3 v4 : Value) (w1 w2 w3 w4 : List Nat), v = .agg #[.int .i64 k, .bool t, .string s, .bool n1, v1, v2, .bool n2, v3, v4] ∧
      Rd .u64 W v1 w1 ∧ (∀ x ∈ w1, x < 18446744073709551616) ∧ Rd .u64 W v2 w2 ∧ (∀ x ∈ w2, x < 18446744073709551616) ∧ Rd .u64 W v3 w3 ∧ Rd .u64 W v4 w4 ∧ s.size ≤ maxLen ∧
      -9223372036854775808 ≤ k ∧ k ≤ 9223372036854775807 := by
  unfold Value.okWide at hval
  rw [Tryz.underlying26] at hval
  obtain ⟨cs, rfl, _, _⟩ := hval
  obtain ⟨fuel, hf⟩ := h
  obtain ⟨xs, n, _, _, hlen, hxl, hfl⟩ := DataW.trod_struct Tryz.underlying26 hf
  rw [cells26] at hlen
  obtain ⟨l⟩ := cs
  have hlen' : l.length = 9 := hlen
  match l, hlen' with
  | [c0, c1, c2, c3, c4, c5, c6, c7, c8], _ =>
    have hxl' : xs.length = 7 := hxl
    match xs, hxl' with
    | [y0, y1, y2, y3, y4, y5, y6], _ =>
      have t0 : DataW.trod enc Tryz.prog W 0 sp true n 3 [c0] = some y0 := by have := hfl 0 _ rfl; simpa [cells3, Value.cells] using this
      have t1 : DataW.trod enc Tryz.prog W 0 sp true n 4 [c1] = some y1 := by have := hfl 1 _ rfl; simpa [cells4, Value.cells] using this
      have t2 : DataW.trod enc Tryz.prog W 0 sp true n 9 [c2] = some y2 := by have := hfl 2 _ rfl; simpa [cells9, Value.cells] using this
      have t3 : DataW.trod enc Tryz.prog W 0 sp true n 24 [c3, c4] = some y3 := by have := hfl 3 _ rfl; simpa [cells24, Value.cells] using this
      have t4 : DataW.trod enc Tryz.prog W 0 sp true n 22 [c5] = some y4 := by have := hfl 4 _ rfl; simpa [cells22, Value.cells] using this
      have t5 : DataW.trod enc Tryz.prog W 0 sp true n 24 [c6, c7] = some y5 := by have := hfl 5 _ rfl; simpa [cells24, Value.cells] using this
      have t6 : DataW.trod enc Tryz.prog W 0 sp true n 22 [c8] = some y6 := by have := hfl 6 _ rfl; simpa [cells22, Value.cells] using this
      obtain ⟨k, e0, _, hw⟩ := DataW.trod_int Tryz.underlying3 t0
      obtain ⟨t, e1, _⟩ := DataW.trod_bool Tryz.underlying4 t1
      obtain ⟨s, e2, _, hs⟩ := DataW.trod_string Tryz.underlying9 t2
      obtain ⟨z0, z1, m, _, _, u0, u1⟩ := trod_struct2 Tryz.underlying24 t3
      simp only [cells4, cells22, List.drop, List.take] at u0 u1
      obtain ⟨n1, e3, _⟩ := DataW.trod_bool Tryz.underlying4 u0
      obtain ⟨w1, r1, l1⟩ := open_words u1
      obtain ⟨w2, r2, l2⟩ := open_words t4
      obtain ⟨z2, z3, m2, _, _, u2, u3⟩ := trod_struct2 Tryz.underlying24 t5
      simp only [cells4, cells22, List.drop, List.take] at u2 u3
      obtain ⟨n2, e6, _⟩ := DataW.trod_bool Tryz.underlying4 u2
      obtain ⟨w3, r3, l3⟩ := open_words u3
      obtain ⟨w4, r4, l4⟩ := open_words t6
      simp only [List.cons.injEq, and_true] at e0 e1 e2 e3 e6
      subst e0 e1 e2 e3 e6
      have hr := wf_range hw
      exact ⟨k, t, s, n1, c4, c5, n2, c7, c8, w1, w2, w3, w4, rfl, r1, l1, r2, l2, r3, r4, hs, hr.1, hr.2⟩
end
end Go.Proofs.YtgdgklhfakplhaaGreatDoor
