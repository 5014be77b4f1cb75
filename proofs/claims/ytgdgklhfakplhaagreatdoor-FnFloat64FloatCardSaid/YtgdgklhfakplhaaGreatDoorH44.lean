/- Walks and lemmas for the laws of this seat. -/
import Derived.Test.YtgdgklhfakplhaaGreatDoorH37
import Derived.Test.YtgdgklhfakplhaaGreatDoorH43
import Derived.Test.YtgdgklhfakplhaaGreatDoorH42
import Derived.Test.YtgdgklhfakplhaaGreatDoorH35
namespace Go.Proofs.YtgdgklhfakplhaaGreatDoor
open Go.RowKit Go.Dig Go.Rnd
set_option maxRecDepth 100000
theorem nbitLen_zero (a : Option Addr) (c : Nat) (w : World) : Calls Tryz.prog 105 #[.slice a 0 c] w fun e w' => e = .returned (.int .i64 0) ∧ w' = w := by
  go_enter Tryz.func105, Tryz.ntmps105
  go_wp2_with fail
  go_ret
  exact ⟨rfl, rfl⟩
set_option maxHeartbeats 400000 in
theorem quot_zero (p : Value) (a : Option Addr) (c : Nat) (vb : Value) (w : World) : Calls Tryz.prog 71 #[p, .slice a 0 c, vb] w fun e w' => e = .returned (.tuple #[.float .f64 0, .bool true]) ∧ w' = w := by
  go_enter Tryz.func71, Tryz.ntmps71
  go_wp2_with fail
  refine (nbitLen_zero _ _ _).mono ?_
  rintro e w' ⟨rfl, rfl⟩
  go_wp2_with fail
  go_ret2
  exact ⟨rfl, rfl⟩
theorem ratF64_zero (bx C L : Nat) (a aP : Option Addr) (cP : Nat) (w : World) (hB : Blk w bx #[.bool false, .slice aP 0 cP, .bool false, .slice a L C] 133) (hL : 0 < L) :
    Calls Tryz.prog 34 #[.pointer (some ⟨bx, 0, none⟩)] w fun e w' => e = .returned (.tuple #[.float .f64 0, .bool true]) ∧ Below w.heap.size w w' := by
  refine (ratF64_core bx L C a false (.slice aP 0 cP) 0 true (by omega) w hB hL (fun w2 hb hs => ?_)).mono ?_
  · refine (quot_zero _ aP cP _ w2).mono ?_
    rintro e w' ⟨rfl, rfl⟩
    exact ⟨none, rfl, hs, Below.refl _ _⟩
  · rintro e w' ⟨rfl, h⟩
    exact ⟨rfl, h⟩
set_option maxHeartbeats 400000 in
theorem f64Val_rat (bx r : Nat) (ex : Bool) (w : World) (h : ∀ w2, Below w.heap.size w w2 → Calls Tryz.prog 34 #[.pointer (some ⟨bx, 0, none⟩)] w2 fun e w' => e = .returned (.tuple #[.float .f64 r, .bool ex]) ∧ Below w2.heap.size w2 w') :
    Calls Tryz.prog 16 #[.iface 83 (.agg #[.pointer (some ⟨bx, 0, none⟩)])] w fun e w' => e = .returned (.tuple #[.float .f64 r, .bool ex]) ∧ Below w.heap.size w w' := by
  have h3 := ta_132_119
  have h4 := ta_132_122
  have h5 := ta_132_132
  go_enter Tryz.func16, Tryz.ntmps16
  go_wp2_with fail
  have hb : Below w.heap.size w (w.alloc (.cells #[.pointer (some ⟨bx, 0, none⟩)] 83)) := (Below.refl _ _).alloc (Nat.le_refl _) _
  have H := h _ hb
  have HB := hid hb
  clear h hb
  generalize w.alloc (.cells #[.pointer (some ⟨bx, 0, none⟩)] 83) = w1 at *
  refine H.mono ?_
  rintro e w2 ⟨rfl, hb2⟩
  have HB2 := hid (below_next HB.out hb2)
  clear H hb2
  go_wp2_with fail
  go_ret2
  exact ⟨rfl, HB2.out⟩
set_option maxHeartbeats 400000 in
theorem intBitLen_at (b o n : Nat) (v : Value) (w : World) (hc : w.cell? ⟨b, o + 1, none⟩ = some v) (hv : Nw w v n) (hl : (dg 18446744073709551616 n).length ≤ 900) : Calls Tryz.prog 60 #[.pointer (some ⟨b, o, none⟩)] w fun e w' => e = .returned (.int .i64 (blen n : Nat)) ∧ w' = w := by
  have H : Calls Tryz.prog 105 #[v] w fun e w' => e = .returned (.int .i64 (blen n : Nat)) ∧ w' = w := by
    rcases Nat.eq_zero_or_pos n with h | h
    · subst h
      obtain ⟨a, c, rfl⟩ := hv.shape
      rw [dg_zero, blen_zero]
      exact nbitLen_zero a c w
    · exact nbitLen_any v n w hv h hl
  obtain ⟨a, c, rfl⟩ := hv.shape
  clear hv
  go_enter Tryz.func60, Tryz.ntmps60
  go_wp2_with fail
  refine H.mono ?_
  rintro e w' ⟨rfl, rfl⟩
  go_wp2_with fail
  go_ret
  exact ⟨rfl, rfl⟩
set_option maxHeartbeats 400000 in
theorem smallInt_at (b o n : Nat) (v : Value) (w : World) (hc : w.cell? ⟨b, o + 1, none⟩ = some v) (hv : Nw w v n) (hl : (dg 18446744073709551616 n).length ≤ 900) (hs : blen n < 4096) : Calls Tryz.prog 116 #[.pointer (some ⟨b, o, none⟩)] w fun e w' => e = .returned (.bool true) ∧ w' = w := by
  have H := intBitLen_at b o n v w hc hv hl
  have c1 : decide ((blen n : Int) < 4096) = true := decide_eq_true (by omega)
  generalize blen n = L at *
  go_enter Tryz.func116, Tryz.ntmps116
  go_wp2_with fail
  refine H.mono ?_
  rintro e w' ⟨rfl, rfl⟩
  go_wp2_with fail
  go_ret
  exact ⟨rfl, rfl⟩
set_option maxHeartbeats 1000000 in
theorem makeRat_small (bx P D : Nat) (s : Bool) (vP vD : Value) (w : World) (hB : Blk w bx #[.bool s, vP, .bool false, vD] 133) (hP : Nw w vP P) (hD : Nw w vD D) (hD0 : 0 < D) (hlP : (dg 18446744073709551616 P).length ≤ 60) (hlD : (dg 18446744073709551616 D).length ≤ 60) (hsP : blen P < 4096) (hsD : blen D < 4096) :
    Calls Tryz.prog 73 #[.pointer (some ⟨bx, 0, none⟩)] w fun e w' => e = .returned (.iface 83 (.agg #[.pointer (some ⟨bx, 0, none⟩)])) ∧ Below w.heap.size w w' := by
  have h1 := hB.cell 1
  have h3 := hB.cell 3
  simp only [List.getElem?_toArray, List.getElem?_cons_zero, List.getElem?_cons_succ] at h1 h3
  have HS1 := smallInt_at bx 0 P vP w h1 hP (by omega) hsP
  have HS2 := smallInt_at bx 2 D vD w h3 hD (by omega) hsD
  have HNM := ratNum_any bx w
  have hL : 0 < (dg 18446744073709551616 D).length := by
    rcases Nat.eq_zero_or_pos (dg 18446744073709551616 D).length with h | h
    · have := (dg_nil_iff (b := 18446744073709551616) (by omega)).1 (List.length_eq_zero_iff.1 h); omega
    · exact h
  have HDN : Calls Tryz.prog 77 #[.pointer (some ⟨bx, 0, none⟩)] w fun e w' => e = .returned (.pointer (some ⟨bx, 2, none⟩)) ∧ w' = w := by
    obtain ⟨a, c, rfl⟩ := hD.shape
    exact ratDen_any bx a _ c w h3 hL
  clear hB hP hD h1 h3
  go_enter Tryz.func73, Tryz.ntmps73
  go_wp2_with fail
  refine HNM.mono ?_
  rintro e w' ⟨rfl, rfl⟩
  go_wp2_with fail
  refine HDN.mono ?_
  rintro e w' ⟨rfl, rfl⟩
  go_wp2_with fail
  refine HS1.mono ?_
  rintro e w' ⟨rfl, rfl⟩
  go_wp2_with fail
  refine HS2.mono ?_
  rintro e w' ⟨rfl, rfl⟩
  go_wp2_with fail
  go_ret
  exact ⟨rfl, Below.refl _ _⟩
set_option maxHeartbeats 400000 in
theorem make_rat (bx : Nat) (w : World) (H : ∀ w2, Below w.heap.size w w2 → Calls Tryz.prog 73 #[.pointer (some ⟨bx, 0, none⟩)] w2 fun e w' => e = .returned (.iface 83 (.agg #[.pointer (some ⟨bx, 0, none⟩)])) ∧ Below w2.heap.size w2 w') :
    Calls Tryz.prog 36 #[.iface 81 (.pointer (some ⟨bx, 0, none⟩))] w fun e w' => e = .returned (.iface 83 (.agg #[.pointer (some ⟨bx, 0, none⟩)])) ∧ Below w.heap.size w w' := by
  have t1 := tb_130_4
  have t2 := tb_130_9
  have t3 := tb_130_2
  have t4 := tb_130_120
  have t5 := tb_130_130
  have H1 := H w (Below.refl _ _)
  clear H
  go_enter Tryz.func36, Tryz.ntmps36
  go_wp2_with fail
  refine H1.mono ?_
  rintro e w' ⟨rfl, hb⟩
  have HB := hid hb
  clear hb
  go_wp2_with fail
  go_ret
  exact ⟨rfl, HB.out⟩
set_option maxHeartbeats 1000000 in
/-- Rat.SetInt onto a new fraction. -/
theorem setInt_new (z bi n : Nat) (s : Bool) (w : World) (hz : Blk w z #[.bool false, .slice none 0 0, .bool false, .slice none 0 0] 133) (hi : Iv w bi s n) (hne : z ≠ bi) (hl : (dg 18446744073709551616 n).length ≤ 900) :
    Calls Tryz.prog 75 #[.pointer (some ⟨z, 0, none⟩), .pointer (some ⟨bi, 0, none⟩)] w fun e w' => e = .returned (.pointer (some ⟨z, 0, none⟩)) ∧ ∃ v v1, Blk w' z #[.bool s, v, .bool false, v1] 133 ∧ Nw w' v n ∧ Nw w' v1 1 ∧ Below z w w' := by
  obtain ⟨vi, hbi, hvi⟩ := hi
  have HIS := intSet_new z 0 bi 0 n false s vi _ _ 133 124 w hz rfl rfl hbi rfl rfl hvi hl hne
  have hzl := hz.lt
  have HZ := hid hz
  clear hz hbi hvi
  go_enter Tryz.func75, Tryz.ntmps75
  go_wp2_with fail
  refine HIS.mono ?_
  rintro e w2 ⟨rfl, v, w1, hb1, hv1, hw1, rfl⟩
  have hB2 : Blk ((w1.setCell ⟨z, 0 + 1, none⟩ v).setCell ⟨z, 0, none⟩ (.bool s)) z #[.bool s, v, .bool false, .slice none 0 0] 133 := by
    have := ((HZ.out.below hb1 hzl).set 1 v).set 0 (.bool s)
    simpa using this
  have hv2 := put4_nw (i := 0 + 1) (j := 0) (v := v) (x := .bool s) HZ.out hb1 hv1
  have hb2 : Below z w ((w1.setCell ⟨z, 0 + 1, none⟩ v).setCell ⟨z, 0, none⟩ (.bool s)) := Below.setCell (p := ⟨z, 0, none⟩) (Below.setCell (p := ⟨z, 0 + 1, none⟩) (hb1.mono (Nat.le_of_lt hzl)) (Nat.le_refl z) _) (Nat.le_refl z) _
  clear HIS hw1 hv1 hb1
  generalize (w1.setCell ⟨z, 0 + 1, none⟩ v).setCell ⟨z, 0, none⟩ (.bool s) = w2 at *
  have h3 := hB2.cell 3
  simp only [List.getElem?_toArray, List.getElem?_cons_zero, List.getElem?_cons_succ] at h3
  have HB2 := hid hB2
  have HV2 := hid hv2
  have HE2 := hid hb2
  clear hB2 hv2 hb2
  go_wp2_with fail
  refine (setWord_wd 1 w2).mono ?_
  rintro e w3 ⟨v1, rfl, hw1, hb3⟩
  have hB3 := HB2.out.below hb3 HB2.out.lt
  have hf3 := hB3.frozen 3
  have h3' := hB3.cell 3
  simp only [List.getElem?_toArray, List.getElem?_cons_zero, List.getElem?_cons_succ] at h3'
  have hn1 := hw1.nw (show 1 < 18446744073709551616 by omega)
  have HB4 : Hid (Blk (w3.setCell ⟨z, 3, none⟩ v1) z #[.bool s, v, .bool false, v1] 133) := by
    have := hB3.set 3 v1
    exact hid (by simpa using this)
  have HV4 : Hid (Nw (w3.setCell ⟨z, 3, none⟩ v1) v n) := hid ((HV2.out.below hb3 (Nat.le_refl _)).set (p := ⟨z, 3, none⟩) v1 hB3.shape (by decide))
  have HN4 : Hid (Nw (w3.setCell ⟨z, 3, none⟩ v1) v1 1) := hid (hn1.set (p := ⟨z, 3, none⟩) v1 hB3.shape (by decide))
  have HE4 : Hid (Below z w (w3.setCell ⟨z, 3, none⟩ v1)) := hid (Below.setCell (p := ⟨z, 3, none⟩) (HE2.out.trans (hb3.mono (Nat.le_of_lt HB2.out.lt))) (Nat.le_refl z) _)
  obtain ⟨a1, c1, rfl⟩ := hn1.shape
  clear hw1 hb3 hB3 h3 hn1
  go_wp2_with fail
  go_ret
  exact ⟨rfl, v, _, HB4.out, HV4.out, HN4.out, HE4.out⟩
set_option maxHeartbeats 1000000 in
/-- Int.SetBits onto the denominator of a fraction. -/
theorem setBits_den (z : Nat) (s : Bool) (vA v0 va : Value) (ds : List Nat) (w : World) (hz : Blk w z #[.bool s, vA, .bool false, v0] 133) (ha : Rt 181 .u64 w va ds) (hd : ∀ d ∈ ds, d < 18446744073709551616) :
    Calls Tryz.prog 78 #[.pointer (some ⟨z, 2, none⟩), va] w fun e w' => ∃ v, e = .returned (.pointer (some ⟨z, 2, none⟩)) ∧ Nw w v (val 18446744073709551616 ds) ∧ w' = (w.setCell ⟨z, 3, none⟩ v).setCell ⟨z, 2, none⟩ (.bool false) := by
  have h2 := hz.cell 2
  have h3 := hz.cell 3
  have f2 := hz.frozen 2
  have f3 := hz.frozen 3
  simp only [List.getElem?_toArray, List.getElem?_cons_zero, List.getElem?_cons_succ] at h2 h3
  have HA := hid ha
  obtain ⟨aa, ca, rfl⟩ := ha.shape
  clear hz ha
  go_enter Tryz.func78, Tryz.ntmps78
  go_wp2_with fail
  refine (norm_any _ _ _ HA.out).mono ?_
  rintro e w3 ⟨v, rfl, hv, rfl⟩
  rw [trim_eq (by omega) hd] at hv
  have HV := hid hv
  obtain ⟨av, cv, rfl⟩ := hv.shape
  clear hv
  go_wp2_with fail
  go_ret
  exact ⟨_, rfl, HV.out, rfl⟩
end Go.Proofs.YtgdgklhfakplhaaGreatDoor
namespace Go.Proofs.YtgdgklhfakplhaaGreatDoor
open Go.RowKit Go.Dig Go.Rnd
set_option maxRecDepth 100000
set_option maxHeartbeats 1000000 in
theorem over_any (neg : Bool) (v u : Value) (P D : Nat) (w : World) (hv : Rd .u64 w v (dg 18446744073709551616 P)) (hu : Rd .u64 w u (dg 18446744073709551616 D)) (hlP : (dg 18446744073709551616 P).length ≤ 60) (hlD : (dg 18446744073709551616 D).length ≤ 60) :
    Calls Tryz.prog 37 #[.agg #[.bool neg, v], u] w fun e w' => ∃ (z : Nat) (s : Bool) (vP vD : Value), e = .returned (.pointer (some ⟨z, 0, none⟩)) ∧ Hid (Blk w' z #[.bool s, vP, .bool false, vD] 133) ∧ Hid (Nw w' vP P) ∧ Hid (Nw w' vD D) ∧ Hid (s = (neg && decide (P ≠ 0))) ∧ Hid (Below w.heap.size w w') := by
  have HV := hid hv
  have HU := hid hu
  obtain ⟨av, cv, rfl⟩ := hv.shape
  obtain ⟨au, cu, rfl⟩ := hu.shape
  have HDP := hid (val_dg (b := 18446744073709551616) (by omega) P)
  have HDD := hid (val_dg (b := 18446744073709551616) (by omega) D)
  have HLP := hid (dg_lt (b := 18446744073709551616) (by omega) P)
  have HLD := hid (dg_lt (b := 18446744073709551616) (by omega) D)
  clear hv hu
  go_enter Tryz.func37, Tryz.ntmps37
  go_wp2_with fail
  have hZ0 : Blk ((w.alloc (.cells #[.bool neg, .slice av (dg 18446744073709551616 P).length cv] 24)).alloc (.cells #[.bool false, .slice none 0 0, .bool false, .slice none 0 0] 133)) (w.heap.size + 1) #[.bool false, .slice none 0 0, .bool false, .slice none 0 0] 133 := by
    have := blk_new (w.alloc (.cells #[.bool neg, .slice av (dg 18446744073709551616 P).length cv] 24)) #[.bool false, .slice none 0 0, .bool false, .slice none 0 0] 133
    simpa using this
  have hb0 : Below w.heap.size w ((w.alloc (.cells #[.bool neg, .slice av (dg 18446744073709551616 P).length cv] 24)).alloc (.cells #[.bool false, .slice none 0 0, .bool false, .slice none 0 0] 133)) := ((Below.refl _ _).alloc (Nat.le_refl _) _).alloc (by simp) _
  generalize ((w.alloc (.cells #[.bool neg, .slice av (dg 18446744073709551616 P).length cv] 24)).alloc (.cells #[.bool false, .slice none 0 0, .bool false, .slice none 0 0] 133)) = w0 at *
  have HOF := of_any2 neg _ _ w0 (HV.out.below hb0 (Nat.le_refl _)) HLP.out (by omega)
  rw [HDP.out] at HOF
  have HZ0 := hid hZ0
  have HB0 := hid hb0
  clear hZ0 hb0 HV
  refine HOF.mono ?_
  rintro e w1 ⟨b, s, rfl, hbb, hs, hI, hb1⟩
  have hzb : w.heap.size + 1 < b := by
    have h1 := hbb.out
    have h2 := HZ0.out.lt
    omega
  have HZ1 := hid (HZ0.out.below hb1 HZ0.out.lt)
  have HSI := hid (setInt_new (w.heap.size + 1) b P s w1 HZ1.out hI (by omega) (by omega))
  have HB1 := hid (below_next HB0.out hb1)
  have HS := hid hs
  clear HOF hI hb1 hs hbb HZ0 HB0
  go_wp2_with fail
  refine HSI.out.mono ?_
  rintro e w2 ⟨rfl, vA, v1, hB2, hvA, hv1, hb2⟩
  have HB2 := hid hB2
  have HVA := hid hvA
  have h3 := hB2.cell 3
  simp only [List.getElem?_toArray, List.getElem?_cons_zero, List.getElem?_cons_succ] at h3
  have hone := dg_one (n := 1) (by omega) (by omega)
  obtain ⟨a1, c1, rfl⟩ := hv1.shape
  rw [hone] at h3
  have HDN := ratDen_any (w.heap.size + 1) a1 _ c1 w2 h3 (by simp)
  have hzl := HZ1.out.lt
  have HB22 := hid (HB1.out.trans (hb2.mono (Nat.le_succ _)))
  have HU2 := HU.out.below HB22.out (Nat.le_refl _)
  have HWO := wordsOf_any _ _ w2 HU2 (by omega)
  clear hB2 hvA hv1 hb2 HSI HZ1 HB1 h3 HU2 HU
  go_wp2_with fail
  refine HDN.mono ?_
  rintro e w' ⟨rfl, rfl⟩
  go_wp2_with fail
  refine HWO.mono ?_
  rintro e w3 ⟨vw, rfl, hw, hb3⟩
  have hB3 := HB2.out.below hb3 HB2.out.lt
  have HB3 := hid hB3
  have HVA3 := hid (HVA.out.below hb3 (Nat.le_refl _))
  have HB33 := hid (below_next HB22.out hb3)
  have HSB := setBits_den (w.heap.size + 1) s vA _ vw _ w3 hB3 hw HLD.out
  rw [HDD.out] at HSB
  obtain ⟨aw, cw, rfl⟩ := hw.shape
  clear HWO HDN hb3 hB3 HB2 HVA HB22
  go_wp2_with fail
  refine HSB.mono ?_
  rintro e w4 ⟨vD, rfl, hvD, hw4⟩
  have HB4 : Hid (Blk w4 (w.heap.size + 1) #[.bool s, vA, .bool false, vD] 133) := by
    have := (HB3.out.set 3 vD).set 2 (.bool false)
    rw [hw4]
    exact hid (by simpa using this)
  have HV4 : Hid (Nw w4 vA P) := by
    rw [hw4]
    exact hid ((HVA3.out.set (p := ⟨w.heap.size + 1, 3, none⟩) vD HB3.out.shape (by decide)).set (p := ⟨w.heap.size + 1, 2, none⟩) _ (by rw [shape_setCell]; exact HB3.out.shape) (by decide))
  have HD4 : Hid (Nw w4 vD D) := by
    rw [hw4]
    exact hid ((hvD.set (p := ⟨w.heap.size + 1, 3, none⟩) vD HB3.out.shape (by decide)).set (p := ⟨w.heap.size + 1, 2, none⟩) _ (by rw [shape_setCell]; exact HB3.out.shape) (by decide))
  have HE4 : Hid (Below w.heap.size w w4) := by
    rw [hw4]
    exact hid (Below.setCell (p := ⟨w.heap.size + 1, 2, none⟩) (Below.setCell (p := ⟨w.heap.size + 1, 3, none⟩) HB33.out (Nat.le_succ _) _) (Nat.le_succ _) _)
  clear HSB hvD hw4 HB3 HVA3 HB33 hw
  go_wp2_with fail
  go_ret
  exact ⟨w.heap.size + 1, s, vA, vD, rfl, HB4, HV4, HD4, HS.out, HE4⟩
theorem blen_words {n k : Nat} (h : (dg 18446744073709551616 n).length ≤ k) : blen n ≤ 64 * k := by
  have h1 := lt_pow_dg_length (b := 18446744073709551616) (by omega) n
  have h2 := Nat.pow_le_pow_right (show 0 < 18446744073709551616 by omega) h
  rw [pow_words] at h2
  exact blen_le (Nat.lt_of_lt_of_le h1 (by rw [pow_words] at h2 ⊢; exact h2))
set_option maxHeartbeats 1000000 in
theorem broken_any (vb vt : Value) (neg : Bool) (v u x6 x7 x8 : Value) (P D : Nat) (w : World) (hv : Rd .u64 w v (dg 18446744073709551616 P)) (hu : Rd .u64 w u (dg 18446744073709551616 D)) (hlP : (dg 18446744073709551616 P).length ≤ 60) (hlD : (dg 18446744073709551616 D).length ≤ 60) (hD0 : 0 < D) :
    Calls Tryz.prog 17 #[.agg #[.int .i64 4, vb, vt, .bool neg, v, u, x6, x7, x8]] w fun e w' => ∃ (z : Nat) (s : Bool) (vP vD : Value), e = .returned (.iface 83 (.agg #[.pointer (some ⟨z, 0, none⟩)])) ∧ Hid (Blk w' z #[.bool s, vP, .bool false, vD] 133) ∧ Hid (Nw w' vP P) ∧ Hid (Nw w' vD D) ∧ Hid (s = (neg && decide (P ≠ 0))) ∧ Hid (Below w.heap.size w w') := by
  have HV := hid hv
  have HU := hid hu
  obtain ⟨av, cv, rfl⟩ := hv.shape
  obtain ⟨au, cu, rfl⟩ := hu.shape
  clear hv hu
  go_enter Tryz.func17, Tryz.ntmps17
  go_wp2_with fail
  have hb0 : Below w.heap.size w (w.alloc (.cells #[.int .i64 4, vb, vt, .bool neg, .slice av (dg 18446744073709551616 P).length cv, .slice au (dg 18446744073709551616 D).length cu, x6, x7, x8] 26)) := (Below.refl _ _).alloc (Nat.le_refl _) _
  generalize w.alloc (.cells #[.int .i64 4, vb, vt, .bool neg, .slice av (dg 18446744073709551616 P).length cv, .slice au (dg 18446744073709551616 D).length cu, x6, x7, x8] 26) = w0 at *
  have HO := over_any neg _ _ P D w0 (HV.out.below hb0 (Nat.le_refl _)) (HU.out.below hb0 (Nat.le_refl _)) hlP hlD
  have HB0 := hid hb0
  clear hb0 HV HU
  refine HO.mono ?_
  rintro e w1 ⟨z, s, vP, vD, rfl, hB, hP, hD, hs, hb⟩
  have HB1 := hid (below_next HB0.out hb.out)
  have h1 := blen_words hlP
  have h2 := blen_words hlD
  have HMK := make_rat z w1 (fun w2 hw2 => makeRat_small z P D s vP vD w2 (hB.out.below hw2 hB.out.lt) (hP.out.below hw2 (Nat.le_refl _)) (hD.out.below hw2 (Nat.le_refl _)) hD0 hlP hlD (by omega) (by omega))
  clear HO HB0 hb h1 h2
  go_wp2_with fail
  refine HMK.mono ?_
  rintro e w2 ⟨rfl, hb2⟩
  have HB2 := hid (hB.out.below hb2 hB.out.lt)
  have HP2 := hid (hP.out.below hb2 (Nat.le_refl _))
  have HD2 := hid (hD.out.below hb2 (Nat.le_refl _))
  have HE2 := hid (below_next HB1.out hb2)
  clear HMK hB hP hD hb2 HB1
  go_wp2_with fail
  go_ret
  exact ⟨z, s, vP, vD, rfl, HB2, HP2, HD2, hs, HE2⟩
def res64 (P D : Nat) : Nat := min ((uni P D + 1074).toNat * 4503599627370496 + near P D (uni P D)) 9218868437227405312
def exa64 (P D : Nat) : Bool := decide (left P D (uni P D) = 0) && decide ((uni P D + 1074).toNat * 4503599627370496 + near P D (uni P D) < 9218868437227405312)
/-- What Float64Float tells: the pattern of bits, whether it is exact. -/
def out64 (neg : Bool) (P D : Nat) : Nat := if P = 0 then 0 else if neg then res64 P D + 9223372036854775808 else res64 P D
def ox64 (P D : Nat) : Bool := if P = 0 then true else exa64 P D
set_option maxHeartbeats 1000000 in
theorem f64Float_any (vb vt : Value) (neg : Bool) (v u x6 x7 x8 : Value) (P D : Nat) (w : World) (hv : Rd .u64 w v (dg 18446744073709551616 P)) (hu : Rd .u64 w u (dg 18446744073709551616 D)) (hlP : (dg 18446744073709551616 P).length ≤ 30) (hlD : (dg 18446744073709551616 D).length ≤ 30) (hD0 : 0 < D) (hlow : P = 0 ∨ -1128 ≤ e1 P D) (hthr : w.cell? ⟨1, 0, none⟩ = some (.int .i64 40)) :
    Calls Tryz.prog 9 #[.agg #[.int .i64 4, vb, vt, .bool neg, v, u, x6, x7, x8]] w fun e w' => e = .returned (.tuple #[.int .u64 (out64 neg P D : Nat), .bool (ox64 P D)]) ∧ Hid (Below w.heap.size w w') := by
  have HV := hid hv
  have HU := hid hu
  have h1w := World.block_lt_of_cell? w _ hthr
  obtain ⟨r, hr⟩ : ∃ r, r = out64 neg P D := ⟨_, rfl⟩
  obtain ⟨ex, hex⟩ : ∃ ex, ex = ox64 P D := ⟨_, rfl⟩
  rw [← hr, ← hex]
  have HRR := hid hr
  have HXX := hid hex
  clear hv hu hr hex
  go_enter Tryz.func9, Tryz.ntmps9
  go_wp2_with fail
  have hb0 : Below w.heap.size w (w.alloc (.cells #[.int .i64 4, vb, vt, .bool neg, v, u, x6, x7, x8] 26)) := (Below.refl _ _).alloc (Nat.le_refl _) _
  generalize w.alloc (.cells #[.int .i64 4, vb, vt, .bool neg, v, u, x6, x7, x8] 26) = w0 at *
  have HBR := broken_any vb vt neg v u x6 x7 x8 P D w0 (HV.out.below hb0 (Nat.le_refl _)) (HU.out.below hb0 (Nat.le_refl _)) (by omega) (by omega) hD0
  have hthr0 : w0.cell? ⟨1, 0, none⟩ = some (.int .i64 40) := (hb0.cell (p := ⟨1, 0, none⟩) h1w).trans hthr
  have HB0 := hid hb0
  have h1w0 := World.block_lt_of_cell? w0 _ hthr0
  clear hb0 HV HU hthr
  refine HBR.mono ?_
  rintro e w1 ⟨z, s, vP, vD, rfl, hB, hP, hD, hs, hb⟩
  have hthr1 : w1.cell? ⟨1, 0, none⟩ = some (.int .i64 40) := (hb.out.cell (p := ⟨1, 0, none⟩) h1w0).trans hthr0
  have hL : 0 < (dg 18446744073709551616 D).length := by
    rcases Nat.eq_zero_or_pos (dg 18446744073709551616 D).length with h | h
    · have := (dg_nil_iff (b := 18446744073709551616) (by omega)).1 (List.length_eq_zero_iff.1 h); omega
    · exact h
  have HF := f64Val_rat z r ex w1 (fun w2 hw2 => by
    have hB2 := hB.out.below hw2 hB.out.lt
    have hP2 := hP.out.below hw2 (Nat.le_refl _)
    have hD2 := hD.out.below hw2 (Nat.le_refl _)
    have hthr2 : w2.cell? ⟨1, 0, none⟩ = some (.int .i64 40) := (hw2.cell (p := ⟨1, 0, none⟩) (World.block_lt_of_cell? w1 _ hthr1)).trans hthr1
    rcases Nat.eq_zero_or_pos P with h0 | h0
    · subst h0
      obtain ⟨aP, cP, rfl⟩ := hP2.shape
      obtain ⟨aD, cD, rfl⟩ := hD2.shape
      have es : s = false := by rw [hs.out]; simp
      subst es
      rw [dg_zero] at hB2
      have := ratF64_zero z cD _ aD aP cP w2 hB2 hL
      rw [HRR.out, HXX.out]
      simpa [out64, ox64] using this
    · have es : s = neg := by rw [hs.out]; simp; omega
      subst es
      have := ratF64_pos z P D s vP vD w2 hB2 hP2 hD2 h0 hD0 hlP hlD (by omega) hthr2
      have hp : ¬ P = 0 := by omega
      rw [HRR.out, HXX.out]
      unfold out64 ox64
      rw [if_neg hp, if_neg hp]
      exact this)
  have HB1 := hid (below_next HB0.out hb.out)
  have hfb := f64bits_z r
  clear HBR hB hP hD hb hthr0 hthr1 HB0
  go_wp2_with fail
  refine HF.mono ?_
  rintro e w2 ⟨rfl, hb2⟩
  have HB2 := hid (below_next HB1.out hb2)
  clear HF hb2
  go_wp2_with fail
  go_ret2
  exact ⟨rfl, HB2⟩
end Go.Proofs.YtgdgklhfakplhaaGreatDoor
namespace Go.Rnd
open Go.Dig
/-- A fraction that is m times 2^E: how it reads in smaller units. -/
theorem exact_at {P D g m : Nat} {E : Int} (hD : 0 < D) (hg : 0 < g) (hP : P * g = m * 2 ^ E.toNat) (hDg : D * g = 2 ^ (-E).toNat) {e : Int} (he : e ≤ E) : uq P D e = m * 2 ^ (E - e).toNat ∧ ur P D e = 0 := by
  have hud := ud_pos hD e
  have key : un P e = m * 2 ^ (E - e).toNat * ud D e := by
    apply Nat.eq_of_mul_eq_mul_right hg
    unfold un ud
    calc P * 2 ^ (-e).toNat * g = P * g * 2 ^ (-e).toNat := Nat.mul_right_comm _ _ _
      _ = m * (2 ^ E.toNat * 2 ^ (-e).toNat) := by rw [hP, Nat.mul_assoc]
      _ = m * (2 ^ (E - e).toNat * (2 ^ (-E).toNat * 2 ^ e.toNat)) := by
        rw [← Nat.pow_add, ← Nat.pow_add, ← Nat.pow_add]
        congr 2
        omega
      _ = m * 2 ^ (E - e).toNat * (D * 2 ^ e.toNat) * g := by
        rw [← hDg, Nat.mul_assoc m, Nat.mul_assoc m, Nat.mul_assoc (2 ^ (E - e).toNat), Nat.mul_right_comm D]
  unfold uq ur
  rw [key]
  exact ⟨Nat.mul_div_cancel _ hud, Nat.mul_mod_left _ _⟩
/-- Only at one place the quotient has 54 digits. -/
theorem place_unique {P D : Nat} (hD : 0 < D) {e e' : Int} {c : Nat} (h1 : 2 ^ c ≤ uq P D e) (h2 : uq P D e < 2 ^ (c + 1)) (h3 : 2 ^ c ≤ uq P D e') (h4 : uq P D e' < 2 ^ (c + 1)) : e = e' := by
  have aux : ∀ a b : Int, a < b → uq P D a < 2 ^ (c + 1) → 2 ^ c ≤ uq P D b → False := by
    intro a b hab ha hb
    obtain ⟨s, hs⟩ : ∃ s : Nat, b = a + ((s + 1 : Nat) : Int) := ⟨(b - a - 1).toNat, by omega⟩
    have := (uq_drop (N := P) hD a (s + 1)).1
    rw [← hs] at this
    rw [this] at hb
    have h5 : uq P D a / 2 ^ (s + 1) ≤ uq P D a / 2 := by
      rw [Nat.pow_succ, Nat.mul_comm, ← Nat.div_div_eq_div_mul]
      exact Nat.div_le_self _ _
    rw [Nat.pow_succ] at ha
    omega
  rcases Int.lt_trichotomy e e' with h | h | h
  · exact (aux e e' h h2 h3).elim
  · exact h
  · exact (aux e' e h h4 h1).elim
theorem near_exact {P D : Nat} {U : Int} (h : ur P D U = 0) : left P D U = 0 ∧ near P D U = uq P D U := by
  have hl : left P D U = 0 := by
    unfold left leftOf
    rw [if_pos h]
  refine ⟨hl, ?_⟩
  unfold near up
  rw [hl]
  simp
end Go.Rnd
