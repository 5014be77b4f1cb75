/- Walks and lemmas for the laws of this seat. -/
import Derived.Test.YtgdgklhfakplhaaGreatDoorH42
import Derived.Test.YtgdgklhfakplhaaGreatDoorH37
import Derived.Test.YtgdgklhfakplhaaGreatDoorH17
import Derived.Test.YtgdgklhfakplhaaGreatDoorH12
namespace Go.Proofs.YtgdgklhfakplhaaGreatDoor
open Go.RowKit Go.Dig
set_option maxRecDepth 100000
set_option maxHeartbeats 400000 in
theorem newRat_any (w : World) : Calls Tryz.prog 48 #[] w fun e w' => e = .returned (.pointer (some ⟨w.heap.size, 0, none⟩)) ∧ w' = w.alloc (.cells #[.bool false, .slice none 0 0, .bool false, .slice none 0 0] 133) := by
  go_enter Tryz.func48, Tryz.ntmps48
  go_wp2_with fail
  go_ret
  exact ⟨rfl, rfl⟩
/-- The pattern of bits of a number plus 0. -/
def plus0 (x : Nat) : Nat := if x % 9223372036854775808 = 0 then 0 else x
theorem plus0_of (x : Nat) (_hx : x < 18446744073709551616) : ofM (plus0 x) = ofM x ∧ ofE (plus0 x) = ofE x ∧ (ofM x ≠ 0 → plus0 x = x) := by
  unfold plus0
  by_cases h : x % 9223372036854775808 = 0
  · rw [if_pos h]
    have h1 : x / 4503599627370496 % 2048 = 0 := by omega
    have h2 : x % 4503599627370496 = 0 := by omega
    simp [ofM, ofE, h1, h2]
  · rw [if_neg h]
    exact ⟨rfl, rfl, fun _ => rfl⟩
/-- A number of the package that is a fraction: what its block holds. -/
structure RatOf (w : World) (b x P D : Nat) (vP vD : Value) : Prop where
  hP : P = ofM x * 2 ^ (ofE x).toNat / Nat.gcd (ofM x * 2 ^ (ofE x).toNat) (2 ^ (-ofE x).toNat)
  hD : D = 2 ^ (-ofE x).toNat / Nat.gcd (ofM x * 2 ^ (ofE x).toNat) (2 ^ (-ofE x).toNat)
  hg : Nat.gcd P D = 1
  blk : Blk w b #[.bool (decide (9223372036854775808 ≤ x) && decide (P ≠ 0)), vP, .bool false, vD] 133
  nP : Nw w vP P
  nD : Nw w vD D
set_option maxHeartbeats 1000000 in
theorem makeFloat_fin (x : Nat) (hx : x < 18446744073709551616) (hf : x % 9223372036854775808 < 9218868437227405312) (w : World) :
    Calls Tryz.prog 22 #[.float .f64 x] w fun e w' => ∃ b P D vP vD, e = .returned (.iface 83 (.agg #[.pointer (some ⟨b, 0, none⟩)])) ∧ RatOf w' b x P D vP vD ∧ Below w.heap.size w w' := by
  have ha : ∀ t w, (binOp .add t (.float .f64 x) (.float .f64 0)).run Tryz.prog w = .ok (.float .f64 (plus0 x)) w := fun t w => run_float_arith (P := Tryz.prog) w .add t .f64 x 0 _ (Go.Fl.add_zero hx hf)
  have hp1 : plus0 x < 18446744073709551616 := by unfold plus0; split <;> omega
  have hp2 : plus0 x % 9223372036854775808 < 9218868437227405312 := by unfold plus0; split <;> omega
  have HP := hid (plus0_of x hx)
  generalize plus0 x = x0 at *
  go_enter Tryz.func22, Tryz.ntmps22
  go_wp2_with (first | (go_at_call 45; refine (isInf_fin x hx hf _).mono ?_; rintro e w' ⟨rfl, rfl⟩) | (go_at_call 46; refine (isNaN_fin x hf _).mono ?_; rintro e w' ⟨rfl, rfl⟩) | (go_at_call 47; refine (small_fin x hx hf _).mono ?_; rintro e w' ⟨rfl, rfl⟩))
  refine (newRat_any _).mono ?_
  rintro e w1 ⟨rfl, hw1⟩
  have HB1 : Hid (Blk w1 w'.heap.size #[.bool false, .slice none 0 0, .bool false, .slice none 0 0] 133) := hid (by rw [hw1]; exact blk_new w' _ 133)
  have HE1 : Hid (Below w'.heap.size w' w1) := hid (by rw [hw1]; exact (Below.refl _ _).alloc (Nat.le_refl _) _)
  clear hw1
  generalize hb : w'.heap.size = b at *
  go_wp2_with fail
  refine (setFloat_any b x0 w1 hp1 hp2 HB1.out).mono ?_
  rintro e w2 ⟨P, D, vP, vD, rfl, hF, hB, hnP, hnD, hE⟩
  have HR : Hid (RatOf w2 b x P D vP vD) := by
    have h1 := hF.out
    rw [HP.out.1, HP.out.2.1] at h1
    refine hid ⟨h1.1, h1.2.1, h1.2.2, ?_, hnP, hnD⟩
    by_cases hz : P = 0
    · subst hz
      simpa using hB
    · have hm : ofM x ≠ 0 := by
        intro h
        rw [h, Nat.zero_mul, Nat.zero_div] at h1
        exact hz h1.1
      rw [HP.out.2.2 hm] at hB
      exact hB
  have HE2 := hid (HE1.out.trans hE)
  clear hF hB hnP hnD hE HB1 HE1
  go_wp2_with fail
  go_ret
  exact ⟨b, P, D, vP, vD, rfl, HR.out, by rw [hb]; exact HE2.out⟩
theorem isInf_nan (x : Nat) (hx : x < 18446744073709551616) (hf : 9218868437227405312 < x % 9223372036854775808) (w : World) : Calls Tryz.prog 45 #[.float .f64 x, .int .i64 0] w fun e w' => e = .returned (.bool false) ∧ w' = w := by
  have := isInf_any x hx w
  obtain ⟨s, t, e⟩ := Go.Fl.read_nan (x := x % 9223372036854775808) (by omega)
  have h : Ieee.double.order (x % 9223372036854775808) 9218868437227405311 = none := by
    unfold Ieee.Format.order
    rw [e]
    rfl
  rw [h] at this
  exact this
set_option maxHeartbeats 1000000 in
theorem makeFloat_not (x : Nat) (hx : x < 18446744073709551616) (hf : 9218868437227405312 ≤ x % 9223372036854775808) (w : World) :
    Calls Tryz.prog 22 #[.float .f64 x] w fun e w' => e = .returned (.iface 88 (.agg #[])) ∧ w' = w := by
  rcases Nat.eq_or_lt_of_le hf with h | h
  · have HI := fun w => isInf_inf x hx h.symm w
    go_enter Tryz.func22, Tryz.ntmps22
    go_wp2_with (first | (go_at_call 45; refine (HI _).mono ?_; rintro e w' ⟨rfl, rfl⟩))
    go_ret
    exact ⟨rfl, rfl⟩
  · go_enter Tryz.func22, Tryz.ntmps22
    go_wp2_with (first | (go_at_call 45; refine (isInf_nan x hx h _).mono ?_; rintro e w' ⟨rfl, rfl⟩) | (go_at_call 46; refine (isNaN_nan x h _).mono ?_; rintro e w' ⟨rfl, rfl⟩))
    go_ret
    exact ⟨rfl, rfl⟩
end Go.Proofs.YtgdgklhfakplhaaGreatDoor
namespace Go.Proofs.YtgdgklhfakplhaaGreatDoor
open Go.RowKit Go.Dig
set_option maxRecDepth 100000
/-- A big integer that lies in a block with others. -/
def Iq (w : World) (b o : Nat) (s : Bool) (n : Nat) : Prop := ∃ v c t, Blk w b c t ∧ c[o]? = some (.bool s) ∧ c[o + 1]? = some v ∧ Nw w v n
theorem Iq.below {w w' : World} {b o n : Nat} {s : Bool} (h : Iq w b o s n) (hb : Below w.heap.size w w') : Iq w' b o s n := by
  obtain ⟨v, c, t, h1, h2, h3, h4⟩ := h
  exact ⟨v, c, t, h1.below hb h1.lt, h2, h3, h4.below hb (Nat.le_refl _)⟩
set_option maxHeartbeats 400000 in
/-- Int.Sign: 0, or 1 with the sign. -/
theorem intSign_at (b o : Nat) (s : Bool) (n : Nat) (w : World) (h : Iq w b o s n) : Calls Tryz.prog 130 #[.pointer (some ⟨b, o, none⟩)] w fun e w' => ∃ x, e = .returned (.int .i64 x) ∧ Hid (x < 0 ↔ sgn s n < 0) ∧ w = w' := by
  obtain ⟨v, cc, tt, hB, hx0, hx1, hN⟩ := h
  obtain ⟨a, L, c, rfl, HL⟩ := nw_shape hN
  have hc0 := (hB.cell o).trans hx0
  have hc1 := (hB.cell (o + 1)).trans hx1
  clear hN hB hx0 hx1
  rcases Nat.eq_zero_or_pos n with hn | hn
  · subst hn
    have hL : L = 0 := by rw [HL.out, dg_zero]; rfl
    subst hL
    go_enter Tryz.func130, Tryz.ntmps130
    go_wp2_with fail
    go_ret
    exact ⟨_, rfl, hid (by cases s <;> simp [sgn]), rfl⟩
  · have hL : 0 < L := by rw [HL.out]; exact len_pos (by omega)
    have hL' : ((L : Int) == 0) = false := by simp; omega
    clear HL
    cases s
    · go_enter Tryz.func130, Tryz.ntmps130
      go_wp2_with fail
      go_ret
      exact ⟨_, rfl, hid (by simp [sgn]), rfl⟩
    · go_enter Tryz.func130, Tryz.ntmps130
      go_wp2_with fail
      go_ret
      exact ⟨_, rfl, hid (by simp [sgn]; omega), rfl⟩
set_option maxHeartbeats 400000 in
theorem intBits_at (b o : Nat) (v : Value) (w : World) (hc1 : w.cell? ⟨b, o + 1, none⟩ = some v) : Calls Tryz.prog 131 #[.pointer (some ⟨b, o, none⟩)] w fun e w' => e = .returned v ∧ w = w' := by
  go_enter Tryz.func131, Tryz.ntmps131
  go_wp2_with fail
  go_ret
  exact ⟨rfl, rfl⟩
set_option maxHeartbeats 400000 in
/-- The words of an Int as plain words. -/
theorem plain_at (b o : Nat) (s : Bool) (n : Nat) (w : World) (h : Iq w b o s n) (hlen : (dg 18446744073709551616 n).length ≤ 100000) : Calls Tryz.prog 88 #[.pointer (some ⟨b, o, none⟩)] w fun e w' => ∃ v, e = .returned v ∧ Rt 41 .u64 w' v (dg 18446744073709551616 n) ∧ Below w.heap.size w w' := by
  obtain ⟨v, cc, tt, hB, _, hx1, hN⟩ := h
  have hc1 := (hB.cell (o + 1)).trans hx1
  clear hB hx1
  obtain ⟨a, cap, rfl, hcl, hcm, hcc⟩ := hN
  have HC := hid hcc
  clear hcc
  generalize hds : dg 18446744073709551616 n = ds at *
  have HDS := hid hds
  clear hds
  go_enter Tryz.func88, Tryz.ntmps88
  go_wp2_with (go_at_call 131; refine (intBits_at _ _ _ _ hc1).mono ?_; rintro e w' ⟨rfl, rfl⟩)
  go_loopw [3, 9] (fun v x wr => ∃ (u : Value) (os : List Nat) (j : Nat), u = v ∧ x = .int .i64 j ∧ j ≤ ds.length ∧ wr.ownsRow w.heap.size 41 1 u os.length (cs .u64 os) ∧ Hid (os = ds.take j) ∧ Below w.heap.size w wr) (fun _ x _ => ds.length - (intOf x).toNat)
  case atStart => exact ⟨_, [], 0, rfl, rfl, by omega, World.ownsRow_nil _ _ _ _, hid rfl, Below.refl _ _⟩
  case round =>
    obtain ⟨u, os, j, rfl, rfl, hj, hown, ho, hb⟩ := hrel
    have hbs := hb.size
    have hlo : os.length = j := by rw [ho.out, List.length_take]; omega
    have HLO := hid hlo
    clear hlo
    rcases Nat.lt_or_ge j ds.length with h0 | h0
    · obtain ⟨b2, off, rfl, _, hb2⟩ := HC.out (by omega)
      have hk := hb2 j (by omega)
      clear hb2
      have hk2 := (hb.cell (World.block_lt_of_cell? w _ hk)).trans hk
      clear hk
      generalize hg : ds.getD j 0 = x at hk2
      have HG := hid hg
      clear hg
      have hol : os.length < 1000000000 := by rw [HLO.out]; omega
      go_wp2_with (at_builtin; refine app1 rfl _ _ 22 41 rfl .u64 8 Tryz.underlying22 info44 (by decide) w.heap.size w u os _ x rfl rfl rfl hown hb (by omega) hol ?_; intro v' w' hown2 hb2 _)
      go_roundw
      case rel =>
        refine ⟨_, os ++ [x], j + 1, rfl, by go_num, by omega, hown2, hid ?_, hb2⟩
        rw [ho.out, ← HG.out, List.take_add_one, List.getElem?_eq_getElem h0, List.getD_eq_getElem?_getD, List.getElem?_eq_getElem h0]
        rfl
      case measure => simp [intOf]; omega
    · obtain rfl : j = ds.length := by omega
      have hR := own_rd hown
      rw [ho.out, List.take_length] at hR
      go_wp2_with fail
      go_ret
      exact ⟨_, rfl, hR, hb⟩
set_option maxHeartbeats 1000000 in
theorem number_at (b o : Nat) (s : Bool) (n : Nat) (w : World) (h : Iq w b o s n) (hlen : (dg 18446744073709551616 n).length ≤ 100000) :
    Calls Tryz.prog 85 #[.pointer (some ⟨b, o, none⟩)] w fun e w' => ∃ t v, e = .returned (.agg #[.bool t, v]) ∧ Hid (t = decide (sgn s n < 0)) ∧ Rt 41 .u64 w' v (dg 18446744073709551616 n) ∧ Below w.heap.size w w' := by
  have H := hid h
  clear h
  have HK := hid (blk_new w #[.bool false, .slice none 0 0] 24)
  have Hb0 : Hid (Below w.heap.size w (w.alloc (.cells #[.bool false, .slice none 0 0] 24))) := (Below.refl _ _).alloc (Nat.le_refl _) _
  have H0 := hid (H.out.below Hb0.out)
  go_enter Tryz.func85, Tryz.ntmps85
  go_wp2_with fail
  generalize w.alloc (.cells #[.bool false, .slice none 0 0] 24) = w0 at *
  refine (intSign_at b o s n _ H0.out).mono ?_
  rintro e w1 ⟨x, rfl, HX, rfl⟩
  have q0 := HK.out.cell 0
  have q1 := HK.out.cell 1
  simp only [List.getElem?_toArray, List.getElem?_cons_zero, List.getElem?_cons_succ] at q0 q1
  have f0 := HK.out.frozen 0
  have f1 := HK.out.frozen 1
  clear q0 q1 f0 f1
  go_wp2_with fail
  refine (plain_at b o s n _ H0.out hlen).mono ?_
  rintro e w1 ⟨v, rfl, hv, hb⟩
  obtain ⟨a, c, rfl⟩ := hv.shape
  have HV := hid hv
  have HB := hid hb
  clear hv hb
  have HK1 := hid (HK.out.below HB.out HK.out.lt)
  have q0 := HK1.out.cell 0
  have q1 := HK1.out.cell 1
  simp only [List.getElem?_toArray, List.getElem?_cons_zero, List.getElem?_cons_succ] at q0 q1
  have f0 := HK1.out.frozen 0
  have f1 := HK1.out.frozen 1
  go_wp2_with fail
  have g1 := HV.out.set (p := ⟨w.heap.size, 0, none⟩) (.bool (decide (x < 0))) HK1.out.shape (by decide)
  have g2 := g1.set (p := ⟨w.heap.size, 1, none⟩) (.slice a (dg 18446744073709551616 n).length c) (m := 2) (e' := 24) (by rw [shape_setCell]; exact HK1.out.shape) (by decide)
  refine bodyPost_ret (v := .agg #[.bool (decide (x < 0)), .slice a (dg 18446744073709551616 n).length c]) (by simp [results, Tryz.results85, go_sem, q0, q1]) rfl ⟨_, _, rfl, hid ?_, g2, ?_⟩
  · have := HX.out
    simpa using this
  · exact ((Hb0.out.trans (HB.out.mono Hb0.out.size)).setCell (p := ⟨w.heap.size, 0, none⟩) (Nat.le_refl _) _).setCell (p := ⟨w.heap.size, 1, none⟩) (Nat.le_refl _) _
end Go.Proofs.YtgdgklhfakplhaaGreatDoor
namespace Go.Proofs.YtgdgklhfakplhaaGreatDoor
open Go.RowKit Go.Dig
set_option maxRecDepth 100000
theorem tb_60_2 (w : World) (v : Value) : (Instr.typeAssert (.iface 81 v) 20 2 true).run Tryz.prog w = .ok (.tuple #[.int .i64 0, .bool false]) w := by kernel_rfl
theorem tb_60_82 (w : World) (v : Value) : (Instr.typeAssert (.iface 81 v) 20 71 true).run Tryz.prog w = .ok (.tuple #[.pointer none, .bool false]) w := by kernel_rfl
theorem tb_60_60 (w : World) (v : Value) : (Instr.typeAssert (.iface 81 v) 20 81 true).run Tryz.prog w = .ok (.tuple #[v, .bool true]) w := by kernel_rfl
set_option maxHeartbeats 400000 in
theorem val_rat (p : Option Addr) (w : World) : Calls Tryz.prog 84 #[.iface 83 (.agg #[.pointer p])] w fun e w' => e = .returned (.iface 81 (.pointer p)) ∧ Below w.heap.size w w' := by
  have h1 := ta_132_165
  have h2 := ta_132_180
  have h3 := ta_132_119
  have h4 := ta_132_122
  have h5 := ta_132_132
  go_enter Tryz.func84, Tryz.ntmps84
  go_wp2_with fail
  go_ret
  exact ⟨rfl, (Below.refl _ _).alloc (Nat.le_refl _) _⟩
set_option maxHeartbeats 400000 in
theorem kind_rat (p : Option Addr) (w : World) : Calls Tryz.prog 271 #[.agg #[.pointer p]] w fun e w' => e = .returned (.int .i64 4) ∧ Below w.heap.size w w' := by
  go_enter Tryz.func271, Tryz.ntmps271
  go_wp2_with fail
  go_ret
  exact ⟨rfl, (Below.refl _ _).alloc (Nat.le_refl _) _⟩
set_option maxHeartbeats 400000 in
theorem kind_unk (w : World) : Calls Tryz.prog 279 #[.agg #[]] w fun e w' => e = .returned (.int .i64 0) ∧ Below w.heap.size w w' := by
  go_enter Tryz.func279, Tryz.ntmps279
  go_wp2_with fail
  go_ret
  exact ⟨rfl, (Below.refl _ _).alloc (Nat.le_refl _) _⟩
set_option maxHeartbeats 400000 in
theorem ratNum_any (b : Nat) (w : World) : Calls Tryz.prog 87 #[.pointer (some ⟨b, 0, none⟩)] w fun e w' => e = .returned (.pointer (some ⟨b, 0, none⟩)) ∧ w' = w := by
  go_enter Tryz.func87, Tryz.ntmps87
  go_wp2_with fail
  go_ret
  exact ⟨rfl, rfl⟩
set_option maxHeartbeats 400000 in
theorem ratDen_any (b : Nat) (a : Option Addr) (l c : Nat) (w : World) (h : w.cell? ⟨b, 3, none⟩ = some (.slice a l c)) (hl : 0 < l) : Calls Tryz.prog 77 #[.pointer (some ⟨b, 0, none⟩)] w fun e w' => e = .returned (.pointer (some ⟨b, 2, none⟩)) ∧ w' = w := by
  have hl0 : ((l : Int) == 0) = false := by simp; omega
  go_enter Tryz.func77, Tryz.ntmps77
  go_wp2_with fail
  go_ret
  exact ⟨rfl, rfl⟩
set_option maxHeartbeats 1000000 in
theorem parts_rat (b P D : Nat) (s : Bool) (vP vD : Value) (w : World) (hB : Blk w b #[.bool s, vP, .bool false, vD] 133) (hP : Nw w vP P) (hD : Nw w vD D) (hlP : (dg 18446744073709551616 P).length ≤ 900) (hlD : (dg 18446744073709551616 D).length ≤ 900) (hD0 : 0 < D) :
    Calls Tryz.prog 42 #[.iface 83 (.agg #[.pointer (some ⟨b, 0, none⟩)])] w fun e w' => ∃ t v u, e = .returned (.tuple #[.agg #[.bool t, v], u]) ∧ Hid (t = decide (sgn s P < 0)) ∧ Rt 41 .u64 w' v (dg 18446744073709551616 P) ∧ Rt 41 .u64 w' u (dg 18446744073709551616 D) ∧ Below w.heap.size w w' := by
  have t1 := tb_60_2
  have t2 := tb_60_82
  have t3 := tb_60_60
  have HR : Hid (Blk (w.alloc (.cells #[.bool false, .slice none 0 0] 24)) w.heap.size #[.bool false, .slice none 0 0] 24) := blk_new w _ 24
  have Hb0 : Hid (Below w.heap.size w (w.alloc (.cells #[.bool false, .slice none 0 0] 24))) := (Below.refl _ _).alloc (Nat.le_refl _) _
  have HB := hid hB
  have HP := hid hP
  have HD := hid hD
  have HL := hid (And.intro hlP (And.intro hlD hD0))
  clear hB hP hD hlP hlD hD0
  go_enter Tryz.func42, Tryz.ntmps42
  go_wp2_with fail
  generalize w.alloc (.cells #[.bool false, .slice none 0 0] 24) = w0 at *
  refine (val_rat _ _).mono ?_
  rintro e w1 ⟨rfl, hb⟩
  have HR1 := hid (HR.out.below hb HR.out.lt)
  have HE1 := hid (below_next Hb0.out hb)
  have HB1 := hid (HB.out.below HE1.out HB.out.lt)
  have HP1 := hid (HP.out.below HE1.out (Nat.le_refl _))
  have HD1 := hid (HD.out.below HE1.out (Nat.le_refl _))
  clear hb HR Hb0 HB HP HD
  obtain ⟨r0, r1, rf0, rf1⟩ := two_cells HR1.out
  go_wp2_with fail
  refine (ratNum_any b w1).mono ?_
  rintro e w' ⟨rfl, rfl⟩
  go_wp2_with fail
  refine (number_at b 0 s P _ ⟨vP, _, _, HB1.out, rfl, rfl, HP1.out⟩ (by have := HL.out.1; omega)).mono ?_
  rintro e w2 ⟨t, v, rfl, HT, hv, hb⟩
  obtain ⟨a, c, rfl⟩ := hv.shape
  have HV := hid hv
  have HR2 := hid (HR1.out.below hb HR1.out.lt)
  have HE2 := hid (below_next HE1.out hb)
  have HB2 := hid (HB1.out.below hb HB1.out.lt)
  have HD2 := hid (HD1.out.below hb (Nat.le_refl _))
  clear hv hb r0 r1 rf0 rf1 HR1 HE1 HB1 HP1 HD1
  obtain ⟨aD, lD, cD, rfl, hlD⟩ := nw_shape HD2.out
  have hl : 0 < lD := by rw [hlD.out]; exact len_pos (by have := HL.out.2.2; omega)
  go_wp2_with fail
  refine (ratDen_any b aD lD cD w2 (HB2.out.cell 3) hl).mono ?_
  rintro e w' ⟨rfl, rfl⟩
  go_wp2_with fail
  refine (plain_at b 2 false D _ ⟨_, _, _, HB2.out, rfl, rfl, HD2.out⟩ (by have := HL.out.2.1; omega)).mono ?_
  rintro e w3 ⟨u, rfl, hu, hb⟩
  obtain ⟨a', c', rfl⟩ := hu.shape
  have HU := hid hu
  have HV3 := hid (HV.out.below hb (Nat.le_refl _))
  have HR3 := hid (HR2.out.below hb HR2.out.lt)
  have HE3 := hid (below_next HE2.out hb)
  clear hu hb hl hlD HV HR2 HE2 HB2 HD2
  obtain ⟨q0, q1, f0, f1⟩ := two_cells HR3.out
  go_wp2_with fail
  have g1 := (HV3.out.set (p := ⟨w.heap.size, 0, none⟩) (.bool t) HR3.out.shape (by decide)).set (p := ⟨w.heap.size, 1, none⟩) (.slice a (dg 18446744073709551616 P).length c) (m := 2) (e' := 24) (by rw [shape_setCell]; exact HR3.out.shape) (by decide)
  have g2 := (HU.out.set (p := ⟨w.heap.size, 0, none⟩) (.bool t) HR3.out.shape (by decide)).set (p := ⟨w.heap.size, 1, none⟩) (.slice a (dg 18446744073709551616 P).length c) (m := 2) (e' := 24) (by rw [shape_setCell]; exact HR3.out.shape) (by decide)
  refine bodyPost_ret (v := .tuple #[.agg #[.bool t, .slice a (dg 18446744073709551616 P).length c], .slice a' (dg 18446744073709551616 D).length c']) (by simp [results, Tryz.results42, go_sem, q0, q1]) rfl ⟨_, _, _, rfl, HT, g1, g2, ?_⟩
  exact (HE3.out.setCell (p := ⟨w.heap.size, 0, none⟩) (Nat.le_refl _) _).setCell (p := ⟨w.heap.size, 1, none⟩) (Nat.le_refl _) _
end Go.Proofs.YtgdgklhfakplhaaGreatDoor
namespace Go.Proofs.YtgdgklhfakplhaaGreatDoor
open Go.RowKit Go.Dig
set_option maxRecDepth 100000
set_option maxHeartbeats 400000 in
theorem wordsOf_any (v : Value) (ws : List Nat) (w : World) (h : Rd .u64 w v ws) (hlen : ws.length ≤ 100000) : Calls Tryz.prog 79 #[v] w fun e w' => ∃ v', e = .returned v' ∧ Rt 181 .u64 w' v' ws ∧ Below w.heap.size w w' := by
  obtain ⟨a, cap, rfl, hcl, hcm, hcc⟩ := h
  have HC := hid hcc
  clear hcc
  go_enter Tryz.func79, Tryz.ntmps79
  go_wp2_with fail
  go_loopw [3, 8] (fun v x wr => ∃ (u : Value) (os : List Nat) (j : Nat), u = v ∧ x = .int .i64 j ∧ j ≤ ws.length ∧ wr.ownsRow w.heap.size 181 1 u os.length (cs .u64 os) ∧ Hid (os = ws.take j) ∧ Below w.heap.size w wr) (fun _ x _ => ws.length - (intOf x).toNat)
  case atStart => exact ⟨_, [], 0, rfl, rfl, by omega, World.ownsRow_nil _ _ _ _, hid rfl, Below.refl _ _⟩
  case round =>
    obtain ⟨u, os, j, rfl, rfl, hj, hown, ho, hb⟩ := hrel
    have hbs := hb.size
    have HLO : Hid (os.length = j) := by rw [ho.out, List.length_take]; exact hid (by omega)
    rcases Nat.lt_or_ge j ws.length with h0 | h0
    · obtain ⟨b2, off, rfl, hb2⟩ := HC.out (by omega)
      have hk := hb2 j (by omega)
      clear hb2
      have hk2 := (hb.cell (World.block_lt_of_cell? w _ hk)).trans hk
      clear hk
      generalize hg : ws.getD j 0 = x at hk2
      have HG := hid hg
      clear hg
      have hol : os.length < 1000000000 := by rw [HLO.out]; omega
      go_wp2_with (at_builtin; refine app1 rfl _ _ 117 181 rfl .u64 8 Tryz.underlying117 info158 (by decide) w.heap.size w u os _ x rfl rfl rfl hown hb (by omega) hol ?_; intro v' w' hown2 hb2 _)
      go_roundw
      case rel =>
        refine ⟨_, os ++ [x], j + 1, rfl, by go_num, by omega, hown2, hid ?_, hb2⟩
        rw [ho.out, ← HG.out, List.take_add_one, List.getElem?_eq_getElem h0, List.getD_eq_getElem?_getD, List.getElem?_eq_getElem h0]
        rfl
      case measure => simp [intOf]; omega
    · obtain rfl : j = ws.length := by omega
      have hR := own_rd hown
      rw [ho.out, List.take_length] at hR
      go_wp2_with fail
      go_ret
      exact ⟨_, rfl, hR, hb⟩
theorem info203' : (Tryz.prog.info? 124).map (·.size) = some 2 := by kernel_rfl
theorem neq_int_same (a : Addr) (w : World) : (binOp .neq 71 (.pointer (some a)) (.pointer (some a))).run Tryz.prog w = .ok (.bool false) w := by
  obtain ⟨i, hi, _⟩ := Option.map_eq_some_iff.1 info203'
  exact neq_ptr_same w a Tryz.underlying71 hi
set_option maxHeartbeats 400000 in
theorem intSet_self (b : Nat) (w : World) : Calls Tryz.prog 93 #[.pointer (some ⟨b, 0, none⟩), .pointer (some ⟨b, 0, none⟩)] w fun e w' => e = .returned (.pointer (some ⟨b, 0, none⟩)) ∧ w = w' := by
  have hne := neq_int_same ⟨b, 0, none⟩
  go_enter Tryz.func93, Tryz.ntmps93
  go_wp2_with fail
  go_ret
  exact ⟨rfl, rfl⟩
set_option maxHeartbeats 400000 in
theorem intNeg_self (b : Nat) (s : Bool) (n : Nat) (w : World) (h : Iv w b s n) : Calls Tryz.prog 122 #[.pointer (some ⟨b, 0, none⟩), .pointer (some ⟨b, 0, none⟩)] w fun e w' => e = .returned (.pointer (some ⟨b, 0, none⟩)) ∧ Iv w' b (decide (n ≠ 0) && !s) n ∧ Below b w w' := by
  obtain ⟨v, hB, hN⟩ := h
  obtain ⟨a, L, c, rfl, HL⟩ := nw_shape hN
  have HB := hid hB
  have HN := hid hN
  have hc0 := hB.cell 0
  have hc1 := hB.cell 1
  simp only [List.getElem?_toArray, List.getElem?_cons_zero, List.getElem?_cons_succ] at hc0 hc1
  have f0 := hB.frozen 0
  clear hN hB
  have hend : ∀ t : Bool, Iv (w.setCell ⟨b, 0, none⟩ (.bool t)) b t n := fun t =>
    ⟨_, by simpa using HB.out.set 0 (.bool t), HN.out.set (p := ⟨b, 0, none⟩) _ HB.out.shape (by decide)⟩
  have HE := hid hend
  clear hend
  rcases Nat.eq_zero_or_pos n with hn | hn
  · have hL : L = 0 := by rw [HL.out, hn, dg_zero]; rfl
    subst hL
    have HD : Hid ((decide (n ≠ 0) && !s) = false) := hid (by simp [hn])
    go_enter Tryz.func122, Tryz.ntmps122
    go_wp2_with fail
    refine (intSet_self b _).mono ?_
    rintro e w1 ⟨rfl, rfl⟩
    go_wp2_with fail
    go_ret
    rw [HD.out]
    exact ⟨rfl, HE.out false, (Below.refl _ _).setCell (p := ⟨b, 0, none⟩) (Nat.le_refl _) _⟩
  · have hL : 0 < L := by rw [HL.out]; exact len_pos (by omega)
    have HD : Hid ((decide (n ≠ 0) && !s) = !s) := hid (by simp; omega)
    clear HL
    go_enter Tryz.func122, Tryz.ntmps122
    go_wp2_with fail
    refine (intSet_self b _).mono ?_
    rintro e w1 ⟨rfl, rfl⟩
    go_wp2_with fail
    go_ret
    rw [HD.out]
    exact ⟨rfl, HE.out (!s), (Below.refl _ _).setCell (p := ⟨b, 0, none⟩) (Nat.le_refl _) _⟩
end Go.Proofs.YtgdgklhfakplhaaGreatDoor

namespace Go.Proofs.YtgdgklhfakplhaaGreatDoor
open Go.RowKit Go.Dig
set_option maxRecDepth 100000
set_option maxHeartbeats 1000000 in
theorem of_any2 (neg : Bool) (v : Value) (ws : List Nat) (w : World) (h : Rd .u64 w v ws) (hw : ∀ x ∈ ws, x < 18446744073709551616) (hlen : ws.length ≤ 100000) :
    Calls Tryz.prog 76 #[.agg #[.bool neg, v]] w fun e w' => ∃ b s, e = .returned (.pointer (some ⟨b, 0, none⟩)) ∧ Hid (w.heap.size ≤ b) ∧ Hid (s = (neg && decide (val 18446744073709551616 ws ≠ 0))) ∧ Iv w' b s (val 18446744073709551616 ws) ∧ Below w.heap.size w w' := by
  obtain ⟨a, c, rfl⟩ := h.shape
  have H := hid h
  have HW := hid hw
  clear h hw
  have HP : Hid (Blk ((w.alloc (.cells #[.bool neg, .slice a ws.length c] 24)).alloc (.cells #[.bool false, .slice none 0 0] 124)) w.heap.size #[.bool neg, .slice a ws.length c] 24) := (blk_new w _ 24).alloc _
  have HZ : Hid (Blk ((w.alloc (.cells #[.bool neg, .slice a ws.length c] 24)).alloc (.cells #[.bool false, .slice none 0 0] 124)) (w.heap.size + 1) #[.bool false, .slice none 0 0] 124) := by
    have := blk_new (w.alloc (.cells #[.bool neg, .slice a ws.length c] 24)) #[.bool false, .slice none 0 0] 124
    refine hid ?_
    simpa using this
  have Hb0 : Hid (Below w.heap.size w ((w.alloc (.cells #[.bool neg, .slice a ws.length c] 24)).alloc (.cells #[.bool false, .slice none 0 0] 124))) := ((Below.refl _ _).alloc (Nat.le_refl _) _).alloc (by simp) _
  have H0 := hid (H.out.below Hb0.out (Nat.le_refl _))
  go_enter Tryz.func76, Tryz.ntmps76
  go_wp2_with fail
  generalize ((w.alloc (.cells #[.bool neg, .slice a ws.length c] 24)).alloc (.cells #[.bool false, .slice none 0 0] 124)) = w0 at *
  refine (wordsOf_any _ ws _ H0.out hlen).mono ?_
  rintro e w1 ⟨v1, rfl, hv1, hb1⟩
  obtain ⟨a1, c1, rfl⟩ := hv1.shape
  have HV1 := hid hv1
  have HP1 := hid (HP.out.below hb1 HP.out.lt)
  have HZ1 := hid (HZ.out.below hb1 HZ.out.lt)
  have Hb1 := hid (below_next Hb0.out hb1)
  clear hv1 hb1
  go_wp2_with fail
  refine (setBits_any _ _ ws _ HZ1.out HV1.out HW.out).mono ?_
  rintro e w2 ⟨rfl, hI, hb2⟩
  have HI := hid hI
  have HP2 := hid (HP1.out.below hb2 (Nat.lt_succ_self _))
  have Hb2 := hid (Hb1.out.trans (hb2.mono (Nat.le_succ _)))
  clear hI hb2
  have q0 := HP2.out.cell 0
  simp only [List.getElem?_toArray, List.getElem?_cons_zero] at q0
  cases neg
  · go_wp2_with fail
    go_ret
    exact ⟨_, false, rfl, hid (Nat.le_succ _), hid rfl, HI.out, Hb2.out⟩
  · go_wp2_with fail
    refine (intNeg_self _ false _ _ HI.out).mono ?_
    rintro e w3 ⟨rfl, hI, hb3⟩
    have HI3 := hid hI
    have Hb3 := hid (Hb2.out.trans (hb3.mono (Nat.le_succ _)))
    clear hI hb3
    go_wp2_with fail
    go_ret
    exact ⟨_, _, rfl, hid (Nat.le_succ _), hid (by cases decide (val 18446744073709551616 ws ≠ 0) <;> rfl), HI3.out, Hb3.out⟩
set_option maxHeartbeats 400000 in
theorem make_int (b : Nat) (s : Bool) (n : Nat) (w : World) (h : Iv w b s n) : Calls Tryz.prog 36 #[.iface 71 (.pointer (some ⟨b, 0, none⟩))] w fun e w' => ∃ v, e = .returned v ∧ Mk b (sgn s n) v ∧ Below w.heap.size w w' := by
  have t1 := tb_120_4
  have t2 := tb_120_9
  have t3 := tb_120_2
  have t4 := tb_120_120
  have H := hid h
  clear h
  go_enter Tryz.func36, Tryz.ntmps36
  go_wp2_with fail
  refine (makeInt_any b s n _ H.out).mono ?_
  rintro e w1 ⟨v, rfl, hM, hb⟩
  go_wp2_with fail
  go_ret
  exact ⟨_, rfl, hM, hb⟩
theorem sgn_and (neg : Bool) (n : Nat) : sgn (neg && decide (n ≠ 0)) n = sgn neg n := by
  cases neg
  · rfl
  · by_cases h : n = 0
    · subst h; rfl
    · have : decide (n ≠ 0) = true := decide_eq_true h
      rw [this]; rfl
end Go.Proofs.YtgdgklhfakplhaaGreatDoor
