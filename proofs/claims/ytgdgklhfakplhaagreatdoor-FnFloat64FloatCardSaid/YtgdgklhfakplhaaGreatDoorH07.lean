/- Walks and lemmas for the laws of this seat. -/
import Derived.Test.YtgdgklhfakplhaaGreatDoorH03
import Derived.Test.YtgdgklhfakplhaaGreatDoorH06
import Derived.BigRegion
import Derived.Deep.QuietTactic
import Derived.BigQuiet
namespace Go.Proofs.YtgdgklhfakplhaaGreatDoor
open Go.RowKit Go.Dig
set_option maxRecDepth 100000
theorem info44' : (Tryz.prog.info? 41).map (fun i => (i.zero, i.size, i.bytes)) = some (some (.int .u64 0), 1, 8) := by kernel_rfl
theorem or_digit0 {old x : Nat} (h : old < 65536 ^ 0) (hx : x < 65536) : bits .or .u64 (old : Int) (x : Int) = ((old + x * 65536 ^ 0 : Nat) : Int) := by
  have h1 := or_digit (r := 0) h hx (by omega)
  have e : IntKind.u64.wrap ((x : Int) * 65536 ^ 0) = (x : Int) := by rw [IntKind.wrap_u64]; omega
  rw [e] at h1
  exact h1
theorem or_digit1 {old x : Nat} (h : old < 65536 ^ 1) (hx : x < 65536) : bits .or .u64 (old : Int) ((x : Int) * 65536) = ((old + x * 65536 ^ 1 : Nat) : Int) := by
  have h1 := or_digit (r := 1) h hx (by omega)
  have e : IntKind.u64.wrap ((x : Int) * 65536 ^ 1) = ((x : Int) * 65536) := by rw [IntKind.wrap_u64]; omega
  rw [e] at h1
  exact h1
theorem or_digit2 {old x : Nat} (h : old < 65536 ^ 2) (hx : x < 65536) : bits .or .u64 (old : Int) ((x : Int) * 4294967296) = ((old + x * 65536 ^ 2 : Nat) : Int) := by
  have h1 := or_digit (r := 2) h hx (by omega)
  have e : IntKind.u64.wrap ((x : Int) * 65536 ^ 2) = ((x : Int) * 4294967296) := by rw [IntKind.wrap_u64]; omega
  rw [e] at h1
  exact h1
theorem or_digit3 {old x : Nat} (h : old < 65536 ^ 3) (hx : x < 65536) : bits .or .u64 (old : Int) ((x : Int) * 281474976710656) = ((old + x * 65536 ^ 3 : Nat) : Int) := by
  have h1 := or_digit (r := 3) h hx (by omega)
  have e : IntKind.u64.wrap ((x : Int) * 65536 ^ 3) = ((x : Int) * 281474976710656) := by rw [IntKind.wrap_u64]; omega
  rw [e] at h1
  exact h1
set_option maxHeartbeats 2000000 in
/-- spec.Words: the words of a natural number. -/
theorem words_any (va : Value) (n : Nat) (w : World) (ha : Nt w va n) (hl : (dg 65536 n).length ≤ 100000) :
    Calls Tryz.prog 100 #[va] w fun e w' => ∃ v, e = .returned v ∧ Rt 41 .u64 w' v (dg 18446744073709551616 n) ∧ Below w.heap.size w w' := by
  obtain ⟨a, cap, rfl, hcl, hcm, hcc⟩ := ha
  have HC := hid hcc
  clear hcc
  have HD := hid (dgl n)
  generalize hds : dg 65536 n = ds at *
  have HDS := hid hds
  clear hds
  go_enter Tryz.func100, Tryz.ntmps100
  go_wp2_with fail
  go_loopw [3, 9] (fun v x wr => ∃ (u : Value) (os : List Nat) (j : Nat), u = v ∧ x = .int .i64 j ∧ j ≤ ds.length ∧ wr.ownsRow w.heap.size 41 1 u os.length (cs .u64 os) ∧ Hid (WI ds j os) ∧ Below w.heap.size w wr) (fun _ x _ => ds.length - (intOf x).toNat)
  case atStart => exact ⟨_, [], 0, rfl, rfl, by omega, own_empty w 41 (Nat.le_refl _), hid (WI.zero ds), (Below.refl _ _).alloc (Nat.le_refl _) _⟩
  case round =>
    obtain ⟨u, os, j, rfl, rfl, hj, hown, ho, hb⟩ := hrel
    have hbs := hb.size
    rcases Nat.lt_or_ge j ds.length with h0 | h0
    · obtain ⟨b2, off, rfl, _, hb2⟩ := HC.out (by omega)
      have hk := hb2 j (by omega)
      clear hb2
      have hk2 := (hb.cell (World.block_lt_of_cell? w _ hk)).trans hk
      clear hk
      generalize hg : ds.getD j 0 = x at hk2
      have hx : x < 65536 := by rw [← hg]; exact getD_lt (by omega) HD.out j
      have HG := hid hg
      clear hg
      obtain ⟨q, hq⟩ : ∃ q, j / 4 = q := ⟨_, rfl⟩
      have hr : j % 4 = 0 ∨ j % 4 = 1 ∨ j % 4 = 2 ∨ j % 4 = 3 := by omega
      have hd4 : (j : Int) / 4 = (q : Int) := by omega
      have hol : os.length < 1000000000 := by have := ho.out.len; omega
      rcases hr with hr | hr | hr | hr
      · have hm4 : (j : Int) % 4 = 0 := by omega
        have hj4 : j = 4 * q + 0 := by omega
        have HJ := hid hj4
        have HO : Hid (WJ ds q 0 (os ++ [0])) := by refine hid ?_; have := ho.out; rw [hj4] at this; exact this.open_
        clear hj4 hr hq
        go_wp2_with (at_builtin; refine app1 rfl _ _ 22 41 rfl .u64 8 Tryz.underlying22 info44' (by decide) w.heap.size w u os _ 0 rfl rfl rfl hown hb (by omega) hol ?_; intro v' w' hown2 hb2 _)
        generalize os ++ [0] = o2 at *
        have hlen2 : q < o2.length := by rw [HO.out.len]; omega
        obtain ⟨g, cap2, rfl, hg, hcell, hfr, hput⟩ := own_at hown2 hlen2
        have HPUT := hid hput
        have hold := HO.out.old HD.out
        have HST := hid (HO.out.step (d := x) HD.out (by have := HJ.out; omega) (by rw [← HJ.out]; exact HG.out) (by omega))
        rw [← HJ.out] at HST
        clear hput
        generalize o2.getD q 0 = old at *
        have hor := or_digit0 hold hx
        obtain ⟨nw, hnw⟩ : ∃ nw, old + x * 65536 ^ 0 = nw := ⟨_, rfl⟩
        rw [hnw] at hor HST
        clear hnw hold
        skip
        go_region
        go_wp2_with fail
        go_roundw
        case rel => exact ⟨_, o2.set q nw, j + 1, rfl, by go_num, by omega, (HPUT.out nw).drew, HST, (hb2.setCell (p := ⟨g, q, none⟩) hg _).drew⟩
        case measure => simp [intOf]; omega
      · have hm4 : (j : Int) % 4 = 1 := by omega
        have hj4 : j = 4 * q + 1 := by omega
        have HJ := hid hj4
        have HO : Hid (WJ ds q 1 os) := by refine hid ?_; have := ho.out; rw [hj4] at this; exact this.held (by omega) (by omega)
        obtain ⟨o2, rfl⟩ : ∃ o2, o2 = os := ⟨_, rfl⟩
        obtain ⟨w', rfl⟩ : ∃ w', w' = wr := ⟨_, rfl⟩
        have hown2 := hown
        have hb2 := hb
        clear hj4 hr hq hown hb
        have hlen2 : q < o2.length := by rw [HO.out.len]; omega
        obtain ⟨g, cap2, rfl, hg, hcell, hfr, hput⟩ := own_at hown2 hlen2
        have HPUT := hid hput
        have hold := HO.out.old HD.out
        have HST := hid (HO.out.step (d := x) HD.out (by have := HJ.out; omega) (by rw [← HJ.out]; exact HG.out) (by omega))
        rw [← HJ.out] at HST
        clear hput
        generalize o2.getD q 0 = old at *
        have hor := or_digit1 hold hx
        obtain ⟨nw, hnw⟩ : ∃ nw, old + x * 65536 ^ 1 = nw := ⟨_, rfl⟩
        rw [hnw] at hor HST
        clear hnw hold
        go_wp2_with fail
        go_region
        go_wp2_with fail
        go_roundw
        case rel => exact ⟨_, o2.set q nw, j + 1, rfl, by go_num, by omega, (HPUT.out nw).drew, HST, (hb2.setCell (p := ⟨g, q, none⟩) hg _).drew⟩
        case measure => simp [intOf]; omega
      · have hm4 : (j : Int) % 4 = 2 := by omega
        have hj4 : j = 4 * q + 2 := by omega
        have HJ := hid hj4
        have HO : Hid (WJ ds q 2 os) := by refine hid ?_; have := ho.out; rw [hj4] at this; exact this.held (by omega) (by omega)
        obtain ⟨o2, rfl⟩ : ∃ o2, o2 = os := ⟨_, rfl⟩
        obtain ⟨w', rfl⟩ : ∃ w', w' = wr := ⟨_, rfl⟩
        have hown2 := hown
        have hb2 := hb
        clear hj4 hr hq hown hb
        have hlen2 : q < o2.length := by rw [HO.out.len]; omega
        obtain ⟨g, cap2, rfl, hg, hcell, hfr, hput⟩ := own_at hown2 hlen2
        have HPUT := hid hput
        have hold := HO.out.old HD.out
        have HST := hid (HO.out.step (d := x) HD.out (by have := HJ.out; omega) (by rw [← HJ.out]; exact HG.out) (by omega))
        rw [← HJ.out] at HST
        clear hput
        generalize o2.getD q 0 = old at *
        have hor := or_digit2 hold hx
        obtain ⟨nw, hnw⟩ : ∃ nw, old + x * 65536 ^ 2 = nw := ⟨_, rfl⟩
        rw [hnw] at hor HST
        clear hnw hold
        go_wp2_with fail
        go_region
        go_wp2_with fail
        go_roundw
        case rel => exact ⟨_, o2.set q nw, j + 1, rfl, by go_num, by omega, (HPUT.out nw).drew, HST, (hb2.setCell (p := ⟨g, q, none⟩) hg _).drew⟩
        case measure => simp [intOf]; omega
      · have hm4 : (j : Int) % 4 = 3 := by omega
        have hj4 : j = 4 * q + 3 := by omega
        have HJ := hid hj4
        have HO : Hid (WJ ds q 3 os) := by refine hid ?_; have := ho.out; rw [hj4] at this; exact this.held (by omega) (by omega)
        obtain ⟨o2, rfl⟩ : ∃ o2, o2 = os := ⟨_, rfl⟩
        obtain ⟨w', rfl⟩ : ∃ w', w' = wr := ⟨_, rfl⟩
        have hown2 := hown
        have hb2 := hb
        clear hj4 hr hq hown hb
        have hlen2 : q < o2.length := by rw [HO.out.len]; omega
        obtain ⟨g, cap2, rfl, hg, hcell, hfr, hput⟩ := own_at hown2 hlen2
        have HPUT := hid hput
        have hold := HO.out.old HD.out
        have HST := hid (HO.out.step (d := x) HD.out (by have := HJ.out; omega) (by rw [← HJ.out]; exact HG.out) (by omega))
        rw [← HJ.out] at HST
        clear hput
        generalize o2.getD q 0 = old at *
        have hor := or_digit3 hold hx
        obtain ⟨nw, hnw⟩ : ∃ nw, old + x * 65536 ^ 3 = nw := ⟨_, rfl⟩
        rw [hnw] at hor HST
        clear hnw hold
        go_wp2_with fail
        go_region
        go_wp2_with fail
        go_roundw
        case rel => exact ⟨_, o2.set q nw, j + 1, rfl, by go_num, by omega, (HPUT.out nw).drew, HST, (hb2.setCell (p := ⟨g, q, none⟩) hg _).drew⟩
        case measure => simp [intOf]; omega
    · obtain rfl : j = ds.length := by omega
      have hR := own_rd hown
      go_wp2_with fail
      go_ret
      refine ⟨_, rfl, ?_, hb⟩
      have := ho.out
      rw [← HDS.out] at this
      rw [← this.done]
      exact hR
end Go.Proofs.YtgdgklhfakplhaaGreatDoor
namespace Go.Proofs.YtgdgklhfakplhaaGreatDoor
open Go.RowKit Go.Dig
set_option maxRecDepth 100000
/-- A truth value is told that stands for P, and what was there is as it was. -/
def Okb (P : Prop) (w : World) (e : Ending) (w' : World) : Prop := ∃ ok : Bool, e = .returned (.bool ok) ∧ Hid (ok = true ↔ P) ∧ Below w.heap.size w w'
theorem okb_t {P : Prop} {w w' : World} (h : P) (hb : Below w.heap.size w w') : Okb P w (.returned (.bool true)) w' := ⟨true, rfl, hid ⟨fun _ => h, fun _ => rfl⟩, hb⟩
theorem okb_f {P : Prop} {w w' : World} (h : ¬ P) (hb : Below w.heap.size w w') : Okb P w (.returned (.bool false)) w' := ⟨false, rfl, hid ⟨fun h => (by cases h), fun h' => absurd h' h⟩, hb⟩
set_option maxHeartbeats 2000000 in
theorem hasWords_any (vx va : Value) (ws : List Nat) (n : Nat) (w : World) (hx : Rd .u64 w vx ws) (ha : Nt w va n) (hl : (dg 65536 n).length ≤ 100000) :
    Calls Tryz.prog 53 #[vx, va] w (Okb (ws = dg 18446744073709551616 n) w) := by
  obtain ⟨ax, cx, rfl, hx1, hx2, hx3⟩ := hx
  have HX := hid hx3
  clear hx3
  have HA := hid ha
  obtain ⟨pa, ca, rfl⟩ := ha.shape
  clear ha
  go_enter Tryz.func53, Tryz.ntmps53
  go_wp2_with fail
  refine (words_any _ n _ HA.out hl).mono ?_
  rintro e w1 ⟨v, rfl, hv, hb⟩
  obtain ⟨au, cu, rfl, hu1, hu2, hu3⟩ := hv
  have HU := hid hu3
  have HB := hid hb
  clear hu3 hb
  generalize hus : dg 18446744073709551616 n = us at *
  have HUS := hid hus
  clear hus
  by_cases hle : ws.length = us.length
  · have hne : ((ws.length : Int) != (us.length : Int)) = false := by simp [hle]
    have HLE := hid hle
    go_wp2_with fail
    go_loopw [16] (fun x wr => ∃ j nd : Nat, x = .int .i64 j ∧ j ≤ us.length ∧ Hid (∀ i, i < j → ws.getD i 0 = us.getD i 0) ∧ wr = w1.drewN nd) (fun x _ => us.length - (intOf x).toNat)
    case atStart => exact ⟨0, 0, rfl, Nat.zero_le _, hid (fun i hi => absurd hi (by omega)), rfl⟩
    case round =>
      obtain ⟨j, nd, rfl, hj, hE, rfl⟩ := hrel
      rcases Nat.lt_or_ge j us.length with h0 | h0
      · obtain ⟨b2, off, rfl, _, hb2⟩ := HU.out (by omega)
        have hk := hb2 j h0
        clear hb2
        obtain ⟨b3, off3, rfl, hb3⟩ := HX.out (by rw [HLE.out]; omega)
        have hk3 := hb3 j (by rw [HLE.out]; omega)
        clear hb3
        have hk4 := (HB.out.cell (World.block_lt_of_cell? w _ hk3)).trans hk3
        clear hk3
        by_cases hxy : ws.getD j 0 = us.getD j 0
        · rw [hxy] at hk4
          have HXY := hid hxy
          clear hxy
          go_wp2_with fail
          go_quiet (fail)
          go_wp2_with fail
          go_roundw
          case rel =>
            refine ⟨j + 1, _, by go_num, by omega, hid (fun i hi => ?_), by first | rfl | (simp only [World.drewN_drewN]; rfl)⟩
            rcases Nat.lt_or_ge i j with h1 | h1
            · exact hE.out i h1
            · obtain rfl : i = j := by omega
              exact HXY.out
          case measure => simp [intOf]; omega
        · have HFF : Hid (¬ ws = us) := hid (fun e => hxy (by rw [e]))
          generalize ws.getD j 0 = p at *
          generalize us.getD j 0 = q at *
          have hne2 : ((p : Int) != (q : Int)) = true := bne_iff_ne.2 (by omega)
          clear hxy
          go_wp2_with fail
          go_quiet (fail)
          go_wp2_with fail
          go_ret
          exact okb_f HFF.out ((HB.out.drewN _).drewN _)
      · obtain rfl : j = us.length := by omega
        have HTT : Hid (ws = us) := by
          refine hid ?_
          apply List.ext_getElem HLE.out
          intro i h1 h2
          have := hE.out i h2
          rw [List.getD_eq_getElem?_getD, List.getD_eq_getElem?_getD, List.getElem?_eq_getElem h1, List.getElem?_eq_getElem h2] at this
          exact this
        go_wp2_with fail
        go_ret
        exact okb_t HTT.out (HB.out.drewN _)
  · have HFF : Hid (¬ ws = us) := hid (fun e => hle (by rw [e]))
    have hne : ((ws.length : Int) != (us.length : Int)) = true := by simp; omega
    have HLE := hid hle
    clear hle
    go_wp2_with fail
    go_ret
    exact okb_f HFF.out HB.out
end Go.Proofs.YtgdgklhfakplhaaGreatDoor
namespace Go.Proofs.YtgdgklhfakplhaaGreatDoor
open Go.RowKit Go.Dig
set_option maxRecDepth 100000
set_option maxHeartbeats 400000 in
theorem zzFits2_any (nb : Bool) (a : Option Addr) (n c : Nat) (w : World) : Calls Tryz.prog 12 #[.agg #[.bool nb, .slice a n c]] w fun e w' => ∃ ok, e = .returned (.bool ok) ∧ Below w.heap.size w w' := by
  have hb : Below w.heap.size w (w.alloc (.cells #[.bool nb, .slice a n c] 24)) := (Below.refl _ _).alloc (Nat.le_refl _) _
  have HB := hid hb
  clear hb
  go_enter Tryz.func12, Tryz.ntmps12
  go_wp2_with fail
  all_goals go_ret
  all_goals exact ⟨_, rfl, HB.out⟩
set_option maxHeartbeats 1000000 in
theorem zzFits1_any (k : Int) (t : Bool) (s : ByteArray) (n1 n2 : Bool) (a1 a2 a3 a4 : Option Addr) (l1 l2 l3 l4 c1 c2 c3 c4 : Nat) (w : World) :
    Calls Tryz.prog 6 #[.agg #[.int .i64 k, .bool t, .string s, .bool n1, .slice a1 l1 c1, .slice a2 l2 c2, .bool n2, .slice a3 l3 c3, .slice a4 l4 c4]] w fun e w' => ∃ ok, e = .returned (.bool ok) ∧ Below w.heap.size w w' := by
  have HK := hid (blk_new w #[.int .i64 k, .bool t, .string s, .bool n1, .slice a1 l1 c1, .slice a2 l2 c2, .bool n2, .slice a3 l3 c3, .slice a4 l4 c4] 26)
  have HB : Hid (Below w.heap.size w (w.alloc (.cells #[.int .i64 k, .bool t, .string s, .bool n1, .slice a1 l1 c1, .slice a2 l2 c2, .bool n2, .slice a3 l3 c3, .slice a4 l4 c4] 26))) := (Below.refl _ _).alloc (Nat.le_refl _) _
  go_enter Tryz.func6, Tryz.ntmps6
  go_wp2_with fail
  all_goals first
    | (go_ret; exact ⟨_, rfl, HB.out⟩)
    | skip
  refine (zzFits2_any _ _ _ _ _).mono ?_
  rintro e w1 ⟨ok, rfl, hb⟩
  have HK := hid (HK.out.below hb HK.out.lt)
  have HB := hid (below_next HB.out hb)
  clear hb
  obtain ⟨q0, q1, q2, q3, q4, q5, q6, q7, q8, f0, f1, f2, f3, f4, f5, f6, f7, f8⟩ := HK.out.nine
  cases ok
  all_goals go_wp2_with fail
  all_goals first
    | (go_ret; exact ⟨_, rfl, HB.out⟩)
    | skip
  clear q0 q1 q2 q3 q4 q5 q6 q7 q8 f0 f1 f2 f3 f4 f5 f6 f7 f8
  refine (zzFits2_any _ _ _ _ _).mono ?_
  rintro e w2 ⟨ok, rfl, hb⟩
  have HK := hid (HK.out.below hb HK.out.lt)
  have HB := hid (below_next HB.out hb)
  clear hb
  obtain ⟨q0, q1, q2, q3, q4, q5, q6, q7, q8, f0, f1, f2, f3, f4, f5, f6, f7, f8⟩ := HK.out.nine
  cases ok
  all_goals go_wp2_with fail
  all_goals go_ret
  all_goals exact ⟨_, rfl, HB.out⟩
end Go.Proofs.YtgdgklhfakplhaaGreatDoor
namespace Go.Proofs.YtgdgklhfakplhaaGreatDoor
open Go.RowKit Go.Dig
set_option maxRecDepth 100000
set_option maxHeartbeats 1000000 in
/-- IsNumber where the sign is told of the number itself, or none is wanted. -/
theorem isNumber_any (xn neg : Bool) (vx vn : Value) (ws : List Nat) (n : Nat) (w : World) (hx : Rd .u64 w vx ws) (hn : Nt w vn n) (hl : (dg 65536 n).length ≤ 100000) :
    Calls Tryz.prog 52 #[.agg #[.bool xn, vx], .bool neg, vn] w (Okb (xn = (neg && decide (n ≠ 0)) ∧ ws = dg 18446744073709551616 n) w) := by
  obtain ⟨ax, cx, rfl⟩ := hx.shape
  obtain ⟨an, cn, rfl⟩ := hn.shape
  have HK := hid (blk_new w #[.bool xn, .slice ax ws.length cx] 24)
  have HB : Hid (Below w.heap.size w (w.alloc (.cells #[.bool xn, .slice ax ws.length cx] 24))) := (Below.refl _ _).alloc (Nat.le_refl _) _
  have HX := hid (hx.below HB.out (Nat.le_refl _))
  have HNT : Hid (∀ v, v = .slice an (dg 65536 n).length cn → Nt (w.alloc (.cells #[.bool xn, .slice ax ws.length cx] 24)) v n) := by refine hid ?_; rintro v rfl; exact hn.below HB.out (Nat.le_refl _)
  have hL0 : n = 0 → (dg 65536 n).length = 0 := fun h => by rw [h, dg_zero]; rfl
  have hL1 : n ≠ 0 → 0 < (dg 65536 n).length := fun h => by
    rcases Nat.eq_zero_or_pos (dg 65536 n).length with h' | h'
    · exact absurd ((dg_nil_iff (b := 65536) (by omega)).1 (List.eq_nil_of_length_eq_zero h')) h
    · exact h'
  have HLL := hid hl
  clear hx hn hl
  obtain ⟨P, HP⟩ : ∃ P : Prop, Hid (P ↔ (xn = (neg && decide (n ≠ 0)) ∧ ws = dg 18446744073709551616 n)) := ⟨_, hid Iff.rfl⟩
  suffices h : Calls Tryz.prog 52 #[.agg #[.bool xn, .slice ax ws.length cx], .bool neg, .slice an (dg 65536 n).length cn] w (Okb P w) from
    h.mono (fun e w' ⟨ok, h1, h2, h3⟩ => ⟨ok, h1, hid (h2.out.trans HP.out), h3⟩)
  rcases Nat.eq_zero_or_pos n with hn0 | hn0
  · have hL := hL0 hn0
    have HN0 : Hid (decide (n ≠ 0) = false) := hid (decide_eq_false (by omega))
    clear hL0 hL1 hn0
    generalize hLL : (dg 65536 n).length = L at *
    have HLL2 := hid hLL
    clear hLL
    subst hL
    cases neg <;> cases xn
    all_goals
      go_enter Tryz.func52, Tryz.ntmps52
      go_wp2_with fail
    all_goals first
      | (go_ret; exact okb_f (fun h => by have := (HP.out.1 h).1; rw [HN0.out] at this; simp at this) HB.out)
      | skip
    all_goals (
      refine (hasWords_any _ _ ws n _ HX.out (HNT.out _ rfl) (by rw [HLL2.out]; exact HLL.out)).mono ?_
      rintro e w1 ⟨ok, rfl, HOK, hb⟩
      have HB1 := hid (below_next HB.out hb)
      clear hb
      go_wp2_with fail
      go_ret
      exact ⟨ok, rfl, hid ⟨fun h => HP.out.2 ⟨by rw [HN0.out]; rfl, HOK.out.1 h⟩, fun h => HOK.out.2 (HP.out.1 h).2⟩, HB1.out⟩)
  · have hL := hL1 (by omega)
    have HN0 : Hid (decide (n ≠ 0) = true) := hid (decide_eq_true (by omega))
    clear hL0 hL1 hn0
    generalize hLL : (dg 65536 n).length = L at *
    have HLL2 := hid hLL
    clear hLL
    skip
    cases neg <;> cases xn
    all_goals
      go_enter Tryz.func52, Tryz.ntmps52
      go_wp2_with fail
    all_goals first
      | (go_ret; exact okb_f (fun h => by have := (HP.out.1 h).1; rw [HN0.out] at this; simp at this) HB.out)
      | skip
    all_goals (
      refine (hasWords_any _ _ ws n _ HX.out (HNT.out _ rfl) (by rw [HLL2.out]; exact HLL.out)).mono ?_
      rintro e w1 ⟨ok, rfl, HOK, hb⟩
      have HB1 := hid (below_next HB.out hb)
      clear hb
      go_wp2_with fail
      go_ret
      exact ⟨ok, rfl, hid ⟨fun h => HP.out.2 ⟨by rw [HN0.out]; rfl, HOK.out.1 h⟩, fun h => HOK.out.2 (HP.out.1 h).2⟩, HB1.out⟩)
end Go.Proofs.YtgdgklhfakplhaaGreatDoor
namespace Go.Proofs.YtgdgklhfakplhaaGreatDoor
open Go.RowKit Go.Dig
set_option maxRecDepth 100000
set_option maxHeartbeats 1000000 in
theorem rest_any (k : Int) (t : Bool) (s : ByteArray) (n1 n2 : Bool) (a1 a2 a3 a4 : Option Addr) (l1 l2 l3 l4 c1 c2 c3 c4 : Nat) (w : World) :
    Calls Tryz.prog 24 #[.agg #[.int .i64 k, .bool t, .string s, .bool n1, .slice a1 l1 c1, .slice a2 l2 c2, .bool n2, .slice a3 l3 c3, .slice a4 l4 c4]] w fun e w' => ∃ ok, e = .returned (.bool ok) ∧ Below w.heap.size w w' := by
  have HK := hid (blk_new w #[.int .i64 k, .bool t, .string s, .bool n1, .slice a1 l1 c1, .slice a2 l2 c2, .bool n2, .slice a3 l3 c3, .slice a4 l4 c4] 26)
  have HB : Hid (Below w.heap.size w (w.alloc (.cells #[.int .i64 k, .bool t, .string s, .bool n1, .slice a1 l1 c1, .slice a2 l2 c2, .bool n2, .slice a3 l3 c3, .slice a4 l4 c4] 26))) := (Below.refl _ _).alloc (Nat.le_refl _) _
  cases t <;> cases n2
  all_goals
    go_enter Tryz.func24, Tryz.ntmps24
    go_wp2_with fail
  all_goals go_ret
  all_goals first | exact ⟨_, rfl, HB.out⟩ | exact ⟨_, rfl, (Below.refl _ _).alloc (Nat.le_refl _) _⟩ | exact ⟨_, rfl, HB.out.drew⟩ | exact ⟨_, rfl, HB.out.drewN _⟩ | exact ⟨_, rfl, (HB.out.drewN _).drewN _⟩
set_option maxHeartbeats 1000000 in
theorem rest_told (k : Int) (n1 : Bool) (a1 a2 a3 a4 : Option Addr) (l1 l2 c1 c2 c3 c4 : Nat) (w : World) :
    Calls Tryz.prog 24 #[.agg #[.int .i64 k, .bool false, .string (ByteArray.mk #[]), .bool n1, .slice a1 l1 c1, .slice a2 l2 c2, .bool false, .slice a3 0 c3, .slice a4 0 c4]] w fun e w' => e = .returned (.bool true) ∧ Below w.heap.size w w' := by
  have HB : Hid (Below w.heap.size w (w.alloc (.cells #[.int .i64 k, .bool false, .string (ByteArray.mk #[]), .bool n1, .slice a1 l1 c1, .slice a2 l2 c2, .bool false, .slice a3 0 c3, .slice a4 0 c4] 26))) := (Below.refl _ _).alloc (Nat.le_refl _) _
  go_enter Tryz.func24, Tryz.ntmps24
  go_wp2_with fail
  go_ret
  first | exact ⟨rfl, HB.out⟩ | exact ⟨rfl, HB.out.drew⟩ | exact ⟨rfl, HB.out.drewN _⟩
theorem rest_q (k : Int) (t : Bool) (s : ByteArray) (n1 n2 : Bool) (a1 a2 a3 a4 : Option Addr) (l1 l2 l3 l4 c1 c2 c3 c4 : Nat) (w : World) :
    Calls Tryz.prog 24 #[.agg #[.int .i64 k, .bool t, .string s, .bool n1, .slice a1 l1 c1, .slice a2 l2 c2, .bool n2, .slice a3 l3 c3, .slice a4 l4 c4]] w fun e w' => ∃ ok, e = .returned (.bool ok) ∧ Hid (t = false ∧ s = ByteArray.mk #[] ∧ n2 = false ∧ l3 = 0 ∧ l4 = 0 → ok = true) ∧ Below w.heap.size w w' := by
  by_cases h : t = false ∧ s = ByteArray.mk #[] ∧ n2 = false ∧ l3 = 0 ∧ l4 = 0
  · obtain ⟨rfl, rfl, rfl, rfl, rfl⟩ := h
    exact (rest_told k n1 a1 a2 a3 a4 l1 l2 c1 c2 c3 c4 w).mono fun e w' ⟨h1, h2⟩ => ⟨true, h1, hid (fun _ => rfl), h2⟩
  · exact (rest_any k t s n1 n2 a1 a2 a3 a4 l1 l2 l3 l4 c1 c2 c3 c4 w).mono fun e w' ⟨ok, h1, h2⟩ => ⟨ok, h1, hid (fun h' => absurd h' h), h2⟩
end Go.Proofs.YtgdgklhfakplhaaGreatDoor

namespace Go.Proofs.YtgdgklhfakplhaaGreatDoor
open Go.RowKit Go.Dig
set_option maxRecDepth 100000
theorem cmpI_eq {m n : Nat} (h : m = n) : cmpI m n = 0 := by rw [cmpI]; simp [h]
theorem cmpI_ne {m n : Nat} (h : m ≠ n) : ∃ z : Int, cmpI m n = z ∧ (z == 0) = false := by
  rw [cmpI]
  by_cases h1 : m < n
  · exact ⟨-1, by simp [h1], rfl⟩
  · exact ⟨1, by simp [h1, h], rfl⟩
end Go.Proofs.YtgdgklhfakplhaaGreatDoor
