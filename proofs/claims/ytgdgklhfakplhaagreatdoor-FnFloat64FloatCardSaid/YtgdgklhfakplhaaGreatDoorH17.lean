/- Walks and lemmas for the laws of this seat. -/
import Derived.Test.YtgdgklhfakplhaaGreatDoorH16
import Derived.Test.YtgdgklhfakplhaaGreatDoorH14
import Derived.Test.YtgdgklhfakplhaaGreatDoorH15
import Derived.Test.YtgdgklhfakplhaaGreatDoorH12
import Derived.Deep.RegionHeld
import Derived.Test.YtgdgklhfakplhaaGreatDoorH06
import Derived.Test.YtgdgklhfakplhaaGreatDoorH13
import Derived.Test.YtgdgklhfakplhaaGreatDoorH03

namespace Go.Proofs.YtgdgklhfakplhaaGreatDoor
open Go.RowKit Go.Dig
set_option maxRecDepth 100000
abbrev Sx (w : World) (x0 x1 x2 y0 y1 y2 : Value) (w' : World) : Prop :=
  w'.cell? ⟨w.heap.size, 0, none⟩ = some x0 ∧ w'.cell? ⟨w.heap.size, 1, none⟩ = some x1 ∧ w'.cell? ⟨w.heap.size, 2, none⟩ = some x2 ∧ w'.cell? ⟨w.heap.size + 1, 0, none⟩ = some y0 ∧ w'.cell? ⟨w.heap.size + 1, 1, none⟩ = some y1 ∧ w'.cell? ⟨w.heap.size + 1, 2, none⟩ = some y2 ∧ Tb w x0 x1 x2 y0 y1 y2 w'
section
variable {w ww w1 : World} {x0 x1 x2 y0 y1 y2 : Value}
theorem sx_of (h : Tb w x0 x1 x2 y0 y1 y2 ww) : Sx w x0 x1 x2 y0 y1 y2 ww := ⟨h.1.cell 0, h.1.cell 1, h.1.cell 2, h.2.1.cell 0, h.2.1.cell 1, h.2.1.cell 2, h⟩
theorem sx_below (h : Sx w x0 x1 x2 y0 y1 y2 ww) : Below w.heap.size w ww := h.2.2.2.2.2.2.2.2.2
theorem sx_next (hb : Below ww.heap.size ww w1) (h : Sx w x0 x1 x2 y0 y1 y2 ww) : Sx w x0 x1 x2 y0 y1 y2 w1 := sx_of (tb_next hb h.2.2.2.2.2.2)
theorem sx_set3 (h : Sx w x0 x1 x2 y0 y1 y2 ww) (u0 u1 u2 : Value) :
    Sx w x0 x1 x2 y0 y1 y2 (((ww.setCell ⟨w.heap.size + 1 + 1, 0, none⟩ u0).setCell ⟨w.heap.size + 1 + 1, 1, none⟩ u1).setCell ⟨w.heap.size + 1 + 1, 2, none⟩ u2) := sx_of (tb_set3 h.2.2.2.2.2.2 u0 u1 u2)
end
end Go.Proofs.YtgdgklhfakplhaaGreatDoor
namespace Go.Proofs.YtgdgklhfakplhaaGreatDoor
open Go.RowKit Go.Dig
set_option maxRecDepth 100000
theorem sgn_abs (S : Int) : sgn (decide (S < 0)) S.natAbs = S := by
  rcases Int.lt_or_le S 0 with h | h
  · rw [decide_eq_true h, sgn_true]; omega
  · rw [decide_eq_false (by omega), sgn_false]; omega
theorem sum_abs (a b : Int) : sgn (decide (a < 0)) (a.natAbs * 1) + sgn (decide (b < 0)) (b.natAbs * 1) = a + b := by
  rw [Nat.mul_one, Nat.mul_one, sgn_abs, sgn_abs]
theorem dif_abs (a b : Int) : sgn (decide (a < 0)) (a.natAbs * 1) - sgn (decide (b < 0)) (b.natAbs * 1) = a - b := by
  rw [Nat.mul_one, Nat.mul_one, sgn_abs, sgn_abs]
theorem sgn_mul (s t : Bool) (m n : Nat) : sgn (s != t) (m * n) = sgn s m * sgn t n := by
  cases s <;> cases t
  · show sgn false (m * n) = sgn false m * sgn false n
    rw [sgn_false, sgn_false, sgn_false, Int.natCast_mul]
  · show sgn true (m * n) = sgn false m * sgn true n
    rw [sgn_true, sgn_true, sgn_false, Int.natCast_mul, Int.mul_neg]
  · show sgn true (m * n) = sgn true m * sgn false n
    rw [sgn_true, sgn_true, sgn_false, Int.natCast_mul, Int.neg_mul]
  · show sgn false (m * n) = sgn true m * sgn true n
    rw [sgn_true, sgn_true, sgn_false, Int.natCast_mul, Int.neg_mul_neg]
theorem prod_abs (a b : Int) : sgn (decide (a < 0) != decide (b < 0)) (a.natAbs * b.natAbs) = a * b := by
  rw [sgn_mul, sgn_abs, sgn_abs]
theorem abs_len (S : Int) (h : S.natAbs < 65536 ^ 9) : (dg 65536 S.natAbs).length ≤ 100000 := Nat.le_trans (dg_length_le (by omega) h) (by omega)
theorem sum_bound {a b : Int} (l0 : -9223372036854775808 ≤ a) (u0 : a ≤ 9223372036854775807) (l1 : -9223372036854775808 ≤ b) (u1 : b ≤ 9223372036854775807) : (a + b).natAbs < 65536 ^ 9 := by
  have : (65536 : Nat) ^ 9 > 36893488147419103232 := by decide
  omega
theorem dif_bound {a b : Int} (l0 : -9223372036854775808 ≤ a) (u0 : a ≤ 9223372036854775807) (l1 : -9223372036854775808 ≤ b) (u1 : b ≤ 9223372036854775807) : (a - b).natAbs < 65536 ^ 9 := by
  have : (65536 : Nat) ^ 9 > 36893488147419103232 := by decide
  omega
theorem prod_bound {a b : Int} (l0 : -9223372036854775808 ≤ a) (u0 : a ≤ 9223372036854775807) (l1 : -9223372036854775808 ≤ b) (u1 : b ≤ 9223372036854775807) : (a * b).natAbs < 65536 ^ 9 := by
  rw [Int.natAbs_mul]
  calc a.natAbs * b.natAbs ≤ 9223372036854775808 * 9223372036854775808 := Nat.mul_le_mul (by omega) (by omega)
    _ < _ := by decide
end Go.Proofs.YtgdgklhfakplhaaGreatDoor
namespace Go.Proofs.YtgdgklhfakplhaaGreatDoor
open Go.RowKit Go.Dig
set_option maxRecDepth 100000
theorem sgn_add (s : Bool) (m n : Nat) : sgn s (m + n) = sgn s m + sgn s n := by cases s <;> simp [sgn] <;> omega
theorem sgn_sub_ge (s : Bool) {m n : Nat} (h : n ≤ m) : sgn s (m - n) = sgn s m + sgn (!s) n := by cases s <;> simp [sgn] <;> omega
theorem sgn_sub_lt (s : Bool) {m n : Nat} (h : m < n) : sgn (!s) (n - m) = sgn s m + sgn (!s) n := by cases s <;> simp [sgn] <;> omega
theorem sgn_neg (s : Bool) (n : Nat) : sgn (!s) n = - sgn s n := by cases s <;> simp [sgn]
theorem sgn_nil (s : Bool) {k : Nat} (h : k = 0) : sgn false k = sgn s k := by subst h; cases s <;> rfl
/-- The magnitude of z is stored; its sign is still that of 0. -/
def Zh (w : World) (bz : Nat) (v : Value) (k : Nat) (w' : World) : Prop := Blk w' bz #[.bool false, v] 124 ∧ Nw w' v k ∧ Below bz w w'
theorem zh_of {w w1 : World} {bz k : Nat} {v : Value} (hz : Blk w bz #[.bool false, .slice none 0 0] 124) (hb : Below w.heap.size w w1) (hv : Nw w1 v k) : Zh w bz v k (w1.setCell ⟨bz, 1, none⟩ v) := by
  have hB := hz.below hb hz.lt
  refine ⟨by simpa using hB.set 1 v, hv.set (p := ⟨bz, 1, none⟩) v hB.shape (by decide), ?_⟩
  exact (hb.mono (Nat.le_of_lt hz.lt)).setCell (p := ⟨bz, 1, none⟩) (Nat.le_refl _) v
theorem Zh.cells {w w' : World} {bz k : Nat} {v : Value} (h : Zh w bz v k w') : w'.cell? ⟨bz, 0, none⟩ = some (.bool false) ∧ w'.cell? ⟨bz, 1, none⟩ = some v ∧ w'.frozen? ⟨bz, 0, none⟩ = false :=
  ⟨h.1.cell 0, h.1.cell 1, h.1.frozen 0⟩
/-- How the end of Add and Sub is read. -/
def Zd (w : World) (bz : Nat) (S : Int) (e : Ending) (w' : World) : Prop := e = .returned (.pointer (some ⟨bz, 0, none⟩)) ∧ (∃ s k, sgn s k = S ∧ Iv w' bz s k) ∧ Below bz w w'
theorem Zh.done {w w' : World} {bz k : Nat} {v : Value} {S : Int} (h : Zh w bz v k w') (s : Bool) (hS : sgn s k = S) : Zd w bz S (.returned (.pointer (some ⟨bz, 0, none⟩))) (w'.setCell ⟨bz, 0, none⟩ (.bool s)) := by
  refine ⟨rfl, ⟨s, k, hS, v, by simpa using h.1.set 0 (.bool s), h.2.1.set (p := ⟨bz, 0, none⟩) _ h.1.shape (by decide)⟩, ?_⟩
  exact h.2.2.setCell (p := ⟨bz, 0, none⟩) (Nat.le_refl _) _
theorem nw_shape {w : World} {v : Value} {k : Nat} (h : Nw w v k) : ∃ a L c, v = .slice a L c ∧ Hid (L = (dg 18446744073709551616 k).length) := by
  obtain ⟨a, c, rfl⟩ := h.shape
  exact ⟨a, _, c, rfl, rfl⟩
theorem ncmp_b (vx vy : Value) (m n : Nat) (w : World) (hx : Nw w vx m) (hy : Nw w vy n) (hm1 : m < 18446744073709551616) (hn1 : n < 18446744073709551616) :
    Calls Tryz.prog 147 #[vx, vy] w fun e w' => e = .returned (.int .i64 (cmpI m n)) ∧ Below w.heap.size w w' :=
  (ncmp_small vx vy m n w hx hy hm1 hn1).mono fun _ _ ⟨h, k, hk⟩ => ⟨h, by rw [hk]; exact below_drewN' k⟩
theorem len_pos {k : Nat} (h : k ≠ 0) : 0 < (dg 18446744073709551616 k).length := by
  rcases Nat.eq_zero_or_pos (dg 18446744073709551616 k).length with h' | h'
  · exact absurd ((dg_nil_iff (b := 18446744073709551616) (by omega)).1 (List.eq_nil_of_length_eq_zero h')) h
  · exact h'

end Go.Proofs.YtgdgklhfakplhaaGreatDoor
namespace Go.Proofs.YtgdgklhfakplhaaGreatDoor
open Go.RowKit Go.Dig
set_option maxRecDepth 100000
theorem iv_same {w w' : World} {bz k : Nat} {v : Value} (h : Zh w bz v k w') : Iv (w'.setCell ⟨bz, 0, none⟩ (.bool false)) bz false k :=
  ⟨v, by simpa using h.1.set 0 (.bool false), h.2.1.set (p := ⟨bz, 0, none⟩) _ h.1.shape (by decide)⟩
set_option maxHeartbeats 400000 in
theorem setBits_any (bz : Nat) (va : Value) (ds : List Nat) (w : World) (hz : Blk w bz #[.bool false, .slice none 0 0] 124) (ha : Rt 181 .u64 w va ds) (hd : ∀ d ∈ ds, d < 18446744073709551616) :
    Calls Tryz.prog 78 #[.pointer (some ⟨bz, 0, none⟩), va] w fun e w' => e = .returned (.pointer (some ⟨bz, 0, none⟩)) ∧ Iv w' bz false (val 18446744073709551616 ds) ∧ Below bz w w' := by
  have HZ := hid hz
  have HA := hid ha
  obtain ⟨a, c, rfl⟩ := ha.shape
  have hz0 := hz.cell 0
  have hz1 := hz.cell 1
  simp only [List.getElem?_toArray, List.getElem?_cons_zero, List.getElem?_cons_succ] at hz0 hz1
  have f0 := hz.frozen 0
  have f1 := hz.frozen 1
  clear hz ha
  go_enter Tryz.func78, Tryz.ntmps78
  go_wp2_with fail
  refine (norm_any _ ds w HA.out).mono ?_
  rintro e w' ⟨v, rfl, hv, rfl⟩
  rw [trim_eq (b := 18446744073709551616) (by omega) hd] at hv
  obtain ⟨az, L, cz, rfl, HL⟩ := nw_shape hv
  have HV := hid hv
  clear hv
  go_wp2_with fail
  go_ret
  have hZ := zh_of (w1 := w') HZ.out (Below.refl _ _) HV.out
  exact ⟨rfl, iv_same hZ, hZ.2.2.setCell (p := ⟨bz, 0, none⟩) (Nat.le_refl _) _⟩
end Go.Proofs.YtgdgklhfakplhaaGreatDoor

namespace Go.Proofs.YtgdgklhfakplhaaGreatDoor
open Go.RowKit
set_option maxRecDepth 100000
theorem f64bits_any (b : Nat) (w : World) : (callFunc 18 #[.float .f64 b]).run Tryz.prog w = .ok (.value (.int .u64 b)) w := by
  rw [run_callFunc_extern Tryz.func18 (by kernel_rfl) (by kernel_rfl) (by kernel_rfl) (e := Go.Extern.MathFloatBits.float64bits) (by kernel_rfl)]
  rfl
theorem f32bits_any (b : Nat) (w : World) : (callFunc 20 #[.float .f32 b]).run Tryz.prog w = .ok (.value (.int .u32 b)) w := by
  rw [run_callFunc_extern Tryz.func20 (by kernel_rfl) (by kernel_rfl) (by kernel_rfl) (e := Go.Extern.MathFloatBits.float32bits) (by kernel_rfl)]
  rfl
/-- No value: the zero of the plain values. -/
abbrev noneV : Value := .agg #[.int .i64 0, .bool false, .string (ByteArray.mk #[]), .bool false, .slice none 0 0, .slice none 0 0, .bool false, .slice none 0 0, .slice none 0 0]
/-- The unknown value. -/
abbrev unkV : Value := .iface 88 (.agg #[])
set_option maxHeartbeats 400000 in
theorem mkUnknown (w : World) : Calls Tryz.prog 35 #[] w fun e w' => e = .returned unkV ∧ w = w' := by
  go_enter Tryz.func35, Tryz.ntmps35
  go_wp2_with fail
  go_ret
  exact ⟨rfl, rfl⟩
set_option maxHeartbeats 400000 in
theorem float64Val_unk (w : World) : Calls Tryz.prog 16 #[unkV] w fun e w' => e = .returned (.tuple #[.float .f64 0, .bool false]) ∧ Below w.heap.size w w' := by
  have h1 := ta_137_119
  have h2 := ta_137_122
  have h3 := ta_137_132
  have h4 := ta_137_135
  have h5 := ta_137_137
  go_enter Tryz.func16, Tryz.ntmps16
  go_wp2_with fail
  go_ret2
  exact ⟨rfl, (Below.refl _ _).alloc (Nat.le_refl _) _⟩
set_option maxHeartbeats 400000 in
theorem float32Val_unk (w : World) : Calls Tryz.prog 19 #[unkV] w fun e w' => e = .returned (.tuple #[.float .f32 0, .bool false]) ∧ Below w.heap.size w w' := by
  have h1 := ta_137_119
  have h2 := ta_137_122
  have h3 := ta_137_132
  have h4 := ta_137_135
  have h5 := ta_137_137
  go_enter Tryz.func19, Tryz.ntmps19
  go_wp2_with fail
  go_ret2
  exact ⟨rfl, (Below.refl _ _).alloc (Nat.le_refl _) _⟩
end Go.Proofs.YtgdgklhfakplhaaGreatDoor
namespace Go.Proofs.YtgdgklhfakplhaaGreatDoor
open Go.RowKit Go.Dig
set_option maxRecDepth 100000
set_option maxHeartbeats 400000 in
/-- Int.Sign: 0, or 1 with the sign. -/
theorem intSign_any (b : Nat) (s : Bool) (n : Nat) (w : World) (h : Iv w b s n) : Calls Tryz.prog 130 #[.pointer (some ⟨b, 0, none⟩)] w fun e w' => ∃ x, e = .returned (.int .i64 x) ∧ Hid (x < 0 ↔ sgn s n < 0) ∧ w = w' := by
  obtain ⟨v, hB, hN⟩ := h
  obtain ⟨a, L, c, rfl, HL⟩ := nw_shape hN
  have hc0 := hB.cell 0
  have hc1 := hB.cell 1
  simp only [List.getElem?_toArray, List.getElem?_cons_zero, List.getElem?_cons_succ] at hc0 hc1
  clear hN hB
  rcases Nat.eq_zero_or_pos n with hn | hn
  · subst hn
    have hL : L = 0 := by rw [HL.out, dg_zero]; rfl
    subst hL
    go_enter Tryz.func130, Tryz.ntmps130
    go_wp2_with fail
    go_ret
    exact ⟨_, rfl, hid (by cases s <;> simp [sgn]), rfl⟩
  · have hL : 0 < L := by rw [HL.out]; exact len_pos (by omega)
    have hL' : ((L : Int) == 0) = false := by simp; omega
    clear HL
    cases s
    · go_enter Tryz.func130, Tryz.ntmps130
      go_wp2_with fail
      go_ret
      exact ⟨_, rfl, hid (by simp [sgn]), rfl⟩
    · go_enter Tryz.func130, Tryz.ntmps130
      go_wp2_with fail
      go_ret
      exact ⟨_, rfl, hid (by simp [sgn]; omega), rfl⟩
set_option maxHeartbeats 400000 in
theorem intBits_any (b : Nat) (v : Value) (w : World) (hc1 : w.cell? ⟨b, 1, none⟩ = some v) : Calls Tryz.prog 131 #[.pointer (some ⟨b, 0, none⟩)] w fun e w' => e = .returned v ∧ w = w' := by
  go_enter Tryz.func131, Tryz.ntmps131
  go_wp2_with fail
  go_ret
  exact ⟨rfl, rfl⟩
theorem info44 : (Tryz.prog.info? 41).map (fun i => (i.zero, i.size, i.bytes)) = some (some (.int .u64 0), 1, 8) := by kernel_rfl
set_option maxHeartbeats 400000 in
/-- The words of an Int as plain words. -/
theorem plain_any (b : Nat) (s : Bool) (n : Nat) (w : World) (h : Iv w b s n) (hlen : (dg 18446744073709551616 n).length ≤ 100000) : Calls Tryz.prog 88 #[.pointer (some ⟨b, 0, none⟩)] w fun e w' => ∃ v, e = .returned v ∧ Rt 41 .u64 w' v (dg 18446744073709551616 n) ∧ Below w.heap.size w w' := by
  obtain ⟨v, hB, hN⟩ := h
  have hc1 := hB.cell 1
  simp only [List.getElem?_toArray, List.getElem?_cons_zero, List.getElem?_cons_succ] at hc1
  clear hB
  obtain ⟨a, cap, rfl, hcl, hcm, hcc⟩ := hN
  have HC := hid hcc
  clear hcc
  generalize hds : dg 18446744073709551616 n = ds at *
  have HDS := hid hds
  clear hds
  go_enter Tryz.func88, Tryz.ntmps88
  go_wp2_with (go_at_call 131; refine (intBits_any _ _ _ hc1).mono ?_; rintro e w' ⟨rfl, rfl⟩)
  go_loopw [3, 9] (fun v x wr => ∃ (u : Value) (os : List Nat) (j : Nat), u = v ∧ x = .int .i64 j ∧ j ≤ ds.length ∧ wr.ownsRow w.heap.size 41 1 u os.length (cs .u64 os) ∧ Hid (os = ds.take j) ∧ Below w.heap.size w wr) (fun _ x _ => ds.length - (intOf x).toNat)
  case atStart => exact ⟨_, [], 0, rfl, rfl, by omega, World.ownsRow_nil _ _ _ _, hid rfl, Below.refl _ _⟩
  case round =>
    obtain ⟨u, os, j, rfl, rfl, hj, hown, ho, hb⟩ := hrel
    have hbs := hb.size
    have hlo : os.length = j := by rw [ho.out, List.length_take]; omega
    have HLO := hid hlo
    clear hlo
    rcases Nat.lt_or_ge j ds.length with h0 | h0
    · obtain ⟨b2, off, rfl, _, hb2⟩ := HC.out (by omega)
      have hk := hb2 j (by omega)
      clear hb2
      have hk2 := (hb.cell (World.block_lt_of_cell? w _ hk)).trans hk
      clear hk
      generalize hg : ds.getD j 0 = x at hk2
      have HG := hid hg
      clear hg
      have hol : os.length < 1000000000 := by rw [HLO.out]; omega
      go_wp2_with (at_builtin; refine app1 rfl _ _ 22 41 rfl .u64 8 Tryz.underlying22 info44 (by decide) w.heap.size w u os _ x rfl rfl rfl hown hb (by omega) hol ?_; intro v' w' hown2 hb2 _)
      go_roundw
      case rel =>
        refine ⟨_, os ++ [x], j + 1, rfl, by go_num, by omega, hown2, hid ?_, hb2⟩
        rw [ho.out, ← HG.out, List.take_add_one, List.getElem?_eq_getElem h0, List.getD_eq_getElem?_getD, List.getElem?_eq_getElem h0]
        rfl
      case measure => simp [intOf]; omega
    · obtain rfl : j = ds.length := by omega
      have hR := own_rd hown
      rw [ho.out, List.take_length] at hR
      go_wp2_with fail
      go_ret
      exact ⟨_, rfl, hR, hb⟩
end Go.Proofs.YtgdgklhfakplhaaGreatDoor
namespace Go.Proofs.YtgdgklhfakplhaaGreatDoor
open Go.RowKit
set_option maxRecDepth 100000
theorem tb_2_2 (w : World) (v : Value) : (Instr.typeAssert (.iface 2 v) 20 2 true).run Tryz.prog w = .ok (.tuple #[v, .bool true]) w := by kernel_rfl
theorem tb_2_4 (w : World) (v : Value) : (Instr.typeAssert (.iface 2 v) 20 4 true).run Tryz.prog w = .ok (.tuple #[.bool false, .bool false]) w := by kernel_rfl
theorem tb_2_9 (w : World) (v : Value) : (Instr.typeAssert (.iface 2 v) 20 9 true).run Tryz.prog w = .ok (.tuple #[.string (ByteArray.mk #[]), .bool false]) w := by kernel_rfl
theorem tb_2_120 (w : World) (v : Value) : (Instr.typeAssert (.iface 2 v) 20 71 true).run Tryz.prog w = .ok (.tuple #[.pointer none, .bool false]) w := by kernel_rfl
theorem tb_2_130 (w : World) (v : Value) : (Instr.typeAssert (.iface 2 v) 20 81 true).run Tryz.prog w = .ok (.tuple #[.pointer none, .bool false]) w := by kernel_rfl
theorem tb_2_126 (w : World) (v : Value) : (Instr.typeAssert (.iface 2 v) 20 77 true).run Tryz.prog w = .ok (.tuple #[.pointer none, .bool false]) w := by kernel_rfl
theorem tb_120_2 (w : World) (v : Value) : (Instr.typeAssert (.iface 71 v) 20 2 true).run Tryz.prog w = .ok (.tuple #[.int .i64 0, .bool false]) w := by kernel_rfl
theorem tb_120_4 (w : World) (v : Value) : (Instr.typeAssert (.iface 71 v) 20 4 true).run Tryz.prog w = .ok (.tuple #[.bool false, .bool false]) w := by kernel_rfl
theorem tb_120_9 (w : World) (v : Value) : (Instr.typeAssert (.iface 71 v) 20 9 true).run Tryz.prog w = .ok (.tuple #[.string (ByteArray.mk #[]), .bool false]) w := by kernel_rfl
theorem tb_120_120 (w : World) (v : Value) : (Instr.typeAssert (.iface 71 v) 20 71 true).run Tryz.prog w = .ok (.tuple #[v, .bool true]) w := by kernel_rfl
theorem tb_120_130 (w : World) (v : Value) : (Instr.typeAssert (.iface 71 v) 20 81 true).run Tryz.prog w = .ok (.tuple #[.pointer none, .bool false]) w := by kernel_rfl
theorem tb_120_126 (w : World) (v : Value) : (Instr.typeAssert (.iface 71 v) 20 77 true).run Tryz.prog w = .ok (.tuple #[.pointer none, .bool false]) w := by kernel_rfl
theorem tb_130_2 (w : World) (v : Value) : (Instr.typeAssert (.iface 81 v) 20 2 true).run Tryz.prog w = .ok (.tuple #[.int .i64 0, .bool false]) w := by kernel_rfl
theorem tb_130_4 (w : World) (v : Value) : (Instr.typeAssert (.iface 81 v) 20 4 true).run Tryz.prog w = .ok (.tuple #[.bool false, .bool false]) w := by kernel_rfl
theorem tb_130_9 (w : World) (v : Value) : (Instr.typeAssert (.iface 81 v) 20 9 true).run Tryz.prog w = .ok (.tuple #[.string (ByteArray.mk #[]), .bool false]) w := by kernel_rfl
theorem tb_130_120 (w : World) (v : Value) : (Instr.typeAssert (.iface 81 v) 20 71 true).run Tryz.prog w = .ok (.tuple #[.pointer none, .bool false]) w := by kernel_rfl
theorem tb_130_130 (w : World) (v : Value) : (Instr.typeAssert (.iface 81 v) 20 81 true).run Tryz.prog w = .ok (.tuple #[v, .bool true]) w := by kernel_rfl
theorem tb_130_126 (w : World) (v : Value) : (Instr.typeAssert (.iface 81 v) 20 77 true).run Tryz.prog w = .ok (.tuple #[.pointer none, .bool false]) w := by kernel_rfl
end Go.Proofs.YtgdgklhfakplhaaGreatDoor
namespace Go.Proofs.YtgdgklhfakplhaaGreatDoor
open Go.RowKit Go.Dig
set_option maxRecDepth 100000
set_option maxHeartbeats 400000 in
/-- nat.setWord onto nothing. -/
theorem setWord_nil (x : Nat) (w : World) (hx : x < 18446744073709551616) : Calls Tryz.prog 121 #[.slice none 0 0, .int .u64 x] w fun e w' => ∃ v, e = .returned v ∧ Nw w' v x ∧ Below w.heap.size w w' := by
  rcases Nat.eq_zero_or_pos x with h | h
  · subst h
    go_enter Tryz.func121, Tryz.ntmps121
    go_wp2_with fail
    go_ret
    exact ⟨_, rfl, by rw [Nw, dg_zero]; exact Rt.nil _ _ _, Below.refl _ _⟩
  · have hx0 : ((x : Int) == 0) = false := by simp; omega
    go_enter Tryz.func121, Tryz.ntmps121
    go_wp2_with fail
    refine (natMake_one _).mono ?_
    rintro e w' ⟨rfl, rfl⟩
    have hB : BlkN .u64 181 (w.alloc (.cells (cs .u64 [0]).toArray 181)) w.heap.size [0] := blk_new w _ 181
    have hb : Below w.heap.size w (w.alloc (.cells (cs .u64 [0]).toArray 181)) := (Below.refl _ _).alloc (Nat.le_refl _) _
    have HB := hid hB
    have Hb := hid hb
    have hc := hB.at (i := 0) (by simp)
    have hf := Blk.frozen hB 0
    clear hB hb
    generalize w.alloc (.cells (cs .u64 [0]).toArray 181) = w1 at *
    go_wp2_with fail
    go_ret
    have hB2 := HB.out.put 0 x
    have hr := BlkN.rt hB2 (cap := 1) (by simp) (by omega)
    refine ⟨_, rfl, ?_, Hb.out.setCell (Nat.le_refl _) _⟩
    rw [Nw, dg_one h hx]
    exact hr
set_option maxHeartbeats 400000 in
theorem setUint64_nil (x : Nat) (w : World) (hx : x < 18446744073709551616) : Calls Tryz.prog 98 #[.slice none 0 0, .int .u64 x] w fun e w' => ∃ v, e = .returned v ∧ Nw w' v x ∧ Below w.heap.size w w' := by
  go_enter Tryz.func98, Tryz.ntmps98
  go_wp2_with fail
  refine (setWord_nil x _ hx).mono ?_
  rintro e w' ⟨v, rfl, hv, hb⟩
  go_wp2_with fail
  go_ret
  exact ⟨_, rfl, hv, hb⟩
/-- A number of 64 bits behind a pointer. -/
theorem zh_iv {w w' : World} {bz k : Nat} {v : Value} (h : Zh w bz v k w') (s : Bool) : Iv (w'.setCell ⟨bz, 0, none⟩ (.bool s)) bz s k :=
  ⟨v, by simpa using h.1.set 0 (.bool s), h.2.1.set (p := ⟨bz, 0, none⟩) _ h.1.shape (by decide)⟩
set_option maxHeartbeats 400000 in
theorem setInt64_new (bz : Nat) (x : Int) (w : World) (h0 : -9223372036854775808 ≤ x) (h1 : x ≤ 9223372036854775807) (hz : Blk w bz #[.bool false, .slice none 0 0] 124) :
    Calls Tryz.prog 86 #[.pointer (some ⟨bz, 0, none⟩), .int .i64 x] w fun e w' => e = .returned (.pointer (some ⟨bz, 0, none⟩)) ∧ Iv w' bz (decide (x < 0)) x.natAbs ∧ Below bz w w' := by
  have HZ := hid hz
  have hz1 := hz.cell 1
  simp only [List.getElem?_toArray, List.getElem?_cons_zero, List.getElem?_cons_succ] at hz1
  have f0 := hz.frozen 0
  have f1 := hz.frozen 1
  clear hz
  rcases Int.lt_or_le x 0 with hx | hx
  · obtain ⟨n, rfl⟩ : ∃ n : Nat, x = -(n : Int) := ⟨x.natAbs, by omega⟩
    have hw : IntKind.u64.wrap (wrap64 (n : Int)) = (n : Int) := by rw [IntKind.wrap_u64]; unfold wrap64; omega
    have hd : decide (-(n : Int) < 0) = true := decide_eq_true hx
    rw [hd, Int.natAbs_neg, Int.natAbs_natCast]
    go_enter Tryz.func86, Tryz.ntmps86
    go_wp2_with fail
    refine (setUint64_nil n _ (by omega)).mono ?_
    rintro e w1 ⟨v, rfl, hv, hb⟩
    obtain ⟨az, L, cz, rfl, HL⟩ := nw_shape hv
    have HV := hid hv
    have HB := hid hb
    clear hv hb
    have f0 : w1.frozen? ⟨bz, 0, none⟩ = false := (HB.out.frozen (p := ⟨bz, 0, none⟩) HZ.out.lt).trans f0
    have f1 : w1.frozen? ⟨bz, 1, none⟩ = false := (HB.out.frozen (p := ⟨bz, 1, none⟩) HZ.out.lt).trans f1
    have q0 := (HZ.out.below HB.out HZ.out.lt).cell 0
    have q1 := (HZ.out.below HB.out HZ.out.lt).cell 1
    simp only [List.getElem?_toArray, List.getElem?_cons_zero, List.getElem?_cons_succ] at q0 q1
    go_wp2_with fail
    go_ret
    have hZ := zh_of HZ.out HB.out HV.out
    exact ⟨rfl, zh_iv hZ true, hZ.2.2.setCell (p := ⟨bz, 0, none⟩) (Nat.le_refl _) _⟩
  · obtain ⟨n, rfl⟩ : ∃ n : Nat, x = (n : Int) := ⟨x.natAbs, by omega⟩
    have hd : decide ((n : Int) < 0) = false := decide_eq_false (by omega)
    rw [hd, Int.natAbs_natCast]
    go_enter Tryz.func86, Tryz.ntmps86
    go_wp2_with fail
    refine (setUint64_nil n _ (by omega)).mono ?_
    rintro e w1 ⟨v, rfl, hv, hb⟩
    obtain ⟨az, L, cz, rfl, HL⟩ := nw_shape hv
    have HV := hid hv
    have HB := hid hb
    clear hv hb
    have f0 : w1.frozen? ⟨bz, 0, none⟩ = false := (HB.out.frozen (p := ⟨bz, 0, none⟩) HZ.out.lt).trans f0
    have f1 : w1.frozen? ⟨bz, 1, none⟩ = false := (HB.out.frozen (p := ⟨bz, 1, none⟩) HZ.out.lt).trans f1
    have q0 := (HZ.out.below HB.out HZ.out.lt).cell 0
    have q1 := (HZ.out.below HB.out HZ.out.lt).cell 1
    simp only [List.getElem?_toArray, List.getElem?_cons_zero, List.getElem?_cons_succ] at q0 q1
    go_wp2_with fail
    go_ret
    have hZ := zh_of HZ.out HB.out HV.out
    exact ⟨rfl, zh_iv hZ false, hZ.2.2.setCell (p := ⟨bz, 0, none⟩) (Nat.le_refl _) _⟩
set_option maxHeartbeats 1000000 in
theorem number_any (b : Nat) (s : Bool) (n : Nat) (w : World) (h : Iv w b s n) (hlen : (dg 18446744073709551616 n).length ≤ 100000) :
    Calls Tryz.prog 85 #[.pointer (some ⟨b, 0, none⟩)] w fun e w' => ∃ t v, e = .returned (.agg #[.bool t, v]) ∧ Hid (t = decide (sgn s n < 0)) ∧ Rt 41 .u64 w' v (dg 18446744073709551616 n) ∧ Below w.heap.size w w' := by
  have H := hid h
  clear h
  have HK := hid (blk_new w #[.bool false, .slice none 0 0] 24)
  have Hb0 : Hid (Below w.heap.size w (w.alloc (.cells #[.bool false, .slice none 0 0] 24))) := (Below.refl _ _).alloc (Nat.le_refl _) _
  have H0 := hid (H.out.below Hb0.out)
  go_enter Tryz.func85, Tryz.ntmps85
  go_wp2_with fail
  generalize w.alloc (.cells #[.bool false, .slice none 0 0] 24) = w0 at *
  refine (intSign_any b s n _ H0.out).mono ?_
  rintro e w1 ⟨x, rfl, HX, rfl⟩
  have q0 := HK.out.cell 0
  have q1 := HK.out.cell 1
  simp only [List.getElem?_toArray, List.getElem?_cons_zero, List.getElem?_cons_succ] at q0 q1
  have f0 := HK.out.frozen 0
  have f1 := HK.out.frozen 1
  clear q0 q1 f0 f1
  go_wp2_with fail
  refine (plain_any b s n _ H0.out hlen).mono ?_
  rintro e w1 ⟨v, rfl, hv, hb⟩
  obtain ⟨a, c, rfl⟩ := hv.shape
  have HV := hid hv
  have HB := hid hb
  clear hv hb
  have HK1 := hid (HK.out.below HB.out HK.out.lt)
  have q0 := HK1.out.cell 0
  have q1 := HK1.out.cell 1
  simp only [List.getElem?_toArray, List.getElem?_cons_zero, List.getElem?_cons_succ] at q0 q1
  have f0 := HK1.out.frozen 0
  have f1 := HK1.out.frozen 1
  go_wp2_with fail
  have g1 := HV.out.set (p := ⟨w.heap.size, 0, none⟩) (.bool (decide (x < 0))) HK1.out.shape (by decide)
  have g2 := g1.set (p := ⟨w.heap.size, 1, none⟩) (.slice a (dg 18446744073709551616 n).length c) (m := 2) (e' := 24) (by rw [shape_setCell]; exact HK1.out.shape) (by decide)
  refine bodyPost_ret (v := .agg #[.bool (decide (x < 0)), .slice a (dg 18446744073709551616 n).length c]) (by simp [results, Tryz.results85, go_sem, q0, q1]) rfl ⟨_, _, rfl, hid ?_, g2, ?_⟩
  · have := HX.out
    simpa using this
  · exact ((Hb0.out.trans (HB.out.mono Hb0.out.size)).setCell (p := ⟨w.heap.size, 0, none⟩) (Nat.le_refl _) _).setCell (p := ⟨w.heap.size, 1, none⟩) (Nat.le_refl _) _
end Go.Proofs.YtgdgklhfakplhaaGreatDoor
