/- Walks and lemmas for the laws of this seat. -/
import Derived.Test.YtgdgklhfakplhaaGreatDoorG11
import Derived.Test.YtgdgklhfakplhaaGreatDoorG08
import Derived.Test.YtgdgklhfakplhaaGreatDoorG09
import Derived.Test.YtgdgklhfakplhaaGreatDoorG06
import Derived.Deep.RegionHeld
import Derived.Test.YtgdgklhfakplhaaGreatDoorG03
import Derived.Conc.MuLone
import Derived.KernelRfl
import Derived.WalkSpells
import Derived.Test.YtgdgklhfakplhaaGreatDoorG10
import Derived.Test.YtgdgklhfakplhaaGreatDoorG05
import Derived.Laws.Bits64b
import Derived.Laws.AppendOwnNone
import Derived.LaidEqlPtr

namespace Go.Proofs.YtgdgklhfakplhaaGreatDoor
open Go.RowKit Go.Dig
set_option maxRecDepth 100000
abbrev Sx (w : World) (x0 x1 x2 y0 y1 y2 : Value) (w' : World) : Prop :=
  w'.cell? ⟨w.heap.size, 0, none⟩ = some x0 ∧ w'.cell? ⟨w.heap.size, 1, none⟩ = some x1 ∧ w'.cell? ⟨w.heap.size, 2, none⟩ = some x2 ∧ w'.cell? ⟨w.heap.size + 1, 0, none⟩ = some y0 ∧ w'.cell? ⟨w.heap.size + 1, 1, none⟩ = some y1 ∧ w'.cell? ⟨w.heap.size + 1, 2, none⟩ = some y2 ∧ Tb w x0 x1 x2 y0 y1 y2 w'
section
variable {w ww w1 : World} {x0 x1 x2 y0 y1 y2 : Value}
theorem sx_of (h : Tb w x0 x1 x2 y0 y1 y2 ww) : Sx w x0 x1 x2 y0 y1 y2 ww := ⟨h.1.cell 0, h.1.cell 1, h.1.cell 2, h.2.1.cell 0, h.2.1.cell 1, h.2.1.cell 2, h⟩
theorem sx_below (h : Sx w x0 x1 x2 y0 y1 y2 ww) : Below w.heap.size w ww := h.2.2.2.2.2.2.2.2.2
theorem sx_next (hb : Below ww.heap.size ww w1) (h : Sx w x0 x1 x2 y0 y1 y2 ww) : Sx w x0 x1 x2 y0 y1 y2 w1 := sx_of (tb_next hb h.2.2.2.2.2.2)
theorem sx_set3 (h : Sx w x0 x1 x2 y0 y1 y2 ww) (u0 u1 u2 : Value) :
    Sx w x0 x1 x2 y0 y1 y2 (((ww.setCell ⟨w.heap.size + 1 + 1, 0, none⟩ u0).setCell ⟨w.heap.size + 1 + 1, 1, none⟩ u1).setCell ⟨w.heap.size + 1 + 1, 2, none⟩ u2) := sx_of (tb_set3 h.2.2.2.2.2.2 u0 u1 u2)
end
end Go.Proofs.YtgdgklhfakplhaaGreatDoor
namespace Go.Proofs.YtgdgklhfakplhaaGreatDoor
open Go.RowKit Go.Dig
set_option maxRecDepth 100000
theorem sgn_abs (S : Int) : sgn (decide (S < 0)) S.natAbs = S := by
  rcases Int.lt_or_le S 0 with h | h
  · rw [decide_eq_true h, sgn_true]; omega
  · rw [decide_eq_false (by omega), sgn_false]; omega
theorem sum_abs (a b : Int) : sgn (decide (a < 0)) (a.natAbs * 1) + sgn (decide (b < 0)) (b.natAbs * 1) = a + b := by
  rw [Nat.mul_one, Nat.mul_one, sgn_abs, sgn_abs]
theorem dif_abs (a b : Int) : sgn (decide (a < 0)) (a.natAbs * 1) - sgn (decide (b < 0)) (b.natAbs * 1) = a - b := by
  rw [Nat.mul_one, Nat.mul_one, sgn_abs, sgn_abs]
theorem sgn_mul (s t : Bool) (m n : Nat) : sgn (s != t) (m * n) = sgn s m * sgn t n := by
  cases s <;> cases t
  · show sgn false (m * n) = sgn false m * sgn false n
    rw [sgn_false, sgn_false, sgn_false, Int.natCast_mul]
  · show sgn true (m * n) = sgn false m * sgn true n
    rw [sgn_true, sgn_true, sgn_false, Int.natCast_mul, Int.mul_neg]
  · show sgn true (m * n) = sgn true m * sgn false n
    rw [sgn_true, sgn_true, sgn_false, Int.natCast_mul, Int.neg_mul]
  · show sgn false (m * n) = sgn true m * sgn true n
    rw [sgn_true, sgn_true, sgn_false, Int.natCast_mul, Int.neg_mul_neg]
theorem prod_abs (a b : Int) : sgn (decide (a < 0) != decide (b < 0)) (a.natAbs * b.natAbs) = a * b := by
  rw [sgn_mul, sgn_abs, sgn_abs]
theorem abs_len (S : Int) (h : S.natAbs < 65536 ^ 9) : (dg 65536 S.natAbs).length ≤ 100000 := Nat.le_trans (dg_length_le (by omega) h) (by omega)
theorem sum_bound {a b : Int} (l0 : -9223372036854775808 ≤ a) (u0 : a ≤ 9223372036854775807) (l1 : -9223372036854775808 ≤ b) (u1 : b ≤ 9223372036854775807) : (a + b).natAbs < 65536 ^ 9 := by
  have : (65536 : Nat) ^ 9 > 36893488147419103232 := by decide
  omega
theorem dif_bound {a b : Int} (l0 : -9223372036854775808 ≤ a) (u0 : a ≤ 9223372036854775807) (l1 : -9223372036854775808 ≤ b) (u1 : b ≤ 9223372036854775807) : (a - b).natAbs < 65536 ^ 9 := by
  have : (65536 : Nat) ^ 9 > 36893488147419103232 := by decide
  omega
theorem prod_bound {a b : Int} (l0 : -9223372036854775808 ≤ a) (u0 : a ≤ 9223372036854775807) (l1 : -9223372036854775808 ≤ b) (u1 : b ≤ 9223372036854775807) : (a * b).natAbs < 65536 ^ 9 := by
  rw [Int.natAbs_mul]
  calc a.natAbs * b.natAbs ≤ 9223372036854775808 * 9223372036854775808 := Nat.mul_le_mul (by omega) (by omega)
    _ < _ := by decide
end Go.Proofs.YtgdgklhfakplhaaGreatDoor
namespace Go.Proofs.YtgdgklhfakplhaaGreatDoor
open Go.RowKit Go.Dig
set_option maxRecDepth 100000
theorem sgn_add (s : Bool) (m n : Nat) : sgn s (m + n) = sgn s m + sgn s n := by cases s <;> simp [sgn] <;> omega
theorem sgn_sub_ge (s : Bool) {m n : Nat} (h : n ≤ m) : sgn s (m - n) = sgn s m + sgn (!s) n := by cases s <;> simp [sgn] <;> omega
theorem sgn_sub_lt (s : Bool) {m n : Nat} (h : m < n) : sgn (!s) (n - m) = sgn s m + sgn (!s) n := by cases s <;> simp [sgn] <;> omega
theorem sgn_neg (s : Bool) (n : Nat) : sgn (!s) n = - sgn s n := by cases s <;> simp [sgn]
theorem sgn_nil (s : Bool) {k : Nat} (h : k = 0) : sgn false k = sgn s k := by subst h; cases s <;> rfl
/-- The magnitude of z is stored; its sign is still that of 0. -/
def Zh (w : World) (bz : Nat) (v : Value) (k : Nat) (w' : World) : Prop := Blk w' bz #[.bool false, v] 124 ∧ Nw w' v k ∧ Below bz w w'
theorem zh_of {w w1 : World} {bz k : Nat} {v : Value} (hz : Blk w bz #[.bool false, .slice none 0 0] 124) (hb : Below w.heap.size w w1) (hv : Nw w1 v k) : Zh w bz v k (w1.setCell ⟨bz, 1, none⟩ v) := by
  have hB := hz.below hb hz.lt
  refine ⟨by simpa using hB.set 1 v, hv.set (p := ⟨bz, 1, none⟩) v hB.shape (by decide), ?_⟩
  exact (hb.mono (Nat.le_of_lt hz.lt)).setCell (p := ⟨bz, 1, none⟩) (Nat.le_refl _) v
theorem Zh.cells {w w' : World} {bz k : Nat} {v : Value} (h : Zh w bz v k w') : w'.cell? ⟨bz, 0, none⟩ = some (.bool false) ∧ w'.cell? ⟨bz, 1, none⟩ = some v ∧ w'.frozen? ⟨bz, 0, none⟩ = false :=
  ⟨h.1.cell 0, h.1.cell 1, h.1.frozen 0⟩
/-- How the end of Add and Sub is read. -/
def Zd (w : World) (bz : Nat) (S : Int) (e : Ending) (w' : World) : Prop := e = .returned (.pointer (some ⟨bz, 0, none⟩)) ∧ (∃ s k, sgn s k = S ∧ Iv w' bz s k) ∧ Below bz w w'
theorem Zh.done {w w' : World} {bz k : Nat} {v : Value} {S : Int} (h : Zh w bz v k w') (s : Bool) (hS : sgn s k = S) : Zd w bz S (.returned (.pointer (some ⟨bz, 0, none⟩))) (w'.setCell ⟨bz, 0, none⟩ (.bool s)) := by
  refine ⟨rfl, ⟨s, k, hS, v, by simpa using h.1.set 0 (.bool s), h.2.1.set (p := ⟨bz, 0, none⟩) _ h.1.shape (by decide)⟩, ?_⟩
  exact h.2.2.setCell (p := ⟨bz, 0, none⟩) (Nat.le_refl _) _
theorem nw_shape {w : World} {v : Value} {k : Nat} (h : Nw w v k) : ∃ a L c, v = .slice a L c ∧ Hid (L = (dg 18446744073709551616 k).length) := by
  obtain ⟨a, c, rfl⟩ := h.shape
  exact ⟨a, _, c, rfl, rfl⟩
theorem ncmp_b (vx vy : Value) (m n : Nat) (w : World) (hx : Nw w vx m) (hy : Nw w vy n) (hm1 : m < 18446744073709551616) (hn1 : n < 18446744073709551616) :
    Calls Tryz.prog 147 #[vx, vy] w fun e w' => e = .returned (.int .i64 (cmpI m n)) ∧ Below w.heap.size w w' :=
  (ncmp_small vx vy m n w hx hy hm1 hn1).mono fun _ _ ⟨h, k, hk⟩ => ⟨h, by rw [hk]; exact below_drewN' k⟩
theorem len_pos {k : Nat} (h : k ≠ 0) : 0 < (dg 18446744073709551616 k).length := by
  rcases Nat.eq_zero_or_pos (dg 18446744073709551616 k).length with h' | h'
  · exact absurd ((dg_nil_iff (b := 18446744073709551616) (by omega)).1 (List.eq_nil_of_length_eq_zero h')) h
  · exact h'

end Go.Proofs.YtgdgklhfakplhaaGreatDoor
namespace Go.Proofs.YtgdgklhfakplhaaGreatDoor
open Go.RowKit Go.Dig
set_option maxRecDepth 100000
theorem iv_same {w w' : World} {bz k : Nat} {v : Value} (h : Zh w bz v k w') : Iv (w'.setCell ⟨bz, 0, none⟩ (.bool false)) bz false k :=
  ⟨v, by simpa using h.1.set 0 (.bool false), h.2.1.set (p := ⟨bz, 0, none⟩) _ h.1.shape (by decide)⟩
set_option maxHeartbeats 400000 in
theorem setBits_any (bz : Nat) (va : Value) (ds : List Nat) (w : World) (hz : Blk w bz #[.bool false, .slice none 0 0] 124) (ha : Rt 181 .u64 w va ds) (hd : ∀ d ∈ ds, d < 18446744073709551616) :
    Calls Tryz.prog 78 #[.pointer (some ⟨bz, 0, none⟩), va] w fun e w' => e = .returned (.pointer (some ⟨bz, 0, none⟩)) ∧ Iv w' bz false (val 18446744073709551616 ds) ∧ Below bz w w' := by
  have HZ := hid hz
  have HA := hid ha
  obtain ⟨a, c, rfl⟩ := ha.shape
  have hz0 := hz.cell 0
  have hz1 := hz.cell 1
  simp only [List.getElem?_toArray, List.getElem?_cons_zero, List.getElem?_cons_succ] at hz0 hz1
  have f0 := hz.frozen 0
  have f1 := hz.frozen 1
  clear hz ha
  go_enter Tryz.func78, Tryz.ntmps78
  go_wp2_with fail
  refine (norm_any _ ds w HA.out).mono ?_
  rintro e w' ⟨v, rfl, hv, rfl⟩
  rw [trim_eq (b := 18446744073709551616) (by omega) hd] at hv
  obtain ⟨az, L, cz, rfl, HL⟩ := nw_shape hv
  have HV := hid hv
  clear hv
  go_wp2_with fail
  go_ret
  have hZ := zh_of (w1 := w') HZ.out (Below.refl _ _) HV.out
  exact ⟨rfl, iv_same hZ, hZ.2.2.setCell (p := ⟨bz, 0, none⟩) (Nat.le_refl _) _⟩
end Go.Proofs.YtgdgklhfakplhaaGreatDoor
namespace Go.Proofs.YtgdgklhfakplhaaGreatDoor
open Go.RowKit Go.MuLone
set_option maxRecDepth 100000
abbrev muLink : Go.Conc.Locks.MuLink := { lock := 125, unlock := 126, ilock := 153, iunlock := 154, lockSlow := 184, unlockSlow := 187, disable := 180, enable := 182, acquire := 183, relMerge := 185, cas32 := 181, add32 := 186, tMutex := 144, tIMutex := 142, tPMutex := 213, tPIMutex := 239, tPI32 := 241, tUP := 243, tNoCopy := 140, tU32 := 38 }
theorem muLib : Go.Conc.Locks.MuLib Tryz.prog muLink :=
  ⟨Tryz.func125, Tryz.func126, Tryz.func153, Tryz.func154, Tryz.func180, Tryz.func182, Tryz.func183, Tryz.func185, Tryz.func181, Tryz.func186, Tryz.underlying142, Tryz.runUnderlying142, Tryz.sizeOf142, Tryz.isAgg142, Tryz.zeroValue142, Tryz.underlying144, Tryz.runUnderlying144, Tryz.sizeOf144, Tryz.isAgg144, Tryz.zeroValue144, Tryz.underlying213, Tryz.runUnderlying213, Tryz.sizeOf213, Tryz.isAgg213, Tryz.zeroValue213, Tryz.underlying239, Tryz.runUnderlying239, Tryz.sizeOf239, Tryz.isAgg239, Tryz.zeroValue239, Tryz.underlying241, Tryz.runUnderlying241, Tryz.sizeOf241, Tryz.isAgg241, Tryz.zeroValue241, Tryz.underlying243, Tryz.runUnderlying243, Tryz.sizeOf243, Tryz.isAgg243, Tryz.zeroValue243, Tryz.underlying140, Tryz.runUnderlying140, Tryz.sizeOf140, Tryz.isAgg140, Tryz.zeroValue140, Tryz.underlying21, Tryz.runUnderlying21, Tryz.sizeOf21, Tryz.isAgg21, Tryz.zeroValue21, (by kernel_rfl)⟩
end Go.Proofs.YtgdgklhfakplhaaGreatDoor
namespace Go.Proofs.YtgdgklhfakplhaaGreatDoor
open Go.RowKit Go.MuLone
set_option maxRecDepth 100000
theorem world_heap {w w' : World} (h : w'.heap = w.heap) (h1 : w'.tape = w.tape) (h2 : w'.drawn = w.drawn) (h3 : w'.os = w.os) (h4 : w'.output = w.output) : w' = w := by
  cases w; cases w'; simp_all
/-- A cell is turned and turned back. -/
theorem setCell_back {w : World} {b : Nat} {c : Array Value} {e : TypeId} (h : Blk w b c e) (i : Nat) (u v : Value) (hi : c[i]? = some v) : (w.setCell ⟨b, i, none⟩ u).setCell ⟨b, i, none⟩ v = w := by
  refine world_heap ?_ rfl rfl rfl rfl
  apply Array.ext_getElem?
  intro k
  by_cases hk : k = b
  · subst hk
    have h2 := (h.set i u).set i v
    unfold Blk at h2 h
    rw [h2, h]
    congr 2
    apply Array.ext_getElem?
    intro j
    simp only [Array.getElem?_setIfInBounds, Array.size_setIfInBounds]
    by_cases hj : i = j
    · subst hj
      obtain ⟨hlt, hv⟩ := Array.getElem?_eq_some_iff.1 hi
      simp [hlt, hv]
    · simp [hj]
  · rw [heap_setCell_other _ _ _ _ hk, heap_setCell_other _ _ _ _ hk]
/-- A text of the package constant that stands by itself. -/
abbrev Sv (w : World) (b : Nat) (s : ByteArray) : Prop := Blk w b #[.int .i32 0, .int .u32 0, .string s, .pointer none, .pointer none] 146
set_option maxHeartbeats 400000 in
theorem string_one (b : Nat) (s : ByteArray) (w : World) (h : Sv w b s) : Calls Tryz.prog 83 #[.pointer (some ⟨b, 0, none⟩)] w fun e w' => e = .returned (.string s) ∧ w' = w := by
  have hB1 := h.set 0 (.int .i32 1)
  simp only [List.setIfInBounds_toArray, List.set_cons_zero] at hB1
  have HE : Hid ((w.setCell ⟨b, 0, none⟩ (.int .i32 1)).setCell ⟨b, 0, none⟩ (.int .i32 0) = w) := setCell_back h 0 _ _ rfl
  go_enter_defers Tryz.func83, Tryz.ntmps83
  go_wp2_with fail
  refine (lock_free muLib ⟨b, 0, none⟩ _ (h.cell 0) (h.frozen 0)).mono ?_
  rintro e w1 ⟨rfl, rfl⟩
  clear h
  generalize w.setCell ⟨b, 0, none⟩ (.int .i32 1) = w1 at *
  have h0 := hB1.cell 0
  have h2 := hB1.cell 2
  have h3 := hB1.cell 3
  simp only [List.getElem?_toArray, List.getElem?_cons_zero, List.getElem?_cons_succ] at h0 h2 h3
  have f0 := hB1.frozen 0
  clear hB1
  go_wp2_with fail
  refine leaves_cons (f := 126) (args := #[.pointer (some ⟨b, 0, none⟩)]) (by simp) (by simp [go_sem]) ?_
  refine (unlock_deferred muLib ⟨b, 0, none⟩ .returning _ h0 f0).mono ?_
  rintro e u' w2 ⟨rfl, rfl, rfl⟩
  exact ⟨_, results_tmp rfl _ _ _, rfl, HE.out⟩
end Go.Proofs.YtgdgklhfakplhaaGreatDoor

namespace Go.Proofs.YtgdgklhfakplhaaGreatDoor
open Go.RowKit Go.MuLone
set_option maxRecDepth 100000
theorem empty_of {s : ByteArray} (h : s.toList.isEmpty = true) : s = ByteArray.mk #[] := by
  rw [ByteArray.toList_eq, List.isEmpty_iff] at h
  exact ByteArray.ext (Array.toList_inj.1 h)
set_option maxHeartbeats 400000 in
theorem stringVal_one (b : Nat) (s : ByteArray) (w : World) (h : Sv w b s) : Calls Tryz.prog 41 #[.iface 139 (.pointer (some ⟨b, 0, none⟩))] w fun e w' => e = .returned (.string s) ∧ w = w' := by
  have h1 := ta_180_180
  go_enter Tryz.func41, Tryz.ntmps41
  go_wp2_with fail
  refine (string_one b s w h).mono ?_
  rintro e w1 ⟨rfl, rfl⟩
  go_wp2_with fail
  go_ret
  exact ⟨rfl, rfl⟩
set_option maxHeartbeats 400000 in
theorem kind_str (v : Value) (w : World) : Calls Tryz.prog 290 #[v] w fun e w' => e = .returned (.int .i64 2) ∧ w = w' := by
  go_enter Tryz.func290, Tryz.ntmps290
  go_wp2_with fail
  go_ret
  exact ⟨rfl, rfl⟩
end Go.Proofs.YtgdgklhfakplhaaGreatDoor
namespace Go.Proofs.YtgdgklhfakplhaaGreatDoor
open Go.RowKit Go.MuLone
set_option maxRecDepth 100000
set_option maxHeartbeats 400000 in
theorem told_str (b : Nat) (s : ByteArray) (w : World) (h : Sv w b s) : Calls Tryz.prog 21 #[.iface 139 (.pointer (some ⟨b, 0, none⟩))] w fun e w' => e = .returned (.agg #[.int .i64 2, .bool false, .string s, .bool false, .slice none 0 0, .slice none 0 0, .bool false, .slice none 0 0, .slice none 0 0]) ∧ Below w.heap.size w w' := by
  have H := hid h
  clear h
  go_enter Tryz.func21, Tryz.ntmps21
  go_wp2_with (first | (go_at_call 290; refine (kind_str _ _).mono ?_; rintro e w' ⟨rfl, rfl⟩))
  refine (stringVal_one b s _ ((H.out.alloc _).alloc _)).mono ?_
  rintro e w1 ⟨rfl, rfl⟩
  go_wp2_with fail
  refine bodyPost_ret (v := .agg #[.int .i64 2, .bool false, .string s, .bool false, .slice none 0 0, .slice none 0 0, .bool false, .slice none 0 0, .slice none 0 0]) (by simp [results, Tryz.results21, go_sem]) rfl ⟨rfl, ?_⟩
  exact ((Below.refl _ _).alloc (Nat.le_refl _) _).alloc (by simp) _
set_option maxHeartbeats 400000 in
theorem kind_bool (v : Value) (w : World) : Calls Tryz.prog 286 #[v] w fun e w' => e = .returned (.int .i64 1) ∧ w = w' := by
  go_enter Tryz.func286, Tryz.ntmps286
  go_wp2_with fail
  go_ret
  exact ⟨rfl, rfl⟩
set_option maxHeartbeats 400000 in
theorem told_bool (t : Bool) (w : World) : Calls Tryz.prog 21 #[.iface 138 (.bool t)] w fun e w' => e = .returned (.agg #[.int .i64 1, .bool t, .string (ByteArray.mk #[]), .bool false, .slice none 0 0, .slice none 0 0, .bool false, .slice none 0 0, .slice none 0 0]) ∧ Below w.heap.size w w' := by
  have h1 := ta_165_165
  go_enter Tryz.func21, Tryz.ntmps21
  go_wp2_with (first | (go_at_call 286; refine (kind_bool _ _).mono ?_; rintro e w' ⟨rfl, rfl⟩))
  refine (boolVal t _).mono ?_
  rintro e w1 ⟨rfl, rfl⟩
  go_wp2_with fail
  refine bodyPost_ret (v := .agg #[.int .i64 1, .bool t, .string (ByteArray.mk #[]), .bool false, .slice none 0 0, .slice none 0 0, .bool false, .slice none 0 0, .slice none 0 0]) (by simp [results, Tryz.results21, go_sem]) rfl ⟨rfl, ?_⟩
  exact ((Below.refl _ _).alloc (Nat.le_refl _) _).alloc (by simp) _
end Go.Proofs.YtgdgklhfakplhaaGreatDoor

namespace Go.Proofs.YtgdgklhfakplhaaGreatDoor
open Go.RowKit
set_option maxRecDepth 100000
end Go.Proofs.YtgdgklhfakplhaaGreatDoor

namespace Go.Proofs.YtgdgklhfakplhaaGreatDoor
open Go.RowKit
set_option maxRecDepth 100000
end Go.Proofs.YtgdgklhfakplhaaGreatDoor

namespace Go.Proofs.YtgdgklhfakplhaaGreatDoor
open Go.RowKit
set_option maxRecDepth 100000
theorem below_over {w w1 : World} {o : Obj} (h : Below (w.alloc o).heap.size (w.alloc o) w1) : Below w.heap.size w w1 :=
  ((Below.refl w.heap.size w).alloc (Nat.le_refl _) o).trans (h.mono (by rw [World.alloc]; simp))
end Go.Proofs.YtgdgklhfakplhaaGreatDoor

namespace Go.Proofs.YtgdgklhfakplhaaGreatDoor
open Go.RowKit Go.MuLone
set_option maxRecDepth 100000
theorem Blk.nine {w : World} {b : Nat} {x0 x1 x2 x3 x4 x5 x6 x7 x8 : Value} {e : TypeId} (h : Blk w b #[x0, x1, x2, x3, x4, x5, x6, x7, x8] e) :
    w.cell? ⟨b, 0, none⟩ = some x0 ∧ w.cell? ⟨b, 1, none⟩ = some x1 ∧ w.cell? ⟨b, 2, none⟩ = some x2 ∧ w.cell? ⟨b, 3, none⟩ = some x3 ∧ w.cell? ⟨b, 4, none⟩ = some x4 ∧ w.cell? ⟨b, 5, none⟩ = some x5 ∧ w.cell? ⟨b, 6, none⟩ = some x6 ∧ w.cell? ⟨b, 7, none⟩ = some x7 ∧ w.cell? ⟨b, 8, none⟩ = some x8 ∧ w.frozen? ⟨b, 0, none⟩ = false ∧ w.frozen? ⟨b, 1, none⟩ = false ∧ w.frozen? ⟨b, 2, none⟩ = false ∧ w.frozen? ⟨b, 3, none⟩ = false ∧ w.frozen? ⟨b, 4, none⟩ = false ∧ w.frozen? ⟨b, 5, none⟩ = false ∧ w.frozen? ⟨b, 6, none⟩ = false ∧ w.frozen? ⟨b, 7, none⟩ = false ∧ w.frozen? ⟨b, 8, none⟩ = false :=
  ⟨h.cell 0, h.cell 1, h.cell 2, h.cell 3, h.cell 4, h.cell 5, h.cell 6, h.cell 7, h.cell 8, h.frozen 0, h.frozen 1, h.frozen 2, h.frozen 3, h.frozen 4, h.frozen 5, h.frozen 6, h.frozen 7, h.frozen 8⟩
theorem below_set9 {B : Nat} {w w1 : World} (h : Below B w w1) {b : Nat} (hB : B ≤ b) (x0 x1 x2 x3 x4 x5 x6 x7 x8 : Value) :
    Below B w (((((((((w1.setCell ⟨b, 0, none⟩ x0).setCell ⟨b, 1, none⟩ x1).setCell ⟨b, 2, none⟩ x2).setCell ⟨b, 3, none⟩ x3).setCell ⟨b, 4, none⟩ x4).setCell ⟨b, 5, none⟩ x5).setCell ⟨b, 6, none⟩ x6).setCell ⟨b, 7, none⟩ x7).setCell ⟨b, 8, none⟩ x8) :=
  ((((((((h.setCell (p := ⟨b, 0, none⟩) hB x0).setCell (p := ⟨b, 1, none⟩) hB x1).setCell (p := ⟨b, 2, none⟩) hB x2).setCell (p := ⟨b, 3, none⟩) hB x3).setCell (p := ⟨b, 4, none⟩) hB x4).setCell (p := ⟨b, 5, none⟩) hB x5).setCell (p := ⟨b, 6, none⟩) hB x6).setCell (p := ⟨b, 7, none⟩) hB x7).setCell (p := ⟨b, 8, none⟩) hB x8
/-- A value told, as it lies in a variable. -/
abbrev zeroV : Array Value := #[.int .i64 0, .bool false, .string (ByteArray.mk #[]), .bool false, .slice none 0 0, .slice none 0 0, .bool false, .slice none 0 0, .slice none 0 0]
end Go.Proofs.YtgdgklhfakplhaaGreatDoor

namespace Go.Proofs.YtgdgklhfakplhaaGreatDoor
open Go.RowKit
set_option maxRecDepth 100000
theorem f64bits_any (b : Nat) (w : World) : (callFunc 18 #[.float .f64 b]).run Tryz.prog w = .ok (.value (.int .u64 b)) w := by
  rw [run_callFunc_extern Tryz.func18 (by kernel_rfl) (by kernel_rfl) (by kernel_rfl) (e := Go.Extern.MathFloatBits.float64bits) (by kernel_rfl)]
  rfl
theorem f32bits_any (b : Nat) (w : World) : (callFunc 20 #[.float .f32 b]).run Tryz.prog w = .ok (.value (.int .u32 b)) w := by
  rw [run_callFunc_extern Tryz.func20 (by kernel_rfl) (by kernel_rfl) (by kernel_rfl) (e := Go.Extern.MathFloatBits.float32bits) (by kernel_rfl)]
  rfl
/-- No value: the zero of the plain values. -/
abbrev noneV : Value := .agg #[.int .i64 0, .bool false, .string (ByteArray.mk #[]), .bool false, .slice none 0 0, .slice none 0 0, .bool false, .slice none 0 0, .slice none 0 0]
/-- The unknown value. -/
abbrev unkV : Value := .iface 88 (.agg #[])
set_option maxHeartbeats 400000 in
theorem mkUnknown (w : World) : Calls Tryz.prog 35 #[] w fun e w' => e = .returned unkV ∧ w = w' := by
  go_enter Tryz.func35, Tryz.ntmps35
  go_wp2_with fail
  go_ret
  exact ⟨rfl, rfl⟩
set_option maxHeartbeats 400000 in
theorem float64Val_unk (w : World) : Calls Tryz.prog 16 #[unkV] w fun e w' => e = .returned (.tuple #[.float .f64 0, .bool false]) ∧ Below w.heap.size w w' := by
  have h1 := ta_137_119
  have h2 := ta_137_122
  have h3 := ta_137_132
  have h4 := ta_137_135
  have h5 := ta_137_137
  go_enter Tryz.func16, Tryz.ntmps16
  go_wp2_with fail
  go_ret2
  exact ⟨rfl, (Below.refl _ _).alloc (Nat.le_refl _) _⟩
set_option maxHeartbeats 400000 in
theorem float32Val_unk (w : World) : Calls Tryz.prog 19 #[unkV] w fun e w' => e = .returned (.tuple #[.float .f32 0, .bool false]) ∧ Below w.heap.size w w' := by
  have h1 := ta_137_119
  have h2 := ta_137_122
  have h3 := ta_137_132
  have h4 := ta_137_135
  have h5 := ta_137_137
  go_enter Tryz.func19, Tryz.ntmps19
  go_wp2_with fail
  go_ret2
  exact ⟨rfl, (Below.refl _ _).alloc (Nat.le_refl _) _⟩
end Go.Proofs.YtgdgklhfakplhaaGreatDoor
namespace Go.Proofs.YtgdgklhfakplhaaGreatDoor
open Go.RowKit Go.Dig
set_option maxRecDepth 100000
theorem cs_set_list (k : IntKind) (ds : List Nat) (i d : Nat) : (cs k ds).set i (.int k (d : Int)) = cs k (ds.set i d) := by simp [cs]
/-- A cell of a row of the call's own, and the row behind a store into it. -/
theorem own_at {w : World} {base e : Nat} {k : IntKind} {v : Value} {ds : List Nat} (h : w.ownsRow base e 1 v ds.length (cs k ds)) {i : Nat} (hi : i < ds.length) :
    ∃ g cap, v = .slice (some ⟨g, 0, none⟩) ds.length cap ∧ base ≤ g ∧ w.cell? ⟨g, i, none⟩ = some (.int k (ds.getD i 0 : Nat)) ∧ w.frozen? ⟨g, i, none⟩ = false ∧
      ∀ d : Nat, (w.setCell ⟨g, i, none⟩ (.int k (d : Int))).ownsRow base e 1 v (ds.set i d).length (cs k (ds.set i d)) := by
  obtain ⟨hl, h⟩ := h
  rcases h with ⟨rfl, h0⟩ | ⟨g, cap, cur, rfl, hg, hh, hnc, hcm, hcs, htk⟩
  · omega
  · have hB : Blk w g cur e := hh
    rw [Nat.mul_one] at htk hcs
    have hc : cur[i]? = some (.int k (ds.getD i 0 : Nat)) := by
      have e2 : cur[i]? = (cs k ds)[i]? := by
        rw [← htk, List.getElem?_take_of_lt hi]; simp
      rw [e2]
      simp [cs, List.getElem?_eq_getElem hi]
    refine ⟨g, cap, rfl, hg, (hB.cell i).trans hc, hB.frozen i, fun d => ⟨by rw [cs_length, Nat.mul_one], .inr ⟨g, cap, cur.setIfInBounds i (.int k (d : Int)), by rw [List.length_set], hg, hB.set i _, by rw [List.length_set]; exact hnc, hcm, by rw [Array.size_setIfInBounds]; omega, ?_⟩⟩⟩
    rw [Nat.mul_one, List.length_set, ← cs_set_list, ← htk, Array.toList_setIfInBounds, List.take_set]
/-- A word gets its next digit. -/
theorem or_digit {old d r : Nat} (h : old < 65536 ^ r) (hd : d < 65536) (hr : r ≤ 3) : bits .or .u64 (old : Int) (IntKind.u64.wrap ((d : Int) * 65536 ^ r)) = ((old + d * 65536 ^ r : Nat) : Int) := by
  have e0 : (65536 : Nat) ^ r = 2 ^ (16 * r) := by rw [Nat.pow_mul]
  have h1 : (65536 : Nat) ^ r ≤ 65536 ^ 3 := Nat.pow_le_pow_right (by omega) hr
  have h2 : d * 65536 ^ r ≤ 65535 * 65536 ^ 3 := Nat.mul_le_mul (by omega) h1
  have e : IntKind.u64.wrap ((d : Int) * 65536 ^ r) = ((d * 65536 ^ r : Nat) : Int) := by
    rw [IntKind.wrap_u64, show ((d : Int) * 65536 ^ r) = ((d * 65536 ^ r : Nat) : Int) by simp]
    omega
  rw [e, bits_or_u64_nat old (d * 65536 ^ r) (by omega) (by omega)]
  congr 1
  rw [e0] at h ⊢
  rw [← Nat.shiftLeft_eq, Nat.or_comm, ← Nat.shiftLeft_add_eq_or_of_lt h, Nat.add_comm]
theorem neq_ptr_same {P : Program} (w : World) {tp te : TypeId} {j : TypeInfo} (a : Addr) (hp : P.underlying tp = some (.pointer te)) (hte : P.info? te = some j) :
    (binOp .neq tp (.pointer (some a)) (.pointer (some a))).run P w = .ok (.bool false) w := by
  have h : ∀ d : Nat, (Op.equalIn (d + 1) tp (.pointer (some a)) (.pointer (some a))).run P w = .ok true w := fun d => by
    simp [Op.equalIn, run_underlying hp, sizeOf, typeInfo, hte, run_sameAddr_same]
  simp only [binOp]
  simp [Op.equal, Op.maxDepth, h 9999]
theorem neq_ptr_other {P : Program} (w : World) {tp te : TypeId} {j : TypeInfo} {a b : Addr} {ca cb : Array Value} {ta tb : TypeId} (hp : P.underlying tp = some (.pointer te)) (hte : P.info? te = some j) (hsz : j.size ≠ 0)
    (hne : a ≠ b) (ha : w.heap[a.block]? = some (.cells ca ta (0, 0))) (hb : w.heap[b.block]? = some (.cells cb tb (0, 0))) :
    (binOp .neq tp (.pointer (some a)) (.pointer (some b))).run P w = .ok (.bool true) w := by
  have h : ∀ d : Nat, (Op.equalIn (d + 1) tp (.pointer (some a)) (.pointer (some b))).run P w = .ok false w := fun d => by
    simp [Op.equalIn, run_underlying hp, sizeOf, typeInfo, hte, hsz, run_sameAddr_other w hne ha hb]
  simp only [binOp]
  simp [Op.equal, Op.maxDepth, h 9999]
end Go.Proofs.YtgdgklhfakplhaaGreatDoor
