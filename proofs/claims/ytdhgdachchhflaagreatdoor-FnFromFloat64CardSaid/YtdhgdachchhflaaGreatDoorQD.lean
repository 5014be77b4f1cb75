/- Type assertions, plain numbers, signs, bits. -/
import Derived.Test.YtdhgdachchhflaaGreatDoorQA
import Derived.Conc.MuLone
import Derived.KernelRfl
import Derived.WalkSpells
import Derived.Test.YtdhgdachchhflaaGreatDoorQC
import Derived.Test.YtdhgdachchhflaaGreatDoorQB
import Derived.Laws.Bits64b
import Derived.Laws.AppendOwnNone
import Derived.LaidEqlPtr
namespace Go.Proofs.YtdhgdachchhflaaGreatDoor
open Go.RowKit Go.MuLone
set_option maxRecDepth 100000
abbrev muLink : Go.Conc.Locks.MuLink := { lock := 61, unlock := 62, ilock := 88, iunlock := 89, lockSlow := 117, unlockSlow := 120, disable := 113, enable := 115, acquire := 116, relMerge := 118, cas32 := 114, add32 := 119, tMutex := 128, tIMutex := 126, tPMutex := 154, tPIMutex := 181, tPI32 := 183, tUP := 185, tNoCopy := 124, tU32 := 108 }
theorem muLib : Go.Conc.Locks.MuLib Tryz.prog muLink :=
  ⟨Tryz.func61, Tryz.func62, Tryz.func88, Tryz.func89, Tryz.func113, Tryz.func115, Tryz.func116, Tryz.func118, Tryz.func114, Tryz.func119, Tryz.underlying126, Tryz.runUnderlying126, Tryz.sizeOf126, Tryz.isAgg126, Tryz.zeroValue126, Tryz.underlying128, Tryz.runUnderlying128, Tryz.sizeOf128, Tryz.isAgg128, Tryz.zeroValue128, Tryz.underlying154, Tryz.runUnderlying154, Tryz.sizeOf154, Tryz.isAgg154, Tryz.zeroValue154, Tryz.underlying181, Tryz.runUnderlying181, Tryz.sizeOf181, Tryz.isAgg181, Tryz.zeroValue181, Tryz.underlying183, Tryz.runUnderlying183, Tryz.sizeOf183, Tryz.isAgg183, Tryz.zeroValue183, Tryz.underlying185, Tryz.runUnderlying185, Tryz.sizeOf185, Tryz.isAgg185, Tryz.zeroValue185, Tryz.underlying124, Tryz.runUnderlying124, Tryz.sizeOf124, Tryz.isAgg124, Tryz.zeroValue124, Tryz.underlying21, Tryz.runUnderlying21, Tryz.sizeOf21, Tryz.isAgg21, Tryz.zeroValue21, (by kernel_rfl)⟩
end Go.Proofs.YtdhgdachchhflaaGreatDoor
namespace Go.Proofs.YtdhgdachchhflaaGreatDoor
open Go.RowKit Go.MuLone
set_option maxRecDepth 100000
theorem world_heap {w w' : World} (h : w'.heap = w.heap) (h1 : w'.tape = w.tape) (h2 : w'.drawn = w.drawn) (h3 : w'.os = w.os) (h4 : w'.output = w.output) : w' = w := by
  cases w; cases w'; simp_all
/-- A cell is turned and turned back. -/
theorem setCell_back {w : World} {b : Nat} {c : Array Value} {e : TypeId} (h : Blk w b c e) (i : Nat) (u v : Value) (hi : c[i]? = some v) : (w.setCell ⟨b, i, none⟩ u).setCell ⟨b, i, none⟩ v = w := by
  refine world_heap ?_ rfl rfl rfl rfl
  apply Array.ext_getElem?
  intro k
  by_cases hk : k = b
  · subst hk
    have h2 := (h.set i u).set i v
    unfold Blk at h2 h
    rw [h2, h]
    congr 2
    apply Array.ext_getElem?
    intro j
    simp only [Array.getElem?_setIfInBounds, Array.size_setIfInBounds]
    by_cases hj : i = j
    · subst hj
      obtain ⟨hlt, hv⟩ := Array.getElem?_eq_some_iff.1 hi
      simp [hlt, hv]
    · simp [hj]
  · rw [heap_setCell_other _ _ _ _ hk, heap_setCell_other _ _ _ _ hk]
/-- A text of the package constant that stands by itself. -/
abbrev Sv (w : World) (b : Nat) (s : ByteArray) : Prop := Blk w b #[.int .i32 0, .int .u32 0, .string s, .pointer none, .pointer none] 130
set_option maxHeartbeats 400000 in
theorem string_one (b : Nat) (s : ByteArray) (w : World) (h : Sv w b s) : Calls Tryz.prog 34 #[.pointer (some ⟨b, 0, none⟩)] w fun e w' => e = .returned (.string s) ∧ w' = w := by
  have hB1 := h.set 0 (.int .i32 1)
  simp only [List.setIfInBounds_toArray, List.set_cons_zero] at hB1
  have HE : Hid ((w.setCell ⟨b, 0, none⟩ (.int .i32 1)).setCell ⟨b, 0, none⟩ (.int .i32 0) = w) := setCell_back h 0 _ _ rfl
  go_enter_defers Tryz.func34, Tryz.ntmps34
  go_wp2_with fail
  refine (lock_free muLib ⟨b, 0, none⟩ _ (h.cell 0) (h.frozen 0)).mono ?_
  rintro e w1 ⟨rfl, rfl⟩
  clear h
  generalize w.setCell ⟨b, 0, none⟩ (.int .i32 1) = w1 at *
  have h0 := hB1.cell 0
  have h2 := hB1.cell 2
  have h3 := hB1.cell 3
  simp only [List.getElem?_toArray, List.getElem?_cons_zero, List.getElem?_cons_succ] at h0 h2 h3
  have f0 := hB1.frozen 0
  clear hB1
  go_wp2_with fail
  refine leaves_cons (f := 62) (args := #[.pointer (some ⟨b, 0, none⟩)]) (by simp) (by simp [go_sem]) ?_
  refine (unlock_deferred muLib ⟨b, 0, none⟩ .returning _ h0 f0).mono ?_
  rintro e u' w2 ⟨rfl, rfl, rfl⟩
  exact ⟨_, results_tmp rfl _ _ _, rfl, HE.out⟩
end Go.Proofs.YtdhgdachchhflaaGreatDoor

namespace Go.Proofs.YtdhgdachchhflaaGreatDoor
open Go.RowKit Go.MuLone
set_option maxRecDepth 100000
theorem empty_of {s : ByteArray} (h : s.toList.isEmpty = true) : s = ByteArray.mk #[] := by
  rw [ByteArray.toList_eq, List.isEmpty_iff] at h
  exact ByteArray.ext (Array.toList_inj.1 h)
set_option maxHeartbeats 400000 in
theorem stringVal_one (b : Nat) (s : ByteArray) (w : World) (h : Sv w b s) : Calls Tryz.prog 17 #[.iface 78 (.pointer (some ⟨b, 0, none⟩))] w fun e w' => e = .returned (.string s) ∧ w = w' := by
  have h1 := ta_180_180
  go_enter Tryz.func17, Tryz.ntmps17
  go_wp2_with fail
  refine (string_one b s w h).mono ?_
  rintro e w1 ⟨rfl, rfl⟩
  go_wp2_with fail
  go_ret
  exact ⟨rfl, rfl⟩
set_option maxHeartbeats 400000 in
theorem kind_str (v : Value) (w : World) : Calls Tryz.prog 225 #[v] w fun e w' => e = .returned (.int .i64 2) ∧ w = w' := by
  go_enter Tryz.func225, Tryz.ntmps225
  go_wp2_with fail
  go_ret
  exact ⟨rfl, rfl⟩
end Go.Proofs.YtdhgdachchhflaaGreatDoor
namespace Go.Proofs.YtdhgdachchhflaaGreatDoor
open Go.RowKit Go.MuLone
set_option maxRecDepth 100000
set_option maxHeartbeats 400000 in
theorem told_str (b : Nat) (s : ByteArray) (w : World) (h : Sv w b s) : Calls Tryz.prog 7 #[.iface 78 (.pointer (some ⟨b, 0, none⟩))] w fun e w' => e = .returned (.agg #[.int .i64 2, .bool false, .string s, .bool false, .slice none 0 0, .slice none 0 0, .bool false, .slice none 0 0, .slice none 0 0]) ∧ Below w.heap.size w w' := by
  have H := hid h
  clear h
  go_enter Tryz.func7, Tryz.ntmps7
  go_wp2_with (first | (go_at_call 225; refine (kind_str _ _).mono ?_; rintro e w' ⟨rfl, rfl⟩))
  refine (stringVal_one b s _ ((H.out.alloc _).alloc _)).mono ?_
  rintro e w1 ⟨rfl, rfl⟩
  go_wp2_with fail
  refine bodyPost_ret (v := .agg #[.int .i64 2, .bool false, .string s, .bool false, .slice none 0 0, .slice none 0 0, .bool false, .slice none 0 0, .slice none 0 0]) (by simp [results, Tryz.results7, go_sem]) rfl ⟨rfl, ?_⟩
  exact ((Below.refl _ _).alloc (Nat.le_refl _) _).alloc (by simp) _
set_option maxHeartbeats 400000 in
theorem kind_bool (v : Value) (w : World) : Calls Tryz.prog 221 #[v] w fun e w' => e = .returned (.int .i64 1) ∧ w = w' := by
  go_enter Tryz.func221, Tryz.ntmps221
  go_wp2_with fail
  go_ret
  exact ⟨rfl, rfl⟩
set_option maxHeartbeats 400000 in
theorem told_bool (t : Bool) (w : World) : Calls Tryz.prog 7 #[.iface 77 (.bool t)] w fun e w' => e = .returned (.agg #[.int .i64 1, .bool t, .string (ByteArray.mk #[]), .bool false, .slice none 0 0, .slice none 0 0, .bool false, .slice none 0 0, .slice none 0 0]) ∧ Below w.heap.size w w' := by
  have h1 := ta_165_165
  go_enter Tryz.func7, Tryz.ntmps7
  go_wp2_with (first | (go_at_call 221; refine (kind_bool _ _).mono ?_; rintro e w' ⟨rfl, rfl⟩))
  refine (boolVal t _).mono ?_
  rintro e w1 ⟨rfl, rfl⟩
  go_wp2_with fail
  refine bodyPost_ret (v := .agg #[.int .i64 1, .bool t, .string (ByteArray.mk #[]), .bool false, .slice none 0 0, .slice none 0 0, .bool false, .slice none 0 0, .slice none 0 0]) (by simp [results, Tryz.results7, go_sem]) rfl ⟨rfl, ?_⟩
  exact ((Below.refl _ _).alloc (Nat.le_refl _) _).alloc (by simp) _
end Go.Proofs.YtdhgdachchhflaaGreatDoor

namespace Go.Proofs.YtdhgdachchhflaaGreatDoor
open Go.RowKit
set_option maxRecDepth 100000
end Go.Proofs.YtdhgdachchhflaaGreatDoor

namespace Go.Proofs.YtdhgdachchhflaaGreatDoor
open Go.RowKit
set_option maxRecDepth 100000
end Go.Proofs.YtdhgdachchhflaaGreatDoor

namespace Go.Proofs.YtdhgdachchhflaaGreatDoor
open Go.RowKit
set_option maxRecDepth 100000
theorem below_over {w w1 : World} {o : Obj} (h : Below (w.alloc o).heap.size (w.alloc o) w1) : Below w.heap.size w w1 :=
  ((Below.refl w.heap.size w).alloc (Nat.le_refl _) o).trans (h.mono (by rw [World.alloc]; simp))
end Go.Proofs.YtdhgdachchhflaaGreatDoor

namespace Go.Proofs.YtdhgdachchhflaaGreatDoor
open Go.RowKit Go.MuLone
set_option maxRecDepth 100000
theorem Blk.nine {w : World} {b : Nat} {x0 x1 x2 x3 x4 x5 x6 x7 x8 : Value} {e : TypeId} (h : Blk w b #[x0, x1, x2, x3, x4, x5, x6, x7, x8] e) :
    w.cell? ⟨b, 0, none⟩ = some x0 ∧ w.cell? ⟨b, 1, none⟩ = some x1 ∧ w.cell? ⟨b, 2, none⟩ = some x2 ∧ w.cell? ⟨b, 3, none⟩ = some x3 ∧ w.cell? ⟨b, 4, none⟩ = some x4 ∧ w.cell? ⟨b, 5, none⟩ = some x5 ∧ w.cell? ⟨b, 6, none⟩ = some x6 ∧ w.cell? ⟨b, 7, none⟩ = some x7 ∧ w.cell? ⟨b, 8, none⟩ = some x8 ∧ w.frozen? ⟨b, 0, none⟩ = false ∧ w.frozen? ⟨b, 1, none⟩ = false ∧ w.frozen? ⟨b, 2, none⟩ = false ∧ w.frozen? ⟨b, 3, none⟩ = false ∧ w.frozen? ⟨b, 4, none⟩ = false ∧ w.frozen? ⟨b, 5, none⟩ = false ∧ w.frozen? ⟨b, 6, none⟩ = false ∧ w.frozen? ⟨b, 7, none⟩ = false ∧ w.frozen? ⟨b, 8, none⟩ = false :=
  ⟨h.cell 0, h.cell 1, h.cell 2, h.cell 3, h.cell 4, h.cell 5, h.cell 6, h.cell 7, h.cell 8, h.frozen 0, h.frozen 1, h.frozen 2, h.frozen 3, h.frozen 4, h.frozen 5, h.frozen 6, h.frozen 7, h.frozen 8⟩
theorem below_set9 {B : Nat} {w w1 : World} (h : Below B w w1) {b : Nat} (hB : B ≤ b) (x0 x1 x2 x3 x4 x5 x6 x7 x8 : Value) :
    Below B w (((((((((w1.setCell ⟨b, 0, none⟩ x0).setCell ⟨b, 1, none⟩ x1).setCell ⟨b, 2, none⟩ x2).setCell ⟨b, 3, none⟩ x3).setCell ⟨b, 4, none⟩ x4).setCell ⟨b, 5, none⟩ x5).setCell ⟨b, 6, none⟩ x6).setCell ⟨b, 7, none⟩ x7).setCell ⟨b, 8, none⟩ x8) :=
  ((((((((h.setCell (p := ⟨b, 0, none⟩) hB x0).setCell (p := ⟨b, 1, none⟩) hB x1).setCell (p := ⟨b, 2, none⟩) hB x2).setCell (p := ⟨b, 3, none⟩) hB x3).setCell (p := ⟨b, 4, none⟩) hB x4).setCell (p := ⟨b, 5, none⟩) hB x5).setCell (p := ⟨b, 6, none⟩) hB x6).setCell (p := ⟨b, 7, none⟩) hB x7).setCell (p := ⟨b, 8, none⟩) hB x8
/-- A value told, as it lies in a variable. -/
abbrev zeroV : Array Value := #[.int .i64 0, .bool false, .string (ByteArray.mk #[]), .bool false, .slice none 0 0, .slice none 0 0, .bool false, .slice none 0 0, .slice none 0 0]
end Go.Proofs.YtdhgdachchhflaaGreatDoor

namespace Go.Proofs.YtdhgdachchhflaaGreatDoor
open Go.RowKit
set_option maxRecDepth 100000
theorem f64bits_any (b : Nat) (w : World) : (callFunc 44 #[.float .f64 b]).run Tryz.prog w = .ok (.value (.int .u64 b)) w := by
  rw [run_callFunc_extern Tryz.func44 (by kernel_rfl) (by kernel_rfl) (by kernel_rfl) (e := Go.Extern.MathFloatBits.float64bits) (by kernel_rfl)]
  rfl
/-- No value: the zero of the plain values. -/
abbrev noneV : Value := .agg #[.int .i64 0, .bool false, .string (ByteArray.mk #[]), .bool false, .slice none 0 0, .slice none 0 0, .bool false, .slice none 0 0, .slice none 0 0]
/-- The unknown value. -/
abbrev unkV : Value := .iface 59 (.agg #[])
end Go.Proofs.YtdhgdachchhflaaGreatDoor
namespace Go.Dig
theorem val_inj {b : Nat} (hb : 0 < b) : ∀ {l m : List Nat}, l.length = m.length → (∀ d ∈ l, d < b) → (∀ d ∈ m, d < b) → val b l = val b m → l = m
  | [], [], _, _, _, _ => rfl
  | d :: l, e :: m, hl, h1, h2, hv => by
    have hd := h1 d (by simp)
    have he := h2 e (by simp)
    simp only [val] at hv
    have e1 : d = e := by
      have := congrArg (· % b) hv
      simpa [Nat.add_mul_mod_self_left, Nat.mod_eq_of_lt hd, Nat.mod_eq_of_lt he] using this
    subst e1
    have e2 : val b l = val b m := Nat.eq_of_mul_eq_mul_left hb (Nat.add_left_cancel hv)
    rw [val_inj hb (by simpa using hl) (fun x hx => h1 x (List.mem_cons_of_mem _ hx)) (fun x hx => h2 x (List.mem_cons_of_mem _ hx)) e2]
theorem wb_pow (k : Nat) : (18446744073709551616 : Nat) ^ k = 65536 ^ (4 * k) := by
  rw [show (18446744073709551616 : Nat) = 65536 ^ 4 from rfl, ← Nat.pow_mul]
theorem dg_words_len (n : Nat) : (dg 18446744073709551616 n).length = ((dg 65536 n).length + 3) / 4 := by
  by_cases h : n = 0
  · subst h; rw [dg_zero, dg_zero]; rfl
  · have hL : 0 < (dg 65536 n).length := by
      rcases Nat.eq_zero_or_pos (dg 65536 n).length with h' | h'
      · exact absurd ((dg_nil_iff (b := 65536) (by omega)).1 (List.eq_nil_of_length_eq_zero h')) h
      · exact h'
    have h0 := pow_le_of_dg_length (b := 65536) (by omega) (n := n) (k := (dg 65536 n).length - 1) (by omega)
    have h1 := lt_pow_dg_length (b := 65536) (by omega) n
    generalize (dg 65536 n).length = L at *
    have := dg_length_eq (b := 18446744073709551616) (by omega) (n := n) (k := (L - 1) / 4)
      (by rw [wb_pow]; exact Nat.le_trans (Nat.pow_le_pow_right (by omega) (by omega)) h0)
      (by rw [wb_pow]; exact Nat.lt_of_lt_of_le h1 (Nat.pow_le_pow_right (by omega) (by omega)))
    rw [this]
    omega
/-- Where the making of words out of digits stands behind i digits. -/
structure WI (ds : List Nat) (i : Nat) (o : List Nat) : Prop where
  len : o.length = (i + 3) / 4
  lt : ∀ x ∈ o, x < 18446744073709551616
  eq : val 18446744073709551616 o = val 65536 (ds.take i)
theorem WI.zero (ds : List Nat) : WI ds 0 [] := ⟨rfl, by simp, by simp [val]⟩
/-- The word that the next digit goes into is there. -/
structure WJ (ds : List Nat) (q r : Nat) (o : List Nat) : Prop where
  len : o.length = q + 1
  lt : ∀ x ∈ o, x < 18446744073709551616
  eq : val 18446744073709551616 o = val 65536 (ds.take (4 * q + r))
theorem WI.open_ {ds o : List Nat} {q : Nat} (h : WI ds (4 * q) o) : WJ ds q 0 (o ++ [0]) := by
  have hl := h.len
  refine ⟨by rw [List.length_append, hl, List.length_singleton]; omega, ?_, ?_⟩
  · intro x hx
    rcases List.mem_append.1 hx with h' | h'
    · exact h.lt x h'
    · simp at h'; omega
  · rw [val_append, h.eq]
    simp [val]
theorem WI.held {ds o : List Nat} {q r : Nat} (h : WI ds (4 * q + r) o) (hr : 0 < r) (h3 : r ≤ 3) : WJ ds q r o := by
  have hl := h.len
  exact ⟨by omega, h.lt, h.eq⟩
theorem WJ.old {ds o : List Nat} {q r : Nat} (h : WJ ds q r o) (hd : ∀ d ∈ ds, d < 65536) : o.getD q 0 < 65536 ^ r := by
  have hs := val_split_at (b := 18446744073709551616) (l := o) (i := q) (by rw [h.len]; omega)
  rw [h.eq] at hs
  have hlt := val_lt (b := 65536) (by omega) (l := ds.take (4 * q + r)) (fun d hx => hd d (List.mem_of_mem_take hx))
  have hp : (65536 : Nat) ^ (ds.take (4 * q + r)).length ≤ 65536 ^ (4 * q + r) := Nat.pow_le_pow_right (by omega) (List.length_take_le _ _)
  have hlt2 := Nat.lt_of_lt_of_le hlt hp
  rw [Nat.pow_add, ← wb_pow] at hlt2
  rcases Nat.lt_or_ge (o.getD q 0) (65536 ^ r) with h' | h'
  · exact h'
  · have h1 : 18446744073709551616 ^ q * 65536 ^ r ≤ 18446744073709551616 ^ q * (o.getD q 0 + 18446744073709551616 * val 18446744073709551616 (o.drop (q + 1))) := Nat.mul_le_mul_left _ (by omega)
    omega
theorem WJ.step {ds o : List Nat} {q r d : Nat} (h : WJ ds q r o) (hd : ∀ d ∈ ds, d < 65536) (hi : 4 * q + r < ds.length) (hx : ds.getD (4 * q + r) 0 = d) (hr : r ≤ 3) :
    WI ds (4 * q + r + 1) (o.set q (o.getD q 0 + d * 65536 ^ r)) := by
  have hold := h.old hd
  have hdl : d < 65536 := by rw [← hx, List.getD_eq_getElem?_getD, List.getElem?_eq_getElem hi]; exact hd _ (List.getElem_mem hi)
  have hnew : o.getD q 0 + d * 65536 ^ r < 18446744073709551616 := by
    have h1 : d * 65536 ^ r ≤ 65535 * 65536 ^ r := Nat.mul_le_mul_right _ (by omega)
    have h2 : (65536 : Nat) ^ (r + 1) ≤ 65536 ^ 4 := Nat.pow_le_pow_right (by omega) (by omega)
    rw [Nat.pow_succ] at h2
    omega
  have hl := h.len
  refine ⟨by rw [List.length_set, hl]; omega, ?_, ?_⟩
  · intro x hx'
    rcases List.mem_or_eq_of_mem_set hx' with h' | h'
    · exact h.lt x h'
    · rw [h']; exact hnew
  · have hs := val_set 18446744073709551616 o q (o.getD q 0 + d * 65536 ^ r) (by omega)
    rw [h.eq, Nat.add_mul, Nat.mul_assoc, wb_pow, ← Nat.pow_add] at hs
    rw [List.take_add_one, List.getElem?_eq_getElem hi, Option.toList_some, val_append, List.length_take, Nat.min_eq_left (by omega)]
    have e : ds[4 * q + r] = d := by rw [← hx, List.getD_eq_getElem?_getD, List.getElem?_eq_getElem hi]; rfl
    rw [e]
    simp only [val, Nat.mul_zero, Nat.add_zero]
    rw [Nat.add_comm r (4 * q)] at hs
    rw [Nat.mul_comm (65536 ^ (4 * q + r)) d]
    omega
theorem WI.done {n : Nat} {o : List Nat} (h : WI (dg 65536 n) (dg 65536 n).length o) : o = dg 18446744073709551616 n := by
  have e := h.eq
  rw [List.take_length, val_dg (by omega)] at e
  exact val_inj (b := 18446744073709551616) (by omega) (by rw [h.len, dg_words_len]) h.lt (dg_lt (by omega) n) (by rw [e, val_dg (by omega)])
/-- A byte goes down: V words' worth is there, r of the word's lower part is there, y of it is left. -/
theorem down_step {m : List Nat} {i k j V r y : Nat} (hm : i < m.length) (hi : i = 8 * k + j) (hv : val 256 (m.take i) = V + 18446744073709551616 ^ k * r) :
    val 256 ((m.set i (y % 256)).take (i + 1)) = V + 18446744073709551616 ^ k * (r + 256 ^ j * (y % 256)) := by
  have e1 : (m.set i (y % 256)).take i = m.take i := by rw [List.take_set_of_le (by omega)]
  have e2 : (256 : Nat) ^ i = 18446744073709551616 ^ k * 256 ^ j := by
    rw [hi, Nat.pow_add, Nat.pow_mul]
  rw [List.take_add_one, e1, List.getElem?_set_self hm, Option.toList_some, val_append, List.length_take, Nat.min_eq_left (by omega), hv, e2]
  simp only [val, Nat.mul_zero, Nat.add_zero]
  rw [Nat.mul_add, Nat.mul_assoc, Nat.add_assoc]
theorem down_left {x y r j : Nat} (h : x = y * 256 ^ j + r) : x = y / 256 * 256 ^ (j + 1) + (r + 256 ^ j * (y % 256)) := by
  have hy := Nat.div_add_mod y 256
  have e : y * 256 ^ j = (256 * (y / 256)) * 256 ^ j + (y % 256) * 256 ^ j := by rw [← Nat.add_mul, hy]
  rw [h, e, Nat.pow_succ, Nat.mul_comm (256 ^ j) (y % 256), Nat.mul_comm 256 (y / 256), Nat.mul_assoc, Nat.mul_comm 256 (256 ^ j)]
  omega
end Go.Dig
namespace Go.Proofs.YtdhgdachchhflaaGreatDoor
open Go.RowKit Go.Dig
set_option maxRecDepth 100000
theorem cs_set_list (k : IntKind) (ds : List Nat) (i d : Nat) : (cs k ds).set i (.int k (d : Int)) = cs k (ds.set i d) := by simp [cs]
/-- A cell of a row of the call's own, and the row behind a store into it. -/
theorem own_at {w : World} {base e : Nat} {k : IntKind} {v : Value} {ds : List Nat} (h : w.ownsRow base e 1 v ds.length (cs k ds)) {i : Nat} (hi : i < ds.length) :
    ∃ g cap, v = .slice (some ⟨g, 0, none⟩) ds.length cap ∧ base ≤ g ∧ w.cell? ⟨g, i, none⟩ = some (.int k (ds.getD i 0 : Nat)) ∧ w.frozen? ⟨g, i, none⟩ = false ∧
      ∀ d : Nat, (w.setCell ⟨g, i, none⟩ (.int k (d : Int))).ownsRow base e 1 v (ds.set i d).length (cs k (ds.set i d)) := by
  obtain ⟨hl, h⟩ := h
  rcases h with ⟨rfl, h0⟩ | ⟨g, cap, cur, rfl, hg, hh, hnc, hcm, hcs, htk⟩
  · omega
  · have hB : Blk w g cur e := hh
    rw [Nat.mul_one] at htk hcs
    have hc : cur[i]? = some (.int k (ds.getD i 0 : Nat)) := by
      have e2 : cur[i]? = (cs k ds)[i]? := by
        rw [← htk, List.getElem?_take_of_lt hi]; simp
      rw [e2]
      simp [cs, List.getElem?_eq_getElem hi]
    refine ⟨g, cap, rfl, hg, (hB.cell i).trans hc, hB.frozen i, fun d => ⟨by rw [cs_length, Nat.mul_one], .inr ⟨g, cap, cur.setIfInBounds i (.int k (d : Int)), by rw [List.length_set], hg, hB.set i _, by rw [List.length_set]; exact hnc, hcm, by rw [Array.size_setIfInBounds]; omega, ?_⟩⟩⟩
    rw [Nat.mul_one, List.length_set, ← cs_set_list, ← htk, Array.toList_setIfInBounds, List.take_set]
/-- A word gets its next digit. -/
theorem or_digit {old d r : Nat} (h : old < 65536 ^ r) (hd : d < 65536) (hr : r ≤ 3) : bits .or .u64 (old : Int) (IntKind.u64.wrap ((d : Int) * 65536 ^ r)) = ((old + d * 65536 ^ r : Nat) : Int) := by
  have e0 : (65536 : Nat) ^ r = 2 ^ (16 * r) := by rw [Nat.pow_mul]
  have h1 : (65536 : Nat) ^ r ≤ 65536 ^ 3 := Nat.pow_le_pow_right (by omega) hr
  have h2 : d * 65536 ^ r ≤ 65535 * 65536 ^ 3 := Nat.mul_le_mul (by omega) h1
  have e : IntKind.u64.wrap ((d : Int) * 65536 ^ r) = ((d * 65536 ^ r : Nat) : Int) := by
    rw [IntKind.wrap_u64, show ((d : Int) * 65536 ^ r) = ((d * 65536 ^ r : Nat) : Int) by simp]
    omega
  rw [e, bits_or_u64_nat old (d * 65536 ^ r) (by omega) (by omega)]
  congr 1
  rw [e0] at h ⊢
  rw [← Nat.shiftLeft_eq, Nat.or_comm, ← Nat.shiftLeft_add_eq_or_of_lt h, Nat.add_comm]
theorem neq_ptr_same {P : Program} (w : World) {tp te : TypeId} {j : TypeInfo} (a : Addr) (hp : P.underlying tp = some (.pointer te)) (hte : P.info? te = some j) :
    (binOp .neq tp (.pointer (some a)) (.pointer (some a))).run P w = .ok (.bool false) w := by
  have h : ∀ d : Nat, (Op.equalIn (d + 1) tp (.pointer (some a)) (.pointer (some a))).run P w = .ok true w := fun d => by
    simp [Op.equalIn, run_underlying hp, sizeOf, typeInfo, hte, run_sameAddr_same]
  simp only [binOp]
  simp [Op.equal, Op.maxDepth, h 9999]
theorem neq_ptr_other {P : Program} (w : World) {tp te : TypeId} {j : TypeInfo} {a b : Addr} {ca cb : Array Value} {ta tb : TypeId} (hp : P.underlying tp = some (.pointer te)) (hte : P.info? te = some j) (hsz : j.size ≠ 0)
    (hne : a ≠ b) (ha : w.heap[a.block]? = some (.cells ca ta (0, 0))) (hb : w.heap[b.block]? = some (.cells cb tb (0, 0))) :
    (binOp .neq tp (.pointer (some a)) (.pointer (some b))).run P w = .ok (.bool true) w := by
  have h : ∀ d : Nat, (Op.equalIn (d + 1) tp (.pointer (some a)) (.pointer (some b))).run P w = .ok false w := fun d => by
    simp [Op.equalIn, run_underlying hp, sizeOf, typeInfo, hte, hsz, run_sameAddr_other w hne ha hb]
  simp only [binOp]
  simp [Op.equal, Op.maxDepth, h 9999]
end Go.Proofs.YtdhgdachchhflaaGreatDoor
namespace Go.Proofs.YtdhgdachchhflaaGreatDoor
open Go.RowKit Go.Dig
set_option maxRecDepth 100000
set_option maxHeartbeats 400000 in
/-- Int.Sign: 0, or 1 with the sign. -/
theorem intSign_any (b : Nat) (s : Bool) (n : Nat) (w : World) (h : Iv w b s n) : Calls Tryz.prog 66 #[.pointer (some ⟨b, 0, none⟩)] w fun e w' => ∃ x, e = .returned (.int .i64 x) ∧ Hid (x < 0 ↔ sgn s n < 0) ∧ w = w' := by
  obtain ⟨v, hB, hN⟩ := h
  obtain ⟨a, L, c, rfl, HL⟩ := nw_shape hN
  have hc0 := hB.cell 0
  have hc1 := hB.cell 1
  simp only [List.getElem?_toArray, List.getElem?_cons_zero, List.getElem?_cons_succ] at hc0 hc1
  clear hN hB
  rcases Nat.eq_zero_or_pos n with hn | hn
  · subst hn
    have hL : L = 0 := by rw [HL.out, dg_zero]; rfl
    subst hL
    go_enter Tryz.func66, Tryz.ntmps66
    go_wp2_with fail
    go_ret
    exact ⟨_, rfl, hid (by cases s <;> simp [sgn]), rfl⟩
  · have hL : 0 < L := by rw [HL.out]; exact len_pos (by omega)
    have hL' : ((L : Int) == 0) = false := by simp; omega
    clear HL
    cases s
    · go_enter Tryz.func66, Tryz.ntmps66
      go_wp2_with fail
      go_ret
      exact ⟨_, rfl, hid (by simp [sgn]), rfl⟩
    · go_enter Tryz.func66, Tryz.ntmps66
      go_wp2_with fail
      go_ret
      exact ⟨_, rfl, hid (by simp [sgn]; omega), rfl⟩
set_option maxHeartbeats 400000 in
theorem intBits_any (b : Nat) (v : Value) (w : World) (hc1 : w.cell? ⟨b, 1, none⟩ = some v) : Calls Tryz.prog 67 #[.pointer (some ⟨b, 0, none⟩)] w fun e w' => e = .returned v ∧ w = w' := by
  go_enter Tryz.func67, Tryz.ntmps67
  go_wp2_with fail
  go_ret
  exact ⟨rfl, rfl⟩
theorem info44 : (Tryz.prog.info? 29).map (fun i => (i.zero, i.size, i.bytes)) = some (some (.int .u64 0), 1, 8) := by kernel_rfl
set_option maxHeartbeats 400000 in
/-- The words of an Int as plain words. -/
theorem plain_any (b : Nat) (s : Bool) (n : Nat) (w : World) (h : Iv w b s n) (hlen : (dg 18446744073709551616 n).length ≤ 100000) : Calls Tryz.prog 39 #[.pointer (some ⟨b, 0, none⟩)] w fun e w' => ∃ v, e = .returned v ∧ Rt 29 .u64 w' v (dg 18446744073709551616 n) ∧ Below w.heap.size w w' := by
  obtain ⟨v, hB, hN⟩ := h
  have hc1 := hB.cell 1
  simp only [List.getElem?_toArray, List.getElem?_cons_zero, List.getElem?_cons_succ] at hc1
  clear hB
  obtain ⟨a, cap, rfl, hcl, hcm, hcc⟩ := hN
  have HC := hid hcc
  clear hcc
  generalize hds : dg 18446744073709551616 n = ds at *
  have HDS := hid hds
  clear hds
  go_enter Tryz.func39, Tryz.ntmps39
  go_wp2_with (go_at_call 67; refine (intBits_any _ _ _ hc1).mono ?_; rintro e w' ⟨rfl, rfl⟩)
  go_loopw [3, 9] (fun v x wr => ∃ (u : Value) (os : List Nat) (j : Nat), u = v ∧ x = .int .i64 j ∧ j ≤ ds.length ∧ wr.ownsRow w.heap.size 29 1 u os.length (cs .u64 os) ∧ Hid (os = ds.take j) ∧ Below w.heap.size w wr) (fun _ x _ => ds.length - (intOf x).toNat)
  case atStart => exact ⟨_, [], 0, rfl, rfl, by omega, World.ownsRow_nil _ _ _ _, hid rfl, Below.refl _ _⟩
  case round =>
    obtain ⟨u, os, j, rfl, rfl, hj, hown, ho, hb⟩ := hrel
    have hbs := hb.size
    have hlo : os.length = j := by rw [ho.out, List.length_take]; omega
    have HLO := hid hlo
    clear hlo
    rcases Nat.lt_or_ge j ds.length with h0 | h0
    · obtain ⟨b2, off, rfl, _, hb2⟩ := HC.out (by omega)
      have hk := hb2 j (by omega)
      clear hb2
      have hk2 := (hb.cell (World.block_lt_of_cell? w _ hk)).trans hk
      clear hk
      generalize hg : ds.getD j 0 = x at hk2
      have HG := hid hg
      clear hg
      have hol : os.length < 1000000000 := by rw [HLO.out]; omega
      go_wp2_with (at_builtin; refine app1 rfl _ _ 23 29 rfl .u64 8 Tryz.underlying23 info44 (by decide) w.heap.size w u os _ x rfl rfl rfl hown hb (by omega) hol ?_; intro v' w' hown2 hb2 _)
      go_roundw
      case rel =>
        refine ⟨_, os ++ [x], j + 1, rfl, by go_num, by omega, hown2, hid ?_, hb2⟩
        rw [ho.out, ← HG.out, List.take_add_one, List.getElem?_eq_getElem h0, List.getD_eq_getElem?_getD, List.getElem?_eq_getElem h0]
        rfl
      case measure => simp [intOf]; omega
    · obtain rfl : j = ds.length := by omega
      have hR := own_rd hown
      rw [ho.out, List.take_length] at hR
      go_wp2_with fail
      go_ret
      exact ⟨_, rfl, hR, hb⟩
end Go.Proofs.YtdhgdachchhflaaGreatDoor
namespace Go.Proofs.YtdhgdachchhflaaGreatDoor
open Go.RowKit
set_option maxRecDepth 100000
theorem tb_2_2 (w : World) (v : Value) : (Instr.typeAssert (.iface 2 v) 20 2 true).run Tryz.prog w = .ok (.tuple #[v, .bool true]) w := by kernel_rfl
theorem tb_2_4 (w : World) (v : Value) : (Instr.typeAssert (.iface 2 v) 20 4 true).run Tryz.prog w = .ok (.tuple #[.bool false, .bool false]) w := by kernel_rfl
theorem tb_2_9 (w : World) (v : Value) : (Instr.typeAssert (.iface 2 v) 20 9 true).run Tryz.prog w = .ok (.tuple #[.string (ByteArray.mk #[]), .bool false]) w := by kernel_rfl
theorem tb_2_120 (w : World) (v : Value) : (Instr.typeAssert (.iface 2 v) 20 82 true).run Tryz.prog w = .ok (.tuple #[.pointer none, .bool false]) w := by kernel_rfl
theorem tb_2_130 (w : World) (v : Value) : (Instr.typeAssert (.iface 2 v) 20 60 true).run Tryz.prog w = .ok (.tuple #[.pointer none, .bool false]) w := by kernel_rfl
theorem tb_2_126 (w : World) (v : Value) : (Instr.typeAssert (.iface 2 v) 20 65 true).run Tryz.prog w = .ok (.tuple #[.pointer none, .bool false]) w := by kernel_rfl
theorem tb_120_2 (w : World) (v : Value) : (Instr.typeAssert (.iface 82 v) 20 2 true).run Tryz.prog w = .ok (.tuple #[.int .i64 0, .bool false]) w := by kernel_rfl
theorem tb_120_4 (w : World) (v : Value) : (Instr.typeAssert (.iface 82 v) 20 4 true).run Tryz.prog w = .ok (.tuple #[.bool false, .bool false]) w := by kernel_rfl
theorem tb_120_9 (w : World) (v : Value) : (Instr.typeAssert (.iface 82 v) 20 9 true).run Tryz.prog w = .ok (.tuple #[.string (ByteArray.mk #[]), .bool false]) w := by kernel_rfl
theorem tb_120_120 (w : World) (v : Value) : (Instr.typeAssert (.iface 82 v) 20 82 true).run Tryz.prog w = .ok (.tuple #[v, .bool true]) w := by kernel_rfl
theorem tb_120_130 (w : World) (v : Value) : (Instr.typeAssert (.iface 82 v) 20 60 true).run Tryz.prog w = .ok (.tuple #[.pointer none, .bool false]) w := by kernel_rfl
theorem tb_120_126 (w : World) (v : Value) : (Instr.typeAssert (.iface 82 v) 20 65 true).run Tryz.prog w = .ok (.tuple #[.pointer none, .bool false]) w := by kernel_rfl
theorem tb_130_2 (w : World) (v : Value) : (Instr.typeAssert (.iface 60 v) 20 2 true).run Tryz.prog w = .ok (.tuple #[.int .i64 0, .bool false]) w := by kernel_rfl
theorem tb_130_4 (w : World) (v : Value) : (Instr.typeAssert (.iface 60 v) 20 4 true).run Tryz.prog w = .ok (.tuple #[.bool false, .bool false]) w := by kernel_rfl
theorem tb_130_9 (w : World) (v : Value) : (Instr.typeAssert (.iface 60 v) 20 9 true).run Tryz.prog w = .ok (.tuple #[.string (ByteArray.mk #[]), .bool false]) w := by kernel_rfl
theorem tb_130_120 (w : World) (v : Value) : (Instr.typeAssert (.iface 60 v) 20 82 true).run Tryz.prog w = .ok (.tuple #[.pointer none, .bool false]) w := by kernel_rfl
theorem tb_130_130 (w : World) (v : Value) : (Instr.typeAssert (.iface 60 v) 20 60 true).run Tryz.prog w = .ok (.tuple #[v, .bool true]) w := by kernel_rfl
theorem tb_130_126 (w : World) (v : Value) : (Instr.typeAssert (.iface 60 v) 20 65 true).run Tryz.prog w = .ok (.tuple #[.pointer none, .bool false]) w := by kernel_rfl
end Go.Proofs.YtdhgdachchhflaaGreatDoor
namespace Go.Proofs.YtdhgdachchhflaaGreatDoor
open Go.RowKit Go.Dig
set_option maxRecDepth 100000
set_option maxHeartbeats 400000 in
/-- nat.setWord onto nothing. -/
theorem setWord_nil (x : Nat) (w : World) (hx : x < 18446744073709551616) : Calls Tryz.prog 75 #[.slice none 0 0, .int .u64 x] w fun e w' => ∃ v, e = .returned v ∧ Nw w' v x ∧ Below w.heap.size w w' := by
  rcases Nat.eq_zero_or_pos x with h | h
  · subst h
    go_enter Tryz.func75, Tryz.ntmps75
    go_wp2_with fail
    go_ret
    exact ⟨_, rfl, by rw [Nw, dg_zero]; exact Rt.nil _ _ _, Below.refl _ _⟩
  · have hx0 : ((x : Int) == 0) = false := by simp; omega
    go_enter Tryz.func75, Tryz.ntmps75
    go_wp2_with fail
    refine (natMake_one _).mono ?_
    rintro e w' ⟨rfl, rfl⟩
    have hB : BlkN .u64 136 (w.alloc (.cells (cs .u64 [0]).toArray 136)) w.heap.size [0] := blk_new w _ 136
    have hb : Below w.heap.size w (w.alloc (.cells (cs .u64 [0]).toArray 136)) := (Below.refl _ _).alloc (Nat.le_refl _) _
    have HB := hid hB
    have Hb := hid hb
    have hc := hB.at (i := 0) (by simp)
    have hf := Blk.frozen hB 0
    clear hB hb
    generalize w.alloc (.cells (cs .u64 [0]).toArray 136) = w1 at *
    go_wp2_with fail
    go_ret
    have hB2 := HB.out.put 0 x
    have hr := BlkN.rt hB2 (cap := 1) (by simp) (by omega)
    refine ⟨_, rfl, ?_, Hb.out.setCell (Nat.le_refl _) _⟩
    rw [Nw, dg_one h hx]
    exact hr
set_option maxHeartbeats 400000 in
theorem setUint64_nil (x : Nat) (w : World) (hx : x < 18446744073709551616) : Calls Tryz.prog 52 #[.slice none 0 0, .int .u64 x] w fun e w' => ∃ v, e = .returned v ∧ Nw w' v x ∧ Below w.heap.size w w' := by
  go_enter Tryz.func52, Tryz.ntmps52
  go_wp2_with fail
  refine (setWord_nil x _ hx).mono ?_
  rintro e w' ⟨v, rfl, hv, hb⟩
  go_wp2_with fail
  go_ret
  exact ⟨_, rfl, hv, hb⟩
/-- A number of 64 bits behind a pointer. -/
theorem zh_iv {w w' : World} {bz k : Nat} {v : Value} (h : Zh w bz v k w') (s : Bool) : Iv (w'.setCell ⟨bz, 0, none⟩ (.bool s)) bz s k :=
  ⟨v, by simpa using h.1.set 0 (.bool s), h.2.1.set (p := ⟨bz, 0, none⟩) _ h.1.shape (by decide)⟩
set_option maxHeartbeats 400000 in
theorem setInt64_new (bz : Nat) (x : Int) (w : World) (h0 : -9223372036854775808 ≤ x) (h1 : x ≤ 9223372036854775807) (hz : Blk w bz #[.bool false, .slice none 0 0] 86) :
    Calls Tryz.prog 37 #[.pointer (some ⟨bz, 0, none⟩), .int .i64 x] w fun e w' => e = .returned (.pointer (some ⟨bz, 0, none⟩)) ∧ Iv w' bz (decide (x < 0)) x.natAbs ∧ Below bz w w' := by
  have HZ := hid hz
  have hz1 := hz.cell 1
  simp only [List.getElem?_toArray, List.getElem?_cons_zero, List.getElem?_cons_succ] at hz1
  have f0 := hz.frozen 0
  have f1 := hz.frozen 1
  clear hz
  rcases Int.lt_or_le x 0 with hx | hx
  · obtain ⟨n, rfl⟩ : ∃ n : Nat, x = -(n : Int) := ⟨x.natAbs, by omega⟩
    have hw : IntKind.u64.wrap (wrap64 (n : Int)) = (n : Int) := by rw [IntKind.wrap_u64]; unfold wrap64; omega
    have hd : decide (-(n : Int) < 0) = true := decide_eq_true hx
    rw [hd, Int.natAbs_neg, Int.natAbs_natCast]
    go_enter Tryz.func37, Tryz.ntmps37
    go_wp2_with fail
    refine (setUint64_nil n _ (by omega)).mono ?_
    rintro e w1 ⟨v, rfl, hv, hb⟩
    obtain ⟨az, L, cz, rfl, HL⟩ := nw_shape hv
    have HV := hid hv
    have HB := hid hb
    clear hv hb
    have f0 : w1.frozen? ⟨bz, 0, none⟩ = false := (HB.out.frozen (p := ⟨bz, 0, none⟩) HZ.out.lt).trans f0
    have f1 : w1.frozen? ⟨bz, 1, none⟩ = false := (HB.out.frozen (p := ⟨bz, 1, none⟩) HZ.out.lt).trans f1
    have q0 := (HZ.out.below HB.out HZ.out.lt).cell 0
    have q1 := (HZ.out.below HB.out HZ.out.lt).cell 1
    simp only [List.getElem?_toArray, List.getElem?_cons_zero, List.getElem?_cons_succ] at q0 q1
    go_wp2_with fail
    go_ret
    have hZ := zh_of HZ.out HB.out HV.out
    exact ⟨rfl, zh_iv hZ true, hZ.2.2.setCell (p := ⟨bz, 0, none⟩) (Nat.le_refl _) _⟩
  · obtain ⟨n, rfl⟩ : ∃ n : Nat, x = (n : Int) := ⟨x.natAbs, by omega⟩
    have hd : decide ((n : Int) < 0) = false := decide_eq_false (by omega)
    rw [hd, Int.natAbs_natCast]
    go_enter Tryz.func37, Tryz.ntmps37
    go_wp2_with fail
    refine (setUint64_nil n _ (by omega)).mono ?_
    rintro e w1 ⟨v, rfl, hv, hb⟩
    obtain ⟨az, L, cz, rfl, HL⟩ := nw_shape hv
    have HV := hid hv
    have HB := hid hb
    clear hv hb
    have f0 : w1.frozen? ⟨bz, 0, none⟩ = false := (HB.out.frozen (p := ⟨bz, 0, none⟩) HZ.out.lt).trans f0
    have f1 : w1.frozen? ⟨bz, 1, none⟩ = false := (HB.out.frozen (p := ⟨bz, 1, none⟩) HZ.out.lt).trans f1
    have q0 := (HZ.out.below HB.out HZ.out.lt).cell 0
    have q1 := (HZ.out.below HB.out HZ.out.lt).cell 1
    simp only [List.getElem?_toArray, List.getElem?_cons_zero, List.getElem?_cons_succ] at q0 q1
    go_wp2_with fail
    go_ret
    have hZ := zh_of HZ.out HB.out HV.out
    exact ⟨rfl, zh_iv hZ false, hZ.2.2.setCell (p := ⟨bz, 0, none⟩) (Nat.le_refl _) _⟩
set_option maxHeartbeats 1000000 in
theorem number_any (b : Nat) (s : Bool) (n : Nat) (w : World) (h : Iv w b s n) (hlen : (dg 18446744073709551616 n).length ≤ 100000) :
    Calls Tryz.prog 36 #[.pointer (some ⟨b, 0, none⟩)] w fun e w' => ∃ t v, e = .returned (.agg #[.bool t, v]) ∧ Hid (t = decide (sgn s n < 0)) ∧ Rt 29 .u64 w' v (dg 18446744073709551616 n) ∧ Below w.heap.size w w' := by
  have H := hid h
  clear h
  have HK := hid (blk_new w #[.bool false, .slice none 0 0] 25)
  have Hb0 : Hid (Below w.heap.size w (w.alloc (.cells #[.bool false, .slice none 0 0] 25))) := (Below.refl _ _).alloc (Nat.le_refl _) _
  have H0 := hid (H.out.below Hb0.out)
  go_enter Tryz.func36, Tryz.ntmps36
  go_wp2_with fail
  generalize w.alloc (.cells #[.bool false, .slice none 0 0] 25) = w0 at *
  refine (intSign_any b s n _ H0.out).mono ?_
  rintro e w1 ⟨x, rfl, HX, rfl⟩
  have q0 := HK.out.cell 0
  have q1 := HK.out.cell 1
  simp only [List.getElem?_toArray, List.getElem?_cons_zero, List.getElem?_cons_succ] at q0 q1
  have f0 := HK.out.frozen 0
  have f1 := HK.out.frozen 1
  clear q0 q1 f0 f1
  go_wp2_with fail
  refine (plain_any b s n _ H0.out hlen).mono ?_
  rintro e w1 ⟨v, rfl, hv, hb⟩
  obtain ⟨a, c, rfl⟩ := hv.shape
  have HV := hid hv
  have HB := hid hb
  clear hv hb
  have HK1 := hid (HK.out.below HB.out HK.out.lt)
  have q0 := HK1.out.cell 0
  have q1 := HK1.out.cell 1
  simp only [List.getElem?_toArray, List.getElem?_cons_zero, List.getElem?_cons_succ] at q0 q1
  have f0 := HK1.out.frozen 0
  have f1 := HK1.out.frozen 1
  go_wp2_with fail
  have g1 := HV.out.set (p := ⟨w.heap.size, 0, none⟩) (.bool (decide (x < 0))) HK1.out.shape (by decide)
  have g2 := g1.set (p := ⟨w.heap.size, 1, none⟩) (.slice a (dg 18446744073709551616 n).length c) (m := 2) (e' := 25) (by rw [shape_setCell]; exact HK1.out.shape) (by decide)
  refine bodyPost_ret (v := .agg #[.bool (decide (x < 0)), .slice a (dg 18446744073709551616 n).length c]) (by simp [results, Tryz.results36, go_sem, q0, q1]) rfl ⟨_, _, rfl, hid ?_, g2, ?_⟩
  · have := HX.out
    simpa using this
  · exact ((Hb0.out.trans (HB.out.mono Hb0.out.size)).setCell (p := ⟨w.heap.size, 0, none⟩) (Nat.le_refl _) _).setCell (p := ⟨w.heap.size, 1, none⟩) (Nat.le_refl _) _
end Go.Proofs.YtdhgdachchhflaaGreatDoor
namespace Go.Proofs.YtdhgdachchhflaaGreatDoor
open Go.RowKit Go.Dig
set_option maxRecDepth 100000
set_option maxHeartbeats 400000 in
theorem val_64 (x : Value) (w : World) : Calls Tryz.prog 35 #[.iface 94 x] w fun e w' => e = .returned (.iface 2 x) ∧ w = w' := by
  have h1 := ta_119_165
  have h2 := ta_119_180
  have h3 := ta_119_119
  go_enter Tryz.func35, Tryz.ntmps35
  go_wp2_with fail
  go_ret
  exact ⟨rfl, rfl⟩
set_option maxHeartbeats 400000 in
theorem val_big (p : Option Addr) (w : World) : Calls Tryz.prog 35 #[.iface 96 (.agg #[.pointer p])] w fun e w' => e = .returned (.iface 82 (.pointer p)) ∧ Below w.heap.size w w' := by
  have h1 := ta_122_165
  have h2 := ta_122_180
  have h3 := ta_122_119
  have h4 := ta_122_122
  go_enter Tryz.func35, Tryz.ntmps35
  go_wp2_with fail
  go_ret
  exact ⟨rfl, (Below.refl _ _).alloc (Nat.le_refl _) _⟩
set_option maxHeartbeats 400000 in
theorem kind_i64 (v : Value) (w : World) : Calls Tryz.prog 233 #[v] w fun e w' => e = .returned (.int .i64 3) ∧ w = w' := by
  go_enter Tryz.func233, Tryz.ntmps233
  go_wp2_with fail
  go_ret
  exact ⟨rfl, rfl⟩
set_option maxHeartbeats 400000 in
theorem kind_big (p : Option Addr) (w : World) : Calls Tryz.prog 237 #[.agg #[.pointer p]] w fun e w' => e = .returned (.int .i64 3) ∧ Below w.heap.size w w' := by
  go_enter Tryz.func237, Tryz.ntmps237
  go_wp2_with fail
  go_ret
  exact ⟨rfl, (Below.refl _ _).alloc (Nat.le_refl _) _⟩
theorem dg_len_small {n : Nat} (h : n < 18446744073709551616) : (dg 18446744073709551616 n).length ≤ 1 := dg_length_le (by omega) (by omega)
set_option maxHeartbeats 1000000 in
theorem parts_64 (x : Int) (w : World) (h0 : -9223372036854775808 ≤ x) (h1 : x ≤ 9223372036854775807) : Calls Tryz.prog 18 #[.iface 94 (.int .i64 x)] w fun e w' => ∃ t v u, e = .returned (.tuple #[.agg #[.bool t, v], u]) ∧ Hid (t = decide (x < 0)) ∧ Rt 29 .u64 w' v (dg 18446744073709551616 x.natAbs) ∧ Below w.heap.size w w' := by
  have t1 := tb_2_2
  have HR : Hid (Blk ((w.alloc (.cells #[.bool false, .slice none 0 0] 25)).alloc (.cells #[.bool false, .slice none 0 0] 86)) w.heap.size #[.bool false, .slice none 0 0] 25) := (blk_new w _ 25).alloc _
  have HK : Hid (Blk ((w.alloc (.cells #[.bool false, .slice none 0 0] 25)).alloc (.cells #[.bool false, .slice none 0 0] 86)) (w.heap.size + 1) #[.bool false, .slice none 0 0] 86) := by
    have := blk_new (w.alloc (.cells #[.bool false, .slice none 0 0] 25)) #[.bool false, .slice none 0 0] 86
    refine hid ?_
    simpa using this
  have Hb0 : Hid (Below w.heap.size w ((w.alloc (.cells #[.bool false, .slice none 0 0] 25)).alloc (.cells #[.bool false, .slice none 0 0] 86))) := ((Below.refl _ _).alloc (Nat.le_refl _) _).alloc (by simp) _
  go_enter Tryz.func18, Tryz.ntmps18
  go_wp2_with (go_at_call 35; refine (val_64 _ _).mono ?_; rintro e w' ⟨rfl, rfl⟩)
  generalize (w.alloc (.cells #[.bool false, .slice none 0 0] 25)).alloc (.cells #[.bool false, .slice none 0 0] 86) = w0 at *
  refine (setInt64_new _ x _ h0 h1 HK.out).mono ?_
  rintro e w1 ⟨rfl, hi, hb⟩
  have HI := hid hi
  have HB := hid (Hb0.out.trans (hb.mono (Nat.le_succ _)))
  have HR1 := hid (HR.out.below hb (Nat.lt_succ_self _))
  clear hi hb
  go_wp2_with fail
  refine (number_any _ _ _ _ HI.out (Nat.le_trans (dg_len_small (by omega)) (by omega))).mono ?_
  rintro e w2 ⟨t, v, rfl, HT, hv, hb⟩
  obtain ⟨a, c, rfl⟩ := hv.shape
  have HV := hid hv
  have HB2 := hid (below_next HB.out hb)
  have HR2 := hid (HR1.out.below hb HR1.out.lt)
  clear hv hb
  have q0 := HR2.out.cell 0
  have q1 := HR2.out.cell 1
  simp only [List.getElem?_toArray, List.getElem?_cons_zero, List.getElem?_cons_succ] at q0 q1
  have f0 := HR2.out.frozen 0
  have f1 := HR2.out.frozen 1
  have hlt := HR2.out.lt
  go_wp2_with fail
  have g1 := HV.out.set (p := ⟨w.heap.size, 0, none⟩) (.bool t) HR2.out.shape (by decide)
  have g2 := g1.set (p := ⟨w.heap.size, 1, none⟩) (.slice a (dg 18446744073709551616 x.natAbs).length c) (m := 2) (e' := 25) (by rw [shape_setCell]; exact HR2.out.shape) (by decide)
  have g3 := g2.below ((Below.refl _ _).alloc (Nat.le_refl _) (.cells #[.int .u64 1] 29)) (Nat.le_refl _)
  refine bodyPost_ret (v := .tuple #[.agg #[.bool t, .slice a (dg 18446744073709551616 x.natAbs).length c], .slice (some ⟨w2.heap.size, 0, none⟩) 1 1]) (by simp [results, Tryz.results18, go_sem, q0, q1, hlt]) rfl ⟨_, _, _, rfl, hid ?_, g3, ?_⟩
  · rw [HT.out, sgn_abs]
  · exact ((HB2.out.setCell (p := ⟨w.heap.size, 0, none⟩) (Nat.le_refl _) _).setCell (p := ⟨w.heap.size, 1, none⟩) (Nat.le_refl _) _).alloc (by simp [World.setCell]; omega) _
set_option maxHeartbeats 1000000 in
theorem parts_big (b : Nat) (s : Bool) (n : Nat) (w : World) (hI : Iv w b s n) (hlen : (dg 18446744073709551616 n).length ≤ 100000) : Calls Tryz.prog 18 #[.iface 96 (.agg #[.pointer (some ⟨b, 0, none⟩)])] w fun e w' => ∃ t v u, e = .returned (.tuple #[.agg #[.bool t, v], u]) ∧ Hid (t = decide (sgn s n < 0)) ∧ Rt 29 .u64 w' v (dg 18446744073709551616 n) ∧ Below w.heap.size w w' := by
  have t1 := tb_120_2
  have t2 := tb_120_120
  have HR : Hid (Blk (w.alloc (.cells #[.bool false, .slice none 0 0] 25)) w.heap.size #[.bool false, .slice none 0 0] 25) := blk_new w _ 25
  have Hb0 : Hid (Below w.heap.size w (w.alloc (.cells #[.bool false, .slice none 0 0] 25))) := (Below.refl _ _).alloc (Nat.le_refl _) _
  have HI := hid hI
  clear hI
  go_enter Tryz.func18, Tryz.ntmps18
  go_wp2_with fail
  refine (val_big _ _).mono ?_
  rintro e w0 ⟨rfl, hb0⟩
  have HB0 := hid (below_next Hb0.out hb0)
  have HR0 := hid (HR.out.below hb0 HR.out.lt)
  have HI0 := hid ((HI.out.below Hb0.out).below hb0)
  clear hb0
  go_wp2_with fail
  refine (number_any _ _ _ _ HI0.out hlen).mono ?_
  rintro e w2 ⟨t, v, rfl, HT, hv, hb⟩
  obtain ⟨a, c, rfl⟩ := hv.shape
  have HV := hid hv
  have HB2 := hid (below_next HB0.out hb)
  have HR2 := hid (HR0.out.below hb HR0.out.lt)
  clear hv hb
  have q0 := HR2.out.cell 0
  have q1 := HR2.out.cell 1
  simp only [List.getElem?_toArray, List.getElem?_cons_zero, List.getElem?_cons_succ] at q0 q1
  have f0 := HR2.out.frozen 0
  have f1 := HR2.out.frozen 1
  have hlt := HR2.out.lt
  go_wp2_with fail
  have g1 := HV.out.set (p := ⟨w.heap.size, 0, none⟩) (.bool t) HR2.out.shape (by decide)
  have g2 := g1.set (p := ⟨w.heap.size, 1, none⟩) (.slice a (dg 18446744073709551616 n).length c) (m := 2) (e' := 25) (by rw [shape_setCell]; exact HR2.out.shape) (by decide)
  have g3 := g2.below ((Below.refl _ _).alloc (Nat.le_refl _) (.cells #[.int .u64 1] 29)) (Nat.le_refl _)
  refine bodyPost_ret (v := .tuple #[.agg #[.bool t, .slice a (dg 18446744073709551616 n).length c], .slice (some ⟨w2.heap.size, 0, none⟩) 1 1]) (by simp [results, Tryz.results18, go_sem, q0, q1, hlt]) rfl ⟨_, _, _, rfl, HT, g3, ?_⟩
  exact ((HB2.out.setCell (p := ⟨w.heap.size, 0, none⟩) (Nat.le_refl _) _).setCell (p := ⟨w.heap.size, 1, none⟩) (Nat.le_refl _) _).alloc (by simp [World.setCell]; omega) _
end Go.Proofs.YtdhgdachchhflaaGreatDoor
