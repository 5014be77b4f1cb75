/- Walks and lemmas for the laws of this seat. -/
import Derived.Test.YtocahcammjoffaaGreatDoorDig
import Derived.Test.YtocahcammjoffaaGreatDoorBs
import Derived.Laws.Bits64b
import Derived.Laws.AppendOwnNone
import Derived.LaidEqlPtr
import Derived.Test.YtocahcammjoffaaGreatDoorN8
import Derived.Test.YtocahcammjoffaaGreatDoorN4
import Derived.Test.YtocahcammjoffaaGreatDoorN13h
import Derived.Test.YtocahcammjoffaaGreatDoorM5
import Derived.Test.YtocahcammjoffaaGreatDoorN5
import Derived.Test.YtocahcammjoffaaGreatDoorN3
namespace Go.Dig
theorem val_inj {b : Nat} (hb : 0 < b) : ∀ {l m : List Nat}, l.length = m.length → (∀ d ∈ l, d < b) → (∀ d ∈ m, d < b) → val b l = val b m → l = m
  | [], [], _, _, _, _ => rfl
  | d :: l, e :: m, hl, h1, h2, hv => by
    have hd := h1 d (by simp)
    have he := h2 e (by simp)
    simp only [val] at hv
    have e1 : d = e := by
      have := congrArg (· % b) hv
      simpa [Nat.add_mul_mod_self_left, Nat.mod_eq_of_lt hd, Nat.mod_eq_of_lt he] using this
    subst e1
    have e2 : val b l = val b m := Nat.eq_of_mul_eq_mul_left hb (Nat.add_left_cancel hv)
    rw [val_inj hb (by simpa using hl) (fun x hx => h1 x (List.mem_cons_of_mem _ hx)) (fun x hx => h2 x (List.mem_cons_of_mem _ hx)) e2]
theorem wb_pow (k : Nat) : (18446744073709551616 : Nat) ^ k = 65536 ^ (4 * k) := by
  rw [show (18446744073709551616 : Nat) = 65536 ^ 4 from rfl, ← Nat.pow_mul]
theorem dg_words_len (n : Nat) : (dg 18446744073709551616 n).length = ((dg 65536 n).length + 3) / 4 := by
  by_cases h : n = 0
  · subst h; rw [dg_zero, dg_zero]; rfl
  · have hL : 0 < (dg 65536 n).length := by
      rcases Nat.eq_zero_or_pos (dg 65536 n).length with h' | h'
      · exact absurd ((dg_nil_iff (b := 65536) (by omega)).1 (List.eq_nil_of_length_eq_zero h')) h
      · exact h'
    have h0 := pow_le_of_dg_length (b := 65536) (by omega) (n := n) (k := (dg 65536 n).length - 1) (by omega)
    have h1 := lt_pow_dg_length (b := 65536) (by omega) n
    generalize (dg 65536 n).length = L at *
    have := dg_length_eq (b := 18446744073709551616) (by omega) (n := n) (k := (L - 1) / 4)
      (by rw [wb_pow]; exact Nat.le_trans (Nat.pow_le_pow_right (by omega) (by omega)) h0)
      (by rw [wb_pow]; exact Nat.lt_of_lt_of_le h1 (Nat.pow_le_pow_right (by omega) (by omega)))
    rw [this]
    omega
/-- Where the making of words out of digits stands behind i digits. -/
structure WI (ds : List Nat) (i : Nat) (o : List Nat) : Prop where
  len : o.length = (i + 3) / 4
  lt : ∀ x ∈ o, x < 18446744073709551616
  eq : val 18446744073709551616 o = val 65536 (ds.take i)
theorem WI.zero (ds : List Nat) : WI ds 0 [] := ⟨rfl, by simp, by simp [val]⟩
/-- The word that the next digit goes into is there. -/
structure WJ (ds : List Nat) (q r : Nat) (o : List Nat) : Prop where
  len : o.length = q + 1
  lt : ∀ x ∈ o, x < 18446744073709551616
  eq : val 18446744073709551616 o = val 65536 (ds.take (4 * q + r))
theorem WI.open_ {ds o : List Nat} {q : Nat} (h : WI ds (4 * q) o) : WJ ds q 0 (o ++ [0]) := by
  have hl := h.len
  refine ⟨by rw [List.length_append, hl, List.length_singleton]; omega, ?_, ?_⟩
  · intro x hx
    rcases List.mem_append.1 hx with h' | h'
    · exact h.lt x h'
    · simp at h'; omega
  · rw [val_append, h.eq]
    simp [val]
theorem WI.held {ds o : List Nat} {q r : Nat} (h : WI ds (4 * q + r) o) (hr : 0 < r) (h3 : r ≤ 3) : WJ ds q r o := by
  have hl := h.len
  exact ⟨by omega, h.lt, h.eq⟩
theorem WJ.old {ds o : List Nat} {q r : Nat} (h : WJ ds q r o) (hd : ∀ d ∈ ds, d < 65536) : o.getD q 0 < 65536 ^ r := by
  have hs := val_split_at (b := 18446744073709551616) (l := o) (i := q) (by rw [h.len]; omega)
  rw [h.eq] at hs
  have hlt := val_lt (b := 65536) (by omega) (l := ds.take (4 * q + r)) (fun d hx => hd d (List.mem_of_mem_take hx))
  have hp : (65536 : Nat) ^ (ds.take (4 * q + r)).length ≤ 65536 ^ (4 * q + r) := Nat.pow_le_pow_right (by omega) (List.length_take_le _ _)
  have hlt2 := Nat.lt_of_lt_of_le hlt hp
  rw [Nat.pow_add, ← wb_pow] at hlt2
  rcases Nat.lt_or_ge (o.getD q 0) (65536 ^ r) with h' | h'
  · exact h'
  · have h1 : 18446744073709551616 ^ q * 65536 ^ r ≤ 18446744073709551616 ^ q * (o.getD q 0 + 18446744073709551616 * val 18446744073709551616 (o.drop (q + 1))) := Nat.mul_le_mul_left _ (by omega)
    omega
theorem WJ.step {ds o : List Nat} {q r d : Nat} (h : WJ ds q r o) (hd : ∀ d ∈ ds, d < 65536) (hi : 4 * q + r < ds.length) (hx : ds.getD (4 * q + r) 0 = d) (hr : r ≤ 3) :
    WI ds (4 * q + r + 1) (o.set q (o.getD q 0 + d * 65536 ^ r)) := by
  have hold := h.old hd
  have hdl : d < 65536 := by rw [← hx, List.getD_eq_getElem?_getD, List.getElem?_eq_getElem hi]; exact hd _ (List.getElem_mem hi)
  have hnew : o.getD q 0 + d * 65536 ^ r < 18446744073709551616 := by
    have h1 : d * 65536 ^ r ≤ 65535 * 65536 ^ r := Nat.mul_le_mul_right _ (by omega)
    have h2 : (65536 : Nat) ^ (r + 1) ≤ 65536 ^ 4 := Nat.pow_le_pow_right (by omega) (by omega)
    rw [Nat.pow_succ] at h2
    omega
  have hl := h.len
  refine ⟨by rw [List.length_set, hl]; omega, ?_, ?_⟩
  · intro x hx'
    rcases List.mem_or_eq_of_mem_set hx' with h' | h'
    · exact h.lt x h'
    · rw [h']; exact hnew
  · have hs := val_set 18446744073709551616 o q (o.getD q 0 + d * 65536 ^ r) (by omega)
    rw [h.eq, Nat.add_mul, Nat.mul_assoc, wb_pow, ← Nat.pow_add] at hs
    rw [List.take_add_one, List.getElem?_eq_getElem hi, Option.toList_some, val_append, List.length_take, Nat.min_eq_left (by omega)]
    have e : ds[4 * q + r] = d := by rw [← hx, List.getD_eq_getElem?_getD, List.getElem?_eq_getElem hi]; rfl
    rw [e]
    simp only [val, Nat.mul_zero, Nat.add_zero]
    rw [Nat.add_comm r (4 * q)] at hs
    rw [Nat.mul_comm (65536 ^ (4 * q + r)) d]
    omega
theorem WI.done {n : Nat} {o : List Nat} (h : WI (dg 65536 n) (dg 65536 n).length o) : o = dg 18446744073709551616 n := by
  have e := h.eq
  rw [List.take_length, val_dg (by omega)] at e
  exact val_inj (b := 18446744073709551616) (by omega) (by rw [h.len, dg_words_len]) h.lt (dg_lt (by omega) n) (by rw [e, val_dg (by omega)])
/-- A byte goes down: V words' worth is there, r of the word's lower part is there, y of it is left. -/
theorem down_step {m : List Nat} {i k j V r y : Nat} (hm : i < m.length) (hi : i = 8 * k + j) (hv : val 256 (m.take i) = V + 18446744073709551616 ^ k * r) :
    val 256 ((m.set i (y % 256)).take (i + 1)) = V + 18446744073709551616 ^ k * (r + 256 ^ j * (y % 256)) := by
  have e1 : (m.set i (y % 256)).take i = m.take i := by rw [List.take_set_of_le (by omega)]
  have e2 : (256 : Nat) ^ i = 18446744073709551616 ^ k * 256 ^ j := by
    rw [hi, Nat.pow_add, Nat.pow_mul]
  rw [List.take_add_one, e1, List.getElem?_set_self hm, Option.toList_some, val_append, List.length_take, Nat.min_eq_left (by omega), hv, e2]
  simp only [val, Nat.mul_zero, Nat.add_zero]
  rw [Nat.mul_add, Nat.mul_assoc, Nat.add_assoc]
theorem down_left {x y r j : Nat} (h : x = y * 256 ^ j + r) : x = y / 256 * 256 ^ (j + 1) + (r + 256 ^ j * (y % 256)) := by
  have hy := Nat.div_add_mod y 256
  have e : y * 256 ^ j = (256 * (y / 256)) * 256 ^ j + (y % 256) * 256 ^ j := by rw [← Nat.add_mul, hy]
  rw [h, e, Nat.pow_succ, Nat.mul_comm (256 ^ j) (y % 256), Nat.mul_comm 256 (y / 256), Nat.mul_assoc, Nat.mul_comm 256 (256 ^ j)]
  omega
end Go.Dig
namespace Go.Proofs.YtocahcammjoffaaGreatDoor
open Go.RowKit Go.Dig
set_option maxRecDepth 100000
theorem cs_set_list (k : IntKind) (ds : List Nat) (i d : Nat) : (cs k ds).set i (.int k (d : Int)) = cs k (ds.set i d) := by simp [cs]
/-- A cell of a row of the call's own, and the row behind a store into it. -/
theorem own_at {w : World} {base e : Nat} {k : IntKind} {v : Value} {ds : List Nat} (h : w.ownsRow base e 1 v ds.length (cs k ds)) {i : Nat} (hi : i < ds.length) :
    ∃ g cap, v = .slice (some ⟨g, 0, none⟩) ds.length cap ∧ base ≤ g ∧ w.cell? ⟨g, i, none⟩ = some (.int k (ds.getD i 0 : Nat)) ∧ w.frozen? ⟨g, i, none⟩ = false ∧
      ∀ d : Nat, (w.setCell ⟨g, i, none⟩ (.int k (d : Int))).ownsRow base e 1 v (ds.set i d).length (cs k (ds.set i d)) := by
  obtain ⟨hl, h⟩ := h
  rcases h with ⟨rfl, h0⟩ | ⟨g, cap, cur, rfl, hg, hh, hnc, hcm, hcs, htk⟩
  · omega
  · have hB : Blk w g cur e := hh
    rw [Nat.mul_one] at htk hcs
    have hc : cur[i]? = some (.int k (ds.getD i 0 : Nat)) := by
      have e2 : cur[i]? = (cs k ds)[i]? := by
        rw [← htk, List.getElem?_take_of_lt hi]; simp
      rw [e2]
      simp [cs, List.getElem?_eq_getElem hi]
    refine ⟨g, cap, rfl, hg, (hB.cell i).trans hc, hB.frozen i, fun d => ⟨by rw [cs_length, Nat.mul_one], .inr ⟨g, cap, cur.setIfInBounds i (.int k (d : Int)), by rw [List.length_set], hg, hB.set i _, by rw [List.length_set]; exact hnc, hcm, by rw [Array.size_setIfInBounds]; omega, ?_⟩⟩⟩
    rw [Nat.mul_one, List.length_set, ← cs_set_list, ← htk, Array.toList_setIfInBounds, List.take_set]
/-- A word gets its next digit. -/
theorem or_digit {old d r : Nat} (h : old < 65536 ^ r) (hd : d < 65536) (hr : r ≤ 3) : bits .or .u64 (old : Int) (IntKind.u64.wrap ((d : Int) * 65536 ^ r)) = ((old + d * 65536 ^ r : Nat) : Int) := by
  have e0 : (65536 : Nat) ^ r = 2 ^ (16 * r) := by rw [Nat.pow_mul]
  have h1 : (65536 : Nat) ^ r ≤ 65536 ^ 3 := Nat.pow_le_pow_right (by omega) hr
  have h2 : d * 65536 ^ r ≤ 65535 * 65536 ^ 3 := Nat.mul_le_mul (by omega) h1
  have e : IntKind.u64.wrap ((d : Int) * 65536 ^ r) = ((d * 65536 ^ r : Nat) : Int) := by
    rw [IntKind.wrap_u64, show ((d : Int) * 65536 ^ r) = ((d * 65536 ^ r : Nat) : Int) by simp]
    omega
  rw [e, bits_or_u64_nat old (d * 65536 ^ r) (by omega) (by omega)]
  congr 1
  rw [e0] at h ⊢
  rw [← Nat.shiftLeft_eq, Nat.or_comm, ← Nat.shiftLeft_add_eq_or_of_lt h, Nat.add_comm]
theorem neq_ptr_same {P : Program} (w : World) {tp te : TypeId} {j : TypeInfo} (a : Addr) (hp : P.underlying tp = some (.pointer te)) (hte : P.info? te = some j) :
    (binOp .neq tp (.pointer (some a)) (.pointer (some a))).run P w = .ok (.bool false) w := by
  have h : ∀ d : Nat, (Op.equalIn (d + 1) tp (.pointer (some a)) (.pointer (some a))).run P w = .ok true w := fun d => by
    simp [Op.equalIn, run_underlying hp, sizeOf, typeInfo, hte, run_sameAddr_same]
  simp only [binOp]
  simp [Op.equal, Op.maxDepth, h 9999]
theorem neq_ptr_other {P : Program} (w : World) {tp te : TypeId} {j : TypeInfo} {a b : Addr} {ca cb : Array Value} {ta tb : TypeId} (hp : P.underlying tp = some (.pointer te)) (hte : P.info? te = some j) (hsz : j.size ≠ 0)
    (hne : a ≠ b) (ha : w.heap[a.block]? = some (.cells ca ta (0, 0))) (hb : w.heap[b.block]? = some (.cells cb tb (0, 0))) :
    (binOp .neq tp (.pointer (some a)) (.pointer (some b))).run P w = .ok (.bool true) w := by
  have h : ∀ d : Nat, (Op.equalIn (d + 1) tp (.pointer (some a)) (.pointer (some b))).run P w = .ok false w := fun d => by
    simp [Op.equalIn, run_underlying hp, sizeOf, typeInfo, hte, hsz, run_sameAddr_other w hne ha hb]
  simp only [binOp]
  simp [Op.equal, Op.maxDepth, h 9999]
end Go.Proofs.YtocahcammjoffaaGreatDoor
namespace Go.Proofs.YtocahcammjoffaaGreatDoor
open Go.RowKit Go.Dig
set_option maxRecDepth 100000
/-- 'append([]T(nil), xs...)', one cell each: a row of the call's own that reads as xs did. -/
theorem appN {P : Program} {ops : Array Oper} {rest : List Oper} {o : Oper} {a : Act} {Q : Exit → Act → World → Prop} {w : World} (hgd : o.guard = none) (s x : Operand) (t e : TypeId)
    (ho : o.op = .call { callee := .builtin .append, args := #[s, x], argTypes := #[t, t] }) (k : IntKind) (bytes : Nat) (ht : P.underlying t = some (.slice e))
    (hinfo : (P.info? e).map (fun i => (i.zero, i.size, i.bytes)) = some (some (.int k 0), 1, bytes)) (hby : bytes ≤ 8)
    (vx : Value) (ds : List Nat) (hs : a.eval s = .slice none 0 0) (hx : a.eval x = vx) (hr : Rd k w vx ds) (hlen : ds.length < 1000000000)
    (h : ∀ v' w', Rt e k w' v' ds → Below w.heap.size w w' → (v' = .slice none 0 0 ∨ ∃ p c, v' = .slice (some p) ds.length c) → wpList P ops Q rest (a.put o.dst v') w')
    (hform : vx = .slice none 0 0 ∨ ∃ p c, vx = .slice (some p) ds.length c) :
    wpList P ops Q (o :: rest) a w := by
  obtain ⟨i0, hi, hz0, hz1, hz2⟩ := info_parts hinfo
  have hn : w.ownsRow w.heap.size e 1 (.slice none 0 0) 0 [] := World.ownsRow_nil _ _ _ _
  rcases hform with rfl | ⟨p, c, rfl⟩
  · obtain ⟨a0, c0, e0, _⟩ := hr
    simp only [Value.slice.injEq] at e0
    obtain ⟨_, e1, _⟩ := e0
    have : ds = [] := List.eq_nil_of_length_eq_zero e1.symm
    subst this
    exact wpList_append_own_none hgd s x t ho w.heap.size e i0 1 ht hi (.slice none 0 0) 0 [] hs hn hx (h _ _ (Rt.nil _ _ _) (Below.refl _ _) (.inl rfl))
  · obtain ⟨a0, c0, e0, h1, h2, h3⟩ := hr
    simp only [Value.slice.injEq] at e0
    obtain ⟨rfl, _, rfl⟩ := e0
    refine wpList_append_own _ hgd s x t ho w.heap.size e i0 (.int k 0) 1 bytes ht hi hz0 hz1 hz2 rfl (by decide) (.slice none 0 0) 0 [] hs hn p ds.length c (cs k ds) hx (by rw [cs_length, Nat.mul_one]) ?_ ?_ ?_ ?_ (Nat.le_refl _) ?_
    · intro j u hu
      have hj : j < ds.length := by
        have := (List.getElem?_eq_some_iff.1 hu).1
        rwa [cs_length] at this
      obtain ⟨b, off, e1, hc⟩ := h3 (by omega)
      simp only [Option.some.injEq] at e1
      subst e1
      rw [Addr.add_lit, hc j hj, ← hu]
      simp [cs, List.getElem?_eq_getElem hj]
    · intro u hu
      obtain ⟨d, _, rfl⟩ := List.mem_map.1 hu
      rfl
    · unfold maxLen; omega
    · calc (0 + ds.length) * bytes ≤ 1000000000 * 8 := Nat.mul_le_mul (by omega) hby
        _ ≤ _ := by omega
    · intro v' w' g1 g2 g3
      rw [List.nil_append, Nat.zero_add] at g1
      refine h v' w' (own_rd g1) ((Below.refl _ _).grown g2 (Nat.le_refl _) (fun k hk => by cases hk)) ?_
      rcases g1.2 with ⟨h0, _⟩ | ⟨g, cap, cur, rfl, _⟩
      · exact .inl h0
      · exact .inr ⟨_, cap, rfl⟩
end Go.Proofs.YtocahcammjoffaaGreatDoor
namespace Go.Proofs.YtocahcammjoffaaGreatDoor
open Go.RowKit
set_option maxRecDepth 100000
theorem tb_2_2 (w : World) (v : Value) : (Instr.typeAssert (.iface 2 v) 20 2 true).run Tryz.prog w = .ok (.tuple #[v, .bool true]) w := by kernel_rfl
theorem tb_2_4 (w : World) (v : Value) : (Instr.typeAssert (.iface 2 v) 20 4 true).run Tryz.prog w = .ok (.tuple #[.bool false, .bool false]) w := by kernel_rfl
theorem tb_2_9 (w : World) (v : Value) : (Instr.typeAssert (.iface 2 v) 20 9 true).run Tryz.prog w = .ok (.tuple #[.string (ByteArray.mk #[]), .bool false]) w := by kernel_rfl
theorem tb_2_120 (w : World) (v : Value) : (Instr.typeAssert (.iface 2 v) 20 120 true).run Tryz.prog w = .ok (.tuple #[.pointer none, .bool false]) w := by kernel_rfl
theorem tb_2_130 (w : World) (v : Value) : (Instr.typeAssert (.iface 2 v) 20 130 true).run Tryz.prog w = .ok (.tuple #[.pointer none, .bool false]) w := by kernel_rfl
theorem tb_2_126 (w : World) (v : Value) : (Instr.typeAssert (.iface 2 v) 20 126 true).run Tryz.prog w = .ok (.tuple #[.pointer none, .bool false]) w := by kernel_rfl
theorem tb_120_2 (w : World) (v : Value) : (Instr.typeAssert (.iface 120 v) 20 2 true).run Tryz.prog w = .ok (.tuple #[.int .i64 0, .bool false]) w := by kernel_rfl
theorem tb_120_4 (w : World) (v : Value) : (Instr.typeAssert (.iface 120 v) 20 4 true).run Tryz.prog w = .ok (.tuple #[.bool false, .bool false]) w := by kernel_rfl
theorem tb_120_9 (w : World) (v : Value) : (Instr.typeAssert (.iface 120 v) 20 9 true).run Tryz.prog w = .ok (.tuple #[.string (ByteArray.mk #[]), .bool false]) w := by kernel_rfl
theorem tb_120_120 (w : World) (v : Value) : (Instr.typeAssert (.iface 120 v) 20 120 true).run Tryz.prog w = .ok (.tuple #[v, .bool true]) w := by kernel_rfl
theorem tb_120_130 (w : World) (v : Value) : (Instr.typeAssert (.iface 120 v) 20 130 true).run Tryz.prog w = .ok (.tuple #[.pointer none, .bool false]) w := by kernel_rfl
theorem tb_120_126 (w : World) (v : Value) : (Instr.typeAssert (.iface 120 v) 20 126 true).run Tryz.prog w = .ok (.tuple #[.pointer none, .bool false]) w := by kernel_rfl
theorem tb_130_2 (w : World) (v : Value) : (Instr.typeAssert (.iface 130 v) 20 2 true).run Tryz.prog w = .ok (.tuple #[.int .i64 0, .bool false]) w := by kernel_rfl
theorem tb_130_4 (w : World) (v : Value) : (Instr.typeAssert (.iface 130 v) 20 4 true).run Tryz.prog w = .ok (.tuple #[.bool false, .bool false]) w := by kernel_rfl
theorem tb_130_9 (w : World) (v : Value) : (Instr.typeAssert (.iface 130 v) 20 9 true).run Tryz.prog w = .ok (.tuple #[.string (ByteArray.mk #[]), .bool false]) w := by kernel_rfl
theorem tb_130_120 (w : World) (v : Value) : (Instr.typeAssert (.iface 130 v) 20 120 true).run Tryz.prog w = .ok (.tuple #[.pointer none, .bool false]) w := by kernel_rfl
theorem tb_130_130 (w : World) (v : Value) : (Instr.typeAssert (.iface 130 v) 20 130 true).run Tryz.prog w = .ok (.tuple #[v, .bool true]) w := by kernel_rfl
theorem tb_130_126 (w : World) (v : Value) : (Instr.typeAssert (.iface 130 v) 20 126 true).run Tryz.prog w = .ok (.tuple #[.pointer none, .bool false]) w := by kernel_rfl
end Go.Proofs.YtocahcammjoffaaGreatDoor
namespace Go.Proofs.YtocahcammjoffaaGreatDoor
open Go.RowKit Go.Dig
set_option maxRecDepth 100000
theorem iv_same {w w' : World} {bz k : Nat} {v : Value} (h : Zh w bz v k w') : Iv (w'.setCell ⟨bz, 0, none⟩ (.bool false)) bz false k :=
  ⟨v, by simpa using h.1.set 0 (.bool false), h.2.1.set (p := ⟨bz, 0, none⟩) _ h.1.shape (by decide)⟩
set_option maxHeartbeats 400000 in
theorem setBits_any (bz : Nat) (va : Value) (ds : List Nat) (w : World) (hz : Blk w bz #[.bool false, .slice none 0 0] 203) (ha : Rt 158 .u64 w va ds) (hd : ∀ d ∈ ds, d < 18446744073709551616) :
    Calls Tryz.prog 121 #[.pointer (some ⟨bz, 0, none⟩), va] w fun e w' => e = .returned (.pointer (some ⟨bz, 0, none⟩)) ∧ Iv w' bz false (val 18446744073709551616 ds) ∧ Below bz w w' := by
  have HZ := hid hz
  have HA := hid ha
  obtain ⟨a, c, rfl⟩ := ha.shape
  have hz0 := hz.cell 0
  have hz1 := hz.cell 1
  simp only [List.getElem?_toArray, List.getElem?_cons_zero, List.getElem?_cons_succ] at hz0 hz1
  have f0 := hz.frozen 0
  have f1 := hz.frozen 1
  clear hz ha
  go_enter Tryz.func121, Tryz.ntmps121
  go_wp2_with fail
  refine (norm_any _ ds w HA.out).mono ?_
  rintro e w' ⟨v, rfl, hv, rfl⟩
  rw [trim_eq (b := 18446744073709551616) (by omega) hd] at hv
  obtain ⟨az, L, cz, rfl, HL⟩ := nw_shape hv
  have HV := hid hv
  clear hv
  go_wp2_with fail
  go_ret
  have hZ := zh_of (w1 := w') HZ.out (Below.refl _ _) HV.out
  exact ⟨rfl, iv_same hZ, hZ.2.2.setCell (p := ⟨bz, 0, none⟩) (Nat.le_refl _) _⟩
end Go.Proofs.YtocahcammjoffaaGreatDoor
namespace Go.Proofs.YtocahcammjoffaaGreatDoor
open Go.RowKit
set_option maxRecDepth 100000
theorem f64bits_any (b : Nat) (w : World) : (callFunc 57 #[.float .f64 b]).run Tryz.prog w = .ok (.value (.int .u64 b)) w := by
  rw [run_callFunc_extern Tryz.func57 (by kernel_rfl) (by kernel_rfl) (by kernel_rfl) (e := Go.Extern.MathFloatBits.float64bits) (by kernel_rfl)]
  rfl
theorem f32bits_any (b : Nat) (w : World) : (callFunc 59 #[.float .f32 b]).run Tryz.prog w = .ok (.value (.int .u32 b)) w := by
  rw [run_callFunc_extern Tryz.func59 (by kernel_rfl) (by kernel_rfl) (by kernel_rfl) (e := Go.Extern.MathFloatBits.float32bits) (by kernel_rfl)]
  rfl
/-- No value: the zero of the plain values. -/
abbrev noneV : Value := .agg #[.int .i64 0, .bool false, .string (ByteArray.mk #[]), .bool false, .slice none 0 0, .slice none 0 0, .bool false, .slice none 0 0, .slice none 0 0]
/-- The unknown value. -/
abbrev unkV : Value := .iface 137 (.agg #[])
set_option maxHeartbeats 400000 in
theorem mkUnknown (w : World) : Calls Tryz.prog 101 #[] w fun e w' => e = .returned unkV ∧ w = w' := by
  go_enter Tryz.func101, Tryz.ntmps101
  go_wp2_with fail
  go_ret
  exact ⟨rfl, rfl⟩
set_option maxHeartbeats 400000 in
theorem whole_none (w : World) : Calls Tryz.prog 56 #[noneV] w fun e w' => e = .returned unkV ∧ Below w.heap.size w w' := by
  go_enter Tryz.func56, Tryz.ntmps56
  go_wp2_with (go_at_call 101; refine (mkUnknown _).mono ?_; rintro e w' ⟨rfl, rfl⟩)
  go_ret
  exact ⟨rfl, (Below.refl _ _).alloc (Nat.le_refl _) _⟩
set_option maxHeartbeats 400000 in
theorem text_none (w : World) : Calls Tryz.prog 89 #[noneV] w fun e w' => e = .returned unkV ∧ Below w.heap.size w w' := by
  go_enter Tryz.func89, Tryz.ntmps89
  go_wp2_with (go_at_call 101; refine (mkUnknown _).mono ?_; rintro e w' ⟨rfl, rfl⟩)
  go_ret
  exact ⟨rfl, (Below.refl _ _).alloc (Nat.le_refl _) _⟩
set_option maxHeartbeats 400000 in
theorem int64Val_unk (w : World) : Calls Tryz.prog 76 #[unkV] w fun e w' => e = .returned (.tuple #[.int .i64 0, .bool false]) ∧ Below w.heap.size w w' := by
  have h1 := ta_137_119
  have h2 := ta_137_122
  have h3 := ta_137_137
  go_enter Tryz.func76, Tryz.ntmps76
  go_wp2_with fail
  go_ret2
  exact ⟨rfl, (Below.refl _ _).alloc (Nat.le_refl _) _⟩
set_option maxHeartbeats 400000 in
theorem uint64Val_unk (w : World) : Calls Tryz.prog 86 #[unkV] w fun e w' => e = .returned (.tuple #[.int .u64 0, .bool false]) ∧ Below w.heap.size w w' := by
  have h1 := ta_137_119
  have h2 := ta_137_122
  have h3 := ta_137_137
  go_enter Tryz.func86, Tryz.ntmps86
  go_wp2_with fail
  go_ret2
  exact ⟨rfl, (Below.refl _ _).alloc (Nat.le_refl _) _⟩
set_option maxHeartbeats 400000 in
theorem float64Val_unk (w : World) : Calls Tryz.prog 55 #[unkV] w fun e w' => e = .returned (.tuple #[.float .f64 0, .bool false]) ∧ Below w.heap.size w w' := by
  have h1 := ta_137_119
  have h2 := ta_137_122
  have h3 := ta_137_132
  have h4 := ta_137_135
  have h5 := ta_137_137
  go_enter Tryz.func55, Tryz.ntmps55
  go_wp2_with fail
  go_ret2
  exact ⟨rfl, (Below.refl _ _).alloc (Nat.le_refl _) _⟩
set_option maxHeartbeats 400000 in
theorem float32Val_unk (w : World) : Calls Tryz.prog 58 #[unkV] w fun e w' => e = .returned (.tuple #[.float .f32 0, .bool false]) ∧ Below w.heap.size w w' := by
  have h1 := ta_137_119
  have h2 := ta_137_122
  have h3 := ta_137_132
  have h4 := ta_137_135
  have h5 := ta_137_137
  go_enter Tryz.func58, Tryz.ntmps58
  go_wp2_with fail
  go_ret2
  exact ⟨rfl, (Below.refl _ _).alloc (Nat.le_refl _) _⟩
set_option maxHeartbeats 400000 in
theorem bitLen_unk (w : World) : Calls Tryz.prog 87 #[unkV] w fun e w' => e = .returned (.int .i64 0) ∧ Below w.heap.size w w' := by
  have h1 := ta_137_119
  have h2 := ta_137_122
  have h5 := ta_137_137
  go_enter Tryz.func87, Tryz.ntmps87
  go_wp2_with fail
  go_ret
  exact ⟨rfl, (Below.refl _ _).alloc (Nat.le_refl _) _⟩
set_option maxHeartbeats 400000 in
theorem stringLen_unk (w : World) : Calls Tryz.prog 88 #[unkV] w fun e w' => e = .returned (.int .i64 0) ∧ Below w.heap.size w w' := by
  have h1 := ta_137_180
  have h5 := ta_137_137
  go_enter Tryz.func88, Tryz.ntmps88
  go_wp2_with fail
  go_ret
  exact ⟨rfl, (Below.refl _ _).alloc (Nat.le_refl _) _⟩
set_option maxHeartbeats 400000 in
theorem sign_unk (w : World) : Calls Tryz.prog 90 #[unkV] w fun e w' => e = .returned (.int .i64 1) ∧ Below w.heap.size w w' := by
  have h1 := ta_137_119
  have h2 := ta_137_122
  have h3 := ta_137_132
  have h4 := ta_137_135
  have h5 := ta_137_178
  have h6 := ta_137_137
  go_enter Tryz.func90, Tryz.ntmps90
  go_wp2_with fail
  go_ret
  exact ⟨rfl, (Below.refl _ _).alloc (Nat.le_refl _) _⟩
set_option maxHeartbeats 400000 in
theorem iInt64_none (w : World) : Calls Tryz.prog 44 #[noneV] w fun e w' => e = .returned (.tuple #[.int .i64 0, .bool false]) ∧ Below w.heap.size w w' := by
  go_enter Tryz.func44, Tryz.ntmps44
  go_wp2_with fail
  refine (whole_none _).mono ?_
  rintro e w1 ⟨rfl, hb1⟩
  have HB := hid hb1
  clear hb1
  go_wp2_with fail
  refine (int64Val_unk _).mono ?_
  rintro e w2 ⟨rfl, hb2⟩
  have HB2 := hid (HB.out.trans (hb2.mono HB.out.size))
  clear hb2
  go_wp2_with fail
  go_ret2
  exact ⟨rfl, below_over HB2.out⟩
set_option maxHeartbeats 400000 in
theorem iUint64_none (w : World) : Calls Tryz.prog 45 #[noneV] w fun e w' => e = .returned (.tuple #[.int .u64 0, .bool false]) ∧ Below w.heap.size w w' := by
  go_enter Tryz.func45, Tryz.ntmps45
  go_wp2_with fail
  refine (whole_none _).mono ?_
  rintro e w1 ⟨rfl, hb1⟩
  have HB := hid hb1
  clear hb1
  go_wp2_with fail
  refine (uint64Val_unk _).mono ?_
  rintro e w2 ⟨rfl, hb2⟩
  have HB2 := hid (HB.out.trans (hb2.mono HB.out.size))
  clear hb2
  go_wp2_with fail
  go_ret2
  exact ⟨rfl, below_over HB2.out⟩
set_option maxHeartbeats 400000 in
theorem iBitLen_none (w : World) : Calls Tryz.prog 46 #[noneV] w fun e w' => e = .returned (.int .i64 0) ∧ Below w.heap.size w w' := by
  go_enter Tryz.func46, Tryz.ntmps46
  go_wp2_with fail
  refine (whole_none _).mono ?_
  rintro e w1 ⟨rfl, hb1⟩
  have HB := hid hb1
  clear hb1
  go_wp2_with fail
  refine (bitLen_unk _).mono ?_
  rintro e w2 ⟨rfl, hb2⟩
  have HB2 := hid (HB.out.trans (hb2.mono HB.out.size))
  clear hb2
  go_wp2_with fail
  go_ret
  exact ⟨rfl, below_over HB2.out⟩
set_option maxHeartbeats 400000 in
theorem iStringLen_none (w : World) : Calls Tryz.prog 47 #[noneV] w fun e w' => e = .returned (.int .i64 0) ∧ Below w.heap.size w w' := by
  go_enter Tryz.func47, Tryz.ntmps47
  go_wp2_with fail
  refine (text_none _).mono ?_
  rintro e w1 ⟨rfl, hb1⟩
  have HB := hid hb1
  clear hb1
  go_wp2_with fail
  refine (stringLen_unk _).mono ?_
  rintro e w2 ⟨rfl, hb2⟩
  have HB2 := hid (HB.out.trans (hb2.mono HB.out.size))
  clear hb2
  go_wp2_with fail
  go_ret
  exact ⟨rfl, below_over HB2.out⟩
set_option maxHeartbeats 400000 in
theorem iSign_none (w : World) : Calls Tryz.prog 48 #[noneV] w fun e w' => e = .returned (.int .i64 1) ∧ Below w.heap.size w w' := by
  go_enter Tryz.func48, Tryz.ntmps48
  go_wp2_with fail
  refine (whole_none _).mono ?_
  rintro e w1 ⟨rfl, hb1⟩
  have HB := hid hb1
  clear hb1
  go_wp2_with fail
  refine (sign_unk _).mono ?_
  rintro e w2 ⟨rfl, hb2⟩
  have HB2 := hid (HB.out.trans (hb2.mono HB.out.size))
  clear hb2
  go_wp2_with fail
  go_ret
  exact ⟨rfl, below_over HB2.out⟩
set_option maxHeartbeats 400000 in
theorem iFloat64_none (w : World) : Calls Tryz.prog 23 #[noneV] w fun e w' => e = .returned (.tuple #[.int .u64 0, .bool false]) ∧ Below w.heap.size w w' := by
  have hfb := f64bits_any 0
  go_enter Tryz.func23, Tryz.ntmps23
  go_wp2_with fail
  refine (whole_none _).mono ?_
  rintro e w1 ⟨rfl, hb1⟩
  have HB := hid hb1
  clear hb1
  go_wp2_with fail
  refine (float64Val_unk _).mono ?_
  rintro e w2 ⟨rfl, hb2⟩
  have HB2 := hid (HB.out.trans (hb2.mono HB.out.size))
  clear hb2
  go_wp2_with fail
  go_ret2
  exact ⟨rfl, below_over HB2.out⟩
set_option maxHeartbeats 400000 in
theorem iFloat32_none (w : World) : Calls Tryz.prog 24 #[noneV] w fun e w' => e = .returned (.tuple #[.int .u32 0, .bool false]) ∧ Below w.heap.size w w' := by
  have hfb := f32bits_any 0
  go_enter Tryz.func24, Tryz.ntmps24
  go_wp2_with fail
  refine (whole_none _).mono ?_
  rintro e w1 ⟨rfl, hb1⟩
  have HB := hid hb1
  clear hb1
  go_wp2_with fail
  refine (float32Val_unk _).mono ?_
  rintro e w2 ⟨rfl, hb2⟩
  have HB2 := hid (HB.out.trans (hb2.mono HB.out.size))
  clear hb2
  go_wp2_with fail
  go_ret2
  exact ⟨rfl, below_over HB2.out⟩
end Go.Proofs.YtocahcammjoffaaGreatDoor
namespace Go.Proofs.YtocahcammjoffaaGreatDoor
open Go.RowKit Go.Dig
set_option maxRecDepth 100000
set_option maxHeartbeats 400000 in
/-- Int.Sign: 0, or 1 with the sign. -/
theorem intSign_any (b : Nat) (s : Bool) (n : Nat) (w : World) (h : Iv w b s n) : Calls Tryz.prog 162 #[.pointer (some ⟨b, 0, none⟩)] w fun e w' => ∃ x, e = .returned (.int .i64 x) ∧ Hid (x < 0 ↔ sgn s n < 0) ∧ w = w' := by
  obtain ⟨v, hB, hN⟩ := h
  obtain ⟨a, L, c, rfl, HL⟩ := nw_shape hN
  have hc0 := hB.cell 0
  have hc1 := hB.cell 1
  simp only [List.getElem?_toArray, List.getElem?_cons_zero, List.getElem?_cons_succ] at hc0 hc1
  clear hN hB
  rcases Nat.eq_zero_or_pos n with hn | hn
  · subst hn
    have hL : L = 0 := by rw [HL.out, dg_zero]; rfl
    subst hL
    go_enter Tryz.func162, Tryz.ntmps162
    go_wp2_with fail
    go_ret
    exact ⟨_, rfl, hid (by cases s <;> simp [sgn]), rfl⟩
  · have hL : 0 < L := by rw [HL.out]; exact len_pos (by omega)
    have hL' : ((L : Int) == 0) = false := by simp; omega
    clear HL
    cases s
    · go_enter Tryz.func162, Tryz.ntmps162
      go_wp2_with fail
      go_ret
      exact ⟨_, rfl, hid (by simp [sgn]), rfl⟩
    · go_enter Tryz.func162, Tryz.ntmps162
      go_wp2_with fail
      go_ret
      exact ⟨_, rfl, hid (by simp [sgn]; omega), rfl⟩
set_option maxHeartbeats 400000 in
theorem intBits_any (b : Nat) (v : Value) (w : World) (hc1 : w.cell? ⟨b, 1, none⟩ = some v) : Calls Tryz.prog 123 #[.pointer (some ⟨b, 0, none⟩)] w fun e w' => e = .returned v ∧ w = w' := by
  go_enter Tryz.func123, Tryz.ntmps123
  go_wp2_with fail
  go_ret
  exact ⟨rfl, rfl⟩
theorem info44 : (Tryz.prog.info? 44).map (fun i => (i.zero, i.size, i.bytes)) = some (some (.int .u64 0), 1, 8) := by kernel_rfl
set_option maxHeartbeats 400000 in
/-- The words of an Int as plain words. -/
theorem plain_any (b : Nat) (s : Bool) (n : Nat) (w : World) (h : Iv w b s n) (hlen : (dg 18446744073709551616 n).length ≤ 100000) : Calls Tryz.prog 190 #[.pointer (some ⟨b, 0, none⟩)] w fun e w' => ∃ v, e = .returned v ∧ Rt 44 .u64 w' v (dg 18446744073709551616 n) ∧ Below w.heap.size w w' := by
  obtain ⟨v, hB, hN⟩ := h
  have hc1 := hB.cell 1
  simp only [List.getElem?_toArray, List.getElem?_cons_zero, List.getElem?_cons_succ] at hc1
  clear hB
  obtain ⟨a, cap, rfl, hcl, hcm, hcc⟩ := hN
  have HC := hid hcc
  clear hcc
  generalize hds : dg 18446744073709551616 n = ds at *
  have HDS := hid hds
  clear hds
  go_enter Tryz.func190, Tryz.ntmps190
  go_wp2_with (go_at_call 123; refine (intBits_any _ _ _ hc1).mono ?_; rintro e w' ⟨rfl, rfl⟩)
  go_loopw [3, 9] (fun v x wr => ∃ (u : Value) (os : List Nat) (j : Nat), u = v ∧ x = .int .i64 j ∧ j ≤ ds.length ∧ wr.ownsRow w.heap.size 44 1 u os.length (cs .u64 os) ∧ Hid (os = ds.take j) ∧ Below w.heap.size w wr) (fun _ x _ => ds.length - (intOf x).toNat)
  case atStart => exact ⟨_, [], 0, rfl, rfl, by omega, World.ownsRow_nil _ _ _ _, hid rfl, Below.refl _ _⟩
  case round =>
    obtain ⟨u, os, j, rfl, rfl, hj, hown, ho, hb⟩ := hrel
    have hbs := hb.size
    have hlo : os.length = j := by rw [ho.out, List.length_take]; omega
    have HLO := hid hlo
    clear hlo
    rcases Nat.lt_or_ge j ds.length with h0 | h0
    · obtain ⟨b2, off, rfl, _, hb2⟩ := HC.out (by omega)
      have hk := hb2 j (by omega)
      clear hb2
      have hk2 := (hb.cell (World.block_lt_of_cell? w _ hk)).trans hk
      clear hk
      generalize hg : ds.getD j 0 = x at hk2
      have HG := hid hg
      clear hg
      have hol : os.length < 1000000000 := by rw [HLO.out]; omega
      go_wp2_with (at_builtin; refine app1 rfl _ _ 22 44 rfl .u64 8 Tryz.underlying22 info44 (by decide) w.heap.size w u os _ x rfl rfl rfl hown hb (by omega) hol ?_; intro v' w' hown2 hb2 _)
      go_roundw
      case rel =>
        refine ⟨_, os ++ [x], j + 1, rfl, by go_num, by omega, hown2, hid ?_, hb2⟩
        rw [ho.out, ← HG.out, List.take_add_one, List.getElem?_eq_getElem h0, List.getD_eq_getElem?_getD, List.getElem?_eq_getElem h0]
        rfl
      case measure => simp [intOf]; omega
    · obtain rfl : j = ds.length := by omega
      have hR := own_rd hown
      rw [ho.out, List.take_length] at hR
      go_wp2_with fail
      go_ret
      exact ⟨_, rfl, hR, hb⟩
end Go.Proofs.YtocahcammjoffaaGreatDoor
namespace Go.Proofs.YtocahcammjoffaaGreatDoor
open Go.RowKit Go.Dig
set_option maxRecDepth 100000
set_option maxHeartbeats 400000 in
/-- nat.setWord onto nothing. -/
theorem setWord_nil (x : Nat) (w : World) (hx : x < 18446744073709551616) : Calls Tryz.prog 222 #[.slice none 0 0, .int .u64 x] w fun e w' => ∃ v, e = .returned v ∧ Nw w' v x ∧ Below w.heap.size w w' := by
  rcases Nat.eq_zero_or_pos x with h | h
  · subst h
    go_enter Tryz.func222, Tryz.ntmps222
    go_wp2_with fail
    go_ret
    exact ⟨_, rfl, by rw [Nw, dg_zero]; exact Rt.nil _ _ _, Below.refl _ _⟩
  · have hx0 : ((x : Int) == 0) = false := by simp; omega
    go_enter Tryz.func222, Tryz.ntmps222
    go_wp2_with fail
    refine (natMake_one _).mono ?_
    rintro e w' ⟨rfl, rfl⟩
    have hB : BlkN .u64 158 (w.alloc (.cells (cs .u64 [0]).toArray 158)) w.heap.size [0] := blk_new w _ 158
    have hb : Below w.heap.size w (w.alloc (.cells (cs .u64 [0]).toArray 158)) := (Below.refl _ _).alloc (Nat.le_refl _) _
    have HB := hid hB
    have Hb := hid hb
    have hc := hB.at (i := 0) (by simp)
    have hf := Blk.frozen hB 0
    clear hB hb
    generalize w.alloc (.cells (cs .u64 [0]).toArray 158) = w1 at *
    go_wp2_with fail
    go_ret
    have hB2 := HB.out.put 0 x
    have hr := BlkN.rt hB2 (cap := 1) (by simp) (by omega)
    refine ⟨_, rfl, ?_, Hb.out.setCell (Nat.le_refl _) _⟩
    rw [Nw, dg_one h hx]
    exact hr
set_option maxHeartbeats 400000 in
theorem setUint64_nil (x : Nat) (w : World) (hx : x < 18446744073709551616) : Calls Tryz.prog 200 #[.slice none 0 0, .int .u64 x] w fun e w' => ∃ v, e = .returned v ∧ Nw w' v x ∧ Below w.heap.size w w' := by
  go_enter Tryz.func200, Tryz.ntmps200
  go_wp2_with fail
  refine (setWord_nil x _ hx).mono ?_
  rintro e w' ⟨v, rfl, hv, hb⟩
  go_wp2_with fail
  go_ret
  exact ⟨_, rfl, hv, hb⟩
/-- A number of 64 bits behind a pointer. -/
theorem zh_iv {w w' : World} {bz k : Nat} {v : Value} (h : Zh w bz v k w') (s : Bool) : Iv (w'.setCell ⟨bz, 0, none⟩ (.bool s)) bz s k :=
  ⟨v, by simpa using h.1.set 0 (.bool s), h.2.1.set (p := ⟨bz, 0, none⟩) _ h.1.shape (by decide)⟩
set_option maxHeartbeats 400000 in
theorem setInt64_new (bz : Nat) (x : Int) (w : World) (h0 : -9223372036854775808 ≤ x) (h1 : x ≤ 9223372036854775807) (hz : Blk w bz #[.bool false, .slice none 0 0] 203) :
    Calls Tryz.prog 188 #[.pointer (some ⟨bz, 0, none⟩), .int .i64 x] w fun e w' => e = .returned (.pointer (some ⟨bz, 0, none⟩)) ∧ Iv w' bz (decide (x < 0)) x.natAbs ∧ Below bz w w' := by
  have HZ := hid hz
  have hz1 := hz.cell 1
  simp only [List.getElem?_toArray, List.getElem?_cons_zero, List.getElem?_cons_succ] at hz1
  have f0 := hz.frozen 0
  have f1 := hz.frozen 1
  clear hz
  rcases Int.lt_or_le x 0 with hx | hx
  · obtain ⟨n, rfl⟩ : ∃ n : Nat, x = -(n : Int) := ⟨x.natAbs, by omega⟩
    have hw : IntKind.u64.wrap (wrap64 (n : Int)) = (n : Int) := by rw [IntKind.wrap_u64]; unfold wrap64; omega
    have hd : decide (-(n : Int) < 0) = true := decide_eq_true hx
    rw [hd, Int.natAbs_neg, Int.natAbs_natCast]
    go_enter Tryz.func188, Tryz.ntmps188
    go_wp2_with fail
    refine (setUint64_nil n _ (by omega)).mono ?_
    rintro e w1 ⟨v, rfl, hv, hb⟩
    obtain ⟨az, L, cz, rfl, HL⟩ := nw_shape hv
    have HV := hid hv
    have HB := hid hb
    clear hv hb
    have f0 : w1.frozen? ⟨bz, 0, none⟩ = false := (HB.out.frozen (p := ⟨bz, 0, none⟩) HZ.out.lt).trans f0
    have f1 : w1.frozen? ⟨bz, 1, none⟩ = false := (HB.out.frozen (p := ⟨bz, 1, none⟩) HZ.out.lt).trans f1
    have q0 := (HZ.out.below HB.out HZ.out.lt).cell 0
    have q1 := (HZ.out.below HB.out HZ.out.lt).cell 1
    simp only [List.getElem?_toArray, List.getElem?_cons_zero, List.getElem?_cons_succ] at q0 q1
    go_wp2_with fail
    go_ret
    have hZ := zh_of HZ.out HB.out HV.out
    exact ⟨rfl, zh_iv hZ true, hZ.2.2.setCell (p := ⟨bz, 0, none⟩) (Nat.le_refl _) _⟩
  · obtain ⟨n, rfl⟩ : ∃ n : Nat, x = (n : Int) := ⟨x.natAbs, by omega⟩
    have hd : decide ((n : Int) < 0) = false := decide_eq_false (by omega)
    rw [hd, Int.natAbs_natCast]
    go_enter Tryz.func188, Tryz.ntmps188
    go_wp2_with fail
    refine (setUint64_nil n _ (by omega)).mono ?_
    rintro e w1 ⟨v, rfl, hv, hb⟩
    obtain ⟨az, L, cz, rfl, HL⟩ := nw_shape hv
    have HV := hid hv
    have HB := hid hb
    clear hv hb
    have f0 : w1.frozen? ⟨bz, 0, none⟩ = false := (HB.out.frozen (p := ⟨bz, 0, none⟩) HZ.out.lt).trans f0
    have f1 : w1.frozen? ⟨bz, 1, none⟩ = false := (HB.out.frozen (p := ⟨bz, 1, none⟩) HZ.out.lt).trans f1
    have q0 := (HZ.out.below HB.out HZ.out.lt).cell 0
    have q1 := (HZ.out.below HB.out HZ.out.lt).cell 1
    simp only [List.getElem?_toArray, List.getElem?_cons_zero, List.getElem?_cons_succ] at q0 q1
    go_wp2_with fail
    go_ret
    have hZ := zh_of HZ.out HB.out HV.out
    exact ⟨rfl, zh_iv hZ false, hZ.2.2.setCell (p := ⟨bz, 0, none⟩) (Nat.le_refl _) _⟩
set_option maxHeartbeats 1000000 in
theorem number_any (b : Nat) (s : Bool) (n : Nat) (w : World) (h : Iv w b s n) (hlen : (dg 18446744073709551616 n).length ≤ 100000) :
    Calls Tryz.prog 187 #[.pointer (some ⟨b, 0, none⟩)] w fun e w' => ∃ t v, e = .returned (.agg #[.bool t, v]) ∧ Hid (t = decide (sgn s n < 0)) ∧ Rt 44 .u64 w' v (dg 18446744073709551616 n) ∧ Below w.heap.size w w' := by
  have H := hid h
  clear h
  have HK := hid (blk_new w #[.bool false, .slice none 0 0] 24)
  have Hb0 : Hid (Below w.heap.size w (w.alloc (.cells #[.bool false, .slice none 0 0] 24))) := (Below.refl _ _).alloc (Nat.le_refl _) _
  have H0 := hid (H.out.below Hb0.out)
  go_enter Tryz.func187, Tryz.ntmps187
  go_wp2_with fail
  generalize w.alloc (.cells #[.bool false, .slice none 0 0] 24) = w0 at *
  refine (intSign_any b s n _ H0.out).mono ?_
  rintro e w1 ⟨x, rfl, HX, rfl⟩
  have q0 := HK.out.cell 0
  have q1 := HK.out.cell 1
  simp only [List.getElem?_toArray, List.getElem?_cons_zero, List.getElem?_cons_succ] at q0 q1
  have f0 := HK.out.frozen 0
  have f1 := HK.out.frozen 1
  clear q0 q1 f0 f1
  go_wp2_with fail
  refine (plain_any b s n _ H0.out hlen).mono ?_
  rintro e w1 ⟨v, rfl, hv, hb⟩
  obtain ⟨a, c, rfl⟩ := hv.shape
  have HV := hid hv
  have HB := hid hb
  clear hv hb
  have HK1 := hid (HK.out.below HB.out HK.out.lt)
  have q0 := HK1.out.cell 0
  have q1 := HK1.out.cell 1
  simp only [List.getElem?_toArray, List.getElem?_cons_zero, List.getElem?_cons_succ] at q0 q1
  have f0 := HK1.out.frozen 0
  have f1 := HK1.out.frozen 1
  go_wp2_with fail
  have g1 := HV.out.set (p := ⟨w.heap.size, 0, none⟩) (.bool (decide (x < 0))) HK1.out.shape (by decide)
  have g2 := g1.set (p := ⟨w.heap.size, 1, none⟩) (.slice a (dg 18446744073709551616 n).length c) (m := 2) (e' := 24) (by rw [shape_setCell]; exact HK1.out.shape) (by decide)
  refine bodyPost_ret (v := .agg #[.bool (decide (x < 0)), .slice a (dg 18446744073709551616 n).length c]) (by simp [results, Tryz.results187, go_sem, q0, q1]) rfl ⟨_, _, rfl, hid ?_, g2, ?_⟩
  · have := HX.out
    simpa using this
  · exact ((Hb0.out.trans (HB.out.mono Hb0.out.size)).setCell (p := ⟨w.heap.size, 0, none⟩) (Nat.le_refl _) _).setCell (p := ⟨w.heap.size, 1, none⟩) (Nat.le_refl _) _
end Go.Proofs.YtocahcammjoffaaGreatDoor
namespace Go.Proofs.YtocahcammjoffaaGreatDoor
open Go.RowKit Go.Dig
set_option maxRecDepth 100000
set_option maxHeartbeats 400000 in
theorem val_64 (x : Value) (w : World) : Calls Tryz.prog 186 #[.iface 119 x] w fun e w' => e = .returned (.iface 2 x) ∧ w = w' := by
  have h1 := ta_119_165
  have h2 := ta_119_180
  have h3 := ta_119_119
  go_enter Tryz.func186, Tryz.ntmps186
  go_wp2_with fail
  go_ret
  exact ⟨rfl, rfl⟩
set_option maxHeartbeats 400000 in
theorem val_big (p : Option Addr) (w : World) : Calls Tryz.prog 186 #[.iface 122 (.agg #[.pointer p])] w fun e w' => e = .returned (.iface 120 (.pointer p)) ∧ Below w.heap.size w w' := by
  have h1 := ta_122_165
  have h2 := ta_122_180
  have h3 := ta_122_119
  have h4 := ta_122_122
  go_enter Tryz.func186, Tryz.ntmps186
  go_wp2_with fail
  go_ret
  exact ⟨rfl, (Below.refl _ _).alloc (Nat.le_refl _) _⟩
set_option maxHeartbeats 400000 in
theorem kind_i64 (v : Value) (w : World) : Calls Tryz.prog 371 #[v] w fun e w' => e = .returned (.int .i64 3) ∧ w = w' := by
  go_enter Tryz.func371, Tryz.ntmps371
  go_wp2_with fail
  go_ret
  exact ⟨rfl, rfl⟩
set_option maxHeartbeats 400000 in
theorem kind_big (p : Option Addr) (w : World) : Calls Tryz.prog 376 #[.agg #[.pointer p]] w fun e w' => e = .returned (.int .i64 3) ∧ Below w.heap.size w w' := by
  go_enter Tryz.func376, Tryz.ntmps376
  go_wp2_with fail
  go_ret
  exact ⟨rfl, (Below.refl _ _).alloc (Nat.le_refl _) _⟩
theorem dg_len_small {n : Nat} (h : n < 18446744073709551616) : (dg 18446744073709551616 n).length ≤ 1 := dg_length_le (by omega) (by omega)
set_option maxHeartbeats 1000000 in
theorem parts_64 (x : Int) (w : World) (h0 : -9223372036854775808 ≤ x) (h1 : x ≤ 9223372036854775807) : Calls Tryz.prog 108 #[.iface 119 (.int .i64 x)] w fun e w' => ∃ t v u, e = .returned (.tuple #[.agg #[.bool t, v], u]) ∧ Hid (t = decide (x < 0)) ∧ Rt 44 .u64 w' v (dg 18446744073709551616 x.natAbs) ∧ Below w.heap.size w w' := by
  have t1 := tb_2_2
  have HR : Hid (Blk ((w.alloc (.cells #[.bool false, .slice none 0 0] 24)).alloc (.cells #[.bool false, .slice none 0 0] 203)) w.heap.size #[.bool false, .slice none 0 0] 24) := (blk_new w _ 24).alloc _
  have HK : Hid (Blk ((w.alloc (.cells #[.bool false, .slice none 0 0] 24)).alloc (.cells #[.bool false, .slice none 0 0] 203)) (w.heap.size + 1) #[.bool false, .slice none 0 0] 203) := by
    have := blk_new (w.alloc (.cells #[.bool false, .slice none 0 0] 24)) #[.bool false, .slice none 0 0] 203
    refine hid ?_
    simpa using this
  have Hb0 : Hid (Below w.heap.size w ((w.alloc (.cells #[.bool false, .slice none 0 0] 24)).alloc (.cells #[.bool false, .slice none 0 0] 203))) := ((Below.refl _ _).alloc (Nat.le_refl _) _).alloc (by simp) _
  go_enter Tryz.func108, Tryz.ntmps108
  go_wp2_with (go_at_call 186; refine (val_64 _ _).mono ?_; rintro e w' ⟨rfl, rfl⟩)
  generalize (w.alloc (.cells #[.bool false, .slice none 0 0] 24)).alloc (.cells #[.bool false, .slice none 0 0] 203) = w0 at *
  refine (setInt64_new _ x _ h0 h1 HK.out).mono ?_
  rintro e w1 ⟨rfl, hi, hb⟩
  have HI := hid hi
  have HB := hid (Hb0.out.trans (hb.mono (Nat.le_succ _)))
  have HR1 := hid (HR.out.below hb (Nat.lt_succ_self _))
  clear hi hb
  go_wp2_with fail
  refine (number_any _ _ _ _ HI.out (Nat.le_trans (dg_len_small (by omega)) (by omega))).mono ?_
  rintro e w2 ⟨t, v, rfl, HT, hv, hb⟩
  obtain ⟨a, c, rfl⟩ := hv.shape
  have HV := hid hv
  have HB2 := hid (below_next HB.out hb)
  have HR2 := hid (HR1.out.below hb HR1.out.lt)
  clear hv hb
  have q0 := HR2.out.cell 0
  have q1 := HR2.out.cell 1
  simp only [List.getElem?_toArray, List.getElem?_cons_zero, List.getElem?_cons_succ] at q0 q1
  have f0 := HR2.out.frozen 0
  have f1 := HR2.out.frozen 1
  have hlt := HR2.out.lt
  go_wp2_with fail
  have g1 := HV.out.set (p := ⟨w.heap.size, 0, none⟩) (.bool t) HR2.out.shape (by decide)
  have g2 := g1.set (p := ⟨w.heap.size, 1, none⟩) (.slice a (dg 18446744073709551616 x.natAbs).length c) (m := 2) (e' := 24) (by rw [shape_setCell]; exact HR2.out.shape) (by decide)
  have g3 := g2.below ((Below.refl _ _).alloc (Nat.le_refl _) (.cells #[.int .u64 1] 44)) (Nat.le_refl _)
  refine bodyPost_ret (v := .tuple #[.agg #[.bool t, .slice a (dg 18446744073709551616 x.natAbs).length c], .slice (some ⟨w2.heap.size, 0, none⟩) 1 1]) (by simp [results, Tryz.results108, go_sem, q0, q1, hlt]) rfl ⟨_, _, _, rfl, hid ?_, g3, ?_⟩
  · rw [HT.out, sgn_abs]
  · exact ((HB2.out.setCell (p := ⟨w.heap.size, 0, none⟩) (Nat.le_refl _) _).setCell (p := ⟨w.heap.size, 1, none⟩) (Nat.le_refl _) _).alloc (by simp [World.setCell]; omega) _
set_option maxHeartbeats 1000000 in
theorem parts_big (b : Nat) (s : Bool) (n : Nat) (w : World) (hI : Iv w b s n) (hlen : (dg 18446744073709551616 n).length ≤ 100000) : Calls Tryz.prog 108 #[.iface 122 (.agg #[.pointer (some ⟨b, 0, none⟩)])] w fun e w' => ∃ t v u, e = .returned (.tuple #[.agg #[.bool t, v], u]) ∧ Hid (t = decide (sgn s n < 0)) ∧ Rt 44 .u64 w' v (dg 18446744073709551616 n) ∧ Below w.heap.size w w' := by
  have t1 := tb_120_2
  have t2 := tb_120_120
  have HR : Hid (Blk (w.alloc (.cells #[.bool false, .slice none 0 0] 24)) w.heap.size #[.bool false, .slice none 0 0] 24) := blk_new w _ 24
  have Hb0 : Hid (Below w.heap.size w (w.alloc (.cells #[.bool false, .slice none 0 0] 24))) := (Below.refl _ _).alloc (Nat.le_refl _) _
  have HI := hid hI
  clear hI
  go_enter Tryz.func108, Tryz.ntmps108
  go_wp2_with fail
  refine (val_big _ _).mono ?_
  rintro e w0 ⟨rfl, hb0⟩
  have HB0 := hid (below_next Hb0.out hb0)
  have HR0 := hid (HR.out.below hb0 HR.out.lt)
  have HI0 := hid ((HI.out.below Hb0.out).below hb0)
  clear hb0
  go_wp2_with fail
  refine (number_any _ _ _ _ HI0.out hlen).mono ?_
  rintro e w2 ⟨t, v, rfl, HT, hv, hb⟩
  obtain ⟨a, c, rfl⟩ := hv.shape
  have HV := hid hv
  have HB2 := hid (below_next HB0.out hb)
  have HR2 := hid (HR0.out.below hb HR0.out.lt)
  clear hv hb
  have q0 := HR2.out.cell 0
  have q1 := HR2.out.cell 1
  simp only [List.getElem?_toArray, List.getElem?_cons_zero, List.getElem?_cons_succ] at q0 q1
  have f0 := HR2.out.frozen 0
  have f1 := HR2.out.frozen 1
  have hlt := HR2.out.lt
  go_wp2_with fail
  have g1 := HV.out.set (p := ⟨w.heap.size, 0, none⟩) (.bool t) HR2.out.shape (by decide)
  have g2 := g1.set (p := ⟨w.heap.size, 1, none⟩) (.slice a (dg 18446744073709551616 n).length c) (m := 2) (e' := 24) (by rw [shape_setCell]; exact HR2.out.shape) (by decide)
  have g3 := g2.below ((Below.refl _ _).alloc (Nat.le_refl _) (.cells #[.int .u64 1] 44)) (Nat.le_refl _)
  refine bodyPost_ret (v := .tuple #[.agg #[.bool t, .slice a (dg 18446744073709551616 n).length c], .slice (some ⟨w2.heap.size, 0, none⟩) 1 1]) (by simp [results, Tryz.results108, go_sem, q0, q1, hlt]) rfl ⟨_, _, _, rfl, HT, g3, ?_⟩
  exact ((HB2.out.setCell (p := ⟨w.heap.size, 0, none⟩) (Nat.le_refl _) _).setCell (p := ⟨w.heap.size, 1, none⟩) (Nat.le_refl _) _).alloc (by simp [World.setCell]; omega) _
end Go.Proofs.YtocahcammjoffaaGreatDoor
namespace Go.Proofs.YtocahcammjoffaaGreatDoor
open Go.RowKit Go.Dig
set_option maxRecDepth 100000
/-- Words that two blocks of values leave as they are. -/
structure Kp (O R : Nat) (w : World) (v : Value) (ds : List Nat) : Prop where
  rt : Rt 44 .u64 w v ds
  so : ∃ m, w.shape? O = some (26, m)
  sr : ∃ m, w.shape? R = some (26, m)
theorem Kp.o {O R : Nat} {w : World} {v : Value} {ds : List Nat} (h : Kp O R w v ds) (i : Nat) (u : Value) : Kp O R (w.setCell ⟨O, i, none⟩ u) v ds := by
  obtain ⟨m, hm⟩ := h.so
  exact ⟨h.rt.set (p := ⟨O, i, none⟩) u hm (by decide), by rw [shape_setCell]; exact h.so, by rw [shape_setCell]; exact h.sr⟩
theorem Kp.r {O R : Nat} {w : World} {v : Value} {ds : List Nat} (h : Kp O R w v ds) (i : Nat) (u : Value) : Kp O R (w.setCell ⟨R, i, none⟩ u) v ds := by
  obtain ⟨m, hm⟩ := h.sr
  exact ⟨h.rt.set (p := ⟨R, i, none⟩) u hm (by decide), by rw [shape_setCell]; exact h.so, by rw [shape_setCell]; exact h.sr⟩
set_option maxHeartbeats 2000000 in
theorem told_64 (x : Int) (w : World) (h0 : -9223372036854775808 ≤ x) (h1 : x ≤ 9223372036854775807) : Calls Tryz.prog 62 #[.iface 119 (.int .i64 x)] w fun e w' => ∃ t v, e = .returned (.agg #[.int .i64 3, .bool false, .string (ByteArray.mk #[]), .bool t, v, .slice none 0 0, .bool false, .slice none 0 0, .slice none 0 0]) ∧ Hid (t = decide (x < 0)) ∧ Rt 44 .u64 w' v (dg 18446744073709551616 x.natAbs) ∧ Below w.heap.size w w' := by
  have HR : Hid (Blk ((w.alloc (.cells #[.int .i64 0, .bool false, .string (ByteArray.mk #[]), .bool false, .slice none 0 0, .slice none 0 0, .bool false, .slice none 0 0, .slice none 0 0] 26)).alloc (.cells #[.int .i64 3, .bool false, .string (ByteArray.mk #[]), .bool false, .slice none 0 0, .slice none 0 0, .bool false, .slice none 0 0, .slice none 0 0] 26)) w.heap.size #[.int .i64 0, .bool false, .string (ByteArray.mk #[]), .bool false, .slice none 0 0, .slice none 0 0, .bool false, .slice none 0 0, .slice none 0 0] 26) := (blk_new w _ 26).alloc _
  have HO : Hid (Blk ((w.alloc (.cells #[.int .i64 0, .bool false, .string (ByteArray.mk #[]), .bool false, .slice none 0 0, .slice none 0 0, .bool false, .slice none 0 0, .slice none 0 0] 26)).alloc (.cells #[.int .i64 3, .bool false, .string (ByteArray.mk #[]), .bool false, .slice none 0 0, .slice none 0 0, .bool false, .slice none 0 0, .slice none 0 0] 26)) (w.heap.size + 1) #[.int .i64 3, .bool false, .string (ByteArray.mk #[]), .bool false, .slice none 0 0, .slice none 0 0, .bool false, .slice none 0 0, .slice none 0 0] 26) := by
    have := blk_new (w.alloc (.cells #[.int .i64 0, .bool false, .string (ByteArray.mk #[]), .bool false, .slice none 0 0, .slice none 0 0, .bool false, .slice none 0 0, .slice none 0 0] 26)) #[.int .i64 3, .bool false, .string (ByteArray.mk #[]), .bool false, .slice none 0 0, .slice none 0 0, .bool false, .slice none 0 0, .slice none 0 0] 26
    refine hid ?_
    simpa using this
  have Hb0 : Hid (Below w.heap.size w ((w.alloc (.cells #[.int .i64 0, .bool false, .string (ByteArray.mk #[]), .bool false, .slice none 0 0, .slice none 0 0, .bool false, .slice none 0 0, .slice none 0 0] 26)).alloc (.cells #[.int .i64 3, .bool false, .string (ByteArray.mk #[]), .bool false, .slice none 0 0, .slice none 0 0, .bool false, .slice none 0 0, .slice none 0 0] 26))) := ((Below.refl _ _).alloc (Nat.le_refl _) _).alloc (by simp) _
  go_enter Tryz.func62, Tryz.ntmps62
  go_wp2_with (first | (go_at_call 371; refine (kind_i64 _ _).mono ?_; rintro e w' ⟨rfl, rfl⟩))
  generalize ((w.alloc (.cells #[.int .i64 0, .bool false, .string (ByteArray.mk #[]), .bool false, .slice none 0 0, .slice none 0 0, .bool false, .slice none 0 0, .slice none 0 0] 26)).alloc (.cells #[.int .i64 3, .bool false, .string (ByteArray.mk #[]), .bool false, .slice none 0 0, .slice none 0 0, .bool false, .slice none 0 0, .slice none 0 0] 26)) = w0 at *
  refine (parts_64 x _ h0 h1).mono ?_
  rintro e w1 ⟨t, v, u, rfl, HT, hv, hb⟩
  obtain ⟨a, c, rfl⟩ := hv.shape
  have HV : Hid (Kp (w.heap.size + 1) w.heap.size w1 _ _) := ⟨hv, ⟨_, (HO.out.below hb HO.out.lt).shape⟩, ⟨_, (HR.out.below hb HR.out.lt).shape⟩⟩
  have HB := hid (below_next Hb0.out hb)
  have HR1 := hid (HR.out.below hb HR.out.lt)
  have HO1 := hid (HO.out.below hb HO.out.lt)
  clear hv hb
  obtain ⟨c0, c1, c2, c3, c4, c5, c6, c7, c8, f0, f1, f2, f3, f4, f5, f6, f7, f8⟩ := HO1.out.nine
  obtain ⟨r0, r1, r2, r3, r4, r5, r6, r7, r8, g0, g1, g2, g3, g4, g5, g6, g7, g8⟩ := HR1.out.nine
  go_wp2_with fail
  refine bodyPost_ret (v := .agg #[.int .i64 3, .bool false, .string (ByteArray.mk #[]), .bool t, .slice a (dg 18446744073709551616 x.natAbs).length c, .slice none 0 0, .bool false, .slice none 0 0, .slice none 0 0]) (by simp [results, Tryz.results62, go_sem, r0, r1, r2, r3, r4, r5, r6, r7, r8]) rfl ⟨_, _, rfl, HT, ?_, ?_⟩
  · exact (((((((((((HV.out.o 3 _).o 4 _).r 0 _).r 1 _).r 2 _).r 3 _).r 4 _).r 5 _).r 6 _).r 7 _).r 8 _).rt
  · exact below_set9 ((HB.out.setCell (p := ⟨w.heap.size + 1, 3, none⟩) (Nat.le_succ _) _).setCell (p := ⟨w.heap.size + 1, 4, none⟩) (Nat.le_succ _) _) (Nat.le_refl _) _ _ _ _ _ _ _ _ _
end Go.Proofs.YtocahcammjoffaaGreatDoor
namespace Go.Proofs.YtocahcammjoffaaGreatDoor
open Go.RowKit Go.Dig
set_option maxRecDepth 100000
set_option maxHeartbeats 400000 in
theorem wordsOf_any (v : Value) (ws : List Nat) (w : World) (h : Rd .u64 w v ws) (hlen : ws.length ≤ 100000) : Calls Tryz.prog 179 #[v] w fun e w' => ∃ v', e = .returned v' ∧ Rt 158 .u64 w' v' ws ∧ Below w.heap.size w w' := by
  obtain ⟨a, cap, rfl, hcl, hcm, hcc⟩ := h
  have HC := hid hcc
  clear hcc
  go_enter Tryz.func179, Tryz.ntmps179
  go_wp2_with fail
  go_loopw [3, 8] (fun v x wr => ∃ (u : Value) (os : List Nat) (j : Nat), u = v ∧ x = .int .i64 j ∧ j ≤ ws.length ∧ wr.ownsRow w.heap.size 158 1 u os.length (cs .u64 os) ∧ Hid (os = ws.take j) ∧ Below w.heap.size w wr) (fun _ x _ => ws.length - (intOf x).toNat)
  case atStart => exact ⟨_, [], 0, rfl, rfl, by omega, World.ownsRow_nil _ _ _ _, hid rfl, Below.refl _ _⟩
  case round =>
    obtain ⟨u, os, j, rfl, rfl, hj, hown, ho, hb⟩ := hrel
    have hbs := hb.size
    have HLO : Hid (os.length = j) := by rw [ho.out, List.length_take]; exact hid (by omega)
    rcases Nat.lt_or_ge j ws.length with h0 | h0
    · obtain ⟨b2, off, rfl, hb2⟩ := HC.out (by omega)
      have hk := hb2 j (by omega)
      clear hb2
      have hk2 := (hb.cell (World.block_lt_of_cell? w _ hk)).trans hk
      clear hk
      generalize hg : ws.getD j 0 = x at hk2
      have HG := hid hg
      clear hg
      have hol : os.length < 1000000000 := by rw [HLO.out]; omega
      go_wp2_with (at_builtin; refine app1 rfl _ _ 157 158 rfl .u64 8 Tryz.underlying157 info158 (by decide) w.heap.size w u os _ x rfl rfl rfl hown hb (by omega) hol ?_; intro v' w' hown2 hb2 _)
      go_roundw
      case rel =>
        refine ⟨_, os ++ [x], j + 1, rfl, by go_num, by omega, hown2, hid ?_, hb2⟩
        rw [ho.out, ← HG.out, List.take_add_one, List.getElem?_eq_getElem h0, List.getD_eq_getElem?_getD, List.getElem?_eq_getElem h0]
        rfl
      case measure => simp [intOf]; omega
    · obtain rfl : j = ws.length := by omega
      have hR := own_rd hown
      rw [ho.out, List.take_length] at hR
      go_wp2_with fail
      go_ret
      exact ⟨_, rfl, hR, hb⟩
theorem info203' : (Tryz.prog.info? 203).map (·.size) = some 2 := by kernel_rfl
theorem neq_int_same (a : Addr) (w : World) : (binOp .neq 120 (.pointer (some a)) (.pointer (some a))).run Tryz.prog w = .ok (.bool false) w := by
  obtain ⟨i, hi, _⟩ := Option.map_eq_some_iff.1 info203'
  exact neq_ptr_same w a Tryz.underlying120 hi
set_option maxHeartbeats 400000 in
theorem intSet_self (b : Nat) (w : World) : Calls Tryz.prog 195 #[.pointer (some ⟨b, 0, none⟩), .pointer (some ⟨b, 0, none⟩)] w fun e w' => e = .returned (.pointer (some ⟨b, 0, none⟩)) ∧ w = w' := by
  have hne := neq_int_same ⟨b, 0, none⟩
  go_enter Tryz.func195, Tryz.ntmps195
  go_wp2_with fail
  go_ret
  exact ⟨rfl, rfl⟩
set_option maxHeartbeats 400000 in
theorem intNeg_self (b : Nat) (s : Bool) (n : Nat) (w : World) (h : Iv w b s n) : Calls Tryz.prog 180 #[.pointer (some ⟨b, 0, none⟩), .pointer (some ⟨b, 0, none⟩)] w fun e w' => e = .returned (.pointer (some ⟨b, 0, none⟩)) ∧ Iv w' b (decide (n ≠ 0) && !s) n ∧ Below b w w' := by
  obtain ⟨v, hB, hN⟩ := h
  obtain ⟨a, L, c, rfl, HL⟩ := nw_shape hN
  have HB := hid hB
  have HN := hid hN
  have hc0 := hB.cell 0
  have hc1 := hB.cell 1
  simp only [List.getElem?_toArray, List.getElem?_cons_zero, List.getElem?_cons_succ] at hc0 hc1
  have f0 := hB.frozen 0
  clear hN hB
  have hend : ∀ t : Bool, Iv (w.setCell ⟨b, 0, none⟩ (.bool t)) b t n := fun t =>
    ⟨_, by simpa using HB.out.set 0 (.bool t), HN.out.set (p := ⟨b, 0, none⟩) _ HB.out.shape (by decide)⟩
  have HE := hid hend
  clear hend
  rcases Nat.eq_zero_or_pos n with hn | hn
  · have hL : L = 0 := by rw [HL.out, hn, dg_zero]; rfl
    subst hL
    have HD : Hid ((decide (n ≠ 0) && !s) = false) := hid (by simp [hn])
    go_enter Tryz.func180, Tryz.ntmps180
    go_wp2_with fail
    refine (intSet_self b _).mono ?_
    rintro e w1 ⟨rfl, rfl⟩
    go_wp2_with fail
    go_ret
    rw [HD.out]
    exact ⟨rfl, HE.out false, (Below.refl _ _).setCell (p := ⟨b, 0, none⟩) (Nat.le_refl _) _⟩
  · have hL : 0 < L := by rw [HL.out]; exact len_pos (by omega)
    have HD : Hid ((decide (n ≠ 0) && !s) = !s) := hid (by simp; omega)
    clear HL
    go_enter Tryz.func180, Tryz.ntmps180
    go_wp2_with fail
    refine (intSet_self b _).mono ?_
    rintro e w1 ⟨rfl, rfl⟩
    go_wp2_with fail
    go_ret
    rw [HD.out]
    exact ⟨rfl, HE.out (!s), (Below.refl _ _).setCell (p := ⟨b, 0, none⟩) (Nat.le_refl _) _⟩
end Go.Proofs.YtocahcammjoffaaGreatDoor
namespace Go.Proofs.YtocahcammjoffaaGreatDoor
open Go.RowKit Go.Dig
set_option maxRecDepth 100000
theorem make_words157 (n m : Nat) (hn : n ≤ m) (hm : m ≤ 1000000) (w : World) :
    (Instr.makeSlice 157 (.int .i64 (n : Int)) (.int .i64 (m : Int))).run Tryz.prog w = .ok (.slice (some ⟨w.heap.size, 0, none⟩) n m) (w.alloc (.cells (madeCells #[.int .u64 0] m) 158)) := by
  obtain ⟨i, hi, hzz⟩ := Option.map_eq_some_iff.1 info158
  simp only [Prod.mk.injEq] at hzz
  obtain ⟨hz, hs, hb⟩ := hzz
  have hr := run_make (P := Tryz.prog) w 157 158 i (.int .u64 0) Tryz.underlying157 hi hz .i64 .i64 n m (by omega) (by omega) (by rw [hb]; omega) (by omega)
  simp only [Int.toNat_natCast, hs, Nat.mul_one] at hr
  exact hr
theorem or_shift (W b s : Nat) (h : W < 2 ^ s) : W ||| (b <<< s) = W + b * 2 ^ s := by
  rw [Nat.or_comm, ← Nat.shiftLeft_add_eq_or_of_lt h, Nat.shiftLeft_eq, Nat.add_comm]
theorem byte_lt {W x s : Nat} (hW : W < 2 ^ s) (hx : x < 256) : W + x * 2 ^ s < 2 ^ (s + 8) := by
  rw [Nat.pow_add]
  have h : x * 2 ^ s ≤ 255 * 2 ^ s := Nat.mul_le_mul_right _ (by omega)
  omega
theorem pow_byte {k i s : Nat} (hi : i = k / 8) (hs : s = 8 * (k % 8)) : 256 ^ k = 2 ^ s * 18446744073709551616 ^ i := by
  rw [show (256 : Nat) = 2 ^ 8 from rfl, show (18446744073709551616 : Nat) = 2 ^ 64 from rfl, ← Nat.pow_mul, ← Nat.pow_mul, ← Nat.pow_add]
  congr 1
  omega
theorem byte_step {bs : List Nat} {k i s W x V : Nat} (hk : k < bs.length) (hi : i = k / 8) (hs : s = 8 * (k % 8)) (hx : bs.getD k 0 = x)
    (h : val 256 (bs.take k) = V + W * 18446744073709551616 ^ i) : val 256 (bs.take (k + 1)) = V + (W + x * 2 ^ s) * 18446744073709551616 ^ i := by
  rw [List.take_add_one, List.getElem?_eq_getElem hk, Option.toList_some, val_append, List.length_take, Nat.min_eq_left (by omega)]
  have e : bs[k] = x := by rw [← hx, List.getD_eq_getElem?_getD, List.getElem?_eq_getElem hk]; rfl
  rw [e, h, Nat.add_mul, pow_byte hi hs]
  simp only [val, Nat.mul_zero, Nat.add_zero]
  rw [Nat.mul_comm (2 ^ s * _) x, ← Nat.mul_assoc, Nat.add_assoc]
theorem or_int {W x s : Nat} (hW : W < 2 ^ s) (hx : x < 256) (hs : s ≤ 56) : bits .or .u64 (W : Int) (IntKind.u64.wrap ((x : Int) * 2 ^ s)) = ((W + x * 2 ^ s : Nat) : Int) := by
  have h1 : 2 ^ s ≤ 2 ^ 56 := Nat.pow_le_pow_right (by omega) hs
  have h2 : x * 2 ^ s ≤ 255 * 2 ^ 56 := Nat.mul_le_mul (by omega) h1
  have e : IntKind.u64.wrap ((x : Int) * 2 ^ s) = ((x * 2 ^ s : Nat) : Int) := by
    rw [IntKind.wrap_u64, show ((x : Int) * 2 ^ s) = ((x * 2 ^ s : Nat) : Int) by simp]
    omega
  rw [e, bits_or_u64_nat W (x * 2 ^ s) (by omega) (by omega), ← Nat.shiftLeft_eq, or_shift W x s hW, Nat.shiftLeft_eq]
end Go.Proofs.YtocahcammjoffaaGreatDoor
namespace Go.Proofs.YtocahcammjoffaaGreatDoor
open Go.RowKit Go.Dig
set_option maxRecDepth 100000
theorem val_take_zeros {b : Nat} {l : List Nat} {m : Nat} (hz : ∀ j, m ≤ j → j < l.length → l.getD j 0 = 0) : val b (l.take m) = val b l := by
  have e : l.drop m = List.replicate (l.length - m) 0 := by
    apply List.ext_getElem
    · simp
    · intro i h1 h2
      simp only [List.length_drop] at h1
      have := hz (m + i) (by omega) (by omega)
      rw [List.getD_eq_getElem?_getD, List.getElem?_eq_getElem (by omega)] at this
      simpa using this
  conv => rhs; rw [← List.take_append_drop m l, val_append, e, val_replicate]
  simp
theorem byte_lt64 {W x s : Nat} (hW : W < 2 ^ s) (hx : x < 256) (hs : s ≤ 56) : W + x * 2 ^ s < 18446744073709551616 := by
  have h1 := byte_lt hW hx
  have h2 : (2 : Nat) ^ (s + 8) ≤ 2 ^ 64 := Nat.pow_le_pow_right (by omega) (by omega)
  generalize W + x * 2 ^ s = V at *
  omega
set_option maxHeartbeats 2000000 in
theorem fromBytes_any (vb : Value) (bs : List Nat) (w : World) (hb : Rd .u8 w vb bs) (hd : ∀ d ∈ bs, d < 256) (hn : bs.length ≤ 1000) :
    Calls Tryz.prog 70 #[vb] w fun e w' => ∃ v b, e = .returned v ∧ Mk b (val 256 bs) v ∧ Iv w' b false (val 256 bs) ∧ Below w.heap.size w w' := by
  obtain ⟨ab, cb, rfl, h1, h2, h3⟩ := hb
  have HC := hid h3
  clear h3
  obtain ⟨NW, hNW⟩ : ∃ NW, (bs.length + 7) / 8 = NW := ⟨_, rfl⟩
  have hmk := make_words157 NW NW (Nat.le_refl _) (by omega)
  have ec : ((NW : Nat) : Int) = ((bs.length : Int) + 7) / 8 := by omega
  rw [ec] at hmk
  have hB0 : BlkN .u64 158 (w.alloc (.cells (madeCells #[.int .u64 0] NW) 158)) w.heap.size (List.replicate NW 0) := blkN_made .u64 158 w NW
  have hbl : Below w.heap.size w (w.alloc (.cells (madeCells #[.int .u64 0] NW) 158)) := (Below.refl _ _).alloc (Nat.le_refl _) _
  go_enter Tryz.func70, Tryz.ntmps70
  go_wp2_with fail
  generalize w.alloc (.cells (madeCells #[.int .u64 0] NW) 158) = w0 at *
  go_loopw [5, 6, 4, 16] (fun v5 v6 v4 v16 wr => ∃ (k i s W : Nat) (m : List Nat), v5 = .int .u64 W ∧ v6 = .int .u64 s ∧ v4 = .int .i64 i ∧ v16 = .int .i64 k ∧ k ≤ bs.length ∧ Hid (i = k / 8) ∧ Hid (s = 8 * (k % 8)) ∧ Hid (W < 2 ^ s) ∧ Hid (m.length = NW) ∧ BlkN .u64 158 wr w.heap.size m ∧
    Hid (val 256 (bs.take k) = val 18446744073709551616 (m.take i) + W * 18446744073709551616 ^ i) ∧ Hid (∀ j, i ≤ j → m.getD j 0 = 0) ∧ Hid (∀ j, m.getD j 0 < 18446744073709551616) ∧ Below w.heap.size w wr) (fun _ _ _ q _ => bs.length - (intOf q).toNat)
  case atStart => exact ⟨0, 0, 0, 0, List.replicate NW 0, rfl, rfl, rfl, rfl, Nat.zero_le _, hid rfl, hid rfl, hid (by decide), hid (by simp), hB0, hid (by simp [val]), hid (fun j _ => by simp [List.getD_eq_getElem?_getD, List.getElem?_replicate]; split <;> rfl), hid (fun j => by simp [List.getD_eq_getElem?_getD, List.getElem?_replicate]; split <;> simp), hbl⟩
  case round =>
    clear hB0 hbl hmk
    obtain ⟨k, i, s, W, m, rfl, rfl, rfl, rfl, hk, HI, HS, HW, HM, hBm, HV, HZ, HL, hb⟩ := hrel
    rcases Nat.lt_or_ge k bs.length with hlt | hge
    · obtain ⟨bx, ox, rfl, hcx⟩ := HC.out (by omega)
      have hkx := hcx k hlt
      clear hcx
      have hx := (hb.cell (World.block_lt_of_cell? w _ hkx)).trans hkx
      clear hkx
      generalize hxe : bs.getD k 0 = x at hx
      have HXE := hid hxe
      clear hxe
      have hx1 : x < 256 := by rw [← HXE.out]; exact getD_lt (by omega) hd k
      have hs56 : s ≤ 56 := by have := HS.out; omega
      have hor := or_int HW.out hx1 hs56
      have HST := hid (byte_step (V := val 18446744073709551616 (m.take i)) hlt HI.out HS.out HXE.out HV.out)
      have hil : i < m.length := by rw [HM.out]; have := HI.out; omega
      have HLT := hid (byte_lt HW.out hx1)
      have HL64 := hid (byte_lt64 HW.out hx1 hs56)
      generalize W + x * 2 ^ s = V at *
      rcases (by omega : s = 56 ∨ s < 56) with h56 | h56
      · subst h56
        have hcell := hBm.at (i := i) hil
        have hfr := Blk.frozen hBm i
        generalize m.getD i 0 = old at hcell
        have hiN : i < NW := by rw [← HM.out]; exact hil
        have hor2 : bits .or .u64 (W : Int) ((x : Int) * 72057594037927936) = ((V : Nat) : Int) := by
          rw [← hor]
          congr 1
          rw [IntKind.wrap_u64]
          omega
        have HO := hid hor2
        clear hor2 hor
        go_wp2_with fail
        go_roundw
        case rel =>
          refine ⟨k + 1, i + 1, 0, 0, m.set i V, by simp, by simp, by go_num, by go_num, by omega, hid (by have := HI.out; have := HS.out; omega), hid (by have := HS.out; omega), hid (by decide), hid (by rw [List.length_set]; exact HM.out), ?_, hid ?_, hid ?_, hid ?_, hb.setCell (Nat.le_refl _) _⟩
          · have := BlkN.put hBm i V
            rw [← HO.out] at this
            simpa using this
          · rw [HST.out]
            have e1 : (m.set i V).take i = m.take i := by rw [List.take_set_of_le (by omega)]
            rw [List.take_add_one, e1, List.getElem?_set_self hil, Option.toList_some, val_append, List.length_take, Nat.min_eq_left (by omega)]
            simp [val, Nat.mul_comm]
          · intro j hj
            rw [set_far (by omega)]
            exact HZ.out j (by omega)
          · intro j
            rcases Nat.lt_trichotomy j i with h | h | h
            · rw [set_far (by omega)]; exact HL.out j
            · subst h
              rw [List.getD_eq_getElem?_getD, List.getElem?_set_self hil]
              exact HL64.out
            · rw [set_far (by omega)]; exact HL.out j
        case measure => simp [intOf]; omega
      · go_wp2_with fail
        go_roundw
        case rel =>
          refine ⟨k + 1, i, s + 8, V, m, by simp, by go_num, by go_num, by go_num, by omega, hid (by have := HI.out; have := HS.out; omega), hid (by have := HS.out; omega), hid HLT.out, HM, hBm, hid HST.out, HZ, HL, hb⟩
        case measure => simp [intOf]; omega
    · obtain rfl : k = bs.length := by omega
      rw [List.take_length] at HV
      rcases (by have := HI.out; omega : i < NW ∨ NW = i) with hc | hc
      have hil : i < m.length := by rw [HM.out]; exact hc
      have hcell := hBm.at (i := i) hil
      have hfr := Blk.frozen hBm i
      generalize m.getD i 0 = old at hcell
      have hiN : i + 1 = NW := by have := HI.out; omega
      focus go_wp2_with fail
      have hW64 : W < 18446744073709551616 := Nat.lt_of_lt_of_le HW.out (show 2 ^ s ≤ 2 ^ 64 from Nat.pow_le_pow_right (by omega) (by have := HS.out; omega))
      have hBm2 : BlkN .u64 158 (wr.setCell ⟨w.heap.size, i, none⟩ (.int .u64 (W : Int))) w.heap.size (m.set i W) := BlkN.put hBm i W
      have hb2 : Below w.heap.size w (wr.setCell ⟨w.heap.size, i, none⟩ (.int .u64 (W : Int))) := hb.setCell (Nat.le_refl _) _
      have HV2 : Hid (val 18446744073709551616 (m.set i W) = val 256 bs) := by
        refine hid ?_
        rw [HV.out]
        have e1 : (m.set i W).take i = m.take i := by rw [List.take_set_of_le (by omega)]
        have e2 : m.set i W = (m.set i W).take (i + 1) := by rw [List.take_of_length_le (by rw [List.length_set, HM.out]; omega)]
        rw [e2, List.take_add_one, e1, List.getElem?_set_self hil, Option.toList_some, val_append, List.length_take, Nat.min_eq_left (by omega)]
        simp [val, Nat.mul_comm]
      have HL2 : Hid (∀ d ∈ m.set i W, d < 18446744073709551616) := by
        intro d hd'
        obtain ⟨j, hj, rfl⟩ := List.mem_iff_getElem.1 hd'
        rw [List.getElem_set]
        split
        · exact hW64
        · have := HL.out j
          rw [List.getD_eq_getElem?_getD, List.getElem?_eq_getElem (by simpa using hj)] at this
          exact this
      have HM2 : Hid ((m.set i W).length = NW) := by rw [List.length_set]; exact HM.out
      have ei : ((i : Int) + 1) = (NW : Int) := by omega
      generalize m.set i W = m2 at *
      generalize wr.setCell ⟨w.heap.size, i, none⟩ (.int .u64 (W : Int)) = w2 at *
      clear hBm hb HV HL HM HZ hil hcell hfr
      rw [ei]
      clear ei hiN hc
      rotate_left
      subst hc
      focus go_wp2_with fail
      have hW0 : W = 0 := by
        have h1 := HW.out
        have h2 := HS.out
        have h3 : s = 0 := by have := HI.out; omega
        rw [h3] at h1
        simpa using h1
      have hBm2 := hBm
      have hb2 := hb
      have HV2 : Hid (val 18446744073709551616 m = val 256 bs) := by
        refine hid ?_
        rw [HV.out, hW0, List.take_of_length_le (by rw [HM.out]; omega)]
        simp
      have HL2 : Hid (∀ d ∈ m, d < 18446744073709551616) := by
        intro d hd'
        obtain ⟨j, hj, rfl⟩ := List.mem_iff_getElem.1 hd'
        have := HL.out j
        rw [List.getD_eq_getElem?_getD, List.getElem?_eq_getElem hj] at this
        exact this
      have HM2 := HM
      clear hW0 hBm hb HV HL HM HZ
      obtain ⟨m2, rfl⟩ : ∃ m2, m2 = m := ⟨m, rfl⟩
      obtain ⟨w2, rfl⟩ : ∃ w2, w2 = wr := ⟨wr, rfl⟩
      all_goals as_aux_lemma => (
        have HQ : Hid (Rt 158 .u64 w2 (.slice (some ⟨w.heap.size, 0, none⟩) NW NW) m2) := by
          have := BlkN.rt hBm2 (cap := NW) (by rw [HM2.out]; omega) (by omega)
          rwa [HM2.out] at this
        have hsz : w.heap.size < w2.heap.size := Blk.lt hBm2
        have HB2 := hid hb2
        clear hb2
        go_loop [4] (fun v => ∃ q : Nat, v = .int .i64 q ∧ q ≤ NW ∧ Hid (∀ j, q ≤ j → j < m2.length → m2.getD j 0 = 0)) (fun v => (intOf v).toNat)
        case atStart => exact ⟨NW, rfl, Nat.le_refl _, hid (fun j h1 h2 => by rw [HM2.out] at h2; omega)⟩
        case round =>
          obtain ⟨q, rfl, hq, hz⟩ := hrel
          have hcase : q = 0 ∨ (∃ k, q = k + 1 ∧ m2.getD k 0 ≠ 0) ∨ (∃ k, q = k + 1 ∧ m2.getD k 0 = 0) := by
            rcases Nat.eq_zero_or_pos q with h | h
            · exact .inl h
            · by_cases h' : m2.getD (q - 1) 0 = 0
              · exact .inr (.inr ⟨q - 1, by omega, h'⟩)
              · exact .inr (.inl ⟨q - 1, by omega, h'⟩)
          rcases hcase with rfl | ⟨k, rfl, hf⟩ | ⟨k, rfl, hf⟩
          rotate_left 2
          · have hk := hBm2.at (i := k) (by rw [HM2.out]; omega)
            rw [hf] at hk
            have HF := hid hf
            clear hf
            go_wp2_with fail
            go_round
            case rel =>
              refine ⟨k, by go_num, by omega, hid (fun j h1 h2 => ?_)⟩
              rcases Nat.eq_or_lt_of_le h1 with rfl | h3
              · exact HF.out
              · exact hz.out j h3 h2
            case measure => simp [intOf]
          focus go_wp2_with fail
          rotate_left
          have hk := hBm2.at (i := k) (by rw [HM2.out]; omega)
          have hf' : (((m2.getD k 0 : Nat) : Int) == 0) = false := by simp; simpa using hf
          generalize hg : m2.getD k 0 = d at hk hf'
          have HF := hid hf
          have HG := hid hg
          clear hf hg
          focus go_wp2_with fail
          all_goals as_aux_lemma => (
            go_region_with (first
              | (go_at_call 120; refine (newInt_any _).mono ?_; rintro e w3 ⟨rfl, hB3, hb3⟩; have HB3 := hid hB3; have Hb3 : Hid (Below w2.heap.size w2 w3) := hid ((below_drewN' 1).trans hb3); clear hB3 hb3)
              | (go_at_call 121; refine (setBits_any _ _ (m2.take _) _ HB3.out ((HQ.out.take hq).below Hb3.out (Nat.le_refl _)) (fun d h => HL2.out d (List.mem_of_mem_take h))).mono ?_; rintro e w4 ⟨rfl, hI, hb4⟩; rw [val_take_zeros hz.out, HV2.out] at hI; have HI4 := hid hI; have Hb4 := hid hb4; clear hI hb4)
              | (go_at_call 119; refine (makeInt_any _ false _ _ HI4.out).mono ?_; rintro e w5 ⟨v, rfl, hMk, hb5⟩; have Hb5 := hid hb5; clear hb5))
            all_goals go_wp2_with fail
            all_goals go_ret
            all_goals refine ⟨v, _, rfl, hMk, HI4.out.below Hb5.out, below_next ((HB2.out.trans (Hb3.out.mono (Nat.le_of_lt hsz))).trans (Hb4.out.mono (Nat.le_of_lt hsz))) Hb5.out⟩))
end Go.Proofs.YtocahcammjoffaaGreatDoor

namespace Go.Proofs.YtocahcammjoffaaGreatDoor
open Go.RowKit Go.Dig
set_option maxRecDepth 100000
theorem fit_in2 {x : Int} (h : -9223372036854775808 ≤ x ∧ x ≤ 9223372036854775807) : fitI x = true := decide_eq_true h
theorem info5 : (Tryz.prog.info? 5).map (fun i => (i.zero, i.size, i.bytes)) = some (some (.int .u8 0), 1, 1) := by kernel_rfl
set_option maxHeartbeats 1000000 in
/-- FromBytes of at most 7 bytes, told. -/
theorem iFromBytes_small (vb : Value) (bs : List Nat) (w : World) (hb : Rd .u8 w vb bs) (hd : ∀ d ∈ bs, d < 256) (hn : bs.length ≤ 7) (hform : vb = .slice none 0 0 ∨ ∃ p c, vb = .slice (some p) bs.length c) :
    Calls Tryz.prog 32 #[vb] w fun e w' => ∃ t v, e = .returned (.agg #[.int .i64 3, .bool false, .string (ByteArray.mk #[]), .bool t, v, .slice none 0 0, .bool false, .slice none 0 0, .slice none 0 0]) ∧ Hid (t = false) ∧ Rt 44 .u64 w' v (dg 18446744073709551616 (val 256 bs)) ∧ Below w.heap.size w w' := by
  have HB := hid hb
  have HD := hid hd
  have hv : val 256 bs < 9223372036854775808 := by
    have h1 := val_lt (b := 256) (by omega) hd
    have h2 : (256 : Nat) ^ bs.length ≤ 256 ^ 7 := Nat.pow_le_pow_right (by omega) hn
    omega
  have HV := hid hv
  clear hb hd hv
  have HK := hid (blk_new w zeroV 26)
  have Hb0 : Hid (Below w.heap.size w (w.alloc (.cells zeroV 26))) := (Below.refl _ _).alloc (Nat.le_refl _) _
  have HB0 := hid (HB.out.below Hb0.out (Nat.le_refl _))
  go_enter Tryz.func32, Tryz.ntmps32
  go_wp2_with (at_builtin; refine appN rfl _ _ 49 5 rfl .u8 1 Tryz.underlying49 info5 (by decide) vb bs rfl rfl HB0.out (by omega) ?_ hform; intro v' w1 hv' hb' hf')
  have HV1 := hid hv'
  have HK1 := hid (HK.out.below hb' HK.out.lt)
  have Hb1 := hid (below_next Hb0.out hb')
  clear hv' hb' hf'
  refine (fromBytes_any _ bs _ HV1.out.rd HD.out (by omega)).mono ?_
  rintro e w2 ⟨v, b, rfl, hM, hI, hb2⟩
  have HK2 := hid (HK1.out.below hb2 HK1.out.lt)
  have Hb2 := hid (below_next Hb1.out hb2)
  clear hI hb2
  rcases hM with ⟨_, rfl⟩ | ⟨hf, _⟩
  rotate_left
  · exact absurd hf (by rw [fit_in2 ⟨by omega, by have := HV.out; omega⟩]; decide)
  have HX0 : Hid (decide (((val 256 bs : Nat) : Int) < 0) = false) := decide_eq_false (by omega)
  have HX : Hid (-9223372036854775808 ≤ ((val 256 bs : Nat) : Int) ∧ ((val 256 bs : Nat) : Int) ≤ 9223372036854775807 ∧ ((val 256 bs : Nat) : Int).natAbs = val 256 bs) := ⟨by omega, by have := HV.out; omega, by omega⟩
  generalize ((val 256 bs : Nat) : Int) = x at *
  go_wp2_with fail
  refine (told_64 x _ HX.out.1 HX.out.2.1).mono ?_
  rintro e w3 ⟨t, v, rfl, HT, hv, hb3⟩
  obtain ⟨a, c, rfl⟩ := hv.shape
  have HV3 : Hid (Kp w.heap.size w.heap.size w3 _ _) := ⟨hv, ⟨_, (HK2.out.below hb3 HK2.out.lt).shape⟩, ⟨_, (HK2.out.below hb3 HK2.out.lt).shape⟩⟩
  have HK3 := hid (HK2.out.below hb3 HK2.out.lt)
  have Hb3 := hid (below_next Hb2.out hb3)
  clear hv hb3
  obtain ⟨r0, r1, r2, r3, r4, r5, r6, r7, r8, g0, g1, g2, g3, g4, g5, g6, g7, g8⟩ := HK3.out.nine
  go_wp2_with fail
  refine bodyPost_ret (v := .agg #[.int .i64 3, .bool false, .string (ByteArray.mk #[]), .bool t, .slice a (dg 18446744073709551616 x.natAbs).length c, .slice none 0 0, .bool false, .slice none 0 0, .slice none 0 0]) (by simp [results, Tryz.results32, go_sem, r0, r1, r2, r3, r4, r5, r6, r7, r8]) rfl ⟨_, _, rfl, hid ?_, ?_, ?_⟩
  · rw [HT.out]; exact HX0.out
  · have := (((((((((HV3.out.r 0 (.int .i64 3)).r 1 (.bool false)).r 2 (.string (ByteArray.mk #[]))).r 3 (.bool t)).r 4 (.slice a (dg 18446744073709551616 x.natAbs).length c)).r 5 (.slice none 0 0)).r 6 (.bool false)).r 7 (.slice none 0 0)).r 8 (.slice none 0 0)).rt
    rw [HX.out.2.2] at this ⊢
    exact this
  · exact below_set9 Hb3.out (Nat.le_refl _) _ _ _ _ _ _ _ _ _
end Go.Proofs.YtocahcammjoffaaGreatDoor
namespace Go.Proofs.YtocahcammjoffaaGreatDoor
open Go.RowKit Go.Dig
set_option maxRecDepth 100000
set_option maxHeartbeats 1000000 in
theorem of_any2 (neg : Bool) (v : Value) (ws : List Nat) (w : World) (h : Rd .u64 w v ws) (hw : ∀ x ∈ ws, x < 18446744073709551616) (hlen : ws.length ≤ 100000) :
    Calls Tryz.prog 103 #[.agg #[.bool neg, v]] w fun e w' => ∃ b s, e = .returned (.pointer (some ⟨b, 0, none⟩)) ∧ Hid (w.heap.size ≤ b) ∧ Hid (s = (neg && decide (val 18446744073709551616 ws ≠ 0))) ∧ Iv w' b s (val 18446744073709551616 ws) ∧ Below w.heap.size w w' := by
  obtain ⟨a, c, rfl⟩ := h.shape
  have H := hid h
  have HW := hid hw
  clear h hw
  have HP : Hid (Blk ((w.alloc (.cells #[.bool neg, .slice a ws.length c] 24)).alloc (.cells #[.bool false, .slice none 0 0] 203)) w.heap.size #[.bool neg, .slice a ws.length c] 24) := (blk_new w _ 24).alloc _
  have HZ : Hid (Blk ((w.alloc (.cells #[.bool neg, .slice a ws.length c] 24)).alloc (.cells #[.bool false, .slice none 0 0] 203)) (w.heap.size + 1) #[.bool false, .slice none 0 0] 203) := by
    have := blk_new (w.alloc (.cells #[.bool neg, .slice a ws.length c] 24)) #[.bool false, .slice none 0 0] 203
    refine hid ?_
    simpa using this
  have Hb0 : Hid (Below w.heap.size w ((w.alloc (.cells #[.bool neg, .slice a ws.length c] 24)).alloc (.cells #[.bool false, .slice none 0 0] 203))) := ((Below.refl _ _).alloc (Nat.le_refl _) _).alloc (by simp) _
  have H0 := hid (H.out.below Hb0.out (Nat.le_refl _))
  go_enter Tryz.func103, Tryz.ntmps103
  go_wp2_with fail
  generalize ((w.alloc (.cells #[.bool neg, .slice a ws.length c] 24)).alloc (.cells #[.bool false, .slice none 0 0] 203)) = w0 at *
  refine (wordsOf_any _ ws _ H0.out hlen).mono ?_
  rintro e w1 ⟨v1, rfl, hv1, hb1⟩
  obtain ⟨a1, c1, rfl⟩ := hv1.shape
  have HV1 := hid hv1
  have HP1 := hid (HP.out.below hb1 HP.out.lt)
  have HZ1 := hid (HZ.out.below hb1 HZ.out.lt)
  have Hb1 := hid (below_next Hb0.out hb1)
  clear hv1 hb1
  go_wp2_with fail
  refine (setBits_any _ _ ws _ HZ1.out HV1.out HW.out).mono ?_
  rintro e w2 ⟨rfl, hI, hb2⟩
  have HI := hid hI
  have HP2 := hid (HP1.out.below hb2 (Nat.lt_succ_self _))
  have Hb2 := hid (Hb1.out.trans (hb2.mono (Nat.le_succ _)))
  clear hI hb2
  have q0 := HP2.out.cell 0
  simp only [List.getElem?_toArray, List.getElem?_cons_zero] at q0
  cases neg
  · go_wp2_with fail
    go_ret
    exact ⟨_, false, rfl, hid (Nat.le_succ _), hid rfl, HI.out, Hb2.out⟩
  · go_wp2_with fail
    refine (intNeg_self _ false _ _ HI.out).mono ?_
    rintro e w3 ⟨rfl, hI, hb3⟩
    have HI3 := hid hI
    have Hb3 := hid (Hb2.out.trans (hb3.mono (Nat.le_succ _)))
    clear hI hb3
    go_wp2_with fail
    go_ret
    exact ⟨_, _, rfl, hid (Nat.le_succ _), hid (by cases decide (val 18446744073709551616 ws ≠ 0) <;> rfl), HI3.out, Hb3.out⟩
set_option maxHeartbeats 400000 in
theorem make_int (b : Nat) (s : Bool) (n : Nat) (w : World) (h : Iv w b s n) : Calls Tryz.prog 102 #[.iface 120 (.pointer (some ⟨b, 0, none⟩))] w fun e w' => ∃ v, e = .returned v ∧ Mk b (sgn s n) v ∧ Below w.heap.size w w' := by
  have t1 := tb_120_4
  have t2 := tb_120_9
  have t3 := tb_120_2
  have t4 := tb_120_120
  have H := hid h
  clear h
  go_enter Tryz.func102, Tryz.ntmps102
  go_wp2_with fail
  refine (makeInt_any b s n _ H.out).mono ?_
  rintro e w1 ⟨v, rfl, hM, hb⟩
  go_wp2_with fail
  go_ret
  exact ⟨_, rfl, hM, hb⟩
theorem sgn_and (neg : Bool) (n : Nat) : sgn (neg && decide (n ≠ 0)) n = sgn neg n := by
  cases neg
  · rfl
  · by_cases h : n = 0
    · subst h; rfl
    · have : decide (n ≠ 0) = true := decide_eq_true h
      rw [this]; rfl
set_option maxHeartbeats 1000000 in
/-- impl.whole of a Value of Kind Int. -/
theorem whole_int (t n1 n2 : Bool) (s : ByteArray) (v1 v2 v3 v4 : Value) (ws : List Nat) (w : World) (h : Rd .u64 w v1 ws) (hw : ∀ x ∈ ws, x < 18446744073709551616) (hlen : ws.length ≤ 100000) :
    Calls Tryz.prog 56 #[.agg #[.int .i64 3, .bool t, .string s, .bool n1, v1, v2, .bool n2, v3, v4]] w fun e w' => ∃ v b sg, e = .returned v ∧ Mk b (sgn n1 (val 18446744073709551616 ws)) v ∧ Hid (sg = (n1 && decide (val 18446744073709551616 ws ≠ 0))) ∧ Iv w' b sg (val 18446744073709551616 ws) ∧ Below w.heap.size w w' := by
  have H := hid h
  have HW := hid hw
  have Hb0 : Hid (Below w.heap.size w (w.alloc (.cells #[.int .i64 3, .bool t, .string s, .bool n1, v1, v2, .bool n2, v3, v4] 26))) := (Below.refl _ _).alloc (Nat.le_refl _) _
  have H0 := hid (H.out.below Hb0.out (Nat.le_refl _))
  clear h hw
  go_enter Tryz.func56, Tryz.ntmps56
  go_wp2_with fail
  refine (of_any2 n1 v1 ws _ H0.out HW.out hlen).mono ?_
  rintro e w1 ⟨b, sg, rfl, hbb, HS, hI, hb1⟩
  have HI := hid hI
  have Hb1 := hid (below_next Hb0.out hb1)
  clear hI hb1
  go_wp2_with fail
  refine (make_int b sg _ _ HI.out).mono ?_
  rintro e w2 ⟨v, rfl, hM, hb2⟩
  have HI2 := hid (HI.out.below hb2)
  have Hb2 := hid (below_next Hb1.out hb2)
  clear hb2
  rw [HS.out, sgn_and] at hM
  go_wp2_with fail
  go_ret
  exact ⟨v, b, sg, rfl, hM, HS, HI2.out, Hb2.out⟩
end Go.Proofs.YtocahcammjoffaaGreatDoor
