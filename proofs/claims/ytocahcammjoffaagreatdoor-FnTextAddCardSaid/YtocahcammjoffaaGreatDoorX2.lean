/- Walks and lemmas for the laws of this seat. -/
import Derived.Test.YtocahcammjoffaaGreatDoorX1
import Derived.Test.YtocahcammjoffaaGreatDoorOA
namespace Go.Proofs.YtocahcammjoffaaGreatDoor
open Go.RowKit Go.MuLone
set_option maxRecDepth 100000
theorem info9 : (Tryz.prog.info? 9).map (fun i => (i.zero, i.size, i.bytes)) = some (some (.string (ByteArray.mk #[])), 1, 16) := by kernel_rfl
/-- 'out = append(out, u)', one cell, out the call's own. -/
theorem app1v {P : Program} {ops : Array Oper} {rest : List Oper} {o : Oper} {a : Act} {Q : Exit → Act → World → Prop} {w : World} (hgd : o.guard = none) (s x : Operand) (t e : TypeId)
    (ho : o.op = .call { callee := .builtin .append, args := #[s, x], argTypes := #[t, t] }) (z : Value) (bytes : Nat) (ht : P.underlying t = some (.slice e))
    (hinfo : (P.info? e).map (fun i => (i.zero, i.size, i.bytes)) = some (some z, 1, bytes)) (hzs : z.cells.size = 1) (hby : bytes ≤ 16)
    (base : Nat) (wB : World) (v : Value) (n : Nat) (xs : List Value) (u : Value) (hu : u.oneCell' = true) (hs : a.eval s = v) (hx : a.eval x = .slice (some ⟨w.heap.size, 0, none⟩) 1 1)
    (hown : w.ownsRow base e 1 v n xs) (hb : Below base wB w) (hbase : base ≤ w.heap.size) (hlen : n < 1000000000)
    (h : ∀ v' w', w'.ownsRow base e 1 v' (n + 1) (xs ++ [u]) → Below base wB w' → wpList P ops Q rest (a.put o.dst v') w') :
    wpList P ops Q (o :: rest) a (w.alloc (.cells #[u] e)) := by
  obtain ⟨i0, hi, hz0, hz1, hz2⟩ := info_parts hinfo
  have hc : (w.alloc (.cells #[u] e)).cell? ⟨w.heap.size, 0, none⟩ = some u := by rw [World.cell?_alloc_new]; rfl
  refine wpList_append_own _ hgd s x t ho base e i0 z 1 bytes ht hi hz0 hz1 hz2 hzs (by decide) v n xs hs (hown.alloc _) ⟨w.heap.size, 0, none⟩ 1 1 [u] hx rfl ?_ ?_ ?_ ?_ ?_ ?_
  · intro j y hj
    match j, hj with
    | 0, hj => simp at hj; subst hj; exact hc
  · intro y hy; simp at hy; subst hy; exact hu
  · unfold maxLen; omega
  · calc (n + 1) * bytes ≤ 1000000000 * 16 := Nat.mul_le_mul (by omega) hby
      _ ≤ _ := by omega
  · simp; omega
  · intro v' w' h1 h2 _
    exact h v' w' h1 ((hb.alloc hbase _).grown h2 (by simp; omega) (own_base hown))
/-- A cell of a block is turned, then something happens further up, then it is turned back. -/
theorem below_turned {B : Nat} {w w1 : World} {b : Nat} {c : Array Value} {e : TypeId} (h : Blk w b c e) (hB : b < B) (i : Nat) (u v : Value) (hi : c[i]? = some v)
    (hb : Below B (w.setCell ⟨b, i, none⟩ u) w1) : Below B w (w1.setCell ⟨b, i, none⟩ v) := by
  refine ⟨hb.os, hb.tape, hb.output, ?_, fun k hk => ?_⟩
  · have := hb.size
    simpa [World.setCell] using this
  · by_cases e1 : k = b
    · subst e1
      have h2 := ((h.set i u).below hb hB).set i v
      unfold Blk at h2 h
      rw [h2, h]
      congr 2
      apply Array.ext_getElem?
      intro j
      simp only [Array.getElem?_setIfInBounds, Array.size_setIfInBounds]
      by_cases hj : i = j
      · subst hj
        obtain ⟨hlt, hv⟩ := Array.getElem?_eq_some_iff.1 hi
        simp [hlt, hv]
      · simp [hj]
    · rw [Below.heap_setCell _ _ _ _ e1, hb.block k hk, Below.heap_setCell _ _ _ _ e1]
theorem Blk.five {w : World} {b : Nat} {x0 x1 x2 x3 x4 : Value} {e : TypeId} (h : Blk w b #[x0, x1, x2, x3, x4] e) :
    w.cell? ⟨b, 0, none⟩ = some x0 ∧ w.cell? ⟨b, 2, none⟩ = some x2 ∧ w.cell? ⟨b, 3, none⟩ = some x3 ∧ w.cell? ⟨b, 4, none⟩ = some x4 ∧ w.frozen? ⟨b, 0, none⟩ = false :=
  ⟨h.cell 0, h.cell 2, h.cell 3, h.cell 4, h.frozen 0⟩
theorem info187 : (Tryz.prog.info? 187).map (·.size) = some 5 := by kernel_rfl
theorem neq_str_same (a : Addr) (w : World) : (binOp .neq 180 (.pointer (some a)) (.pointer (some a))).run Tryz.prog w = .ok (.bool false) w := by
  obtain ⟨i, hi, _⟩ := Option.map_eq_some_iff.1 info187
  exact neq_ptr_same w a Tryz.underlying180 hi
theorem neq_str {w : World} {a b : Nat} {ca cb : Array Value} (ha : Blk w a ca 187) (hb : Blk w b cb 187) (h : a ≠ b) : (binOp .neq 180 (.pointer (some ⟨a, 0, none⟩)) (.pointer (some ⟨b, 0, none⟩))).run Tryz.prog w = .ok (.bool true) w := by
  obtain ⟨i, hi, hs⟩ := Option.map_eq_some_iff.1 info187
  exact neq_ptr_other w Tryz.underlying180 hi (by rw [hs]; omega) (fun e => h (congrArg Addr.block e)) ha hb
set_option maxHeartbeats 400000 in
/-- appendReverse of a text that stands by itself. -/
theorem aR_leaf (b : Nat) (s : ByteArray) (st : Int) (base : Nat) (w : World) (v : Value) (n : Nat) (xs : List Value) (hs : Blk w b #[.int .i32 st, .int .u32 0, .string s, .pointer none, .pointer none] 187)
    (hbase : base ≤ w.heap.size) (hown : w.ownsRow base 9 1 v n xs) (hn : n < 1000) :
    Calls Tryz.prog 236 #[.pointer (some ⟨b, 0, none⟩), v] w fun e w' => ∃ v', e = .returned v' ∧ w'.ownsRow base 9 1 v' (n + 1) (xs ++ [.string s]) ∧ Below base w w' := by
  obtain ⟨c0, c2, c3, c4, f0⟩ := hs.five
  clear hs
  have hne := neq_str_same ⟨b, 0, none⟩
  go_enter Tryz.func236, Tryz.ntmps236
  go_wp2_with fail
  go_loop [1, 5] (fun vl vy => v = vl ∧ vy = .pointer (some ⟨b, 0, none⟩)) (fun _ _ => 0)
  case atStart => exact ⟨rfl, rfl⟩
  case round =>
    obtain ⟨rfl, rfl⟩ := hrel
    go_wp2_with (at_builtin; refine app1v rfl _ _ 253 9 rfl (.string (ByteArray.mk #[])) 16 Tryz.underlying253 info9 rfl (by decide) base w v n xs (.string s) rfl rfl rfl hown (Below.refl _ _) hbase (by omega) ?_; intro v' w' hown2 hb2)
    go_ret
    exact ⟨_, rfl, hown2, hb2⟩
end Go.Proofs.YtocahcammjoffaaGreatDoor
