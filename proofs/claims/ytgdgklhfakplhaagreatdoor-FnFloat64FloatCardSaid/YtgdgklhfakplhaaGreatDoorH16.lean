/- Walks and lemmas for the laws of this seat. -/
import Derived.Test.YtgdgklhfakplhaaGreatDoorH15
import Derived.Deep.RegionHeld

namespace Go.Proofs.YtgdgklhfakplhaaGreatDoor
open Go.RowKit Go.Dig
set_option maxRecDepth 100000
/-- A fraction, told by its sign, its numerator and its denominator. -/
def Ra (w : World) (v : Value) (s : Bool) (n d : Nat) : Prop := ∃ v1 v2, v = .agg #[.bool s, v1, v2] ∧ Nt w v1 n ∧ Nt w v2 d
theorem Ra.below {w w' : World} {v : Value} {s : Bool} {n d B : Nat} (h : Ra w v s n d) (hb : Below B w w') (hB : w.heap.size ≤ B) : Ra w' v s n d := by
  obtain ⟨v1, v2, e, h1, h2⟩ := h
  exact ⟨v1, v2, e, h1.below hb hB, h2.below hb hB⟩
theorem mul_len {m n j k : Nat} (h1 : (dg 65536 m).length ≤ j) (h2 : (dg 65536 n).length ≤ k) : (dg 65536 (m * n)).length ≤ j + k := by
  apply dg_length_le (by omega)
  have e1 := Nat.lt_of_lt_of_le (lt_pow_dg_length (b := 65536) (by omega) m) (Nat.pow_le_pow_right (by omega) h1)
  have e2 := Nat.lt_of_lt_of_le (lt_pow_dg_length (b := 65536) (by omega) n) (Nat.pow_le_pow_right (by omega) h2)
  rw [Nat.pow_add]
  exact Nat.mul_lt_mul'' e1 e2
theorem add_len {m n k : Nat} (h1 : (dg 65536 m).length ≤ k) (h2 : (dg 65536 n).length ≤ k) : (dg 65536 (m + n)).length ≤ k + 1 := by
  apply dg_length_le (by omega)
  have e1 := Nat.lt_of_lt_of_le (lt_pow_dg_length (b := 65536) (by omega) m) (Nat.pow_le_pow_right (by omega) h1)
  have e2 := Nat.lt_of_lt_of_le (lt_pow_dg_length (b := 65536) (by omega) n) (Nat.pow_le_pow_right (by omega) h2)
  rw [Nat.pow_succ]; omega
theorem sgn_true (n : Nat) : sgn true n = -(n : Int) := rfl
theorem sgn_false (n : Nat) : sgn false n = (n : Int) := rfl
/-- Three structs of three cells stand at the start's end, the first two known, and all else of the start too. -/
def Tb (w : World) (x0 x1 x2 y0 y1 y2 : Value) (w' : World) : Prop :=
  Blk w' w.heap.size #[x0, x1, x2] 31 ∧ Blk w' (w.heap.size + 1) #[y0, y1, y2] 31 ∧ (∃ z0 z1 z2, Blk w' (w.heap.size + 1 + 1) #[z0, z1, z2] 31) ∧ Below w.heap.size w w'
/-- The cells of the two structs that a region reads; and that they stand. -/
def Sp (w : World) (x0 x1 x2 y0 y1 y2 : Value) (w' : World) : Prop :=
  w'.cell? ⟨w.heap.size, 1, none⟩ = some x1 ∧ w'.cell? ⟨w.heap.size, 2, none⟩ = some x2 ∧ w'.cell? ⟨w.heap.size + 1, 1, none⟩ = some y1 ∧ w'.cell? ⟨w.heap.size + 1, 2, none⟩ = some y2 ∧ Tb w x0 x1 x2 y0 y1 y2 w'
def Sz (w : World) (x0 x1 x2 y0 y1 y2 : Value) (w' : World) : Prop :=
  w'.cell? ⟨w.heap.size, 0, none⟩ = some x0 ∧ w'.cell? ⟨w.heap.size + 1, 0, none⟩ = some y0 ∧ Tb w x0 x1 x2 y0 y1 y2 w'
section
variable {w ww w1 : World} {x0 x1 x2 y0 y1 y2 : Value}
theorem sp_of (h : Tb w x0 x1 x2 y0 y1 y2 ww) : Sp w x0 x1 x2 y0 y1 y2 ww := ⟨h.1.cell 1, h.1.cell 2, h.2.1.cell 1, h.2.1.cell 2, h⟩
theorem sz_of (h : Tb w x0 x1 x2 y0 y1 y2 ww) : Sz w x0 x1 x2 y0 y1 y2 ww := ⟨h.1.cell 0, h.2.1.cell 0, h⟩
theorem tb_next (hb : Below ww.heap.size ww w1) (h : Tb w x0 x1 x2 y0 y1 y2 ww) : Tb w x0 x1 x2 y0 y1 y2 w1 := by
  obtain ⟨h1, h2, ⟨z0, z1, z2, h3⟩, h4⟩ := h
  exact ⟨h1.below hb h1.lt, h2.below hb h2.lt, ⟨z0, z1, z2, h3.below hb h3.lt⟩, below_next h4 hb⟩
theorem tb_drew (h : Tb w x0 x1 x2 y0 y1 y2 ww) : Tb w x0 x1 x2 y0 y1 y2 ww.drew := tb_next (below_drewN' 1) h
theorem blk_far {b b2 : Nat} {c : Array Value} {t : TypeId} (h : Blk ww b c t) (hne : b2 ≠ b) (i : Nat) (v : Value) : Blk (ww.setCell ⟨b2, i, none⟩ v) b c t := by
  unfold Blk at *
  simp only [World.setCell, Array.getElem?_modify, if_neg hne, h]
theorem tb_set3 (h : Tb w x0 x1 x2 y0 y1 y2 ww) (u0 u1 u2 : Value) :
    Tb w x0 x1 x2 y0 y1 y2 (((ww.setCell ⟨w.heap.size + 1 + 1, 0, none⟩ u0).setCell ⟨w.heap.size + 1 + 1, 1, none⟩ u1).setCell ⟨w.heap.size + 1 + 1, 2, none⟩ u2) := by
  obtain ⟨h1, h2, ⟨z0, z1, z2, h3⟩, h4⟩ := h
  refine ⟨blk_far (blk_far (blk_far h1 (by omega) _ _) (by omega) _ _) (by omega) _ _, blk_far (blk_far (blk_far h2 (by omega) _ _) (by omega) _ _) (by omega) _ _, ⟨u0, u1, u2, ?_⟩, below_set3 h4 (by omega) _ _ _⟩
  exact ((h3.set 0 u0).set 1 u1).set 2 u2
theorem sp_below (h : Sp w x0 x1 x2 y0 y1 y2 ww) : Below w.heap.size w ww := h.2.2.2.2.2.2.2
theorem sp_next (hb : Below ww.heap.size ww w1) (h : Sp w x0 x1 x2 y0 y1 y2 ww) : Sp w x0 x1 x2 y0 y1 y2 w1 := sp_of (tb_next hb h.2.2.2.2)
theorem sz_next (hb : Below ww.heap.size ww w1) (h : Sz w x0 x1 x2 y0 y1 y2 ww) : Sz w x0 x1 x2 y0 y1 y2 w1 := sz_of (tb_next hb h.2.2)
theorem sz_set3 (h : Sz w x0 x1 x2 y0 y1 y2 ww) (u0 u1 u2 : Value) :
    Sz w x0 x1 x2 y0 y1 y2 (((ww.setCell ⟨w.heap.size + 1 + 1, 0, none⟩ u0).setCell ⟨w.heap.size + 1 + 1, 1, none⟩ u1).setCell ⟨w.heap.size + 1 + 1, 2, none⟩ u2) := sz_of (tb_set3 h.2.2 u0 u1 u2)
end
theorem three_alloc (w : World) (x0 x1 x2 y0 y1 y2 z0 z1 z2 : Value) :
    Tb w x0 x1 x2 y0 y1 y2 (((w.alloc (.cells #[x0, x1, x2] 31)).alloc (.cells #[y0, y1, y2] 31)).alloc (.cells #[z0, z1, z2] 31)) := by
  refine ⟨((blk_new w _ 31).alloc _).alloc _, ?_, ⟨z0, z1, z2, ?_⟩, (((Below.refl _ _).alloc (Nat.le_refl _) _).alloc (by simp) _).alloc (by simp; omega) _⟩
  · have := (blk_new (w.alloc (.cells #[x0, x1, x2] 31)) #[y0, y1, y2] 31).alloc (.cells #[z0, z1, z2] 31)
    simpa using this
  · have := blk_new ((w.alloc (.cells #[x0, x1, x2] 31)).alloc (.cells #[y0, y1, y2] 31)) #[z0, z1, z2] 31
    simpa using this
end Go.Proofs.YtgdgklhfakplhaaGreatDoor
