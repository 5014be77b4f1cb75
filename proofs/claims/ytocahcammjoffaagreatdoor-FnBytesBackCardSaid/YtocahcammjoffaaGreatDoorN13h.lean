/- Walks and lemmas for the laws of this seat. -/
import Derived.Test.YtocahcammjoffaaGreatDoorN10
import Derived.Test.YtocahcammjoffaaGreatDoorN11
import Derived.Test.YtocahcammjoffaaGreatDoorN12
import Derived.Test.YtocahcammjoffaaGreatDoorN4
import Derived.Test.YtocahcammjoffaaGreatDoorP1
import Derived.Deep.RegionHeld
namespace Go.Proofs.YtocahcammjoffaaGreatDoor
open Go.RowKit Go.Dig
set_option maxRecDepth 100000
theorem sgn_add (s : Bool) (m n : Nat) : sgn s (m + n) = sgn s m + sgn s n := by cases s <;> simp [sgn] <;> omega
theorem sgn_sub_ge (s : Bool) {m n : Nat} (h : n ≤ m) : sgn s (m - n) = sgn s m + sgn (!s) n := by cases s <;> simp [sgn] <;> omega
theorem sgn_sub_lt (s : Bool) {m n : Nat} (h : m < n) : sgn (!s) (n - m) = sgn s m + sgn (!s) n := by cases s <;> simp [sgn] <;> omega
theorem sgn_neg (s : Bool) (n : Nat) : sgn (!s) n = - sgn s n := by cases s <;> simp [sgn]
theorem sgn_nil (s : Bool) {k : Nat} (h : k = 0) : sgn false k = sgn s k := by subst h; cases s <;> rfl
/-- The magnitude of z is stored; its sign is still that of 0. -/
def Zh (w : World) (bz : Nat) (v : Value) (k : Nat) (w' : World) : Prop := Blk w' bz #[.bool false, v] 203 ∧ Nw w' v k ∧ Below bz w w'
theorem zh_of {w w1 : World} {bz k : Nat} {v : Value} (hz : Blk w bz #[.bool false, .slice none 0 0] 203) (hb : Below w.heap.size w w1) (hv : Nw w1 v k) : Zh w bz v k (w1.setCell ⟨bz, 1, none⟩ v) := by
  have hB := hz.below hb hz.lt
  refine ⟨by simpa using hB.set 1 v, hv.set (p := ⟨bz, 1, none⟩) v hB.shape (by decide), ?_⟩
  exact (hb.mono (Nat.le_of_lt hz.lt)).setCell (p := ⟨bz, 1, none⟩) (Nat.le_refl _) v
theorem Zh.cells {w w' : World} {bz k : Nat} {v : Value} (h : Zh w bz v k w') : w'.cell? ⟨bz, 0, none⟩ = some (.bool false) ∧ w'.cell? ⟨bz, 1, none⟩ = some v ∧ w'.frozen? ⟨bz, 0, none⟩ = false :=
  ⟨h.1.cell 0, h.1.cell 1, h.1.frozen 0⟩
/-- How the end of Add and Sub is read. -/
def Zd (w : World) (bz : Nat) (S : Int) (e : Ending) (w' : World) : Prop := e = .returned (.pointer (some ⟨bz, 0, none⟩)) ∧ (∃ s k, sgn s k = S ∧ Iv w' bz s k) ∧ Below bz w w'
theorem Zh.done {w w' : World} {bz k : Nat} {v : Value} {S : Int} (h : Zh w bz v k w') (s : Bool) (hS : sgn s k = S) : Zd w bz S (.returned (.pointer (some ⟨bz, 0, none⟩))) (w'.setCell ⟨bz, 0, none⟩ (.bool s)) := by
  refine ⟨rfl, ⟨s, k, hS, v, by simpa using h.1.set 0 (.bool s), h.2.1.set (p := ⟨bz, 0, none⟩) _ h.1.shape (by decide)⟩, ?_⟩
  exact h.2.2.setCell (p := ⟨bz, 0, none⟩) (Nat.le_refl _) _
theorem nw_shape {w : World} {v : Value} {k : Nat} (h : Nw w v k) : ∃ a L c, v = .slice a L c ∧ Hid (L = (dg 18446744073709551616 k).length) := by
  obtain ⟨a, c, rfl⟩ := h.shape
  exact ⟨a, _, c, rfl, rfl⟩
theorem ncmp_b (vx vy : Value) (m n : Nat) (w : World) (hx : Nw w vx m) (hy : Nw w vy n) (hm1 : m < 18446744073709551616) (hn1 : n < 18446744073709551616) :
    Calls Tryz.prog 207 #[vx, vy] w fun e w' => e = .returned (.int .i64 (cmpI m n)) ∧ Below w.heap.size w w' :=
  (ncmp_small vx vy m n w hx hy hm1 hn1).mono fun _ _ ⟨h, k, hk⟩ => ⟨h, by rw [hk]; exact below_drewN' k⟩
theorem len_pos {k : Nat} (h : k ≠ 0) : 0 < (dg 18446744073709551616 k).length := by
  rcases Nat.eq_zero_or_pos (dg 18446744073709551616 k).length with h' | h'
  · exact absurd ((dg_nil_iff (b := 18446744073709551616) (by omega)).1 (List.eq_nil_of_length_eq_zero h')) h
  · exact h'

end Go.Proofs.YtocahcammjoffaaGreatDoor
