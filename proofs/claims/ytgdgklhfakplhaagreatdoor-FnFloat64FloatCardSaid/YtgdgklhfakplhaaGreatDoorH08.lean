/- Walks and lemmas for the laws of this seat. -/
import Derived.Test.YtgdgklhfakplhaaGreatDoorH07
import Derived.Test.YtgdgklhfakplhaaGreatDoorH04
import Derived.Deep.RegionHeld3

namespace Go.Proofs.YtgdgklhfakplhaaGreatDoor
open Go.RowKit Go.Dig
set_option maxRecDepth 100000
theorem isNumber_t (xn neg : Bool) (vx vn : Value) (ws : List Nat) (n : Nat) (w : World) (hx : Rd .u64 w vx ws) (hn : Nt w vn n) (hl : (dg 65536 n).length ≤ 100000) (hP : xn = (neg && decide (n ≠ 0)) ∧ ws = dg 18446744073709551616 n) :
    Calls Tryz.prog 52 #[.agg #[.bool xn, vx], .bool neg, vn] w fun e w' => e = .returned (.bool true) ∧ Below w.heap.size w w' :=
  (isNumber_any xn neg vx vn ws n w hx hn hl).mono fun e w' ⟨ok, h1, h2, h3⟩ => ⟨by rw [h1, h2.out.2 hP], h3⟩
theorem isNumber_f (xn neg : Bool) (vx vn : Value) (ws : List Nat) (n : Nat) (w : World) (hx : Rd .u64 w vx ws) (hn : Nt w vn n) (hl : (dg 65536 n).length ≤ 100000) (hP : ¬ (xn = (neg && decide (n ≠ 0)) ∧ ws = dg 18446744073709551616 n)) :
    Calls Tryz.prog 52 #[.agg #[.bool xn, vx], .bool neg, vn] w fun e w' => e = .returned (.bool false) ∧ Below w.heap.size w w' :=
  (isNumber_any xn neg vx vn ws n w hx hn hl).mono fun e w' ⟨ok, h1, h2, h3⟩ => ⟨by
    cases ok
    · exact h1
    · exact absurd (h2.out.1 rfl) hP, h3⟩
theorem Blk.far3 {w : World} {b X : Nat} {c : Array Value} {e : TypeId} (h : Blk w b c e) (hne : b ≠ X) (x0 x1 x2 : Value) :
    Blk (((w.setCell ⟨X, 0, none⟩ x0).setCell ⟨X, 1, none⟩ x1).setCell ⟨X, 2, none⟩ x2) b c e :=
  (Below.heap_setCell _ ⟨X, 2, none⟩ x2 b hne).trans ((Below.heap_setCell _ ⟨X, 1, none⟩ x1 b hne).trans ((Below.heap_setCell w ⟨X, 0, none⟩ x0 b hne).trans h))
theorem cells12 {w : World} {B X : Nat} {x0 x1 x2 x3 x4 x5 x6 x7 x8 y0 y1 y2 : Value} (hP : Blk w B #[x0, x1, x2, x3, x4, x5, x6, x7, x8] 26) (hV : Blk w X #[y0, y1, y2] 31) :
    w.cell? ⟨B, 0, none⟩ = some x0 ∧ w.cell? ⟨B, 1, none⟩ = some x1 ∧ w.cell? ⟨B, 2, none⟩ = some x2 ∧ w.cell? ⟨B, 3, none⟩ = some x3 ∧ w.cell? ⟨B, 4, none⟩ = some x4 ∧ w.cell? ⟨B, 5, none⟩ = some x5 ∧ w.cell? ⟨B, 6, none⟩ = some x6 ∧ w.cell? ⟨B, 7, none⟩ = some x7 ∧ w.cell? ⟨B, 8, none⟩ = some x8 ∧ w.cell? ⟨X, 0, none⟩ = some y0 ∧ w.cell? ⟨X, 1, none⟩ = some y1 ∧ w.cell? ⟨X, 2, none⟩ = some y2 :=
  ⟨hP.cell 0, hP.cell 1, hP.cell 2, hP.cell 3, hP.cell 4, hP.cell 5, hP.cell 6, hP.cell 7, hP.cell 8, hV.cell 0, hV.cell 1, hV.cell 2⟩
theorem of_len {ws : List Nat} (hd : ∀ d ∈ ws, d < 18446744073709551616) (hn : ws.length ≤ 1000) : (dg 65536 (val 18446744073709551616 ws)).length ≤ 100000 := by
  have h1 := val_lt (b := 18446744073709551616) (by omega) hd
  rw [wb_pow] at h1
  have := dg_length_le (b := 65536) (by omega) h1
  omega
theorem cell_set3 {w : World} {X B : Nat} (hne : B ≠ X) (x0 x1 x2 : Value) (i : Nat) :
    (((w.setCell ⟨X, 0, none⟩ x0).setCell ⟨X, 1, none⟩ x1).setCell ⟨X, 2, none⟩ x2).cell? ⟨B, i, none⟩ = w.cell? ⟨B, i, none⟩ := by
  rw [World.cell?_setCell_other _ _ _ _ (fun e => hne (congrArg Addr.block e).symm), World.cell?_setCell_other _ _ _ _ (fun e => hne (congrArg Addr.block e).symm), World.cell?_setCell_other _ _ _ _ (fun e => hne (congrArg Addr.block e).symm)]
/-- How the end of spec.Integer is read: Q says that what a number does not use is nothing. -/
def IntP (n1 : Bool) (ws : List Nat) (Q : Prop) (w : World) (e : Ending) (w' : World) : Prop :=
  ∃ s0 u1 u2 ok, e = .returned (.tuple #[.agg #[.bool s0, u1, u2], .bool ok]) ∧ Hid (s0 = (n1 && decide (val 18446744073709551616 ws ≠ 0))) ∧
    Hid (ok = true → n1 = s0 ∧ ws = dg 18446744073709551616 (val 18446744073709551616 ws)) ∧ Hid (n1 = s0 ∧ ws = dg 18446744073709551616 (val 18446744073709551616 ws) ∧ Q → ok = true) ∧
    (Nt w' u1 (val 18446744073709551616 ws) ∧ Nt w' u2 1) ∧ Below w.heap.size w w'
end Go.Proofs.YtgdgklhfakplhaaGreatDoor
