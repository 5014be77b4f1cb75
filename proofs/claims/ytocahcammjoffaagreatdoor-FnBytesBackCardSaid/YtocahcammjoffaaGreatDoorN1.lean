/- Walks and lemmas for the laws of this seat. -/
import Derived.Test.YtocahcammjoffaaGreatDoorB1
import Derived.Test.YtocahcammjoffaaGreatDoorDig
import Derived.Test.YtocahcammjoffaaGreatDoorS6
namespace Go.Proofs.YtocahcammjoffaaGreatDoor
open Go.RowKit Go.Dig
set_option maxRecDepth 100000
/-- What a word counts to. -/
abbrev WB : Nat := 18446744073709551616
/-- A slice of words that reads as a natural number. -/
abbrev Nw (w : World) (v : Value) (n : Nat) : Prop := Rt 158 .u64 w v (dg 18446744073709551616 n)
/-- A big integer behind a pointer. -/
def Iv (w : World) (b : Nat) (s : Bool) (n : Nat) : Prop := ∃ v, Blk w b #[.bool s, v] 203 ∧ Nw w v n
theorem Iv.below {w w' : World} {b n : Nat} {s : Bool} (h : Iv w b s n) (hb : Below w.heap.size w w') : Iv w' b s n := by
  obtain ⟨v, h1, h2⟩ := h
  exact ⟨v, h1.below hb h1.lt, h2.below hb (Nat.le_refl _)⟩
set_option maxHeartbeats 400000 in
theorem low64_any (v : Value) (n : Nat) (w : World) (h : Nw w v n) : Calls Tryz.prog 231 #[v] w fun e w' => e = .returned (.int .u64 ((n % 18446744073709551616 : Nat) : Int)) ∧ w' = w := by
  obtain ⟨a, cap, rfl, h1, h2, h3⟩ := h
  rcases Nat.eq_zero_or_pos (dg 18446744073709551616 n).length with hl | hl
  · have hn : n = 0 := (dg_nil_iff (b := 18446744073709551616) (by omega)).1 (List.eq_nil_of_length_eq_zero hl)
    subst hn
    rw [hl]
    clear h1 h2 h3
    go_enter Tryz.func231, Tryz.ntmps231
    go_wp2_with fail
    go_ret
    exact ⟨rfl, rfl⟩
  · obtain ⟨b, off, rfl, _, hb3⟩ := h3 hl
    have hk := hb3 0 hl
    rw [dg_getD (by omega), Nat.pow_zero, Nat.div_one, Nat.add_zero] at hk
    clear hb3 h3
    generalize n % 18446744073709551616 = x at *
    go_enter Tryz.func231, Tryz.ntmps231
    go_wp2_with fail
    go_ret
    exact ⟨rfl, rfl⟩
end Go.Proofs.YtocahcammjoffaaGreatDoor
