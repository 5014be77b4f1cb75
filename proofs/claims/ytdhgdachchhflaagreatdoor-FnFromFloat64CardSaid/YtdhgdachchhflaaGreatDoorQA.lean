/- Vocabulary of slices and blocks, and the reference's small functions. -/
import Derived.Test.YtdhgdachchhflaaGreatDoorProg
import Derived.WalkKit
import Derived.WalkSpells
import Derived.WalkLawsBesides
import Derived.KernelRfl
import Derived.Handy
import Derived.BigQuiet
import Derived.Deep.QuietTactic
import Derived.Deep.LoopGhost
import Derived.Deep.OwnRows
namespace Go.Proofs.YtdhgdachchhflaaGreatDoor
open Go.RowKit
theorem ta_119_119 (w : World) (v : Value) : (Instr.typeAssert (.iface 94 v) 39 94 true).run Tryz.prog w = .ok (.tuple #[v, .bool true]) w := by kernel_rfl
theorem ta_119_122 (w : World) (v : Value) : (Instr.typeAssert (.iface 94 v) 39 96 true).run Tryz.prog w = .ok (.tuple #[.agg #[.pointer none], .bool false]) w := by kernel_rfl
theorem ta_119_132 (w : World) (v : Value) : (Instr.typeAssert (.iface 94 v) 39 64 true).run Tryz.prog w = .ok (.tuple #[.agg #[.pointer none], .bool false]) w := by kernel_rfl
theorem ta_119_135 (w : World) (v : Value) : (Instr.typeAssert (.iface 94 v) 39 69 true).run Tryz.prog w = .ok (.tuple #[.agg #[.pointer none], .bool false]) w := by kernel_rfl
theorem ta_119_137 (w : World) (v : Value) : (Instr.typeAssert (.iface 94 v) 39 59 true).run Tryz.prog w = .ok (.tuple #[.agg #[], .bool false]) w := by kernel_rfl
theorem ta_119_165 (w : World) (v : Value) : (Instr.typeAssert (.iface 94 v) 39 77 true).run Tryz.prog w = .ok (.tuple #[.bool false, .bool false]) w := by kernel_rfl
theorem ta_119_178 (w : World) (v : Value) : (Instr.typeAssert (.iface 94 v) 39 98 true).run Tryz.prog w = .ok (.tuple #[.agg #[.nilIface, .nilIface], .bool false]) w := by kernel_rfl
theorem ta_119_180 (w : World) (v : Value) : (Instr.typeAssert (.iface 94 v) 39 78 true).run Tryz.prog w = .ok (.tuple #[.pointer none, .bool false]) w := by kernel_rfl
theorem ta1_119 (w : World) (v : Value) : (Instr.typeAssert (.iface 94 v) 39 94 false).run Tryz.prog w = .ok v w := by kernel_rfl
theorem ta_122_119 (w : World) (v : Value) : (Instr.typeAssert (.iface 96 v) 39 94 true).run Tryz.prog w = .ok (.tuple #[.int .i64 0, .bool false]) w := by kernel_rfl
theorem ta_122_122 (w : World) (v : Value) : (Instr.typeAssert (.iface 96 v) 39 96 true).run Tryz.prog w = .ok (.tuple #[v, .bool true]) w := by kernel_rfl
theorem ta_122_132 (w : World) (v : Value) : (Instr.typeAssert (.iface 96 v) 39 64 true).run Tryz.prog w = .ok (.tuple #[.agg #[.pointer none], .bool false]) w := by kernel_rfl
theorem ta_122_135 (w : World) (v : Value) : (Instr.typeAssert (.iface 96 v) 39 69 true).run Tryz.prog w = .ok (.tuple #[.agg #[.pointer none], .bool false]) w := by kernel_rfl
theorem ta_122_137 (w : World) (v : Value) : (Instr.typeAssert (.iface 96 v) 39 59 true).run Tryz.prog w = .ok (.tuple #[.agg #[], .bool false]) w := by kernel_rfl
theorem ta_122_165 (w : World) (v : Value) : (Instr.typeAssert (.iface 96 v) 39 77 true).run Tryz.prog w = .ok (.tuple #[.bool false, .bool false]) w := by kernel_rfl
theorem ta_122_178 (w : World) (v : Value) : (Instr.typeAssert (.iface 96 v) 39 98 true).run Tryz.prog w = .ok (.tuple #[.agg #[.nilIface, .nilIface], .bool false]) w := by kernel_rfl
theorem ta_122_180 (w : World) (v : Value) : (Instr.typeAssert (.iface 96 v) 39 78 true).run Tryz.prog w = .ok (.tuple #[.pointer none, .bool false]) w := by kernel_rfl
theorem ta1_122 (w : World) (v : Value) : (Instr.typeAssert (.iface 96 v) 39 96 false).run Tryz.prog w = .ok v w := by kernel_rfl
theorem ta_132_119 (w : World) (v : Value) : (Instr.typeAssert (.iface 64 v) 39 94 true).run Tryz.prog w = .ok (.tuple #[.int .i64 0, .bool false]) w := by kernel_rfl
theorem ta_132_122 (w : World) (v : Value) : (Instr.typeAssert (.iface 64 v) 39 96 true).run Tryz.prog w = .ok (.tuple #[.agg #[.pointer none], .bool false]) w := by kernel_rfl
theorem ta_132_132 (w : World) (v : Value) : (Instr.typeAssert (.iface 64 v) 39 64 true).run Tryz.prog w = .ok (.tuple #[v, .bool true]) w := by kernel_rfl
theorem ta_132_135 (w : World) (v : Value) : (Instr.typeAssert (.iface 64 v) 39 69 true).run Tryz.prog w = .ok (.tuple #[.agg #[.pointer none], .bool false]) w := by kernel_rfl
theorem ta_132_137 (w : World) (v : Value) : (Instr.typeAssert (.iface 64 v) 39 59 true).run Tryz.prog w = .ok (.tuple #[.agg #[], .bool false]) w := by kernel_rfl
theorem ta_132_165 (w : World) (v : Value) : (Instr.typeAssert (.iface 64 v) 39 77 true).run Tryz.prog w = .ok (.tuple #[.bool false, .bool false]) w := by kernel_rfl
theorem ta_132_178 (w : World) (v : Value) : (Instr.typeAssert (.iface 64 v) 39 98 true).run Tryz.prog w = .ok (.tuple #[.agg #[.nilIface, .nilIface], .bool false]) w := by kernel_rfl
theorem ta_132_180 (w : World) (v : Value) : (Instr.typeAssert (.iface 64 v) 39 78 true).run Tryz.prog w = .ok (.tuple #[.pointer none, .bool false]) w := by kernel_rfl
theorem ta1_132 (w : World) (v : Value) : (Instr.typeAssert (.iface 64 v) 39 64 false).run Tryz.prog w = .ok v w := by kernel_rfl
theorem ta_135_119 (w : World) (v : Value) : (Instr.typeAssert (.iface 69 v) 39 94 true).run Tryz.prog w = .ok (.tuple #[.int .i64 0, .bool false]) w := by kernel_rfl
theorem ta_135_122 (w : World) (v : Value) : (Instr.typeAssert (.iface 69 v) 39 96 true).run Tryz.prog w = .ok (.tuple #[.agg #[.pointer none], .bool false]) w := by kernel_rfl
theorem ta_135_132 (w : World) (v : Value) : (Instr.typeAssert (.iface 69 v) 39 64 true).run Tryz.prog w = .ok (.tuple #[.agg #[.pointer none], .bool false]) w := by kernel_rfl
theorem ta_135_135 (w : World) (v : Value) : (Instr.typeAssert (.iface 69 v) 39 69 true).run Tryz.prog w = .ok (.tuple #[v, .bool true]) w := by kernel_rfl
theorem ta_135_137 (w : World) (v : Value) : (Instr.typeAssert (.iface 69 v) 39 59 true).run Tryz.prog w = .ok (.tuple #[.agg #[], .bool false]) w := by kernel_rfl
theorem ta_135_165 (w : World) (v : Value) : (Instr.typeAssert (.iface 69 v) 39 77 true).run Tryz.prog w = .ok (.tuple #[.bool false, .bool false]) w := by kernel_rfl
theorem ta_135_178 (w : World) (v : Value) : (Instr.typeAssert (.iface 69 v) 39 98 true).run Tryz.prog w = .ok (.tuple #[.agg #[.nilIface, .nilIface], .bool false]) w := by kernel_rfl
theorem ta_135_180 (w : World) (v : Value) : (Instr.typeAssert (.iface 69 v) 39 78 true).run Tryz.prog w = .ok (.tuple #[.pointer none, .bool false]) w := by kernel_rfl
theorem ta1_135 (w : World) (v : Value) : (Instr.typeAssert (.iface 69 v) 39 69 false).run Tryz.prog w = .ok v w := by kernel_rfl
theorem ta_137_119 (w : World) (v : Value) : (Instr.typeAssert (.iface 59 v) 39 94 true).run Tryz.prog w = .ok (.tuple #[.int .i64 0, .bool false]) w := by kernel_rfl
theorem ta_137_122 (w : World) (v : Value) : (Instr.typeAssert (.iface 59 v) 39 96 true).run Tryz.prog w = .ok (.tuple #[.agg #[.pointer none], .bool false]) w := by kernel_rfl
theorem ta_137_132 (w : World) (v : Value) : (Instr.typeAssert (.iface 59 v) 39 64 true).run Tryz.prog w = .ok (.tuple #[.agg #[.pointer none], .bool false]) w := by kernel_rfl
theorem ta_137_135 (w : World) (v : Value) : (Instr.typeAssert (.iface 59 v) 39 69 true).run Tryz.prog w = .ok (.tuple #[.agg #[.pointer none], .bool false]) w := by kernel_rfl
theorem ta_137_137 (w : World) (v : Value) : (Instr.typeAssert (.iface 59 v) 39 59 true).run Tryz.prog w = .ok (.tuple #[v, .bool true]) w := by kernel_rfl
theorem ta_137_165 (w : World) (v : Value) : (Instr.typeAssert (.iface 59 v) 39 77 true).run Tryz.prog w = .ok (.tuple #[.bool false, .bool false]) w := by kernel_rfl
theorem ta_137_178 (w : World) (v : Value) : (Instr.typeAssert (.iface 59 v) 39 98 true).run Tryz.prog w = .ok (.tuple #[.agg #[.nilIface, .nilIface], .bool false]) w := by kernel_rfl
theorem ta_137_180 (w : World) (v : Value) : (Instr.typeAssert (.iface 59 v) 39 78 true).run Tryz.prog w = .ok (.tuple #[.pointer none, .bool false]) w := by kernel_rfl
theorem ta1_137 (w : World) (v : Value) : (Instr.typeAssert (.iface 59 v) 39 59 false).run Tryz.prog w = .ok v w := by kernel_rfl
theorem ta_165_119 (w : World) (v : Value) : (Instr.typeAssert (.iface 77 v) 39 94 true).run Tryz.prog w = .ok (.tuple #[.int .i64 0, .bool false]) w := by kernel_rfl
theorem ta_165_122 (w : World) (v : Value) : (Instr.typeAssert (.iface 77 v) 39 96 true).run Tryz.prog w = .ok (.tuple #[.agg #[.pointer none], .bool false]) w := by kernel_rfl
theorem ta_165_132 (w : World) (v : Value) : (Instr.typeAssert (.iface 77 v) 39 64 true).run Tryz.prog w = .ok (.tuple #[.agg #[.pointer none], .bool false]) w := by kernel_rfl
theorem ta_165_135 (w : World) (v : Value) : (Instr.typeAssert (.iface 77 v) 39 69 true).run Tryz.prog w = .ok (.tuple #[.agg #[.pointer none], .bool false]) w := by kernel_rfl
theorem ta_165_137 (w : World) (v : Value) : (Instr.typeAssert (.iface 77 v) 39 59 true).run Tryz.prog w = .ok (.tuple #[.agg #[], .bool false]) w := by kernel_rfl
theorem ta_165_165 (w : World) (v : Value) : (Instr.typeAssert (.iface 77 v) 39 77 true).run Tryz.prog w = .ok (.tuple #[v, .bool true]) w := by kernel_rfl
theorem ta_165_178 (w : World) (v : Value) : (Instr.typeAssert (.iface 77 v) 39 98 true).run Tryz.prog w = .ok (.tuple #[.agg #[.nilIface, .nilIface], .bool false]) w := by kernel_rfl
theorem ta_165_180 (w : World) (v : Value) : (Instr.typeAssert (.iface 77 v) 39 78 true).run Tryz.prog w = .ok (.tuple #[.pointer none, .bool false]) w := by kernel_rfl
theorem ta1_165 (w : World) (v : Value) : (Instr.typeAssert (.iface 77 v) 39 77 false).run Tryz.prog w = .ok v w := by kernel_rfl
theorem ta_178_119 (w : World) (v : Value) : (Instr.typeAssert (.iface 98 v) 39 94 true).run Tryz.prog w = .ok (.tuple #[.int .i64 0, .bool false]) w := by kernel_rfl
theorem ta_178_122 (w : World) (v : Value) : (Instr.typeAssert (.iface 98 v) 39 96 true).run Tryz.prog w = .ok (.tuple #[.agg #[.pointer none], .bool false]) w := by kernel_rfl
theorem ta_178_132 (w : World) (v : Value) : (Instr.typeAssert (.iface 98 v) 39 64 true).run Tryz.prog w = .ok (.tuple #[.agg #[.pointer none], .bool false]) w := by kernel_rfl
theorem ta_178_135 (w : World) (v : Value) : (Instr.typeAssert (.iface 98 v) 39 69 true).run Tryz.prog w = .ok (.tuple #[.agg #[.pointer none], .bool false]) w := by kernel_rfl
theorem ta_178_137 (w : World) (v : Value) : (Instr.typeAssert (.iface 98 v) 39 59 true).run Tryz.prog w = .ok (.tuple #[.agg #[], .bool false]) w := by kernel_rfl
theorem ta_178_165 (w : World) (v : Value) : (Instr.typeAssert (.iface 98 v) 39 77 true).run Tryz.prog w = .ok (.tuple #[.bool false, .bool false]) w := by kernel_rfl
theorem ta_178_178 (w : World) (v : Value) : (Instr.typeAssert (.iface 98 v) 39 98 true).run Tryz.prog w = .ok (.tuple #[v, .bool true]) w := by kernel_rfl
theorem ta_178_180 (w : World) (v : Value) : (Instr.typeAssert (.iface 98 v) 39 78 true).run Tryz.prog w = .ok (.tuple #[.pointer none, .bool false]) w := by kernel_rfl
theorem ta1_178 (w : World) (v : Value) : (Instr.typeAssert (.iface 98 v) 39 98 false).run Tryz.prog w = .ok v w := by kernel_rfl
theorem ta_180_119 (w : World) (v : Value) : (Instr.typeAssert (.iface 78 v) 39 94 true).run Tryz.prog w = .ok (.tuple #[.int .i64 0, .bool false]) w := by kernel_rfl
theorem ta_180_122 (w : World) (v : Value) : (Instr.typeAssert (.iface 78 v) 39 96 true).run Tryz.prog w = .ok (.tuple #[.agg #[.pointer none], .bool false]) w := by kernel_rfl
theorem ta_180_132 (w : World) (v : Value) : (Instr.typeAssert (.iface 78 v) 39 64 true).run Tryz.prog w = .ok (.tuple #[.agg #[.pointer none], .bool false]) w := by kernel_rfl
theorem ta_180_135 (w : World) (v : Value) : (Instr.typeAssert (.iface 78 v) 39 69 true).run Tryz.prog w = .ok (.tuple #[.agg #[.pointer none], .bool false]) w := by kernel_rfl
theorem ta_180_137 (w : World) (v : Value) : (Instr.typeAssert (.iface 78 v) 39 59 true).run Tryz.prog w = .ok (.tuple #[.agg #[], .bool false]) w := by kernel_rfl
theorem ta_180_165 (w : World) (v : Value) : (Instr.typeAssert (.iface 78 v) 39 77 true).run Tryz.prog w = .ok (.tuple #[.bool false, .bool false]) w := by kernel_rfl
theorem ta_180_178 (w : World) (v : Value) : (Instr.typeAssert (.iface 78 v) 39 98 true).run Tryz.prog w = .ok (.tuple #[.agg #[.nilIface, .nilIface], .bool false]) w := by kernel_rfl
theorem ta_180_180 (w : World) (v : Value) : (Instr.typeAssert (.iface 78 v) 39 78 true).run Tryz.prog w = .ok (.tuple #[v, .bool true]) w := by kernel_rfl
theorem ta1_180 (w : World) (v : Value) : (Instr.typeAssert (.iface 78 v) 39 78 false).run Tryz.prog w = .ok v w := by kernel_rfl
end Go.Proofs.YtdhgdachchhflaaGreatDoor
namespace Go.Dig

def val (b : Nat) : List Nat → Nat
  | [] => 0
  | d :: l => d + b * val b l

def dg (b n : Nat) : List Nat :=
  if _h : n = 0 ∨ b < 2 then [] else n % b :: dg b (n / b)
termination_by n
decreasing_by
  exact Nat.div_lt_self (by omega) (by omega)

theorem dg_zero (b : Nat) : dg b 0 = [] := by unfold dg; simp
theorem dg_pos {b n : Nat} (hb : 2 ≤ b) (hn : n ≠ 0) : dg b n = n % b :: dg b (n / b) := by
  rw [dg]; rw [dif_neg (by omega)]

theorem val_dg {b : Nat} (hb : 2 ≤ b) (n : Nat) : val b (dg b n) = n := by
  induction n using Nat.strongRecOn with
  | ind n ih =>
    by_cases h : n = 0
    · subst h; rw [dg_zero]; rfl
    · rw [dg_pos hb h]
      show n % b + b * val b (dg b (n / b)) = n
      rw [ih _ (Nat.div_lt_self (by omega) (by omega))]
      exact Nat.mod_add_div n b

theorem dg_lt {b : Nat} (hb : 2 ≤ b) (n : Nat) : ∀ d ∈ dg b n, d < b := by
  induction n using Nat.strongRecOn with
  | ind n ih =>
    by_cases h : n = 0
    · subst h; rw [dg_zero]; simp
    · rw [dg_pos hb h]
      intro d hd
      rcases List.mem_cons.1 hd with rfl | hd
      · exact Nat.mod_lt _ (by omega)
      · exact ih _ (Nat.div_lt_self (by omega) (by omega)) d hd

theorem dg_nil_iff {b n : Nat} (hb : 2 ≤ b) : dg b n = [] ↔ n = 0 := by
  constructor
  · intro h
    by_cases hn : n = 0
    · exact hn
    · rw [dg_pos hb hn] at h; cases h
  · rintro rfl; exact dg_zero b

/-- The digits are told without 0 at the end. -/
def Canon (b : Nat) (l : List Nat) : Prop := (∀ d ∈ l, d < b) ∧ ∀ (h : l ≠ []), l.getLast h ≠ 0

theorem canon_nil (b : Nat) : Canon b [] := ⟨by simp, fun h => absurd rfl h⟩

theorem canon_tail {b d : Nat} {l : List Nat} (h : Canon b (d :: l)) : Canon b l := by
  refine ⟨fun x hx => h.1 x (List.mem_cons_of_mem _ hx), fun hl => ?_⟩
  have := h.2 (by simp)
  rwa [List.getLast_cons hl] at this

theorem val_pos_of_canon {b : Nat} (hb : 2 ≤ b) : ∀ {l : List Nat}, Canon b l → l ≠ [] → 0 < val b l
  | [], _, h => absurd rfl h
  | [d], h, _ => by
    have := h.2 (by simp)
    simp at this
    show 0 < d + b * 0
    omega
  | d :: e :: l, h, _ => by
    have ih := val_pos_of_canon hb (canon_tail h) (by simp)
    show 0 < d + b * val b (e :: l)
    have : 0 < b * val b (e :: l) := Nat.mul_pos (by omega) ih
    omega

theorem canon_eq {b : Nat} (hb : 2 ≤ b) : ∀ {l : List Nat}, Canon b l → l = dg b (val b l)
  | [], _ => by show [] = dg b 0; rw [dg_zero]
  | d :: l, h => by
    have hp := val_pos_of_canon hb h (by simp)
    have ih := canon_eq hb (canon_tail h)
    have hd : d < b := h.1 d (by simp)
    rw [dg_pos hb (by omega)]
    show d :: l = (d + b * val b l) % b :: dg b ((d + b * val b l) / b)
    rw [Nat.add_mul_mod_self_left, Nat.mod_eq_of_lt hd, Nat.add_mul_div_left _ _ (by omega), Nat.div_eq_of_lt hd, Nat.zero_add, ← ih]

theorem canon_dg {b : Nat} (hb : 2 ≤ b) (n : Nat) : Canon b (dg b n) := by
  refine ⟨dg_lt hb n, ?_⟩
  induction n using Nat.strongRecOn with
  | ind n ih =>
    intro h
    by_cases hn : n = 0
    · subst hn; exact absurd (dg_zero b) h
    · have e := dg_pos hb hn
      by_cases hq : n / b = 0
      · have e' : dg b n = [n % b] := by rw [e, hq, dg_zero]
        have hlt : n < b := by
          rcases Nat.lt_or_ge n b with h | h
          · exact h
          · have := Nat.div_pos h (by omega); omega
        simp only [e', List.getLast_singleton]
        rw [Nat.mod_eq_of_lt hlt]; exact hn
      · have hne : dg b (n / b) ≠ [] := by rw [Ne, dg_nil_iff hb]; exact hq
        have := ih _ (Nat.div_lt_self (by omega) (by omega)) hne
        have e2 : (dg b n).getLast h = (n % b :: dg b (n / b)).getLast (by simp) := by
          congr 1
        rw [e2, List.getLast_cons hne]
        exact this

theorem val_append (b : Nat) (l m : List Nat) : val b (l ++ m) = val b l + b ^ l.length * val b m := by
  induction l with
  | nil => simp [val]
  | cons d l ih =>
    show d + b * val b (l ++ m) = d + b * val b l + b ^ (l.length + 1) * val b m
    rw [ih, Nat.mul_add, Nat.pow_succ, ← Nat.mul_assoc, Nat.mul_comm b (b ^ l.length), Nat.add_assoc]

theorem val_lt {b : Nat} (hb : 1 ≤ b) : ∀ {l : List Nat}, (∀ d ∈ l, d < b) → val b l < b ^ l.length
  | [], _ => by simp [val]
  | d :: l, h => by
    have ih := val_lt hb (l := l) fun x hx => h x (List.mem_cons_of_mem _ hx)
    have hd := h d (by simp)
    show d + b * val b l < b ^ (l.length + 1)
    rw [Nat.pow_succ, Nat.mul_comm (b ^ l.length) b]
    have : b * (val b l + 1) ≤ b * b ^ l.length := Nat.mul_le_mul_left _ ih
    rw [Nat.mul_add] at this
    omega

theorem val_replicate (b n : Nat) : val b (List.replicate n 0) = 0 := by
  induction n with
  | zero => rfl
  | succ n ih => show 0 + b * val b (List.replicate n 0) = 0; rw [ih]; simp

theorem val_append_zeros (b : Nat) (l : List Nat) (n : Nat) : val b (l ++ List.replicate n 0) = val b l := by
  rw [val_append, val_replicate]; simp

theorem dg_length_le {b : Nat} (hb : 2 ≤ b) {n k : Nat} (h : n < b ^ k) : (dg b n).length ≤ k := by
  induction k generalizing n with
  | zero => simp at h; subst h; rw [dg_zero]; simp
  | succ k ih =>
    by_cases hn : n = 0
    · subst hn; rw [dg_zero]; simp
    · rw [dg_pos hb hn]
      have : n / b < b ^ k := by
        apply Nat.div_lt_of_lt_mul
        rw [Nat.pow_succ] at h; rwa [Nat.mul_comm] at h
      have := ih this
      simp; omega

theorem lt_pow_dg_length {b : Nat} (hb : 2 ≤ b) (n : Nat) : n < b ^ (dg b n).length := by
  have := val_lt (b := b) (by omega) (dg_lt hb n)
  rwa [val_dg hb] at this

theorem pow_le_of_dg_length {b : Nat} (hb : 2 ≤ b) {n k : Nat} (h : k < (dg b n).length) : b ^ k ≤ n := by
  rcases Nat.lt_or_ge n (b ^ k) with h' | h'
  · have := dg_length_le hb h'; omega
  · exact h'

theorem dg_length_eq {b : Nat} (hb : 2 ≤ b) {n k : Nat} (h0 : b ^ k ≤ n) (h1 : n < b ^ (k + 1)) : (dg b n).length = k + 1 := by
  have a := dg_length_le hb h1
  have c := lt_pow_dg_length hb n
  rcases Nat.lt_or_ge (dg b n).length (k + 1) with h | h
  · have : b ^ (dg b n).length ≤ b ^ k := Nat.pow_le_pow_right (by omega) (by omega)
    omega
  · omega

theorem dg_length_mono {b : Nat} (hb : 2 ≤ b) {m n : Nat} (h : m ≤ n) : (dg b m).length ≤ (dg b n).length :=
  dg_length_le hb (Nat.lt_of_le_of_lt h (lt_pow_dg_length hb n))

theorem dg_getD {b : Nat} (hb : 2 ≤ b) (n i : Nat) : (dg b n).getD i 0 = n / b ^ i % b := by
  induction i generalizing n with
  | zero =>
    by_cases hn : n = 0
    · subst hn; rw [dg_zero]; simp
    · rw [dg_pos hb hn]; simp
  | succ i ih =>
    by_cases hn : n = 0
    · subst hn; rw [dg_zero]; simp
    · rw [dg_pos hb hn]
      rw [List.getD_cons_succ, ih, Nat.pow_succ, Nat.mul_comm, Nat.div_div_eq_div_mul]

theorem dg_drop {b : Nat} (hb : 2 ≤ b) (n k : Nat) : (dg b n).drop k = dg b (n / b ^ k) := by
  induction k generalizing n with
  | zero => simp
  | succ k ih =>
    by_cases hn : n = 0
    · subst hn; rw [dg_zero]; simp [dg_zero]
    · rw [dg_pos hb hn, List.drop_succ_cons, ih, Nat.pow_succ, Nat.mul_comm, Nat.div_div_eq_div_mul]

theorem val_take (b : Nat) : ∀ (l : List Nat) (k : Nat), (∀ d ∈ l, d < b) → val b (l.take k) = val b l % b ^ k := by
  intro l
  induction l with
  | nil => intro k _; simp [val]
  | cons d l ih =>
    intro k h
    cases k with
    | zero => simp [val, Nat.mod_one]
    | succ k =>
      have hd := h d (by simp)
      have ih' := ih k fun x hx => h x (List.mem_cons_of_mem _ hx)
      show d + b * val b (l.take k) = (d + b * val b l) % b ^ (k + 1)
      rw [ih', Nat.pow_succ, Nat.mul_comm (b ^ k) b, Nat.mod_mul, Nat.add_mul_mod_self_left, Nat.mod_eq_of_lt hd, Nat.add_mul_div_left _ _ (by omega), Nat.div_eq_of_lt hd, Nat.zero_add]

theorem val_drop {b : Nat} : ∀ (l : List Nat) (k : Nat), (∀ d ∈ l, d < b) → val b (l.drop k) = val b l / b ^ k := by
  intro l
  induction l with
  | nil => intro k _; simp [val]
  | cons d l ih =>
    intro k h
    cases k with
    | zero => simp
    | succ k =>
      have hd := h d (by simp)
      have ih' := ih k fun x hx => h x (List.mem_cons_of_mem _ hx)
      show val b (l.drop k) = (d + b * val b l) / b ^ (k + 1)
      rw [ih', Nat.pow_succ, Nat.mul_comm (b ^ k) b, ← Nat.div_div_eq_div_mul, Nat.add_mul_div_left _ _ (by omega), Nat.div_eq_of_lt hd, Nat.zero_add]

theorem dg_val_take {b : Nat} (hb : 2 ≤ b) (n k : Nat) : val b ((dg b n).take k) = n % b ^ k := by
  rw [val_take b _ _ (dg_lt hb n), val_dg hb]

/-- Digits 0 at the end left out. -/
def trim : List Nat → List Nat
  | [] => []
  | d :: l => match trim l with
    | [] => if d = 0 then [] else [d]
    | e :: m => d :: e :: m

theorem trim_val (b : Nat) : ∀ l : List Nat, val b (trim l) = val b l
  | [] => rfl
  | d :: l => by
    have ih := trim_val b l
    unfold trim
    split
    · rename_i h
      rw [h] at ih
      have ih' : val b l = 0 := ih.symm
      split
      · rename_i h0; subst h0; show 0 = 0 + b * val b l; rw [ih']; simp
      · show d + b * 0 = d + b * val b l; rw [ih']
    · rename_i e m h
      rw [h] at ih
      show d + b * val b (e :: m) = d + b * val b l
      rw [ih]

theorem trim_mem : ∀ {l : List Nat} {x : Nat}, x ∈ trim l → x ∈ l
  | [], _, h => h
  | d :: l, x, h => by
    unfold trim at h
    split at h
    · split at h
      · cases h
      · simp at h; subst h; simp
    · rename_i e m hm
      rcases List.mem_cons.1 h with rfl | h
      · simp
      · exact List.mem_cons_of_mem _ (trim_mem (by rw [hm]; exact h))

theorem trim_cons_nil {d : Nat} {l : List Nat} (h : trim l = []) : trim (d :: l) = if d = 0 then [] else [d] := by rw [trim, h]
theorem trim_cons_cons {d e : Nat} {l m : List Nat} (h : trim l = e :: m) : trim (d :: l) = d :: e :: m := by rw [trim, h]

theorem trim_last : ∀ (l : List Nat), ∀ x, (trim l).getLast? = some x → x ≠ 0
  | [], x, h => by simp [trim] at h
  | d :: l, x, h => by
    have ih := trim_last l
    cases hm : trim l with
    | nil =>
      rw [trim_cons_nil hm] at h
      split at h
      · simp at h
      · simp at h; omega
    | cons e m =>
      rw [trim_cons_cons hm] at h
      rw [hm] at ih
      rw [List.getLast?_cons_cons] at h
      exact ih x h

theorem trim_canon {b : Nat} {l : List Nat} (h : ∀ d ∈ l, d < b) : Canon b (trim l) :=
  ⟨fun d hd => h d (trim_mem hd), fun hne => trim_last l _ (List.getLast?_eq_some_getLast hne)⟩

theorem trim_eq {b : Nat} (hb : 2 ≤ b) {l : List Nat} (h : ∀ d ∈ l, d < b) : trim l = dg b (val b l) := by
  rw [canon_eq hb (trim_canon h), trim_val]

theorem trim_snoc_zero : ∀ l : List Nat, trim (l ++ [0]) = trim l
  | [] => rfl
  | d :: l => by
    show trim (d :: (l ++ [0])) = _
    unfold trim
    rw [trim_snoc_zero l]

theorem trim_snoc_ne : ∀ (l : List Nat) {d : Nat}, d ≠ 0 → trim (l ++ [d]) = l ++ [d]
  | [], d, h => by simp [trim, h]
  | e :: l, d, h => by
    show trim (e :: (l ++ [d])) = _
    rw [trim, trim_snoc_ne l h]
    cases l <;> rfl

theorem trim_zeros : ∀ (n : Nat), trim (List.replicate n 0) = []
  | 0 => rfl
  | n + 1 => by rw [List.replicate_succ]; rw [trim_cons_nil (trim_zeros n)]; rfl

theorem trim_app_zeros (l : List Nat) : ∀ n, trim (l ++ List.replicate n 0) = trim l
  | 0 => by simp
  | n + 1 => by rw [List.replicate_succ', ← List.append_assoc, trim_snoc_zero, trim_app_zeros l n]

/-- What is left of digits when those that are 0 at the end are struck. -/
theorem trim_take {l : List Nat} {m : Nat} (hm : m ≤ l.length) (hz : ∀ i, m ≤ i → i < l.length → l.getD i 0 = 0) (hn : 0 < m → l.getD (m - 1) 0 ≠ 0) : trim l = l.take m := by
  have e : l = l.take m ++ List.replicate (l.length - m) 0 := by
    apply List.ext_getElem?
    intro i
    rcases Nat.lt_or_ge i m with h | h
    · rw [List.getElem?_append_left (by simp; omega), List.getElem?_take_of_lt h]
    · rw [List.getElem?_append_right (by simp; omega)]
      rcases Nat.lt_or_ge i l.length with h2 | h2
      · have := hz i h h2
        rw [List.getD_eq_getElem?_getD, List.getElem?_eq_getElem h2] at this
        rw [List.getElem?_eq_getElem h2, List.getElem?_replicate, if_pos (by simp; omega)]
        simpa using this
      · rw [List.getElem?_eq_none h2, List.getElem?_eq_none (by simp; omega)]
  rw [e, trim_app_zeros]
  have e2 : (l.take m ++ List.replicate (l.length - m) 0).take m = l.take m := by rw [← e]
  rw [e2]
  rcases Nat.eq_zero_or_pos m with h0 | h0
  · subst h0; rfl
  · obtain ⟨k, rfl⟩ : ∃ k, m = k + 1 := ⟨m - 1, by omega⟩
    have hk := hn h0
    have hkl : k < l.length := by omega
    rw [List.take_succ_eq_append_getElem hkl]
    apply trim_snoc_ne
    rw [show k + 1 - 1 = k from rfl, List.getD_eq_getElem?_getD, List.getElem?_eq_getElem hkl] at hk
    simpa using hk

theorem val_split_at {b : Nat} {l : List Nat} {i : Nat} (hi : i < l.length) : val b l = val b (l.take i) + b ^ i * (l.getD i 0 + b * val b (l.drop (i + 1))) := by
  have e : l = l.take i ++ (l.getD i 0 :: l.drop (i + 1)) := by
    rw [List.getD_eq_getElem?_getD, List.getElem?_eq_getElem hi, Option.getD_some, List.getElem_cons_drop, List.take_append_drop]
  have h2 := congrArg (val b) e
  rw [val_append] at h2
  rw [h2, List.length_take, Nat.min_eq_left (Nat.le_of_lt hi)]
  rfl

theorem drop_eq {l m : List Nat} (hl : l.length = m.length) {i : Nat} (h : ∀ j, i ≤ j → j < l.length → l.getD j 0 = m.getD j 0) : l.drop i = m.drop i := by
  apply List.ext_getElem?
  intro j
  rw [List.getElem?_drop, List.getElem?_drop]
  rcases Nat.lt_or_ge (i + j) l.length with h1 | h1
  · have := h (i + j) (by omega) h1
    rw [List.getD_eq_getElem?_getD, List.getD_eq_getElem?_getD, List.getElem?_eq_getElem h1, List.getElem?_eq_getElem (by omega)] at this
    rw [List.getElem?_eq_getElem h1, List.getElem?_eq_getElem (by omega)]
    simpa using this
  · rw [List.getElem?_eq_none h1, List.getElem?_eq_none (by omega)]

/-- The first digit from above that parts decides. -/
theorem val_lt_of_digit {b : Nat} (hb : 1 ≤ b) {l m : List Nat} (hl : l.length = m.length) (hdl : ∀ d ∈ l, d < b) {i : Nat} (hi : i < l.length)
    (h : ∀ j, i + 1 ≤ j → j < l.length → l.getD j 0 = m.getD j 0) (hlt : l.getD i 0 < m.getD i 0) : val b l < val b m := by
  rw [val_split_at hi, val_split_at (l := m) (i := i) (by omega), drop_eq hl h]
  have h1 : val b (l.take i) < b ^ i := by
    have := val_lt hb (l := l.take i) (fun d hd => hdl d (List.mem_of_mem_take hd))
    rwa [List.length_take, Nat.min_eq_left (Nat.le_of_lt hi)] at this
  generalize val b (m.drop (i + 1)) = V
  have h2 : b ^ i * (l.getD i 0 + 1 + b * V) ≤ b ^ i * (m.getD i 0 + b * V) := Nat.mul_le_mul_left _ (by omega)
  rw [show l.getD i 0 + 1 + b * V = (l.getD i 0 + b * V) + 1 from by omega, Nat.mul_add, Nat.mul_one] at h2
  omega

/-- A row that holds the digits of q, and 0 behind them. -/
theorem digits_trim {b : Nat} (hb : 2 ≤ b) {l : List Nat} {q : Nat} (hq : q < b ^ l.length) (h : ∀ j, j < l.length → l.getD j 0 = q / b ^ j % b) : trim l = dg b q := by
  have hm := dg_length_le hb hq
  have e : l.take (dg b q).length = dg b q := by
    apply List.ext_getElem?
    intro i
    rcases Nat.lt_or_ge i (dg b q).length with hi | hi
    · rw [List.getElem?_take_of_lt hi]
      have h1 := h i (by omega)
      rw [← dg_getD hb] at h1
      rw [List.getD_eq_getElem?_getD, List.getD_eq_getElem?_getD, List.getElem?_eq_getElem (by omega), List.getElem?_eq_getElem hi] at h1
      rw [List.getElem?_eq_getElem (by omega), List.getElem?_eq_getElem hi]
      simpa using h1
    · rw [List.getElem?_eq_none hi, List.getElem?_eq_none (by rw [List.length_take]; omega)]
  rw [trim_take hm, e]
  · intro i h1 h2
    rw [h i h2, ← dg_getD hb, List.getD_eq_getElem?_getD, List.getElem?_eq_none h1]; rfl
  · intro h0
    have hc := (canon_dg hb q).2 (by intro e; rw [e] at h0; simp at h0)
    rw [h _ (by omega), ← dg_getD hb, List.getD_eq_getElem?_getD, ← List.getLast?_eq_getElem?, List.getLast?_eq_some_getLast (by intro e; rw [e] at h0; simp at h0)]
    exact hc

/-- One step of a division digit by digit. -/
theorem long_step {B d n j : Nat} (hd : 0 < d) (hB : 0 < B) :
    (n / B ^ (j + 1) % d * B + n / B ^ j % B) / d = n / d / B ^ j % B ∧ (n / B ^ (j + 1) % d * B + n / B ^ j % B) % d = n / B ^ j % d := by
  have e1 : n / B ^ j = n / B ^ (j + 1) * B + n / B ^ j % B := by
    have := Nat.div_add_mod (n / B ^ j) B
    rw [Nat.div_div_eq_div_mul, ← Nat.pow_succ, Nat.mul_comm] at this
    exact this.symm
  generalize n / B ^ (j + 1) = u at e1
  generalize ha : n / B ^ j % B = a at e1
  have hab : a < B := by rw [← ha]; exact Nat.mod_lt _ hB
  have e2 : n / B ^ j = d * (u / d * B) + (u % d * B + a) := by
    have h := Nat.div_add_mod u d
    have h2 : (d * (u / d) + u % d) * B = u * B := by rw [h]
    rw [Nat.add_mul, Nat.mul_assoc] at h2
    omega
  have hlt : (u % d * B + a) / d < B := by
    apply Nat.div_lt_of_lt_mul
    have := Nat.mod_lt u hd
    have h3 : (u % d + 1) * B ≤ d * B := Nat.mul_le_mul_right B this
    rw [Nat.add_mul] at h3
    omega
  constructor
  · rw [Nat.div_div_eq_div_mul, Nat.mul_comm d, ← Nat.div_div_eq_div_mul, e2, Nat.mul_add_div hd, Nat.mul_comm (u / d) B, Nat.mul_add_mod, Nat.mod_eq_of_lt hlt]
  · rw [e2, Nat.mul_add_mod]

/-- One digit turned. -/
theorem val_set (b : Nat) : ∀ (l : List Nat) (j d : Nat), j < l.length → val b (l.set j d) + l.getD j 0 * b ^ j = val b l + d * b ^ j
  | [], j, d, h => absurd h (by simp)
  | e :: l, 0, d, _ => by
    show d + b * val b l + e * 1 = e + b * val b l + d * 1
    omega
  | e :: l, j + 1, d, h => by
    have ih := val_set b l j d (by simpa using h)
    show e + b * val b (l.set j d) + l.getD j 0 * b ^ (j + 1) = e + b * val b l + d * b ^ (j + 1)
    have e1 : b * (val b (l.set j d) + l.getD j 0 * b ^ j) = b * (val b l + d * b ^ j) := by rw [ih]
    rw [Nat.mul_add, Nat.mul_add, Nat.mul_left_comm b, Nat.mul_left_comm b d, Nat.mul_comm b (b ^ j), ← Nat.pow_succ, Nat.succ_eq_add_one] at e1
    omega

/-- How many bits a number has. -/
def blen (n : Nat) : Nat := (dg 2 n).length
theorem blen_zero : blen 0 = 0 := by unfold blen; rw [dg_zero]; rfl
theorem blen_half {n : Nat} (h : n ≠ 0) : blen n = blen (n / 2) + 1 := by unfold blen; rw [dg_pos (by omega) h]; rfl
theorem blen_lt (n : Nat) : n < 2 ^ blen n := lt_pow_dg_length (by omega) n
theorem blen_le {n k : Nat} (h : n < 2 ^ k) : blen n ≤ k := dg_length_le (by omega) h
theorem blen_ge {n k : Nat} (h : k < blen n) : 2 ^ k ≤ n := pow_le_of_dg_length (by omega) h
theorem blen_eq {n k : Nat} (h0 : 2 ^ k ≤ n) (h1 : n < 2 ^ (k + 1)) : blen n = k + 1 := dg_length_eq (by omega) h0 h1
theorem blen_pos {n : Nat} (h : n ≠ 0) : 0 < blen n := by rw [blen_half h]; omega
theorem blen_mono {m n : Nat} (h : m ≤ n) : blen m ≤ blen n := dg_length_mono (by omega) h
/-- Bits behind whole digits. -/
theorem blen_shift {n k : Nat} (h : n / 2 ^ k ≠ 0) : blen n = k + blen (n / 2 ^ k) := by
  have hp := blen_pos h
  obtain ⟨c, hc⟩ : ∃ c, blen (n / 2 ^ k) = c + 1 := ⟨blen (n / 2 ^ k) - 1, by omega⟩
  have h1 : 2 ^ c ≤ n / 2 ^ k := blen_ge (by omega)
  have h2 : n / 2 ^ k < 2 ^ (c + 1) := by rw [← hc]; exact blen_lt _
  have hk : 0 < 2 ^ k := Nat.pow_pos (by omega)
  rw [hc, ← Nat.add_assoc]
  apply blen_eq
  · rw [Nat.pow_add, Nat.mul_comm]; exact (Nat.le_div_iff_mul_le hk).1 h1
  · rw [Nat.add_assoc, Nat.pow_add, Nat.mul_comm]; exact (Nat.div_lt_iff_lt_mul hk).1 h2
/-- The leading digit. -/
theorem top_digit {b n : Nat} (hb : 2 ≤ b) (h : n ≠ 0) : (dg b n).getD ((dg b n).length - 1) 0 = n / b ^ ((dg b n).length - 1) ∧ n / b ^ ((dg b n).length - 1) ≠ 0 ∧ n / b ^ ((dg b n).length - 1) < b := by
  have hl : 0 < (dg b n).length := by rw [dg_pos hb h]; simp
  have h1 : b ^ ((dg b n).length - 1) ≤ n := pow_le_of_dg_length hb (by omega)
  have h2 := lt_pow_dg_length hb n
  obtain ⟨k, hk⟩ : ∃ k, (dg b n).length = k + 1 := ⟨(dg b n).length - 1, by omega⟩
  rw [hk] at h1 h2 ⊢
  simp only [Nat.add_sub_cancel] at h1 ⊢
  have hp : 0 < b ^ k := Nat.pow_pos (by omega)
  have h3 : n / b ^ k < b := by
    apply Nat.div_lt_of_lt_mul
    rwa [Nat.pow_succ] at h2
  have h4 : 0 < n / b ^ k := Nat.div_pos h1 hp
  exact ⟨by rw [dg_getD hb, Nat.mod_eq_of_lt h3], by omega, h3⟩

/-- Comparing canonical digits compares the numbers. -/
theorem dg_inj {b : Nat} (hb : 2 ≤ b) {m n : Nat} (h : dg b m = dg b n) : m = n := by
  rw [← val_dg hb m, h, val_dg hb]

end Go.Dig
namespace Go.Proofs.YtdhgdachchhflaaGreatDoor
open Go.RowKit Go.Dig
theorem hid {p : Prop} (h : p) : Hid p := h

/-- A slice that reads as the numbers ds, each of kind k. -/
def Rd (k : IntKind) (w : World) (v : Value) (ds : List Nat) : Prop :=
  ∃ a cap, v = .slice a ds.length cap ∧ ds.length ≤ cap ∧ cap ≤ 9223372036854775807 ∧
    (0 < ds.length → ∃ b off, a = some ⟨b, off, none⟩ ∧ ∀ i, i < ds.length → w.cell? ⟨b, off + i, none⟩ = some (.int k (ds.getD i 0 : Nat)))

/-- As Rd; and its cells lie in a block of the element type e. -/
def Rt (e : TypeId) (k : IntKind) (w : World) (v : Value) (ds : List Nat) : Prop :=
  ∃ a cap, v = .slice a ds.length cap ∧ ds.length ≤ cap ∧ cap ≤ 9223372036854775807 ∧
    (0 < ds.length → ∃ b off, a = some ⟨b, off, none⟩ ∧ (∃ m, w.shape? b = some (e, m)) ∧ ∀ i, i < ds.length → w.cell? ⟨b, off + i, none⟩ = some (.int k (ds.getD i 0 : Nat)))

theorem Rt.rd {e : TypeId} {k : IntKind} {w : World} {v : Value} {ds : List Nat} (h : Rt e k w v ds) : Rd k w v ds := by
  obtain ⟨a, cap, h0, h1, h2, h3⟩ := h
  refine ⟨a, cap, h0, h1, h2, fun hp => ?_⟩
  obtain ⟨b, off, e, _, hc⟩ := h3 hp
  exact ⟨b, off, e, hc⟩

theorem Rd.below {k : IntKind} {w w' : World} {v : Value} {ds : List Nat} (h : Rd k w v ds) {B : Nat} (hb : Below B w w') (hB : w.heap.size ≤ B) : Rd k w' v ds := by
  obtain ⟨a, cap, rfl, h1, h2, h3⟩ := h
  refine ⟨a, cap, rfl, h1, h2, fun hp => ?_⟩
  obtain ⟨b, off, e, hc⟩ := h3 hp
  refine ⟨b, off, e, fun i hi => ?_⟩
  rw [hb.cell (Nat.lt_of_lt_of_le (World.block_lt_of_cell? w _ (hc i hi)) hB)]
  exact hc i hi

theorem shape_below {B : Nat} {w w' : World} (h : Below B w w') {b : Nat} (hb : b < B) : w'.shape? b = w.shape? b := by
  unfold World.shape?; rw [h.block b hb]

theorem shape_alloc (w : World) (c : Array Value) (e : TypeId) : (w.alloc (.cells c e)).shape? w.heap.size = some (e, c.size) := by
  unfold World.shape?
  show (match (w.heap.push (.cells c e))[w.heap.size]? with | some (.cells c elem _) => some (elem, c.size) | _ => none) = _
  rw [Array.getElem?_push_size]
/-- A struct of three cells of the type t is filled behind a call: what was there stays. -/
theorem fill3 {w w1 : World} {c : Array Value} {t : TypeId} (hb : Below (w.heap.size + 1) (w.alloc (.cells c t)) w1) (x0 x1 x2 : Value) :
    Below w.heap.size w (((w1.setCell ⟨w.heap.size, 0, none⟩ x0).setCell ⟨w.heap.size, 1, none⟩ x1).setCell ⟨w.heap.size, 2, none⟩ x2) := by
  have h1 : Below w.heap.size w w1 := ((Below.refl w.heap.size w).alloc (Nat.le_refl _) _).trans (hb.mono (by omega))
  exact ((h1.setCell (Nat.le_refl _) x0).setCell (Nat.le_refl _) x1).setCell (Nat.le_refl _) x2

/-- A block known whole. -/
def Blk (w : World) (b : Nat) (c : Array Value) (e : TypeId) : Prop := w.heap[b]? = some (.cells c e (0, 0))
theorem blk_new (w : World) (c : Array Value) (e : TypeId) : Blk (w.alloc (.cells c e)) w.heap.size c e := by
  unfold Blk
  show (w.heap.push (.cells c e))[w.heap.size]? = _
  rw [Array.getElem?_push_size]
theorem Blk.below {w w' : World} {b B : Nat} {c : Array Value} {e : TypeId} (h : Blk w b c e) (hb : Below B w w') (hB : b < B) : Blk w' b c e := (hb.block b hB).trans h
theorem Blk.lt {w : World} {b : Nat} {c : Array Value} {e : TypeId} (h : Blk w b c e) : b < w.heap.size := by
  unfold Blk at h
  rcases Nat.lt_or_ge b w.heap.size with h' | h'
  · exact h'
  · rw [Array.getElem?_eq_none h'] at h; cases h
theorem Blk.alloc {w : World} {b : Nat} {c : Array Value} {e : TypeId} (h : Blk w b c e) (o : Obj) : Blk (w.alloc o) b c e := h.below ((Below.refl w.heap.size w).alloc (Nat.le_refl _) o) h.lt
theorem Blk.cell {w : World} {b : Nat} {c : Array Value} {e : TypeId} (h : Blk w b c e) (i : Nat) : w.cell? ⟨b, i, none⟩ = c[i]? := by
  unfold Blk at h; simp [World.cell?, h]
theorem Blk.frozen {w : World} {b : Nat} {c : Array Value} {e : TypeId} (h : Blk w b c e) (i : Nat) : w.frozen? ⟨b, i, none⟩ = false := by
  unfold Blk at h; simp [World.frozen?, h]
theorem Blk.shape {w : World} {b : Nat} {c : Array Value} {e : TypeId} (h : Blk w b c e) : w.shape? b = some (e, c.size) := by
  unfold Blk at h; simp [World.shape?, h]
theorem Blk.set {w : World} {b : Nat} {c : Array Value} {e : TypeId} (h : Blk w b c e) (i : Nat) (v : Value) : Blk (w.setCell ⟨b, i, none⟩ v) b (c.setIfInBounds i v) e := by
  unfold Blk at *
  simp only [World.setCell, Array.getElem?_modify, if_true, h, Option.map_some]
  rfl
theorem Blk.three {w : World} {b : Nat} {x0 x1 x2 : Value} {e : TypeId} (h : Blk w b #[x0, x1, x2] e) :
    w.cell? ⟨b, 0, none⟩ = some x0 ∧ w.cell? ⟨b, 1, none⟩ = some x1 ∧ w.cell? ⟨b, 2, none⟩ = some x2 ∧ w.frozen? ⟨b, 0, none⟩ = false ∧ w.frozen? ⟨b, 1, none⟩ = false ∧ w.frozen? ⟨b, 2, none⟩ = false :=
  ⟨h.cell 0, h.cell 1, h.cell 2, h.frozen 0, h.frozen 1, h.frozen 2⟩

theorem shape_lt {w : World} {b : Nat} {x : TypeId × Nat} (h : w.shape? b = some x) : b < w.heap.size := by
  unfold World.shape? at h
  rcases Nat.lt_or_ge b w.heap.size with h' | h'
  · exact h'
  · rw [Array.getElem?_eq_none h'] at h; cases h

theorem Rt.below {e : TypeId} {k : IntKind} {w w' : World} {v : Value} {ds : List Nat} (h : Rt e k w v ds) {B : Nat} (hb : Below B w w') (hB : w.heap.size ≤ B) : Rt e k w' v ds := by
  obtain ⟨a, cap, rfl, h1, h2, h3⟩ := h
  refine ⟨a, cap, rfl, h1, h2, fun hp => ?_⟩
  obtain ⟨b, off, e, ⟨m, hm⟩, hc⟩ := h3 hp
  have hlt := Nat.lt_of_lt_of_le (shape_lt hm) hB
  refine ⟨b, off, e, ⟨m, by rw [shape_below hb hlt]; exact hm⟩, fun i hi => ?_⟩
  rw [hb.cell hlt]
  exact hc i hi

theorem shape_setCell (w : World) (p : Addr) (u : Value) (b : Nat) : (w.setCell p u).shape? b = w.shape? b := by
  unfold World.setCell World.shape?
  simp only [Array.getElem?_modify]
  by_cases hb : p.block = b
  · rw [if_pos hb]
    cases hh : w.heap[b]? with
    | none => rfl
    | some x => cases x <;> simp only [Option.map_some]; split <;> simp
  · rw [if_neg hb]

/-- A store into a block of another element type. -/
theorem Rt.set {e e' : TypeId} {k : IntKind} {w : World} {v : Value} {ds : List Nat} (h : Rt e k w v ds) {p : Addr} (u : Value) {m : Nat} (hs : w.shape? p.block = some (e', m)) (hne : e' ≠ e) : Rt e k (w.setCell p u) v ds := by
  obtain ⟨a, cap, rfl, h1, h2, h3⟩ := h
  refine ⟨a, cap, rfl, h1, h2, fun hp => ?_⟩
  obtain ⟨b, off, eb, ⟨m2, hm⟩, hc⟩ := h3 hp
  refine ⟨b, off, eb, ⟨m2, by rw [shape_setCell]; exact hm⟩, fun i hi => ?_⟩
  rw [World.cell?_setCell_other]
  · exact hc i hi
  · intro e1
    rw [e1] at hs
    rw [hs] at hm
    exact hne (congrArg (fun x => (x.getD (0, 0)).1) hm)

theorem Rd.shape {k : IntKind} {w : World} {v : Value} {ds : List Nat} (h : Rd k w v ds) : ∃ a c, v = .slice a ds.length c := by
  obtain ⟨a, c, rfl, _⟩ := h
  exact ⟨a, c, rfl⟩
theorem Rt.shape {e : TypeId} {k : IntKind} {w : World} {v : Value} {ds : List Nat} (h : Rt e k w v ds) : ∃ a c, v = .slice a ds.length c := h.rd.shape
theorem Rt.take {e : TypeId} {k : IntKind} {w : World} {a : Option Addr} {n cap : Nat} {ds : List Nat} (h : Rt e k w (.slice a n cap) ds) {m : Nat} (hm : m ≤ n) : Rt e k w (.slice a m cap) (ds.take m) := by
  obtain ⟨a', cap', e1, h1, h2, h3⟩ := h
  simp only [Value.slice.injEq] at e1
  obtain ⟨rfl, rfl, rfl⟩ := e1
  refine ⟨a, cap, by rw [List.length_take, Nat.min_eq_left hm], by rw [List.length_take]; omega, h2, fun hp => ?_⟩
  rw [List.length_take] at hp
  obtain ⟨b2, off2, e2, hsh, hb2⟩ := h3 (by omega)
  refine ⟨b2, off2, e2, hsh, fun i hi => ?_⟩
  rw [List.length_take] at hi
  rw [hb2 i (by omega)]
  congr 3
  simp only [List.getD_eq_getElem?_getD]
  rw [List.getElem?_take_of_lt (by omega)]

theorem Rd.nil (k : IntKind) (w : World) : Rd k w (.slice none 0 0) [] := ⟨none, 0, rfl, by simp, by omega, fun h => absurd h (by simp)⟩
theorem Rt.nil (e : TypeId) (k : IntKind) (w : World) : Rt e k w (.slice none 0 0) [] := ⟨none, 0, rfl, by simp, by omega, fun h => absurd h (by simp)⟩

/-- A struct of three cells of the type t is filled: what lies in blocks of another element type stays. -/
theorem Rt.set3 {e t : TypeId} {k : IntKind} {w1 : World} {v : Value} {ds : List Nat} (h : Rt e k w1 v ds) {b : Nat} {c : Array Value} (hB : Blk w1 b c t) (hne : t ≠ e) (x0 x1 x2 : Value) :
    Rt e k (((w1.setCell ⟨b, 0, none⟩ x0).setCell ⟨b, 1, none⟩ x1).setCell ⟨b, 2, none⟩ x2) v ds := by
  have hs := hB.shape
  have h1 := h.set (p := ⟨b, 0, none⟩) x0 hs hne
  have hs1 : (w1.setCell ⟨b, 0, none⟩ x0).shape? b = some (t, c.size) := by rw [shape_setCell]; exact hs
  have h2 := h1.set (p := ⟨b, 1, none⟩) x1 hs1 hne
  exact h2.set (p := ⟨b, 2, none⟩) x2 (by rw [shape_setCell]; exact hs1) hne
theorem below_set3 {B : Nat} {w w1 : World} (h : Below B w w1) {b : Nat} (hB : B ≤ b) (x0 x1 x2 : Value) :
    Below B w (((w1.setCell ⟨b, 0, none⟩ x0).setCell ⟨b, 1, none⟩ x1).setCell ⟨b, 2, none⟩ x2) := ((h.setCell hB x0).setCell hB x1).setCell hB x2

theorem Rt.fill3 {e t : TypeId} {k : IntKind} {w w1 : World} {v : Value} {ds : List Nat} (h : Rt e k w1 v ds) {c : Array Value} (hb : Below (w.heap.size + 1) (w.alloc (.cells c t)) w1) (hne : t ≠ e) (x0 x1 x2 : Value) :
    Rt e k (((w1.setCell ⟨w.heap.size, 0, none⟩ x0).setCell ⟨w.heap.size, 1, none⟩ x1).setCell ⟨w.heap.size, 2, none⟩ x2) v ds := by
  have hs : w1.shape? w.heap.size = some (t, c.size) := by rw [shape_below hb (by omega), shape_alloc]
  have h1 := h.set (p := ⟨w.heap.size, 0, none⟩) x0 hs hne
  have hs1 : (w1.setCell ⟨w.heap.size, 0, none⟩ x0).shape? w.heap.size = some (t, c.size) := by rw [shape_setCell]; exact hs
  have h2 := h1.set (p := ⟨w.heap.size, 1, none⟩) x1 hs1 hne
  exact h2.set (p := ⟨w.heap.size, 2, none⟩) x2 (by rw [shape_setCell]; exact hs1) hne

/-- The digits as cells. -/
def cs (k : IntKind) (ds : List Nat) : List Value := ds.map fun d => .int k (d : Nat)
theorem cs_snoc (k : IntKind) (ds : List Nat) (d : Nat) : cs k ds ++ [.int k (d : Nat)] = cs k (ds ++ [d]) := by simp [cs]
theorem cs_length (k : IntKind) (ds : List Nat) : (cs k ds).length = ds.length := by simp [cs]
theorem cs_getElem? (k : IntKind) (ds : List Nat) (i : Nat) (h : i < ds.length) : (cs k ds).toArray[i]? = some (.int k (ds.getD i 0 : Nat)) := by
  simp [cs, List.getElem?_eq_getElem h]
theorem cs_set (k : IntKind) (ds : List Nat) (i d : Nat) : (cs k ds).toArray.setIfInBounds i (.int k (d : Int)) = (cs k (ds.set i d)).toArray := by
  simp [cs]
theorem cs_zeros (k : IntKind) (n : Nat) : madeCells #[.int k 0] n = (cs k (List.replicate n 0)).toArray := by
  apply Array.ext_getElem?
  intro i
  by_cases hi : i < n
  · simp [madeCells, cs, hi, Nat.mod_one]
  · simp [madeCells, cs, hi]
/-- A block known whole, of numbers. -/
abbrev BlkN (k : IntKind) (e : TypeId) (w : World) (b : Nat) (ds : List Nat) : Prop := Blk w b (cs k ds).toArray e
theorem BlkN.at {k : IntKind} {e : TypeId} {w : World} {b : Nat} {ds : List Nat} (h : BlkN k e w b ds) {i : Nat} (hi : i < ds.length) : w.cell? ⟨b, i, none⟩ = some (.int k (ds.getD i 0 : Nat)) := by
  rw [h.cell, cs_getElem? k ds i hi]
theorem BlkN.put {k : IntKind} {e : TypeId} {w : World} {b : Nat} {ds : List Nat} (h : BlkN k e w b ds) (i d : Nat) : BlkN k e (w.setCell ⟨b, i, none⟩ (.int k (d : Int))) b (ds.set i d) := by
  have := Blk.set h i (.int k (d : Int))
  rwa [cs_set] at this
theorem BlkN.rt {k : IntKind} {e : TypeId} {w : World} {b : Nat} {ds : List Nat} (h : BlkN k e w b ds) {cap : Nat} (h1 : ds.length ≤ cap) (h2 : cap ≤ 9223372036854775807) : Rt e k w (.slice (some ⟨b, 0, none⟩) ds.length cap) ds :=
  ⟨_, cap, rfl, h1, h2, fun _ => ⟨b, 0, rfl, ⟨_, h.shape⟩, fun i hi => by rw [Nat.zero_add]; exact h.at hi⟩⟩
theorem blkN_made (k : IntKind) (e : TypeId) (w : World) (n : Nat) : BlkN k e (w.alloc (.cells (madeCells #[.int k 0] n) e)) w.heap.size (List.replicate n 0) := by
  rw [cs_zeros]; exact blk_new w _ e

/-- A row of the call's own reads as its cells. -/
theorem own_rd {w : World} {base e : Nat} {k : IntKind} {v : Value} {n : Nat} {ds : List Nat} (h : w.ownsRow base e 1 v n (cs k ds)) : Rt e k w v ds := by
  obtain ⟨hl, h⟩ := h
  rw [cs_length, Nat.mul_one] at hl
  subst hl
  rcases h with ⟨rfl, h0⟩ | ⟨g, cap, cur, rfl, _, hg, hnc, hcap, hsz, htk⟩
  · have : ds = [] := List.eq_nil_of_length_eq_zero h0
    subst this
    exact Rt.nil e k w
  · refine ⟨_, cap, rfl, hnc, by unfold maxLen at hcap; omega, fun _ => ⟨g, 0, rfl, ⟨cur.size, by simp [World.shape?, hg]⟩, fun i hi => ?_⟩⟩
    have e1 : w.cell? ⟨g, 0 + i, none⟩ = cur[i]? := by simp [World.cell?, hg]
    rw [e1]
    have e2 : cur[i]? = (cs k ds)[i]? := by
      rw [← htk, List.getElem?_take_of_lt (by omega)]; simp
    rw [e2]
    simp [cs, List.getElem?_eq_getElem hi]
/-- A new row that is empty is owned. -/
theorem own_empty (w : World) (e : Nat) {base : Nat} (h : base ≤ w.heap.size) : (w.alloc (.cells #[] e)).ownsRow base e 1 (.slice (some ⟨w.heap.size, 0, none⟩) 0 0) 0 [] := by
  refine ⟨rfl, .inr ⟨w.heap.size, 0, #[], rfl, h, by show (w.heap.push _)[w.heap.size]? = _; simp, Nat.le_refl _, by unfold maxLen; omega, rfl, rfl⟩⟩

theorem bcell {W w1 : World} (hb : Below W.heap.size W w1) : (∀ b o, b < W.heap.size → w1.cell? ⟨b, o, none⟩ = W.cell? ⟨b, o, none⟩) ∧ (∀ b o, b < W.heap.size → w1.frozen? ⟨b, o, none⟩ = W.frozen? ⟨b, o, none⟩) :=
  ⟨fun b o h => hb.cell (p := ⟨b, o, none⟩) h, fun b o h => hb.frozen (p := ⟨b, o, none⟩) h⟩
/-- The slice of a natural number of the reference, by its digits to 65536. -/
abbrev Nt (w : World) (v : Value) (n : Nat) : Prop := Rt 3 .i64 w v (dg 65536 n)

theorem dgl (n : Nat) : ∀ d ∈ dg 65536 n, d < 65536 := dg_lt (by omega) n
theorem dg_len_pos (n : Nat) : decide (0 < (dg 65536 n).length) = decide (n ≠ 0) := by
  by_cases h : n = 0
  · subst h; rw [dg_zero]; rfl
  · rw [dg_pos (by omega) h]; simp [h]
theorem getD_lt {l : List Nat} {b : Nat} (hb : 0 < b) (h : ∀ d ∈ l, d < b) (i : Nat) : l.getD i 0 < b := by
  rcases Nat.lt_or_ge i l.length with hi | hi
  · rw [List.getD_eq_getElem?_getD, List.getElem?_eq_getElem hi]; exact h _ (List.getElem_mem hi)
  · rw [List.getD_eq_getElem?_getD, List.getElem?_eq_none hi]; simpa using hb

theorem own_base {w : World} {base e : Nat} {v : Value} {n : Nat} {xs : List Value} (h : w.ownsRow base e 1 v n xs) : ∀ k, v.ownBlock = some k → base ≤ k := by
  intro k hk
  rcases h.2 with ⟨rfl, _⟩ | ⟨g, cap, cur, rfl, hg, _⟩
  · cases hk
  · simp only [Value.ownBlock, Option.some.injEq] at hk; omega

/-- 'out = append(out, d)', one number, out the call's own. -/
theorem app1 {P : Program} {ops : Array Oper} {rest : List Oper} {o : Oper} {a : Act} {Q : Exit → Act → World → Prop} {w : World} (hgd : o.guard = none) (s x : Operand) (t e : TypeId)
    (ho : o.op = .call { callee := .builtin .append, args := #[s, x], argTypes := #[t, t] }) (k : IntKind) (bytes : Nat) (ht : P.underlying t = some (.slice e))
    (hinfo : (P.info? e).map (fun i => (i.zero, i.size, i.bytes)) = some (some (.int k 0), 1, bytes)) (hby : bytes ≤ 8)
    (base : Nat) (wB : World) (v : Value) (ds : List Nat) (d : Int) (d' : Nat) (hd : d = (d' : Int)) (hs : a.eval s = v) (hx : a.eval x = .slice (some ⟨w.heap.size, 0, none⟩) 1 1)
    (hown : w.ownsRow base e 1 v ds.length (cs k ds)) (hb : Below base wB w) (hbase : base ≤ w.heap.size) (hlen : ds.length < 1000000000)
    (h : ∀ v' w', w'.ownsRow base e 1 v' (ds ++ [d']).length (cs k (ds ++ [d'])) → Below base wB w' → v' ≠ .slice none 0 0 → wpList P ops Q rest (a.put o.dst v') w') :
    wpList P ops Q (o :: rest) a (w.alloc (.cells #[.int k d] e)) := by
  subst hd
  obtain ⟨i0, hi, hz0, hz1, hz2⟩ := info_parts hinfo
  have hc : (w.alloc (.cells #[.int k (d' : Int)] e)).cell? ⟨w.heap.size, 0, none⟩ = some (.int k (d' : Int)) := by rw [World.cell?_alloc_new]; rfl
  refine wpList_append_own _ hgd s x t ho base e i0 (.int k 0) 1 bytes ht hi hz0 hz1 hz2 rfl (by decide) v ds.length (cs k ds) hs (hown.alloc _) ⟨w.heap.size, 0, none⟩ 1 1 [.int k (d' : Int)] hx rfl ?_ ?_ ?_ ?_ ?_ ?_
  · intro j u hj
    match j, hj with
    | 0, hj => simp at hj; subst hj; exact hc
  · intro u hu; simp at hu; subst hu; rfl
  · unfold maxLen; omega
  · calc (ds.length + 1) * bytes ≤ 1000000000 * 8 := Nat.mul_le_mul (by omega) hby
      _ ≤ _ := by omega
  · simp; omega
  · intro v' w' h1 h2 h3
    refine h v' w' ?_ ?_ ?_
    · rw [cs_snoc] at h1; simpa using h1
    · exact (hb.alloc hbase _).grown h2 (by simp; omega) (own_base hown)
    · intro e1; have := h3.1 e1; omega
theorem _root_.Go.RowKit.Below.drewN {B : Nat} {a w : World} (h : Below B a w) (n : Nat) : Below B a (w.drewN n) := ⟨h.os, h.tape, h.output, h.size, h.block⟩
theorem below_drewN' {B : Nat} {w : World} (n : Nat) : Below B w (w.drewN n) := (Below.refl B w).drewN n
end Go.Proofs.YtdhgdachchhflaaGreatDoor

namespace Go.Proofs.YtdhgdachchhflaaGreatDoor
open Go.RowKit
set_option maxRecDepth 100000
set_option maxHeartbeats 400000 in
theorem boolVal (b : Bool) (w : World) : Calls Tryz.prog 16 #[.iface 77 (.bool b)] w fun e w' => e = .returned (.bool b) ∧ w = w' := by
  have h1 := ta_165_165
  go_enter Tryz.func16, Tryz.ntmps16
  go_wp2
  go_ret
  exact ⟨rfl, rfl⟩
end Go.Proofs.YtdhgdachchhflaaGreatDoor

namespace Go.Proofs.YtdhgdachchhflaaGreatDoor
open Go.RowKit
set_option maxRecDepth 100000
end Go.Proofs.YtdhgdachchhflaaGreatDoor
namespace Go.Proofs.YtdhgdachchhflaaGreatDoor
open Go.RowKit Go.Dig
set_option maxRecDepth 100000
/-- A slice's length, as a number. -/
def lenOf : Value → Nat | .slice _ m _ => m | _ => 0
set_option maxHeartbeats 400000 in
theorem trim_any (v : Value) (ds : List Nat) (w : World) (h : Rt 3 .i64 w v ds) :
    Calls Tryz.prog 33 #[v] w fun e w' => ∃ v', e = .returned v' ∧ Rt 3 .i64 w v' (trim ds) ∧ w = w' := by
  have HR := hid h
  obtain ⟨a, cap, rfl, hn, hcap, hc⟩ := h
  have HC := hid hc
  clear hc
  go_enter Tryz.func33, Tryz.ntmps33
  go_wp2_with fail
  go_loop [0] (fun v => ∃ m : Nat, m ≤ ds.length ∧ v = .slice a m cap ∧ Hid (∀ i, m ≤ i → i < ds.length → ds.getD i 0 = 0)) (fun v => lenOf v)
  case atStart => exact ⟨ds.length, Nat.le_refl _, rfl, fun i h1 h2 => by omega⟩
  case round =>
    obtain ⟨m, hm, rfl, hz⟩ := hrel
    rcases Nat.eq_zero_or_pos m with h0 | h0
    · subst h0
      go_wp2_with fail
      go_ret
      have e := trim_take (Nat.zero_le _) hz.out (fun h => absurd h (by omega))
      exact ⟨_, rfl, by rw [e]; exact HR.out.take (Nat.zero_le _), rfl⟩
    · obtain ⟨k, rfl⟩ : ∃ k, m = k + 1 := ⟨m - 1, by omega⟩
      obtain ⟨b, off, rfl, _, hb⟩ := HC.out (by omega)
      have hk := hb k (by omega)
      clear hb
      by_cases hf : ds.getD k 0 = 0
      · rw [hf] at hk
        have HF := hid hf
        clear hf
        go_wp2_with fail
        go_round
        case rel =>
          refine ⟨k, by omega, rfl, fun i h1 h2 => ?_⟩
          rcases Nat.eq_or_lt_of_le h1 with rfl | h3
          · exact HF.out
          · exact hz.out i h3 h2
        case measure => simp [lenOf]
      · have hf' : (((ds.getD k 0 : Nat) : Int) == 0) = false := by simp; simpa using hf
        generalize hg : ds.getD k 0 = d at hk hf'
        have HF := hid hf
        have HG := hid hg
        clear hf hg
        go_wp2_with fail
        go_ret
        have e := trim_take hm hz.out (fun _ => HF.out)
        exact ⟨_, rfl, by rw [e]; exact HR.out.take hm, rfl⟩
end Go.Proofs.YtdhgdachchhflaaGreatDoor
namespace Go.Proofs.YtdhgdachchhflaaGreatDoor
open Go.RowKit Go.Dig
set_option maxRecDepth 100000
theorem info3 : (Tryz.prog.info? 3).map (fun i => (i.zero, i.size, i.bytes)) = some (some (.int .i64 0), 1, 8) := by kernel_rfl
set_option maxHeartbeats 400000 in
theorem small_any (n : Nat) (w : World) (hn : n ≤ 9223372036854775807) :
    Calls Tryz.prog 14 #[.int .i64 n] w fun e w' => ∃ v', e = .returned v' ∧ Nt w' v' n ∧ Below w.heap.size w w' := by
  have hlen : (dg 65536 n).length ≤ 4 := dg_length_le (by omega) (by omega)
  have HL := hid hlen
  clear hlen
  go_enter Tryz.func14, Tryz.ntmps14
  go_wp2_with fail
  go_loopw [3, 0] (fun v x wr => ∃ (ds : List Nat) (m : Nat), x = .int .i64 m ∧ m ≤ 9223372036854775807 ∧ wr.ownsRow w.heap.size 3 1 v ds.length (cs .i64 ds) ∧ Hid (dg 65536 n = ds ++ dg 65536 m) ∧ Below w.heap.size w wr) (fun _ x _ => (intOf x).toNat)
  case atStart => exact ⟨[], n, rfl, hn, own_empty w 3 (Nat.le_refl _), rfl, (Below.refl _ _).alloc (Nat.le_refl _) _⟩
  case round =>
    obtain ⟨ds, m, rfl, hm, hown, hd, hb⟩ := hrel
    have hbs := hb.size
    rcases Nat.eq_zero_or_pos m with h0 | h0
    · subst h0
      go_wp2_with fail
      go_ret
      have e : dg 65536 n = ds := by rw [hd.out, dg_zero, List.append_nil]
      exact ⟨_, rfl, by unfold Nt; rw [e]; exact own_rd hown, hb⟩
    · have hd2 : dg 65536 n = (ds ++ [m % 65536]) ++ dg 65536 (m / 65536) := by rw [hd.out, dg_pos (by omega) (by omega)]; simp
      have HD := hid hd2
      have hl : ds.length + 1 ≤ 4 := by have := HL.out; rw [hd2] at this; simp at this; omega
      clear hd2 hd
      go_wp2_with (at_builtin; refine app1 rfl _ _ 32 3 rfl .i64 8 Tryz.underlying32 info3 (by decide) w.heap.size w _ ds _ (m % 65536) (by omega) rfl rfl hown hb (by omega) (by omega) ?_; intro v' w' hown' hb' _)
      go_roundw
      case rel => exact ⟨ds ++ [m % 65536], m / 65536, by go_num, by omega, hown', HD, hb'⟩
      case measure => simp [intOf]; omega
end Go.Proofs.YtdhgdachchhflaaGreatDoor
namespace Go.Proofs.YtdhgdachchhflaaGreatDoor
open Go.RowKit Go.Dig
set_option maxRecDepth 100000
theorem band16 (z : Int) (h0 : 0 ≤ z) (h1 : z < 18446744073709551616) : bits .and .u64 z 65535 = z % 65536 := by
  rw [u64_and z 65535 h0 h1 (by omega) (by omega)]
  rw [show (65535 : Int).toNat = 2 ^ 16 - 1 from rfl, Nat.and_two_pow_sub_one_eq_mod]
  omega
/-- Words of 64 bits as digits to 65536. -/
def split4 (x : Nat) : List Nat := [x % 65536, x / 65536 % 65536, x / 4294967296 % 65536, x / 281474976710656 % 65536]
def split (ws : List Nat) : List Nat := ws.flatMap split4
theorem split_lt (ws : List Nat) : ∀ d ∈ split ws, d < 65536 := by
  intro d hd
  obtain ⟨x, _, hx⟩ := List.mem_flatMap.1 hd
  simp [split4] at hx
  omega
theorem split_val : ∀ (ws : List Nat), (∀ x ∈ ws, x < 18446744073709551616) → val 65536 (split ws) = val 18446744073709551616 ws
  | [], _ => rfl
  | x :: ws, h => by
    have ih := split_val ws fun y hy => h y (List.mem_cons_of_mem _ hy)
    have hx := h x (by simp)
    show val 65536 (split4 x ++ split ws) = x + 18446744073709551616 * val 18446744073709551616 ws
    rw [val_append, ih]
    simp only [split4, val, List.length_cons, List.length_nil]
    omega
theorem split_take {ws : List Nat} {j : Nat} (h : j < ws.length) : split (ws.take (j + 1)) = split (ws.take j) ++ split4 (ws.getD j 0) := by
  rw [List.take_succ_eq_append_getElem h, List.getD_eq_getElem?_getD, List.getElem?_eq_getElem h]
  unfold split
  rw [List.flatMap_append, List.flatMap_singleton]
  rfl
set_option maxHeartbeats 400000 in
theorem of_any (v : Value) (ws : List Nat) (w : World) (h : Rd .u64 w v ws) (hws : ∀ x ∈ ws, x < 18446744073709551616) (hl : ws.length ≤ 100000) :
    Calls Tryz.prog 54 #[v] w fun e w' => ∃ v', e = .returned v' ∧ Nt w' v' (val 18446744073709551616 ws) ∧ Below w.heap.size w w' := by
  obtain ⟨a, cap, rfl, hn, hcap, hc⟩ := h
  have HC := hid hc
  have HW := hid hws
  clear hc hws
  go_enter Tryz.func54, Tryz.ntmps54
  go_wp2_with fail
  go_loopw [3, 10] (fun v x wr => ∃ (ds : List Nat) (j : Nat), x = .int .i64 j ∧ j ≤ ws.length ∧ ds.length ≤ 4 * j ∧ wr.ownsRow w.heap.size 3 1 v ds.length (cs .i64 ds) ∧ Hid (ds = split (ws.take j)) ∧ Below w.heap.size w wr) (fun _ x _ => ws.length - (intOf x).toNat)
  case atStart => exact ⟨[], 0, rfl, by omega, by simp, own_empty w 3 (Nat.le_refl _), rfl, (Below.refl _ _).alloc (Nat.le_refl _) _⟩
  case round =>
    obtain ⟨ds, j, rfl, hj, hlj, hown, hd, hb⟩ := hrel
    have hbs := hb.size
    rcases Nat.lt_or_ge j ws.length with h0 | h0
    · obtain ⟨b, off, rfl, hb2⟩ := HC.out (by omega)
      have hk := hb2 j (by omega)
      clear hb2
      have hk2 := (hb.cell (World.block_lt_of_cell? w _ hk)).trans hk
      clear hk
      have hx := getD_lt (by omega) HW.out j
      generalize hg : ws.getD j 0 = x at hk2 hx
      have HG := hid hg
      clear hg
      go_wp2_with fail
      obtain ⟨wo, hwo⟩ : ∃ wo : World, wo = wr := ⟨_, rfl⟩
      subst hwo
      go_loopw [3, 6] (fun v x' wr => ∃ (ds' : List Nat) (k : Nat), x' = .int .i64 k ∧ k ≤ 4 ∧ ds'.length ≤ 4 * j + k ∧ wr.ownsRow w.heap.size 3 1 v ds'.length (cs .i64 ds') ∧ Hid (ds' = ds ++ (split4 x).take k) ∧ Below w.heap.size w wr) (fun _ x _ => 4 - (intOf x).toNat)
      case atStart => exact ⟨ds, 0, rfl, by omega, hlj, hown, by show ds = ds ++ []; simp, hb⟩
      case round =>
        obtain ⟨ds', k, rfl, hk, hlk, hown', hd', hb'⟩ := hrel
        have hbs' := hb'.size
        clear hown
        have hk5 : k = 0 ∨ k = 1 ∨ k = 2 ∨ k = 3 ∨ k = 4 := by omega
        clear hk
        rcases hk5 with rfl | rfl | rfl | rfl | rfl
        · have b0 := band16 (x : Int) (by omega) (by omega)
          go_wp2_with (at_builtin; refine app1 rfl _ _ 32 3 rfl .i64 8 Tryz.underlying32 info3 (by decide) w.heap.size w _ ds' _ (x % 65536) (by omega) rfl rfl hown' hb' (by omega) (by omega) ?_; intro v' w' hown2 hb2 _)
          go_roundw
          case rel => exact ⟨ds' ++ [x % 65536], 1, by go_num, by omega, by simp; omega, hown2, hid (by rw [hd'.out]; simp [split4]), hb2⟩
          case measure => simp [intOf]
        · have b0 := band16 ((x : Int) / 65536) (by omega) (by omega)
          go_wp2_with (at_builtin; refine app1 rfl _ _ 32 3 rfl .i64 8 Tryz.underlying32 info3 (by decide) w.heap.size w _ ds' _ (x / 65536 % 65536) (by omega) rfl rfl hown' hb' (by omega) (by omega) ?_; intro v' w' hown2 hb2 _)
          go_roundw
          case rel => exact ⟨ds' ++ [x / 65536 % 65536], 2, by go_num, by omega, by simp; omega, hown2, hid (by rw [hd'.out]; simp [split4]), hb2⟩
          case measure => simp [intOf]
        · have b0 := band16 ((x : Int) / 4294967296) (by omega) (by omega)
          go_wp2_with (at_builtin; refine app1 rfl _ _ 32 3 rfl .i64 8 Tryz.underlying32 info3 (by decide) w.heap.size w _ ds' _ (x / 4294967296 % 65536) (by omega) rfl rfl hown' hb' (by omega) (by omega) ?_; intro v' w' hown2 hb2 _)
          go_roundw
          case rel => exact ⟨ds' ++ [x / 4294967296 % 65536], 3, by go_num, by omega, by simp; omega, hown2, hid (by rw [hd'.out]; simp [split4]), hb2⟩
          case measure => simp [intOf]
        · have b0 := band16 ((x : Int) / 281474976710656) (by omega) (by omega)
          go_wp2_with (at_builtin; refine app1 rfl _ _ 32 3 rfl .i64 8 Tryz.underlying32 info3 (by decide) w.heap.size w _ ds' _ (x / 281474976710656 % 65536) (by omega) rfl rfl hown' hb' (by omega) (by omega) ?_; intro v' w' hown2 hb2 _)
          go_roundw
          case rel => exact ⟨ds' ++ [x / 281474976710656 % 65536], 4, by go_num, by omega, by simp; omega, hown2, hid (by rw [hd'.out]; simp [split4]), hb2⟩
          case measure => simp [intOf]
        · go_wp2_with fail
          go_roundw
          case rel => exact ⟨ds', j + 1, by go_num, by omega, by omega, hown', hid (by rw [hd'.out, hd.out, split_take h0, HG.out]; rfl), hb'⟩
          case measure => simp [intOf]; omega
    · obtain rfl : j = ws.length := by omega
      have hR := own_rd hown
      go_wp2_with (go_at_call 33; refine (trim_any _ _ _ hR).mono ?_; rintro e w' ⟨v', rfl, hv, rfl⟩)
      go_ret
      refine ⟨_, rfl, ?_, hb⟩
      rw [hd.out, List.take_length, trim_eq (by omega) (split_lt ws), split_val ws HW.out] at hv
      exact hv
end Go.Proofs.YtdhgdachchhflaaGreatDoor

namespace Go.Proofs.YtdhgdachchhflaaGreatDoor
open Go.RowKit Go.Dig
set_option maxRecDepth 100000
theorem rd_one {k : IntKind} {w : World} {e : TypeId} {x : Int} {n b : Nat} (hb : b = w.heap.size) (h : x = (n : Int)) : Rd k (w.alloc (.cells #[.int k x] e)) (.slice (some ⟨b, 0, none⟩) 1 1) [n] := by
  subst h
  subst hb
  refine ⟨_, 1, rfl, by simp, by omega, fun _ => ⟨w.heap.size, 0, rfl, fun i hi => ?_⟩⟩
  simp at hi; subst hi
  rw [World.cell?_alloc_new]; rfl
theorem u64_neg (n : Nat) (h0 : 0 < n) (h1 : n ≤ 9223372036854775808) : IntKind.u64.wrap (-IntKind.u64.wrap (-(n : Int))) = (n : Int) := by
  rw [IntKind.wrap_u64, IntKind.wrap_u64]; omega
end Go.Proofs.YtdhgdachchhflaaGreatDoor
namespace Go.Proofs.YtdhgdachchhflaaGreatDoor
open Go.RowKit Go.Dig
set_option maxRecDepth 100000
/-- -1, 0 or 1. -/
def cmpI (m n : Nat) : Int := if m < n then -1 else if m = n then 0 else 1
set_option maxHeartbeats 400000 in
theorem cmp_lt (va vb : Value) (da db : List Nat) (w : World) (ha : Rd .i64 w va da) (hb : Rd .i64 w vb db) (hl : da.length < db.length) :
    Calls Tryz.prog 30 #[va, vb] w fun e w' => e = .returned (.int .i64 (-1)) ∧ w' = w := by
  obtain ⟨a, cap, rfl, hn, hcap, hc⟩ := ha
  obtain ⟨a2, cap2, rfl, hn2, hcap2, hc2⟩ := hb
  clear hc hc2
  go_enter Tryz.func30, Tryz.ntmps30
  go_wp2_with fail
  go_ret
  exact ⟨rfl, rfl⟩
set_option maxHeartbeats 400000 in
theorem cmp_gt (va vb : Value) (da db : List Nat) (w : World) (ha : Rd .i64 w va da) (hb : Rd .i64 w vb db) (hl : db.length < da.length) :
    Calls Tryz.prog 30 #[va, vb] w fun e w' => e = .returned (.int .i64 1) ∧ w' = w := by
  obtain ⟨a, cap, rfl, hn, hcap, hc⟩ := ha
  obtain ⟨a2, cap2, rfl, hn2, hcap2, hc2⟩ := hb
  clear hc hc2
  have h2 : ¬ da.length < db.length := by omega
  go_enter Tryz.func30, Tryz.ntmps30
  go_wp2_with fail
  go_ret
  exact ⟨rfl, rfl⟩
set_option maxHeartbeats 400000 in
theorem cmp_eq (va vb : Value) (da db : List Nat) (w : World) (ha : Rd .i64 w va da) (hb : Rd .i64 w vb db) (hl : da.length = db.length) (hda : ∀ d ∈ da, d < 65536) (hdb : ∀ d ∈ db, d < 65536) :
    Calls Tryz.prog 30 #[va, vb] w fun e w' => ∃ n, e = .returned (.int .i64 (cmpI (val 65536 da) (val 65536 db))) ∧ w' = w.drewN n := by
  obtain ⟨a, cap, rfl, hn, hcap, hc⟩ := ha
  obtain ⟨a2, cap2, rfl, hn2, hcap2, hc2⟩ := hb
  have HA := hid hc
  have HB := hid hc2
  have HDA := hid hda
  have HDB := hid hdb
  clear hc hc2 hda hdb
  have h1 : ¬ da.length < db.length := by omega
  have h2 : ¬ db.length < da.length := by omega
  have HL := hid hl
  clear hl
  go_enter Tryz.func30, Tryz.ntmps30
  go_wp2_with fail
  go_loopw [5] (fun x wr => ∃ (m : Nat) (n : Nat), x = .int .i64 ((m : Int) - 1) ∧ m ≤ da.length ∧ Hid (∀ j, m ≤ j → j < da.length → da.getD j 0 = db.getD j 0) ∧ wr = w.drewN n) (fun x _ => (intOf x + 1).toNat)
  case atStart => exact ⟨da.length, 0, rfl, Nat.le_refl _, fun j h1 h2 => by omega, rfl⟩
  case round =>
    obtain ⟨m, n, rfl, hm, hj, rfl⟩ := hrel
    rcases Nat.eq_zero_or_pos m with h0 | h0
    · subst h0
      go_wp2_with fail
      go_ret
      refine ⟨n, ?_, rfl⟩
      have e : da = db := by
        have := drop_eq HL.out hj.out
        simpa using this
      have e2 : cmpI (val 65536 da) (val 65536 db) = 0 := by rw [e]; simp [cmpI]
      rw [e2]; rfl
    · obtain ⟨k, rfl⟩ : ∃ k, m = k + 1 := ⟨m - 1, by omega⟩
      obtain ⟨b, off, rfl, hb⟩ := HA.out (by omega)
      have hk := hb k (by omega)
      have hL := HL.out
      obtain ⟨b2, off2, rfl, hb2⟩ := HB.out (by omega)
      have hk2 := hb2 k (by omega)
      have hkk : k < db.length := by omega
      clear hb hb2 hL
      have ek : ((k + 1 : Nat) : Int) - 1 = (k : Int) := by omega
      rw [ek]
      generalize hx : da.getD k 0 = x at hk
      generalize hy : db.getD k 0 = y at hk2
      have HX := hid hx
      have HY := hid hy
      clear hx hy
      rcases Nat.lt_trichotomy x y with hxy | hxy | hxy
      · go_wp2_with fail
        go_quiet (fail)
        go_wp2_with fail
        go_ret
        refine ⟨_, ?_, by simp only [World.drewN_drewN]; rfl⟩
        have e2 : cmpI (val 65536 da) (val 65536 db) = -1 := by
          have := val_lt_of_digit (by omega) HL.out HDA.out (by omega : k < da.length) hj.out (by rw [HX.out, HY.out]; exact hxy)
          rw [cmpI, if_pos this]
        rw [e2]; rfl
      · subst hxy
        go_wp2_with fail
        go_quiet (fail)
        go_wp2_with fail
        go_quiet (fail)
        go_wp2_with fail
        go_roundw
        case rel =>
          refine ⟨k, _, rfl, by omega, fun j h1 h2 => ?_, rfl⟩
          rcases Nat.eq_or_lt_of_le h1 with rfl | h3
          · rw [HX.out, HY.out]
          · exact hj.out j h3 h2
        case measure => simp [intOf]
      · have hxy2 : ¬ x < y := by omega
        go_wp2_with fail
        go_quiet (fail)
        go_wp2_with fail
        go_quiet (fail)
        go_wp2_with fail
        go_ret
        refine ⟨_, ?_, by simp only [World.drewN_drewN]; rfl⟩
        have e2 : cmpI (val 65536 da) (val 65536 db) = 1 := by
          have hLL := HL.out
          have := val_lt_of_digit (by omega) HL.out.symm HDB.out (by omega : k < db.length) (fun j h1 h2 => (hj.out j h1 (by omega)).symm) (by rw [HX.out, HY.out]; exact hxy)
          rw [cmpI, if_neg (by omega), if_neg (by omega)]
        rw [e2]; rfl
theorem cmp_any (va vb : Value) (m n : Nat) (w : World) (ha : Nt w va m) (hb : Nt w vb n) :
    Calls Tryz.prog 30 #[va, vb] w fun e w' => ∃ k, e = .returned (.int .i64 (cmpI m n)) ∧ w' = w.drewN k := by
  rcases Nat.lt_trichotomy (dg 65536 m).length (dg 65536 n).length with hl | hl | hl
  · have e : cmpI m n = -1 := by
      rw [cmpI, if_pos]
      rcases Nat.lt_or_ge m n with h | h
      · exact h
      · have := dg_length_mono (b := 65536) (by omega) h; omega
    rw [e]
    exact (cmp_lt va vb _ _ w ha.rd hb.rd hl).mono fun e w' ⟨h1, h2⟩ => ⟨0, h1, h2⟩
  · have := cmp_eq va vb _ _ w ha.rd hb.rd hl (dgl m) (dgl n)
    rwa [val_dg (by omega), val_dg (by omega)] at this
  · have e : cmpI m n = 1 := by
      have h1 : n < m := by
        rcases Nat.lt_or_ge n m with h | h
        · exact h
        · have := dg_length_mono (b := 65536) (by omega) h; omega
      rw [cmpI, if_neg (by omega), if_neg (by omega)]
    rw [e]
    exact (cmp_gt va vb _ _ w ha.rd hb.rd hl).mono fun e w' ⟨h1, h2⟩ => ⟨0, h1, h2⟩
end Go.Proofs.YtdhgdachchhflaaGreatDoor

namespace Go.Proofs.YtdhgdachchhflaaGreatDoor
open Go.RowKit Go.Dig
set_option maxRecDepth 100000
/-- A number with a sign. -/
def sgn (neg : Bool) (n : Nat) : Int := if neg = true then -(n : Int) else n
/-- Whether an integer is one of 64 bits. -/
def fitI (x : Int) : Bool := decide (-9223372036854775808 ≤ x ∧ x ≤ 9223372036854775807)
theorem ret_fit {z z' : Int} {f f' : Bool} (h1 : z = z') (h2 : f = f') : Ending.returned (.tuple #[.int .i64 z, .bool f]) = .returned (.tuple #[.int .i64 z', .bool f']) := by rw [h1, h2]
theorem fit_pos_neg {n : Nat} {z : Int} (ez : z = wrap64 n) (h : z < 0) : false = fitI (sgn false n) := by
  unfold wrap64 at ez
  unfold fitI sgn
  simp
  omega
theorem fit_pos {n : Nat} {z : Int} (ez : z = wrap64 n) (h : 0 ≤ z) : (cmpI z.natAbs n == 0) = fitI (sgn false n) := by
  unfold wrap64 at ez
  unfold fitI sgn cmpI
  by_cases h1 : z.natAbs = n
  · rw [if_neg (by omega), if_pos h1]; simp; omega
  · by_cases h2 : z.natAbs < n
    · rw [if_pos h2]; simp; omega
    · rw [if_neg h2, if_neg h1]; simp; omega
theorem fit_neg_pos {n : Nat} {z : Int} (ez : z = wrap64 (-wrap64 n)) (hn : n ≠ 0) (h : 0 ≤ z) : false = fitI (sgn true n) := by
  unfold wrap64 at ez
  unfold fitI sgn
  simp
  omega
theorem fit_neg {n : Nat} {z : Int} (ez : z = wrap64 (-wrap64 n)) (h : z < 0) : (cmpI z.natAbs n == 0) = fitI (sgn true n) := by
  unfold wrap64 at ez
  unfold fitI sgn cmpI
  by_cases h1 : z.natAbs = n
  · rw [if_neg (by omega), if_pos h1]; simp; omega
  · by_cases h2 : z.natAbs < n
    · rw [if_pos h2]; simp; omega
    · rw [if_neg h2, if_neg h1]; simp; omega
theorem wrap_neg_wrap (n : Nat) : wrap64 (-wrap64 n) = wrap64 (-(n : Int)) := by unfold wrap64; omega
end Go.Proofs.YtdhgdachchhflaaGreatDoor
