/- Walks and lemmas for the laws of this seat. -/
import Derived.Test.YtgdgklhfakplhaaGreatDoorG32
import Derived.Test.YtgdgklhfakplhaaGreatDoorG02
namespace Go.Rnd
open Go.Dig
theorem blen_lo {n : Nat} (h : 0 < n) : 2 ^ (blen n - 1) ≤ n := by
  have hp := blen_pos (n := n) (by omega)
  exact blen_ge (by omega)
/-- The first quotient has c or c + 1 digits. -/
theorem first_quot {P D : Nat} (hP : 0 < P) (hD : 0 < D) (c : Nat) (e : Int) (he : e = (blen P : Int) - blen D - c) (hc : 1 ≤ c) : 2 ^ (c - 1) ≤ uq P D e ∧ uq P D e < 2 ^ (c + 1) := by
  have p1 := blen_lo hP
  have p2 := blen_lt P
  have d1 := blen_lo hD
  have d2 := blen_lt D
  have hp := blen_pos (n := P) (by omega)
  have hd := blen_pos (n := D) (by omega)
  generalize blen P = a at *
  generalize blen D = d at *
  have hud := ud_pos hD e
  unfold uq
  suffices h : 2 ^ (c - 1) * ud D e ≤ un P e ∧ un P e < 2 ^ (c + 1) * ud D e from
    ⟨(Nat.le_div_iff_mul_le hud).2 h.1, Nat.div_lt_of_lt_mul (by rw [Nat.mul_comm]; exact h.2)⟩
  unfold un ud
  rcases Int.le_total 0 e with h | h
  · have h1 : (-e).toNat = 0 := by omega
    rw [h1, Nat.pow_zero, Nat.mul_one]
    obtain ⟨k, hk⟩ : ∃ k : Nat, e.toNat = k := ⟨_, rfl⟩
    rw [hk]
    constructor
    · calc 2 ^ (c - 1) * (D * 2 ^ k) ≤ 2 ^ (c - 1) * (2 ^ d * 2 ^ k) := Nat.mul_le_mul_left _ (Nat.mul_le_mul_right _ (Nat.le_of_lt d2))
        _ = 2 ^ (a - 1) := by rw [← Nat.pow_add, ← Nat.pow_add]; congr 1; omega
        _ ≤ P := p1
    · calc P < 2 ^ a := p2
        _ = 2 ^ (c + 1) * (2 ^ (d - 1) * 2 ^ k) := by rw [← Nat.pow_add, ← Nat.pow_add]; congr 1; omega
        _ ≤ 2 ^ (c + 1) * (D * 2 ^ k) := Nat.mul_le_mul_left _ (Nat.mul_le_mul_right _ d1)
  · have h1 : e.toNat = 0 := by omega
    rw [h1, Nat.pow_zero, Nat.mul_one]
    obtain ⟨k, hk⟩ : ∃ k : Nat, (-e).toNat = k := ⟨_, rfl⟩
    rw [hk]
    constructor
    · calc 2 ^ (c - 1) * D ≤ 2 ^ (c - 1) * 2 ^ d := Nat.mul_le_mul_left _ (Nat.le_of_lt d2)
        _ = 2 ^ (a - 1) * 2 ^ k := by rw [← Nat.pow_add, ← Nat.pow_add]; congr 1; omega
        _ ≤ P * 2 ^ k := Nat.mul_le_mul_right _ p1
    · calc P * 2 ^ k < 2 ^ a * 2 ^ k := (Nat.mul_lt_mul_right (Nat.two_pow_pos k)).2 p2
        _ = 2 ^ (c + 1) * 2 ^ (d - 1) := by rw [← Nat.pow_add, ← Nat.pow_add]; congr 1; omega
        _ ≤ 2 ^ (c + 1) * D := Nat.mul_le_mul_left _ d1
theorem uq_half {N D : Nat} (hD : 0 < D) (e : Int) : uq N D (e + 1) = uq N D e / 2 ∧ (ur N D (e + 1) = 0 ↔ ur N D e = 0 ∧ uq N D e % 2 = 0) := by
  have h1 := (step (N := N) hD (e + 1)).1
  have h2 := ur_zero (N := N) hD (e + 1)
  rw [show e + 1 - 1 = e by omega] at h1 h2
  exact ⟨h1, by rw [h2]⟩
/-- s digits dropped. -/
theorem uq_drop {N D : Nat} (hD : 0 < D) (e : Int) : ∀ s : Nat, uq N D (e + s) = uq N D e / 2 ^ s ∧ (ur N D (e + s) = 0 ↔ ur N D e = 0 ∧ uq N D e % 2 ^ s = 0)
  | 0 => by simp [Nat.mod_one]
  | s + 1 => by
    obtain ⟨h1, h2⟩ := uq_drop (N := N) hD e s
    obtain ⟨h3, h4⟩ := uq_half (N := N) hD (e + s)
    rw [show e + ((s + 1 : Nat) : Int) = e + (s : Int) + 1 by omega, h3, h4, h1, h2, Nat.div_div_eq_div_mul, Nat.pow_succ]
    refine ⟨rfl, ?_⟩
    generalize uq N D e = q
    have hp := Nat.two_pow_pos s
    rw [Nat.mod_mul]
    constructor
    · rintro ⟨⟨a, b⟩, c⟩
      exact ⟨a, by rw [b, c]; simp⟩
    · rintro ⟨a, b⟩
      have b1 : q % 2 ^ s = 0 := by omega
      have b2 : 2 ^ s * (q / 2 ^ s % 2) = 0 := by omega
      refine ⟨⟨a, b1⟩, ?_⟩
      rcases Nat.mul_eq_zero.1 b2 with h | h
      · omega
      · exact h
theorem un_small {P D B k : Nat} (c : Nat) (e : Int) (he : e = (blen P : Int) - blen D - c) (h1 : blen P ≤ k) (h2 : blen D + c ≤ k) (hB : B = 2 ^ k) : un P e < B := by
  have p2 := blen_lt P
  subst hB
  unfold un
  rcases Int.le_total 0 e with h | h
  · rw [show (-e).toNat = 0 by omega, Nat.pow_zero, Nat.mul_one]
    exact Nat.lt_of_lt_of_le p2 (Nat.pow_le_pow_right (by omega) h1)
  · calc P * 2 ^ (-e).toNat < 2 ^ blen P * 2 ^ (-e).toNat := (Nat.mul_lt_mul_right (Nat.two_pow_pos _)).2 p2
      _ = 2 ^ (blen P + (-e).toNat) := (Nat.pow_add ..).symm
      _ ≤ 2 ^ k := Nat.pow_le_pow_right (by omega) (by omega)
theorem ud_small {P D B k : Nat} (c : Nat) (e : Int) (he : e = (blen P : Int) - blen D - c) (h1 : blen P ≤ k) (h2 : blen D ≤ k) (hB : B = 2 ^ k) : ud D e < B := by
  have p2 := blen_lt D
  subst hB
  unfold ud
  rcases Int.le_total 0 e with h | h
  · calc D * 2 ^ e.toNat < 2 ^ blen D * 2 ^ e.toNat := (Nat.mul_lt_mul_right (Nat.two_pow_pos _)).2 p2
      _ = 2 ^ (blen D + e.toNat) := (Nat.pow_add ..).symm
      _ ≤ 2 ^ k := Nat.pow_le_pow_right (by omega) (by omega)
  · rw [show e.toNat = 0 by omega, Nat.pow_zero, Nat.mul_one]
    exact Nat.lt_of_lt_of_le p2 (Nat.pow_le_pow_right (by omega) h2)
def up (N D : Nat) (U : Int) : Bool := decide (left N D U = 3) || (decide (left N D U = 2) && decide (uq N D U % 2 = 1))
/-- The number of units that is nearest; of two the even one. -/
def near (N D : Nat) (U : Int) : Nat := uq N D U + (if up N D U then 1 else 0)
/-- The last digit found is dropped, and what is found there rounds. -/
theorem round_last {N D : Nat} (hD : 0 < D) (e : Int) :
    near N D (e + 1) = (if uq N D e % 2 = 1 ∧ (ur N D e ≠ 0 ∨ uq N D e / 2 % 2 = 1) then (uq N D e + 1) / 2 else uq N D e / 2) ∧
    (left N D (e + 1) = 0 ↔ ur N D e = 0 ∧ uq N D e % 2 = 0) := by
  obtain ⟨h1, h2⟩ := step (N := N) hD (e + 1)
  rw [show e + 1 - 1 = e by omega] at h1 h2
  unfold near up
  rw [h1, h2]
  generalize uq N D e = q
  by_cases hr : ur N D e = 0
  · rcases Nat.mod_two_eq_zero_or_one q with hq | hq
    · simp [hr, hq]
    · by_cases hq2 : q / 2 % 2 = 1
      · simp [hr, hq, hq2]; omega
      · simp [hr, hq, hq2]
  · rcases Nat.mod_two_eq_zero_or_one q with hq | hq
    · simp [hr, hq]
    · simp [hr, hq]; omega
end Go.Rnd
