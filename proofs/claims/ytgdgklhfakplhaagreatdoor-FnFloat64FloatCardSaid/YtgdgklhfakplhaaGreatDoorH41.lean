/- Walks and lemmas for the laws of this seat. -/
import Derived.Test.YtgdgklhfakplhaaGreatDoorH15
import Derived.Test.YtgdgklhfakplhaaGreatDoorH06
import Derived.Test.YtgdgklhfakplhaaGreatDoorH05
import Derived.Test.YtgdgklhfakplhaaGreatDoorH04

namespace Go.Proofs.YtgdgklhfakplhaaGreatDoor
open Go.RowKit Go.Dig
set_option maxRecDepth 100000
theorem band11 (z : Int) (h0 : 0 ≤ z) (h1 : z < 18446744073709551616) : bits .and .u64 z 2047 = z % 2048 := by
  rw [u64_and z 2047 h0 h1 (by omega) (by omega)]
  rw [show (2047 : Int).toNat = 2 ^ 11 - 1 from rfl, Nat.and_two_pow_sub_one_eq_mod]
  omega
theorem band52 (z : Int) (h0 : 0 ≤ z) (h1 : z < 18446744073709551616) : bits .and .u64 z 4503599627370495 = z % 4503599627370496 := by
  rw [u64_and z 4503599627370495 h0 h1 (by omega) (by omega)]
  rw [show (4503599627370495 : Int).toNat = 2 ^ 52 - 1 from rfl, Nat.and_two_pow_sub_one_eq_mod]
  omega
/-- The parts of a pattern of bits: what the words of the mantissa are, and the exponent. -/
def ofM (b : Nat) : Nat := if 0 < b / 4503599627370496 % 2048 then b % 4503599627370496 + 4503599627370496 else b % 4503599627370496
def ofE (b : Nat) : Int := if 0 < b / 4503599627370496 % 2048 then ((b / 4503599627370496 % 2048 : Nat) : Int) - 1 - 1074 else -1074
theorem ofM_lt (b : Nat) : ofM b < 9007199254740992 := by simp only [ofM]; split <;> omega
theorem ofE_bd (b : Nat) : -1074 ≤ ofE b ∧ ofE b ≤ 972 := by simp only [ofE]; split <;> omega
theorem pow16_gen {m n K : Nat} (hm : m < 9007199254740992) (hK : 53 + n ≤ 16 * K) : m * 2 ^ n < 65536 ^ K := by
  calc m * 2 ^ n < 2 ^ 53 * 2 ^ n := Nat.mul_lt_mul_of_pos_right hm (Nat.two_pow_pos n)
    _ = 2 ^ (53 + n) := by rw [Nat.pow_add]
    _ ≤ 2 ^ (16 * K) := Nat.pow_le_pow_right (by omega) hK
    _ = 65536 ^ K := by rw [Nat.pow_mul]
theorem pow16_len {m n k : Nat} (hm : m < 9007199254740992) (hn : n ≤ k) (hk : k ≤ 2000) : (dg 65536 (m * 2 ^ n)).length ≤ 100000 := by
  have h1 := pow16_gen (K := 129) hm (show 53 + n ≤ 16 * 129 by omega)
  have := dg_length_le (b := 65536) (by omega) h1
  omega
end Go.Proofs.YtgdgklhfakplhaaGreatDoor
namespace Go.Pn
theorem odd_gcd {m : Nat} (h : m % 2 = 1) (s : Nat) : Nat.gcd m (2 ^ s) = 1 := by
  have h1 : Nat.Coprime m 2 := by
    unfold Nat.Coprime
    rw [Nat.gcd_comm, Nat.gcd_rec, h]
    rfl
  exact h1.pow_right s
/-- What the halving keeps: m0 and the exponent e at the start, m and the shift now. -/
def Kept (m0 : Nat) (e : Int) (m : Nat) (sh : Int) : Prop := (e < 0 → 0 ≤ sh ∧ sh ≤ -e ∧ m * 2 ^ (-e - sh).toNat = m0) ∧ (0 ≤ e → sh = -e ∧ m = m0)
theorem kept_start (m0 : Nat) (e : Int) : Kept m0 e m0 (-e) := ⟨fun _ => ⟨by omega, by omega, by simp⟩, fun _ => ⟨rfl, rfl⟩⟩
theorem kept_step {m0 m : Nat} {e sh : Int} (h : Kept m0 e m sh) (h0 : m % 2 = 0) (hs : 0 < sh) : Kept m0 e (m / 2) (sh - 1) := by
  refine ⟨fun he => ?_, fun he => ?_⟩
  · obtain ⟨h1, h2, h3⟩ := h.1 he
    refine ⟨by omega, by omega, ?_⟩
    rw [show (-e - (sh - 1)).toNat = (-e - sh).toNat + 1 by omega, Nat.pow_succ, Nat.mul_comm (2 ^ _) 2, ← Nat.mul_assoc, ← h3]
    congr 1
    omega
  · have := (h.2 he).1
    omega
theorem kept_end {m0 m : Nat} {e sh : Int} (h : Kept m0 e m sh) (hx : m % 2 = 1 ∨ sh ≤ 0) :
    m * 2 ^ (-sh).toNat = m0 * 2 ^ e.toNat / Nat.gcd (m0 * 2 ^ e.toNat) (2 ^ (-e).toNat) ∧ 2 ^ sh.toNat = 2 ^ (-e).toNat / Nat.gcd (m0 * 2 ^ e.toNat) (2 ^ (-e).toNat) ∧ Nat.gcd (m * 2 ^ (-sh).toNat) (2 ^ sh.toNat) = 1 := by
  rcases Int.lt_or_le e 0 with he | he
  · obtain ⟨h1, h2, h3⟩ := h.1 he
    have e0 : e.toNat = 0 := by omega
    have e1 : (-sh).toNat = 0 := by omega
    rw [e0, e1, Nat.pow_zero, Nat.mul_one, Nat.mul_one]
    have e2 : 2 ^ (-e).toNat = 2 ^ sh.toNat * 2 ^ (-e - sh).toNat := by rw [← Nat.pow_add]; congr 1; omega
    have hg : Nat.gcd m (2 ^ sh.toNat) = 1 := by
      rcases hx with hx | hx
      · exact odd_gcd hx _
      · rw [show sh.toNat = 0 by omega, Nat.pow_zero]; exact Nat.gcd_one_right m
    have hp := Nat.two_pow_pos (-e - sh).toNat
    rw [e2, ← h3, Nat.gcd_mul_right, hg, Nat.one_mul, Nat.mul_div_cancel _ hp, Nat.mul_div_cancel _ hp]
    exact ⟨rfl, rfl, rfl⟩
  · obtain ⟨h1, h2⟩ := h.2 he
    subst h1 h2
    have e1 : (-e).toNat = 0 := by omega
    rw [e1, Nat.pow_zero, Nat.gcd_one_right, Nat.div_one, Nat.div_one, Int.neg_neg]
    exact ⟨rfl, rfl, Nat.gcd_one_right _⟩
end Go.Pn
