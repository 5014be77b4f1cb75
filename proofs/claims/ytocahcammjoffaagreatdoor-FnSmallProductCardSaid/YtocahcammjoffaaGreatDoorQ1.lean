/- Walks and lemmas for the laws of this seat. -/
import Derived.Test.YtocahcammjoffaaGreatDoorS19
import Derived.Test.YtocahcammjoffaaGreatDoorB3
namespace Go.Proofs.YtocahcammjoffaaGreatDoor
open Go.RowKit Go.Dig
set_option maxRecDepth 100000
theorem sgn_t (n : Nat) : sgn true n = -(n : Int) := rfl
theorem sgn_f (n : Nat) : sgn false n = (n : Int) := rfl
theorem tdiv_sgn (a b : Int) : a.tdiv b = sgn (decide (a < 0) != decide (b < 0)) (a.natAbs / b.natAbs) := by
  rcases Int.lt_or_le a 0 with ha | ha <;> rcases Int.lt_or_le b 0 with hb | hb
  · obtain ⟨m, rfl⟩ : ∃ m : Nat, a = -(m : Int) := ⟨a.natAbs, by omega⟩
    obtain ⟨n, rfl⟩ : ∃ n : Nat, b = -(n : Int) := ⟨b.natAbs, by omega⟩
    rw [Int.neg_tdiv, Int.tdiv_neg, Int.neg_neg, decide_eq_true ha, decide_eq_true hb, show (true != true) = false from rfl, sgn_f, Int.natAbs_neg, Int.natAbs_neg, Int.natAbs_natCast, Int.natAbs_natCast, Int.ofNat_tdiv]
  · obtain ⟨m, rfl⟩ : ∃ m : Nat, a = -(m : Int) := ⟨a.natAbs, by omega⟩
    obtain ⟨n, rfl⟩ : ∃ n : Nat, b = (n : Int) := ⟨b.natAbs, by omega⟩
    rw [Int.neg_tdiv, decide_eq_true ha, decide_eq_false (by omega), show (true != false) = true from rfl, sgn_t, Int.natAbs_neg, Int.natAbs_natCast, Int.natAbs_natCast, Int.ofNat_tdiv]
  · obtain ⟨m, rfl⟩ : ∃ m : Nat, a = (m : Int) := ⟨a.natAbs, by omega⟩
    obtain ⟨n, rfl⟩ : ∃ n : Nat, b = -(n : Int) := ⟨b.natAbs, by omega⟩
    rw [Int.tdiv_neg, decide_eq_false (by omega), decide_eq_true hb, show (false != true) = true from rfl, sgn_t, Int.natAbs_neg, Int.natAbs_natCast, Int.natAbs_natCast, Int.ofNat_tdiv]
  · obtain ⟨m, rfl⟩ : ∃ m : Nat, a = (m : Int) := ⟨a.natAbs, by omega⟩
    obtain ⟨n, rfl⟩ : ∃ n : Nat, b = (n : Int) := ⟨b.natAbs, by omega⟩
    rw [decide_eq_false (by omega), decide_eq_false (by omega), show (false != false) = false from rfl, sgn_f, Int.natAbs_natCast, Int.natAbs_natCast, Int.ofNat_tdiv]
theorem tmod_sgn (a b : Int) : a.tmod b = sgn (decide (a < 0)) (a.natAbs % b.natAbs) := by
  rcases Int.lt_or_le a 0 with ha | ha
  · obtain ⟨m, rfl⟩ : ∃ m : Nat, a = -(m : Int) := ⟨a.natAbs, by omega⟩
    rw [Int.neg_tmod, decide_eq_true ha, sgn_t, Int.natAbs_neg, Int.natAbs_natCast]
    rcases Int.lt_or_le b 0 with hb | hb
    · obtain ⟨n, rfl⟩ : ∃ n : Nat, b = -(n : Int) := ⟨b.natAbs, by omega⟩
      rw [Int.tmod_neg, Int.natAbs_neg, Int.natAbs_natCast, Int.ofNat_tmod]
    · obtain ⟨n, rfl⟩ : ∃ n : Nat, b = (n : Int) := ⟨b.natAbs, by omega⟩
      rw [Int.natAbs_natCast, Int.ofNat_tmod]
  · obtain ⟨m, rfl⟩ : ∃ m : Nat, a = (m : Int) := ⟨a.natAbs, by omega⟩
    rw [decide_eq_false (by omega), sgn_f, Int.natAbs_natCast]
    rcases Int.lt_or_le b 0 with hb | hb
    · obtain ⟨n, rfl⟩ : ∃ n : Nat, b = -(n : Int) := ⟨b.natAbs, by omega⟩
      rw [Int.tmod_neg, Int.natAbs_neg, Int.natAbs_natCast, Int.ofNat_tmod]
    · obtain ⟨n, rfl⟩ : ∃ n : Nat, b = (n : Int) := ⟨b.natAbs, by omega⟩
      rw [Int.natAbs_natCast, Int.ofNat_tmod]
theorem sgn_sgn (s : Bool) (n : Nat) : sgn (decide (sgn s n < 0)) n = sgn s n := by
  cases s
  · rw [sgn_f, decide_eq_false (by omega), sgn_f]
  · rw [sgn_t]
    rcases Nat.eq_zero_or_pos n with rfl | h
    · rfl
    · rw [decide_eq_true (by omega), sgn_t]
theorem fit_ok (s : Bool) (n : Nat) (h0 : -9223372036854775808 ≤ sgn s n) (h1 : sgn s n ≤ 9223372036854775807) : true = fitI (sgn (decide (sgn s n < 0)) n) := by
  rw [sgn_sgn, fitI, decide_eq_true ⟨h0, h1⟩]
theorem neg_ne (s : Bool) (n : Nat) (h : decide (sgn s n < 0) = true) : n ≠ 0 := by
  rintro rfl
  cases s <;> simp [sgn] at h
theorem small_len (x : Int) (h0 : -9223372036854775808 ≤ x) (h1 : x ≤ 9223372036854775807) : (dg 65536 x.natAbs).length ≤ 4 := dg_length_le (by omega) (by omega)
end Go.Proofs.YtocahcammjoffaaGreatDoor
