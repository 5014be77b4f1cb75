/- Walks and lemmas for the laws of this seat. -/
import Derived.Test.YtocahcammjoffaaGreatDoorN1
namespace Go.Proofs.YtocahcammjoffaaGreatDoor
open Go.RowKit Go.Dig
set_option maxRecDepth 100000
set_option maxHeartbeats 400000 in
theorem isInt64_any (b : Nat) (s : Bool) (n : Nat) (w : World) (h : Iv w b s n) : Calls Tryz.prog 202 #[.pointer (some ⟨b, 0, none⟩)] w fun e w' => e = .returned (.bool (fitI (sgn s n))) ∧ w' = w := by
  obtain ⟨v, hB, hN⟩ := h
  obtain ⟨a, cap, rfl⟩ := hN.shape
  have HN := hid hN
  have hc0 := hB.cell 0
  have hc1 := hB.cell 1
  simp only [List.getElem?_toArray, List.getElem?_cons_zero, List.getElem?_cons_succ] at hc0 hc1
  clear hN
  rcases Nat.lt_or_ge n 18446744073709551616 with hn | hn
  · have hl : (dg 18446744073709551616 n).length ≤ 1 := dg_length_le (by omega) (by omega)
    have e0 : n % 18446744073709551616 = n := Nat.mod_eq_of_lt hn
    rcases Nat.lt_or_ge n 9223372036854775808 with h2 | h2
    · have ef : fitI (sgn s n) = true := by cases s <;> simp [fitI, sgn] <;> omega
      rw [ef]
      go_enter Tryz.func202, Tryz.ntmps202
      go_wp2_with fail
      refine (low64_any _ n w HN.out).mono ?_
      rintro e w' ⟨rfl, rfl⟩
      rw [e0]
      go_wp2_with fail
      go_ret
      exact ⟨rfl, rfl⟩
    · obtain ⟨z, hz⟩ : ∃ z, wrap64 (n : Int) = z := ⟨_, rfl⟩
      obtain ⟨y, hy⟩ : ∃ y, wrap64 (-z) = y := ⟨_, rfl⟩
      have hz0 : z < 0 := by rw [← hz]; unfold wrap64; omega
      cases s
      · have ef : fitI (sgn false n) = false := by simp [fitI, sgn]; omega
        rw [ef]
        go_enter Tryz.func202, Tryz.ntmps202
        go_wp2_with fail
        refine (low64_any _ n w HN.out).mono ?_
        rintro e w' ⟨rfl, rfl⟩
        rw [e0]
        go_wp2_with fail
        go_ret
        exact ⟨by simpa using hz0, rfl⟩
      · rcases Nat.eq_or_lt_of_le h2 with h3 | h3
        · have hyz : y = z := by rw [← hy, ← hz, ← h3]; unfold wrap64; omega
          subst hyz
          have ef : fitI (sgn true n) = true := by rw [← h3]; decide
          rw [ef]
          go_enter Tryz.func202, Tryz.ntmps202
          go_wp2_with fail
          refine (low64_any _ n w HN.out).mono ?_
          rintro e w' ⟨rfl, rfl⟩
          rw [e0]
          go_wp2_with fail
          go_ret
          exact ⟨by simp, rfl⟩
        · have hyz : z ≠ y := by rw [← hy, ← hz]; unfold wrap64; omega
          have ef : fitI (sgn true n) = false := by simp [fitI, sgn]; omega
          rw [ef]
          go_enter Tryz.func202, Tryz.ntmps202
          go_wp2_with fail
          refine (low64_any _ n w HN.out).mono ?_
          rintro e w' ⟨rfl, rfl⟩
          rw [e0]
          go_wp2_with fail
          go_ret
          exact ⟨by simpa [hyz] using hz0, rfl⟩
  · have hl : 1 < (dg 18446744073709551616 n).length := by
      rcases Nat.lt_or_ge 1 (dg 18446744073709551616 n).length with h | h
      · exact h
      · have := Nat.lt_of_lt_of_le (lt_pow_dg_length (b := 18446744073709551616) (by omega) n) (Nat.pow_le_pow_right (by omega) h)
        omega
    have ef : fitI (sgn s n) = false := by cases s <;> simp [fitI, sgn] <;> omega
    rw [ef]
    go_enter Tryz.func202, Tryz.ntmps202
    go_wp2_with fail
    go_ret
    exact ⟨rfl, rfl⟩
set_option maxHeartbeats 400000 in
theorem intInt64_any (b : Nat) (s : Bool) (n : Nat) (w : World) (h : Iv w b s n) : Calls Tryz.prog 154 #[.pointer (some ⟨b, 0, none⟩)] w fun e w' => ∃ z, e = .returned (.int .i64 z) ∧ Hid (fitI (sgn s n) = true → z = sgn s n) ∧ w' = w := by
  obtain ⟨v, hB, hN⟩ := h
  obtain ⟨a, cap, rfl⟩ := hN.shape
  have HN := hid hN
  have hc0 := hB.cell 0
  have hc1 := hB.cell 1
  simp only [List.getElem?_toArray, List.getElem?_cons_zero, List.getElem?_cons_succ] at hc0 hc1
  clear hN
  obtain ⟨z, hz⟩ : ∃ z, wrap64 ((n % 18446744073709551616 : Nat) : Int) = z := ⟨_, rfl⟩
  obtain ⟨y, hy⟩ : ∃ y, wrap64 (-z) = y := ⟨_, rfl⟩
  obtain ⟨m, hm⟩ : ∃ m, n % 18446744073709551616 = m := ⟨_, rfl⟩
  have HF1 : Hid (fitI (sgn false n) = true → z = sgn false n) := by
    intro hf
    rw [fitI, decide_eq_true_eq, sgn] at hf
    rw [← hz, sgn]
    simp at hf ⊢
    unfold wrap64; omega
  have HF2 : Hid (fitI (sgn true n) = true → y = sgn true n) := by
    intro hf
    rw [fitI, decide_eq_true_eq, sgn] at hf
    rw [← hy, ← hz, sgn]
    simp at hf ⊢
    unfold wrap64; omega
  rw [hm] at hz
  have hm1 : m < 18446744073709551616 := by omega
  cases s
  · go_enter Tryz.func154, Tryz.ntmps154
    go_wp2_with fail
    refine (low64_any _ n w HN.out).mono ?_
    rintro e w' ⟨rfl, rfl⟩
    rw [hm]
    clear hm
    go_wp2_with fail
    go_ret
    exact ⟨_, rfl, by rw [hz]; exact HF1, rfl⟩
  · go_enter Tryz.func154, Tryz.ntmps154
    go_wp2_with fail
    refine (low64_any _ n w HN.out).mono ?_
    rintro e w' ⟨rfl, rfl⟩
    rw [hm]
    clear hm
    go_wp2_with fail
    go_ret
    exact ⟨_, rfl, by rw [hy]; exact HF2, rfl⟩
end Go.Proofs.YtocahcammjoffaaGreatDoor
