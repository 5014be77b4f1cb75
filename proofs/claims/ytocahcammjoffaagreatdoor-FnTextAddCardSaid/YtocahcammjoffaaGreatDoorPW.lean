/- Words of 64 bits out of digits of 16, bytes out of words. Plain Lean, no program in sight. -/
import Derived.Test.YtocahcammjoffaaGreatDoorDig
namespace Go.Dig
theorem val_inj {b : Nat} (hb : 0 < b) : ∀ {l m : List Nat}, l.length = m.length → (∀ d ∈ l, d < b) → (∀ d ∈ m, d < b) → val b l = val b m → l = m
  | [], [], _, _, _, _ => rfl
  | d :: l, e :: m, hl, h1, h2, hv => by
    have hd := h1 d (by simp)
    have he := h2 e (by simp)
    simp only [val] at hv
    have e1 : d = e := by
      have := congrArg (· % b) hv
      simpa [Nat.add_mul_mod_self_left, Nat.mod_eq_of_lt hd, Nat.mod_eq_of_lt he] using this
    subst e1
    have e2 : val b l = val b m := Nat.eq_of_mul_eq_mul_left hb (Nat.add_left_cancel hv)
    rw [val_inj hb (by simpa using hl) (fun x hx => h1 x (List.mem_cons_of_mem _ hx)) (fun x hx => h2 x (List.mem_cons_of_mem _ hx)) e2]
theorem wb_pow (k : Nat) : (18446744073709551616 : Nat) ^ k = 65536 ^ (4 * k) := by
  rw [show (18446744073709551616 : Nat) = 65536 ^ 4 from rfl, ← Nat.pow_mul]
theorem dg_words_len (n : Nat) : (dg 18446744073709551616 n).length = ((dg 65536 n).length + 3) / 4 := by
  by_cases h : n = 0
  · subst h; rw [dg_zero, dg_zero]; rfl
  · have hL : 0 < (dg 65536 n).length := by
      rcases Nat.eq_zero_or_pos (dg 65536 n).length with h' | h'
      · exact absurd ((dg_nil_iff (b := 65536) (by omega)).1 (List.eq_nil_of_length_eq_zero h')) h
      · exact h'
    have h0 := pow_le_of_dg_length (b := 65536) (by omega) (n := n) (k := (dg 65536 n).length - 1) (by omega)
    have h1 := lt_pow_dg_length (b := 65536) (by omega) n
    generalize (dg 65536 n).length = L at *
    have := dg_length_eq (b := 18446744073709551616) (by omega) (n := n) (k := (L - 1) / 4)
      (by rw [wb_pow]; exact Nat.le_trans (Nat.pow_le_pow_right (by omega) (by omega)) h0)
      (by rw [wb_pow]; exact Nat.lt_of_lt_of_le h1 (Nat.pow_le_pow_right (by omega) (by omega)))
    rw [this]
    omega
/-- Where the making of words out of digits stands behind i digits. -/
structure WI (ds : List Nat) (i : Nat) (o : List Nat) : Prop where
  len : o.length = (i + 3) / 4
  lt : ∀ x ∈ o, x < 18446744073709551616
  eq : val 18446744073709551616 o = val 65536 (ds.take i)
theorem WI.zero (ds : List Nat) : WI ds 0 [] := ⟨rfl, by simp, by simp [val]⟩
/-- The word that the next digit goes into is there. -/
structure WJ (ds : List Nat) (q r : Nat) (o : List Nat) : Prop where
  len : o.length = q + 1
  lt : ∀ x ∈ o, x < 18446744073709551616
  eq : val 18446744073709551616 o = val 65536 (ds.take (4 * q + r))
theorem WI.open_ {ds o : List Nat} {q : Nat} (h : WI ds (4 * q) o) : WJ ds q 0 (o ++ [0]) := by
  have hl := h.len
  refine ⟨by rw [List.length_append, hl, List.length_singleton]; omega, ?_, ?_⟩
  · intro x hx
    rcases List.mem_append.1 hx with h' | h'
    · exact h.lt x h'
    · simp at h'; omega
  · rw [val_append, h.eq]
    simp [val]
theorem WI.held {ds o : List Nat} {q r : Nat} (h : WI ds (4 * q + r) o) (hr : 0 < r) (h3 : r ≤ 3) : WJ ds q r o := by
  have hl := h.len
  exact ⟨by omega, h.lt, h.eq⟩
theorem WJ.old {ds o : List Nat} {q r : Nat} (h : WJ ds q r o) (hd : ∀ d ∈ ds, d < 65536) : o.getD q 0 < 65536 ^ r := by
  have hs := val_split_at (b := 18446744073709551616) (l := o) (i := q) (by rw [h.len]; omega)
  rw [h.eq] at hs
  have hlt := val_lt (b := 65536) (by omega) (l := ds.take (4 * q + r)) (fun d hx => hd d (List.mem_of_mem_take hx))
  have hp : (65536 : Nat) ^ (ds.take (4 * q + r)).length ≤ 65536 ^ (4 * q + r) := Nat.pow_le_pow_right (by omega) (List.length_take_le _ _)
  have hlt2 := Nat.lt_of_lt_of_le hlt hp
  rw [Nat.pow_add, ← wb_pow] at hlt2
  rcases Nat.lt_or_ge (o.getD q 0) (65536 ^ r) with h' | h'
  · exact h'
  · have h1 : 18446744073709551616 ^ q * 65536 ^ r ≤ 18446744073709551616 ^ q * (o.getD q 0 + 18446744073709551616 * val 18446744073709551616 (o.drop (q + 1))) := Nat.mul_le_mul_left _ (by omega)
    omega
theorem WJ.step {ds o : List Nat} {q r d : Nat} (h : WJ ds q r o) (hd : ∀ d ∈ ds, d < 65536) (hi : 4 * q + r < ds.length) (hx : ds.getD (4 * q + r) 0 = d) (hr : r ≤ 3) :
    WI ds (4 * q + r + 1) (o.set q (o.getD q 0 + d * 65536 ^ r)) := by
  have hold := h.old hd
  have hdl : d < 65536 := by rw [← hx, List.getD_eq_getElem?_getD, List.getElem?_eq_getElem hi]; exact hd _ (List.getElem_mem hi)
  have hnew : o.getD q 0 + d * 65536 ^ r < 18446744073709551616 := by
    have h1 : d * 65536 ^ r ≤ 65535 * 65536 ^ r := Nat.mul_le_mul_right _ (by omega)
    have h2 : (65536 : Nat) ^ (r + 1) ≤ 65536 ^ 4 := Nat.pow_le_pow_right (by omega) (by omega)
    rw [Nat.pow_succ] at h2
    omega
  have hl := h.len
  refine ⟨by rw [List.length_set, hl]; omega, ?_, ?_⟩
  · intro x hx'
    rcases List.mem_or_eq_of_mem_set hx' with h' | h'
    · exact h.lt x h'
    · rw [h']; exact hnew
  · have hs := val_set 18446744073709551616 o q (o.getD q 0 + d * 65536 ^ r) (by omega)
    rw [h.eq, Nat.add_mul, Nat.mul_assoc, wb_pow, ← Nat.pow_add] at hs
    rw [List.take_add_one, List.getElem?_eq_getElem hi, Option.toList_some, val_append, List.length_take, Nat.min_eq_left (by omega)]
    have e : ds[4 * q + r] = d := by rw [← hx, List.getD_eq_getElem?_getD, List.getElem?_eq_getElem hi]; rfl
    rw [e]
    simp only [val, Nat.mul_zero, Nat.add_zero]
    rw [Nat.add_comm r (4 * q)] at hs
    rw [Nat.mul_comm (65536 ^ (4 * q + r)) d]
    omega
theorem WI.done {n : Nat} {o : List Nat} (h : WI (dg 65536 n) (dg 65536 n).length o) : o = dg 18446744073709551616 n := by
  have e := h.eq
  rw [List.take_length, val_dg (by omega)] at e
  exact val_inj (b := 18446744073709551616) (by omega) (by rw [h.len, dg_words_len]) h.lt (dg_lt (by omega) n) (by rw [e, val_dg (by omega)])
/-- A byte goes down: V words' worth is there, r of the word's lower part is there, y of it is left. -/
theorem down_step {m : List Nat} {i k j V r y : Nat} (hm : i < m.length) (hi : i = 8 * k + j) (hv : val 256 (m.take i) = V + 18446744073709551616 ^ k * r) :
    val 256 ((m.set i (y % 256)).take (i + 1)) = V + 18446744073709551616 ^ k * (r + 256 ^ j * (y % 256)) := by
  have e1 : (m.set i (y % 256)).take i = m.take i := by rw [List.take_set_of_le (by omega)]
  have e2 : (256 : Nat) ^ i = 18446744073709551616 ^ k * 256 ^ j := by
    rw [hi, Nat.pow_add, Nat.pow_mul]
  rw [List.take_add_one, e1, List.getElem?_set_self hm, Option.toList_some, val_append, List.length_take, Nat.min_eq_left (by omega), hv, e2]
  simp only [val, Nat.mul_zero, Nat.add_zero]
  rw [Nat.mul_add, Nat.mul_assoc, Nat.add_assoc]
theorem down_left {x y r j : Nat} (h : x = y * 256 ^ j + r) : x = y / 256 * 256 ^ (j + 1) + (r + 256 ^ j * (y % 256)) := by
  have hy := Nat.div_add_mod y 256
  have e : y * 256 ^ j = (256 * (y / 256)) * 256 ^ j + (y % 256) * 256 ^ j := by rw [← Nat.add_mul, hy]
  rw [h, e, Nat.pow_succ, Nat.mul_comm (256 ^ j) (y % 256), Nat.mul_comm 256 (y / 256), Nat.mul_assoc, Nat.mul_comm 256 (256 ^ j)]
  omega
end Go.Dig
