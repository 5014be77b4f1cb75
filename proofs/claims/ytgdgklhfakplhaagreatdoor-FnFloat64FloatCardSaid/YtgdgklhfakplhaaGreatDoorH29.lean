/- Walks and lemmas for the laws of this seat. -/
import Derived.Test.YtgdgklhfakplhaaGreatDoorH23
import Derived.Test.YtgdgklhfakplhaaGreatDoorH02
import Derived.Test.YtgdgklhfakplhaaGreatDoorH22
import Derived.Test.YtgdgklhfakplhaaGreatDoorH20
import Derived.Test.YtgdgklhfakplhaaGreatDoorH28
namespace Go.DivPl
open Go.Dig

theorem val_cut (b : Nat) (l : List Nat) (k : Nat) (h : k ≤ l.length) : val b l = val b (l.take k) + b ^ k * val b (l.drop k) := by
  have e := val_append b (l.take k) (l.drop k)
  rw [List.take_append_drop, List.length_take, Nat.min_eq_left h] at e
  exact e

theorem val_take_lt {b : Nat} (hb : 1 ≤ b) {l : List Nat} (hd : ∀ d ∈ l, d < b) (k : Nat) (h : k ≤ l.length) : val b (l.take k) < b ^ k := by
  have := val_lt hb (l := l.take k) (fun d hx => hd d (List.mem_of_mem_take hx))
  rwa [List.length_take, Nat.min_eq_left h] at this

theorem drop_cons' {l : List Nat} {i : Nat} (h : i < l.length) : l.drop i = l.getD i 0 :: l.drop (i + 1) := by
  rw [List.drop_eq_getElem_cons h, List.getD_eq_getElem?_getD, List.getElem?_eq_getElem h]; rfl

theorem val_top2 (b : Nat) {l : List Nat} {n : Nat} (h : l.length = n + 2) : val b l = (l.getD (n + 1) 0 * b + l.getD n 0) * b ^ n + val b (l.take n) := by
  rw [val_cut b l n (by omega), drop_cons' (by omega), drop_cons' (by omega), List.drop_eq_nil_of_le (by omega)]
  show _ + b ^ n * (l.getD n 0 + b * (l.getD (n + 1) 0 + b * 0)) = _
  rw [Nat.mul_zero, Nat.add_zero, Nat.mul_comm (b ^ n), Nat.mul_comm b, Nat.add_comm (l.getD n 0), Nat.add_comm]

theorem val_top3 (b : Nat) {l : List Nat} {n : Nat} (h : l.length = n + 3) : val b l = ((l.getD (n + 2) 0 * b + l.getD (n + 1) 0) * b + l.getD n 0) * b ^ n + val b (l.take n) := by
  rw [val_cut b l n (by omega), drop_cons' (by omega), drop_cons' (by omega), drop_cons' (by omega), List.drop_eq_nil_of_le (by omega)]
  show _ + b ^ n * (l.getD n 0 + b * (l.getD (n + 1) 0 + b * (l.getD (n + 2) 0 + b * 0))) = _
  have e : ∀ x y z K t : Nat, t + K * (x + b * (y + b * (z + b * 0))) = ((z * b + y) * b + x) * K + t := by
    intro x y z K t
    rw [Nat.mul_zero, Nat.add_zero, Nat.mul_comm K, Nat.mul_comm b, Nat.mul_comm b, Nat.add_comm y, Nat.add_comm x, Nat.add_comm t]
  exact e _ _ _ _ _

/-- The guess from the leading digits is the digit or one more. -/
theorem digit_guess {B K V vl y1 y0 U x2 x1 x0 ul : Nat} (hB : 2 ≤ B) (hK : 0 < K) (hV : V = (y1 * B + y0) * K + vl) (hvl : vl < K) (hy : B ≤ 2 * y1) (hy0 : y0 < B)
    (hU : U = ((x2 * B + x1) * B + x0) * K + ul) (hul : ul < K) (hlt : U < V * B) :
    x2 ≤ y1 ∧ (x2 = y1 → U / V ≤ B - 1 ∧ B - 1 ≤ U / V + 1) ∧ (x2 < y1 → U / V ≤ ((x2 * B + x1) * B + x0) / (y1 * B + y0) ∧ ((x2 * B + x1) * B + x0) / (y1 * B + y0) ≤ U / V + 1) := by
  have hV2 : B ≤ y1 * B + y0 := by
    have : 1 * B ≤ y1 * B := Nat.mul_le_mul_right B (by omega)
    omega
  have hVlt : V < (y1 * B + y0 + 1) * K := by rw [Nat.add_mul, Nat.one_mul, hV]; omega
  have hT : (x2 * B + x1) * B + x0 < (y1 * B + y0 + 1) * B := by
    have h1 : ((x2 * B + x1) * B + x0) * K ≤ U := by omega
    have h2 : V * B ≤ (y1 * B + y0 + 1) * K * B := Nat.mul_le_mul_right B (by omega)
    have h3 : (y1 * B + y0 + 1) * K * B = (y1 * B + y0 + 1) * B * K := Nat.mul_right_comm _ _ _
    apply Nat.lt_of_mul_lt_mul_right (a := K)
    omega
  refine ⟨?_, ?_, ?_⟩
  · rcases Nat.lt_or_ge y1 x2 with h | h
    · exfalso
      have h1 : (y1 + 1) * B * B ≤ x2 * B * B := Nat.mul_le_mul_right B (Nat.mul_le_mul_right B h)
      have h2 : (y1 * B + y0 + 1) * B ≤ ((y1 + 1) * B) * B := Nat.mul_le_mul_right B (by rw [Nat.add_mul, Nat.one_mul]; omega)
      rw [Nat.add_mul (x2 * B)] at hT
      omega
    · exact h
  · rintro rfl
    have e1 : V = x2 * (B * K) + (y0 * K + vl) := by rw [hV, Nat.add_mul, Nat.mul_assoc, Nat.add_assoc]
    have e2 : U = x2 * (B * K * B) + ((x1 * B + x0) * K + ul) := by
      rw [hU, Nat.add_mul (x2 * B), Nat.add_assoc, Nat.add_mul (x2 * B * B), Nat.add_assoc]
      congr 1
      rw [Nat.mul_assoc, Nat.mul_assoc, Nat.mul_assoc, Nat.mul_comm K B]
    have hP : 0 < B * K := Nat.mul_pos (by omega) hK
    have h1 : y0 * K + vl < B * K := by
      have : (y0 + 1) * K ≤ B * K := Nat.mul_le_mul_right K hy0
      rw [Nat.add_mul] at this; omega
    have := top_equal (B := B) (P := B * K) (y := x2) (vl := y0 * K + vl) (ul := (x1 * B + x0) * K + ul) hB hy h1 (by rw [← e1, ← e2]; exact hlt) hP
    rw [← e1, ← e2] at this
    exact this
  · intro _
    have hq : ((x2 * B + x1) * B + x0) / (y1 * B + y0) ≤ y1 * B + y0 := by
      generalize y1 * B + y0 = V2 at *
      generalize (x2 * B + x1) * B + x0 = T at *
      have : T / V2 < V2 + 1 := Nat.div_lt_of_lt_mul (by
        have : (V2 + 1) * B ≤ (V2 + 1) * V2 := Nat.mul_le_mul_left _ hV2
        rw [Nat.mul_comm V2]; omega)
      omega
    have := three_by_two (K := K) (V2 := y1 * B + y0) (T := (x2 * B + x1) * B + x0) (vl := vl) (ul := ul) hK hvl hul (by omega) hq
    rw [← hV, ← hU] at this
    exact this

/-- What is left after q*V is taken off tells whether the guess was the digit. -/
theorem digit_fix {P V U q W l c : Nat} (h1 : U / V ≤ q) (h2 : q ≤ U / V + 1) (hV : 0 < V) (hW : W = q * V) (hl : l + W = U + c * P) (hlP : l < P) (hc : c ≤ 1) :
    (c = 0 → q = U / V ∧ l = U % V) ∧ (c = 1 → q = U / V + 1 ∧ l + V = U % V + P) := by
  have hd := Nat.div_add_mod U V
  have hm := Nat.mod_lt U hV
  rw [Nat.mul_comm] at hd
  generalize U / V = Q at *
  generalize U % V = R at *
  have hq : q = Q ∨ q = Q + 1 := by omega
  constructor
  · rintro rfl
    rcases hq with rfl | rfl
    · exact ⟨rfl, by omega⟩
    · rw [Nat.add_mul] at hW; omega
  · rintro rfl
    rcases hq with rfl | rfl
    · omega
    · rw [Nat.add_mul] at hW
      exact ⟨rfl, by omega⟩

/-- V is added back to the low words; the carry makes the top word 0. -/
theorem digit_back {B N V R l0 t a c : Nat} (hN : 0 < N) (h : l0 + N * t + V = R + N * B) (ha : a + c * N = l0 + V) (hR : R < V) (hVN : V ≤ N) (hl : a < N) : a = R ∧ t + c = B := by
  have e : a + N * (t + c) = R + N * B := by rw [Nat.mul_add, Nat.mul_comm N c]; omega
  have h1 : a = R := by
    have := congrArg (· % N) e
    simp only [Nat.add_mul_mod_self_left] at this
    rwa [Nat.mod_eq_of_lt hl, Nat.mod_eq_of_lt (by omega)] at this
  refine ⟨h1, ?_⟩
  rw [h1] at e
  exact Nat.eq_of_mul_eq_mul_left hN (by omega)

end Go.DivPl
namespace Go.DivPl
open Go.Dig

theorem getD_take {l : List Nat} {i k : Nat} (h : i < k) : (l.take k).getD i 0 = l.getD i 0 := by
  rw [List.getD_eq_getElem?_getD, List.getElem?_take_of_lt h, ← List.getD_eq_getElem?_getD]
theorem getD_drop {l : List Nat} {i k : Nat} : (l.drop k).getD i 0 = l.getD (k + i) 0 := by
  rw [List.getD_eq_getElem?_getD, List.getElem?_drop, ← List.getD_eq_getElem?_getD]
theorem val_cons (b d : Nat) (l : List Nat) : val b (d :: l) = d + b * val b l := rfl

/-- The section of a round: its value, and that what lies above it is 0. -/
theorem section_val {b n V j : Nat} {uu : List Nat} (hlen : j + n + 1 ≤ uu.length) (hd : ∀ d ∈ uu, d < b) (hV : V ≤ b ^ n) (hr : val b (uu.drop (j + 1)) < V) :
    val b ((uu.drop j).take (n + 1)) = uu.getD j 0 + b * val b (uu.drop (j + 1)) ∧ val b ((uu.drop j).take (n + 1)) < V * b ∧ val b (uu.drop (j + n + 1)) = 0 := by
  have e := drop_cons' (l := uu) (i := j) (by omega)
  have hdd : ∀ d ∈ uu.drop (j + 1), d < b := fun d h => hd d (List.mem_of_mem_drop h)
  have hb : 0 < b := by
    have := hd (uu.getD j 0) (by rw [List.getD_eq_getElem?_getD, List.getElem?_eq_getElem (by omega)]; exact List.getElem_mem _)
    omega
  have h1 : val b ((uu.drop j).take (n + 1)) = uu.getD j 0 + b * val b (uu.drop (j + 1)) := by
    rw [e, List.take_succ_cons, val_cons, val_take b _ _ hdd, Nat.mod_eq_of_lt (by omega)]
  have hj : uu.getD j 0 < b := hd _ (by rw [List.getD_eq_getElem?_getD, List.getElem?_eq_getElem (by omega)]; exact List.getElem_mem _)
  refine ⟨h1, ?_, ?_⟩
  · rw [h1]
    have : b * (val b (uu.drop (j + 1)) + 1) ≤ b * V := Nat.mul_le_mul_left b hr
    rw [Nat.mul_add] at this
    rw [Nat.mul_comm V]; omega
  · have := val_drop (uu.drop (j + 1)) n hdd
    rw [List.drop_drop, Nat.div_eq_of_lt (by omega)] at this
    rw [show j + n + 1 = j + 1 + n by omega]
    exact this

theorem round_guess {b n j : Nat} {uu v : List Nat} (hb : 2 ≤ b) (hn : 2 ≤ n) (hlen : j + n + 1 ≤ uu.length) (hvl : v.length = n) (hd : ∀ d ∈ uu, d < b) (hdv : ∀ d ∈ v, d < b) (hy : b ≤ 2 * v.getD (n - 1) 0)
    (hr : val b (uu.drop (j + 1)) < val b v) :
    uu.getD (j + n) 0 ≤ v.getD (n - 1) 0 ∧
    (uu.getD (j + n) 0 = v.getD (n - 1) 0 → val b ((uu.drop j).take (n + 1)) / val b v ≤ b - 1 ∧ b - 1 ≤ val b ((uu.drop j).take (n + 1)) / val b v + 1) ∧
    (uu.getD (j + n) 0 < v.getD (n - 1) 0 → val b ((uu.drop j).take (n + 1)) / val b v ≤ ((uu.getD (j + n) 0 * b + uu.getD (j + n - 1) 0) * b + uu.getD (j + n - 2) 0) / (v.getD (n - 1) 0 * b + v.getD (n - 2) 0) ∧
      ((uu.getD (j + n) 0 * b + uu.getD (j + n - 1) 0) * b + uu.getD (j + n - 2) 0) / (v.getD (n - 1) 0 * b + v.getD (n - 2) 0) ≤ val b ((uu.drop j).take (n + 1)) / val b v + 1) := by
  have hVn : val b v ≤ b ^ n := by have := val_lt (by omega) hdv; rw [hvl] at this; omega
  obtain ⟨s1, s2, s3⟩ := section_val hlen hd hVn hr
  obtain ⟨k, rfl⟩ : ∃ k, n = k + 2 := ⟨n - 2, by omega⟩
  have hsl : ((uu.drop j).take (k + 2 + 1)).length = k + 3 := by rw [List.length_take, List.length_drop]; omega
  have t1 := val_top3 b hsl
  have t2 := val_top2 b hvl
  rw [getD_take (by omega), getD_take (by omega), getD_take (by omega), getD_drop, getD_drop, getD_drop] at t1
  have hK : 0 < b ^ k := Nat.pow_pos (by omega)
  have u1 := val_take_lt (by omega) hdv k (by omega)
  have u2 := val_take_lt (b := b) (by omega) (l := (uu.drop j).take (k + 2 + 1)) (fun d h => hd d (List.mem_of_mem_drop (List.mem_of_mem_take h))) k (by omega)
  have y0 : v.getD k 0 < b := by
    refine hdv _ ?_
    rw [List.getD_eq_getElem?_getD, List.getElem?_eq_getElem (by omega)]; exact List.getElem_mem _
  exact digit_guess hb hK t2 u1 hy y0 t1 u2 s2

/-- A round's end: the section is the remainder, the digit stands in the quotient. -/
theorem round_done {b n V Q j T : Nat} {uu l qq : List Nat} (hlen : j + n + 1 ≤ uu.length) (hd : ∀ d ∈ uu, d < b) (hV0 : 0 < V) (hV : V ≤ b ^ n) (hr : val b (uu.drop (j + 1)) < V)
    (hR : val b l = val b ((uu.drop j).take (n + 1)) % V) (hQ : Q = val b ((uu.drop j).take (n + 1)) / V) (hq : j < qq.length) (hT : T = val b uu + V * b ^ (j + 1) * val b (qq.drop (j + 1))) :
    T = val b (uu.take j ++ l ++ uu.drop (j + n + 1)) + V * b ^ j * val b ((qq.set j Q).drop j) ∧ val b ((uu.take j ++ l ++ uu.drop (j + n + 1)).drop j) < V := by
  obtain ⟨s1, s2, s3⟩ := section_val hlen hd hV hr
  have htl : (uu.take j).length = j := by rw [List.length_take]; omega
  have e1 : val b (l ++ uu.drop (j + n + 1)) = val b l := by rw [val_append, s3, Nat.mul_zero, Nat.add_zero]
  have e2 : (uu.take j ++ l ++ uu.drop (j + n + 1)).drop j = l ++ uu.drop (j + n + 1) := by
    rw [List.append_assoc]
    exact List.drop_left' htl
  constructor
  · rw [List.append_assoc, val_append, htl, e1]
    have h1 := val_cut b uu j (by omega)
    have h2 : val b (uu.drop j) = val b ((uu.drop j).take (n + 1)) := by
      rw [drop_cons' (by omega), val_cons, s1.symm, drop_cons' (by omega)]
    have h3 : (qq.set j Q).drop j = Q :: qq.drop (j + 1) := by
      rw [drop_cons' (by rw [List.length_set]; exact hq)]
      congr 1
      · rw [List.getD_eq_getElem?_getD, List.getElem?_set_self hq]; rfl
      · rw [List.drop_set_of_lt (by omega)]
    rw [h3, val_cons, hT, h1, h2, hR]
    have h4 := Nat.div_add_mod (val b ((uu.drop j).take (n + 1))) V
    rw [← hQ] at h4
    generalize val b ((uu.drop j).take (n + 1)) % V = R at *
    rw [← h4]
    generalize val b (qq.drop (j + 1)) = W
    rw [Nat.pow_succ, Nat.mul_add (V * b ^ j), Nat.mul_add (b ^ j), Nat.mul_assoc V (b ^ j * b), Nat.mul_assoc (b ^ j) b W, ← Nat.mul_assoc V (b ^ j) (b * W), Nat.mul_comm V Q, Nat.mul_comm V (b ^ j), Nat.mul_assoc (b ^ j) V Q, Nat.mul_comm V Q]
    omega
  · rw [e2, e1, hR]; exact Nat.mod_lt _ hV0

/-- Equal values of rows of words of one length: one row. -/
theorem val_inj {b : Nat} : ∀ {l m : List Nat}, l.length = m.length → (∀ d ∈ l, d < b) → (∀ d ∈ m, d < b) → val b l = val b m → l = m
  | [], [], _, _, _, _ => rfl
  | x :: l, y :: m, hl, h1, h2, h => by
    have hx : x < b := h1 x (by simp)
    have hy : y < b := h2 y (by simp)
    rw [val_cons, val_cons] at h
    have e1 : x = y := by
      have := congrArg (· % b) h
      simp only [Nat.add_mul_mod_self_left] at this
      rwa [Nat.mod_eq_of_lt hx, Nat.mod_eq_of_lt hy] at this
    subst e1
    have e2 : val b l = val b m := Nat.eq_of_mul_eq_mul_left (show 0 < b by omega) (by omega)
    rw [val_inj (by simpa using hl) (fun d h => h1 d (List.mem_cons_of_mem _ h)) (fun d h => h2 d (List.mem_cons_of_mem _ h)) e2]
theorem round_facts {b k j m V y1 y0 x2 x1 x0 : Nat} {uu v : List Nat} (hb : 2 ≤ b) (hul : uu.length = m + (k + 2)) (hj : j + 1 ≤ m + 1) (hvl : v.length = k + 2) (hd : ∀ d ∈ uu, d < b) (hdv : ∀ d ∈ v, d < b) (hy : b ≤ 2 * y1)
    (hy1 : v.getD (k + 1) 0 = y1) (hy0 : v.getD k 0 = y0) (hx2 : uu.getD (j + 1 + k + 1) 0 = x2) (hx1 : uu.getD (j + k + 1) 0 = x1) (hx0 : uu.getD (j + k) 0 = x0) (hV : val b v = V) (hr : val b (uu.drop (j + 1)) < V) :
    x2 ≤ y1 ∧ (j < m → (x2 = y1 → val b ((uu.drop j).take (k + 3)) / V ≤ b - 1 ∧ b - 1 ≤ val b ((uu.drop j).take (k + 3)) / V + 1) ∧
      (x2 < y1 → val b ((uu.drop j).take (k + 3)) / V ≤ ((x2 * b + x1) * b + x0) / (y1 * b + y0) ∧ ((x2 * b + x1) * b + x0) / (y1 * b + y0) ≤ val b ((uu.drop j).take (k + 3)) / V + 1)) := by
  rcases Nat.lt_or_ge j m with h | h
  · have := round_guess (n := k + 2) hb (by omega) (show j + (k + 2) + 1 ≤ uu.length by omega) hvl hd hdv (by rw [show k + 2 - 1 = k + 1 by omega, hy1]; exact hy) (by rw [hV]; exact hr)
    rw [show k + 2 - 1 = k + 1 by omega, show k + 2 - 2 = k by omega, show j + (k + 2) = j + 1 + k + 1 by omega, show j + 1 + k + 1 - 1 = j + k + 1 by omega, show j + 1 + k + 1 - 2 = j + k by omega, hx2, hx1, hx0, hy1, hy0, hV] at this
    exact ⟨this.1, fun _ => this.2⟩
  · refine ⟨?_, fun h' => absurd h' (by omega)⟩
    rw [← hx2, List.getD_eq_getElem?_getD, List.getElem?_eq_none (by omega)]
    exact Nat.zero_le _

theorem val_lo {b k : Nat} {v : List Nat} (hvl : v.length = k + 2) (h : 0 < v.getD (k + 1) 0) : b ^ (k + 1) ≤ val b v := by
  rw [val_top2 b hvl, Nat.pow_succ, Nat.mul_comm (b ^ k)]
  have : 1 * b * b ^ k ≤ (v.getD (k + 1) 0 * b + v.getD k 0) * b ^ k := Nat.mul_le_mul_right _ (by
    have : 1 * b ≤ v.getD (k + 1) 0 * b := Nat.mul_le_mul_right b h
    omega)
  rw [Nat.one_mul] at this
  omega
theorem val_hi {b k : Nat} (hb : 1 ≤ b) {v : List Nat} (hvl : v.length = k) (h : ∀ d ∈ v, d < b) : val b v ≤ b ^ k := by
  have := val_lt hb h
  rw [hvl] at this
  omega
theorem val_short {b k m : Nat} (hb : 1 ≤ b) {u : List Nat} (hl : u.length = m + k) (h : ∀ d ∈ u, d < b) : val b (u.drop m) < b ^ k := by
  have := val_lt hb (l := u.drop m) (fun d hd => h d (List.mem_of_mem_drop hd))
  rw [List.length_drop, show u.length - m = k by omega] at this
  exact this
/-- The top word of the divisor is greater: so is the divisor. -/
theorem top_less {b k : Nat} (hb : 1 ≤ b) {l v : List Nat} (hl : l.length = k + 2) (hv : v.length = k + 2) (hd : ∀ d ∈ l, d < b) (h : l.getD (k + 1) 0 < v.getD (k + 1) 0) : val b l < val b v :=
  val_lt_of_digit hb (by rw [hl, hv]) hd (i := k + 1) (by omega) (fun j h1 h2 => by omega) h
theorem dv_start {b m V : Nat} {u q : List Nat} (h : q.length ≤ m) : val b u = val b u + V * b ^ m * val b (q.drop m) := by
  rw [List.drop_eq_nil_of_le h]
  show _ = _ + _ * 0
  rw [Nat.mul_zero, Nat.add_zero]
theorem dv_end {b V T : Nat} {u q : List Nat} (h : T = val b u + V * b ^ 0 * val b (q.drop 0)) : T = val b u + V * val b q := by
  rw [Nat.pow_zero, Nat.mul_one] at h
  exact h
theorem val_snoc (b : Nat) (l : List Nat) (c : Nat) : val b (l ++ [c]) = val b l + c * b ^ l.length := by
  rw [val_append]
  show _ + _ * (c + b * 0) = _
  rw [Nat.mul_zero, Nat.add_zero, Nat.mul_comm]
theorem round_sub {b k V Sv qh cc c2 : Nat} {l' l2 : List Nat} (hb : 1 ≤ b) (hV0 : 0 < V) (h1 : Sv / V ≤ qh) (h2 : qh ≤ Sv / V + 1) (hl' : l'.length = k + 2) (hval : val b l' + cc * b ^ (k + 2) = V * qh + 0)
    (hl2 : l2.length = k + 3) (hd2 : ∀ d ∈ l2, d < b) (hv2 : val b l2 + val b (l' ++ [cc]) = Sv + c2 * b ^ (k + 3)) (hc2 : c2 ≤ 1) :
    (c2 = 0 → qh = Sv / V ∧ val b l2 = Sv % V) ∧ (c2 = 1 → qh = Sv / V + 1 ∧ val b l2 + V = Sv % V + b ^ (k + 3)) := by
  have hlt := val_lt hb hd2
  rw [hl2] at hlt
  rw [val_snoc, hl', hval, Nat.add_zero] at hv2
  exact digit_fix h1 h2 hV0 (Nat.mul_comm V qh) hv2 hlt hc2
theorem round_back {b k V Sv c3 : Nat} {l2 l3 : List Nat} (hb : 1 ≤ b) (h : val b l2 + V = Sv % V + b ^ (k + 3)) (hV : V ≤ b ^ (k + 2)) (hV0 : 0 < V) (hl2 : l2.length = k + 3) (hl3 : l3.length = k + 2) (hd3 : ∀ d ∈ l3, d < b)
    (h3 : val b l3 + c3 * b ^ (k + 2) = val b (l2.take (k + 2)) + V) : val b (l3 ++ [0]) = Sv % V ∧ l2.getD (k + 2) 0 + c3 = b := by
  have hlt := val_lt hb hd3
  rw [hl3] at hlt
  have hc := val_cut b l2 (k + 2) (by omega)
  rw [drop_cons' (by omega), List.drop_eq_nil_of_le (by omega)] at hc
  have e : val b [l2.getD (k + 2) 0] = l2.getD (k + 2) 0 := by
    show _ + b * 0 = _
    rw [Nat.mul_zero, Nat.add_zero]
  rw [e] at hc
  have h' : val b (l2.take (k + 2)) + b ^ (k + 2) * l2.getD (k + 2) 0 + V = Sv % V + b ^ (k + 2) * b := by
    rw [← hc, h, Nat.pow_succ]
  obtain ⟨r1, r2⟩ := digit_back (Nat.pow_pos hb) h' h3 (Nat.mod_lt _ hV0) hV hlt
  refine ⟨?_, r2⟩
  rw [val_snoc, Nat.zero_mul, Nat.add_zero]; exact r1
theorem round_end {b k m V j T Q : Nat} {uu l qq : List Nat} (hlu : uu.length = m + (k + 2)) (hlq : qq.length = m) (hj : j < m) (hd : ∀ d ∈ uu, d < b) (hV0 : 0 < V) (hV : V ≤ b ^ (k + 2)) (hr : val b (uu.drop (j + 1)) < V)
    (hdl : ∀ d ∈ l, d < b) (hR : val b l = val b ((uu.drop j).take (k + 3)) % V) (hQ : Q = val b ((uu.drop j).take (k + 3)) / V) (hQb : Q < b) (hdq : ∀ d ∈ qq.drop (j + 1), d < b)
    (hT : T = val b uu + V * b ^ (j + 1) * val b (qq.drop (j + 1))) :
    T = val b (uu.take j ++ l ++ uu.drop (j + (k + 3))) + V * b ^ j * val b ((qq.set j Q).drop j) ∧ val b ((uu.take j ++ l ++ uu.drop (j + (k + 3))).drop j) < V ∧ (∀ d ∈ uu.take j ++ l ++ uu.drop (j + (k + 3)), d < b) ∧ (∀ d ∈ (qq.set j Q).drop j, d < b) := by
  obtain ⟨a1, a2⟩ := round_done (n := k + 2) (by omega) hd hV0 hV hr hR hQ (by omega) hT
  refine ⟨a1, a2, ?_, ?_⟩
  · intro d h
    rcases List.mem_append.1 h with h | h
    · rcases List.mem_append.1 h with h | h
      · exact hd d (List.mem_of_mem_take h)
      · exact hdl d h
    · exact hd d (List.mem_of_mem_drop h)
  · rw [drop_cons' (by rw [List.length_set]; omega), List.drop_set_of_lt (by omega)]
    intro d h
    rcases List.mem_cons.1 h with rfl | h
    · rw [List.getD_eq_getElem?_getD, List.getElem?_set_self (by omega)]; exact hQb
    · exact hdq d h
/-- The first round: the digit is 0. -/
theorem first_digit {b y1 y0 x1 x0 : Nat} (hx : x1 < y1) (hx0 : x0 < b) : ((0 * b + x1) * b + x0) / (y1 * b + y0) = 0 := by
  apply Nat.div_eq_of_lt
  rw [Nat.zero_mul, Nat.zero_add]
  have : (x1 + 1) * b ≤ y1 * b := Nat.mul_le_mul_right b hx
  rw [Nat.add_mul] at this
  omega
theorem first_prod {b k V cc : Nat} {l : List Nat} (hb : 1 ≤ b) (h : val b l + cc * b ^ (k + 2) = V * 0 + 0) : val b l = 0 ∧ cc = 0 := by
  have hp : 0 < b ^ (k + 2) := Nat.pow_pos hb
  have h1 : val b l + cc * b ^ (k + 2) = 0 := by rw [h, Nat.mul_zero]
  refine ⟨by omega, ?_⟩
  rcases Nat.eq_zero_or_pos cc with h | h
  · exact h
  · have := Nat.mul_pos h hp; omega
theorem first_sub {b k c2 : Nat} {xs l' l2 : List Nat} (hb : 1 ≤ b) (h0 : val b l' = 0) (h : val b l2 + val b l' = val b xs + c2 * b ^ (k + 2)) (hl2 : l2.length = k + 2) (hx : xs.length = k + 2) (hd2 : ∀ d ∈ l2, d < b) (hdx : ∀ d ∈ xs, d < b) (hc : c2 ≤ 1) : c2 = 0 ∧ l2 = xs := by
  have hlt := val_lt hb hd2
  rw [hl2] at hlt
  have hc0 : c2 = 0 := by
    rcases Nat.eq_zero_or_pos c2 with h | h'
    · exact h
    · obtain rfl : c2 = 1 := by omega
      rw [Nat.one_mul] at h; omega
  subst hc0
  rw [Nat.zero_mul] at h
  exact ⟨rfl, val_inj (by omega) hd2 hdx (by omega)⟩
theorem first_rest {b k m : Nat} (hb : 1 ≤ b) {u v : List Nat} (hl : u.length = m + (k + 2)) (hv : v.length = k + 2) (hd : ∀ d ∈ u, d < b) (h : u.getD (m + k + 1) 0 < v.getD (k + 1) 0) : val b (u.drop m) < val b v :=
  top_less hb (by rw [List.length_drop]; omega) hv (fun d hx => hd d (List.mem_of_mem_drop hx)) (by rw [getD_drop]; exact h)
theorem splice_same {l : List Nat} {m n : Nat} (h : l.length = m + n) : l.take m ++ l.drop m ++ l.drop (m + n) = l := by
  rw [List.drop_eq_nil_of_le (Nat.le_of_eq h), List.append_nil, List.take_append_drop]
end Go.DivPl
namespace Go.DivPl
open Go.Dig
theorem top_of {b k Y : Nat} (hb : 2 ≤ b) (hl : (dg b Y).length = k + 2) : (dg b Y).getD (k + 1) 0 * b ^ (k + 1) ≤ Y ∧ Y < ((dg b Y).getD (k + 1) 0 + 1) * b ^ (k + 1) ∧ 0 < (dg b Y).getD (k + 1) 0 ∧ (dg b Y).getD (k + 1) 0 < b := by
  have hn : Y ≠ 0 := by
    rintro rfl
    rw [dg_zero] at hl; simp at hl
  obtain ⟨h1, h2, h3⟩ := top_digit hb hn
  rw [hl, show k + 2 - 1 = k + 1 by omega] at h1 h2 h3
  rw [h1]
  have hp : 0 < b ^ (k + 1) := Nat.pow_pos (by omega)
  refine ⟨Nat.div_mul_le_self _ _, ?_, by omega, h3⟩
  have := Nat.lt_mul_div_succ Y hp
  rw [Nat.mul_comm]
  exact this
theorem scale_top {b S k Y c : Nat} {v : List Nat} (hb : 2 ≤ b) (hS : S ∣ b) (hl : (dg b Y).length = k + 2) (h2 : (dg b Y).getD (k + 1) 0 * S < b) (hv : val b v + c * b ^ (k + 2) = Y * S) (hvl : v.length = k + 2) (hd : ∀ d ∈ v, d < b) :
    val b v = Y * S ∧ (dg b Y).getD (k + 1) 0 * S ≤ v.getD (k + 1) 0 := by
  obtain ⟨t1, t2, t3, t4⟩ := top_of hb hl
  generalize (dg b Y).getD (k + 1) 0 = y at *
  have hp : 0 < b ^ (k + 1) := Nat.pow_pos (by omega)
  have hS0 : 0 < S := Nat.pos_of_dvd_of_pos hS (by omega)
  have hle : (y + 1) * S ≤ b := by
    obtain ⟨q, hq⟩ := hS
    rw [hq, Nat.mul_comm S q] at h2 ⊢
    exact Nat.mul_le_mul_right S (Nat.lt_of_mul_lt_mul_right h2)
  have hlt : Y * S < b ^ (k + 2) := by
    calc Y * S < (y + 1) * b ^ (k + 1) * S := Nat.mul_lt_mul_of_pos_right t2 hS0
      _ = (y + 1) * S * b ^ (k + 1) := Nat.mul_right_comm _ _ _
      _ ≤ b * b ^ (k + 1) := Nat.mul_le_mul_right _ hle
      _ = b ^ (k + 2) := by rw [Nat.pow_succ b (k + 1), Nat.mul_comm]
  have hc : c = 0 := by
    rcases Nat.eq_zero_or_pos c with h | h
    · exact h
    · have := Nat.mul_le_mul_right (b ^ (k + 2)) h
      rw [Nat.one_mul] at this; omega
  subst hc
  rw [Nat.zero_mul, Nat.add_zero] at hv
  refine ⟨hv, ?_⟩
  have h3 := val_top2 b hvl
  have h4 := val_take_lt (by omega) hd k (by omega)
  have h5 : v.getD k 0 < b := hd _ (by rw [List.getD_eq_getElem?_getD, List.getElem?_eq_getElem (by omega)]; exact List.getElem_mem _)
  have h6 : val b v < (v.getD (k + 1) 0 + 1) * b ^ (k + 1) := by
    have e1 : (v.getD (k + 1) 0 * b + v.getD k 0 + 1) * b ^ k ≤ (v.getD (k + 1) 0 + 1) * b * b ^ k := Nat.mul_le_mul_right _ (by rw [Nat.add_mul, Nat.one_mul]; omega)
    rw [Nat.add_mul (v.getD (k + 1) 0 * b + v.getD k 0), Nat.one_mul] at e1
    rw [Nat.pow_succ, Nat.mul_comm (b ^ k) b, ← Nat.mul_assoc]
    omega
  have h7 : y * S * b ^ (k + 1) ≤ val b v := by
    rw [hv, Nat.mul_right_comm]
    exact Nat.mul_le_mul_right S t1
  have := Nat.lt_of_mul_lt_mul_right (Nat.lt_of_le_of_lt h7 h6)
  omega
theorem scale_carry {b S X c n : Nat} {l : List Nat} (hX : X < b ^ n) (hS : 0 < S) (hv : val b l + c * b ^ n = X * S) : c < S := by
  have h1 : X * S < b ^ n * S := Nat.mul_lt_mul_of_pos_right hX hS
  have h2 : c * b ^ n < S * b ^ n := by rw [Nat.mul_comm S]; omega
  exact Nat.lt_of_mul_lt_mul_right h2
theorem scale_end {X Y S q r : Nat} (hS : 0 < S) (h : X * S = r + Y * S * q) (hr : r < Y * S) : q = X / Y ∧ r = X % Y * S ∧ r / S = X % Y := by
  obtain ⟨h1, h2⟩ := quot_rem (X := X * S) (d := Y * S) (Q := q) (r := r) (by rw [h, Nat.mul_comm q, Nat.add_comm]) hr
  rw [scaled_div hS] at h1
  rw [scaled_mod] at h2
  exact ⟨h1, h2, by rw [h2, Nat.mul_div_cancel _ hS]⟩
theorem scaled_fin {b m k X S top yt : Nat} {l L2 : List Nat} (hlen : l.length = m + (k + 2)) (e4 : L2.take (m + (k + 2) + 1) = l ++ [top]) (hdl : ∀ d ∈ l, d < b) (ht : top < yt) (htb : top < b) (hv : val b l + top * b ^ (m + (k + 2)) = X * S) :
    (∀ d ∈ L2.take (m + 1 + (k + 2)), d < b) ∧ val b (L2.take (m + 1 + (k + 2))) = X * S ∧ L2.getD (m + 1 + k + 1) 0 < yt := by
  rw [show m + 1 + (k + 2) = m + (k + 2) + 1 by omega, e4]
  refine ⟨?_, ?_, ?_⟩
  · intro d h
    rcases List.mem_append.1 h with h | h
    · exact hdl d h
    · rw [List.mem_singleton.1 h]; exact htb
  · rw [val_snoc, hlen]; exact hv
  · rw [show m + 1 + k + 1 = m + (k + 2) by omega, ← getD_take (show m + (k + 2) < m + (k + 2) + 1 by omega), e4, List.getD_eq_getElem?_getD, List.getElem?_append_right (by omega), hlen, Nat.sub_self]
    exact ht
end Go.DivPl
namespace Go.Proofs.YtgdgklhfakplhaaGreatDoor
open Go.RowKit Go.Dig
set_option maxRecDepth 100000
theorem make_new (k : Nat) (hk : 0 < k) (hk2 : k < 1000) (w : World) : Calls Tryz.prog 106 #[.slice none 0 0, .int .i64 k] w fun e w' => ∃ c, e = .returned (.slice (some ⟨w.heap.size, 0, none⟩) k c) ∧ k ≤ c ∧ c ≤ k + 4 ∧ BlkN .u64 181 w' w.heap.size (List.replicate c 0) ∧ Below w.heap.size w w' := by
  rcases Nat.lt_or_ge 1 k with h | h
  · refine (natMake_any k h hk2 w).mono ?_
    rintro e w' ⟨rfl, rfl⟩
    exact ⟨_, rfl, by omega, Nat.le_refl _, blk_new w _ 181, (Below.refl _ _).alloc (Nat.le_refl _) _⟩
  · obtain rfl : k = 1 := by omega
    refine (natMake_one w).mono ?_
    rintro e w' ⟨rfl, rfl⟩
    exact ⟨_, rfl, by omega, by omega, blk_new w _ 181, (Below.refl _ _).alloc (Nat.le_refl _) _⟩
set_option maxHeartbeats 400000 in
/-- nat.set of a number that is not 0: a block of its own. -/
theorem nset_own (vx : Value) (n : Nat) (w : World) (hx : Nw w vx n) (hn : 0 < n) (hl : (dg 18446744073709551616 n).length ≤ 900) :
    Calls Tryz.prog 61 #[.slice none 0 0, vx] w fun e w' => ∃ v c, e = .returned v ∧ On w' v w.heap.size c n ∧ c < 1000 ∧ Below w.heap.size w w' := by
  have hl0 : 0 < (dg 18446744073709551616 n).length := by
    rcases Nat.eq_zero_or_pos (dg 18446744073709551616 n).length with h | h
    · have := (dg_nil_iff (b := 18446744073709551616) (by omega)).1 (List.length_eq_zero_iff.1 h); omega
    · exact h
  obtain ⟨ax, cx, ex, h1, h2, h3⟩ := hx
  obtain ⟨b, off, rfl, _, hc⟩ := h3 hl0
  generalize hds : dg 18446744073709551616 n = ds at *
  subst ex
  have HC := hid hc
  have HM := make_new ds.length hl0 (by omega) w
  clear hc h3
  go_enter Tryz.func61, Tryz.ntmps61
  go_wp2_with fail
  refine HM.mono ?_
  rintro e w1 ⟨c, rfl, hkc, hck, hBz, hB1⟩
  have HB1 := hid hB1
  clear HM hB1
  have hcp := copy_words w1 w.heap.size ds.length c ds _ hBz rfl (by simp; omega) b off cx (fun i hi => (HB1.out.cell (World.block_lt_of_cell? w _ (HC.out i hi))).trans (HC.out i hi))
  obtain ⟨hB2, hb2⟩ := puts (B := w.heap.size) (Nat.le_refl _) ds 0 w1 _ hBz (by simp; omega)
  simp only [List.take_zero, List.nil_append, Nat.zero_add, List.drop_replicate] at hB2
  have HB2 := hid hB2
  have HX2 := hid (HB1.out.trans hb2)
  clear hBz hB2 hb2
  go_wp2_with fail
  go_ret
  refine ⟨.slice (some ⟨w.heap.size, 0, none⟩) ds.length c, c, rfl, ⟨by rw [hds], by rw [hds]; exact hkc, _, Ds.of_blk HB2.out, by simp; omega, by rw [hds, List.take_left' rfl]⟩, by omega, HX2.out⟩
set_option maxHeartbeats 400000 in
theorem alias_none (b l c : Nat) (w : World) : Calls Tryz.prog 145 #[.slice none 0 0, .slice (some ⟨b, 0, none⟩) l c] w fun e w' => e = .returned (.bool false) ∧ ∃ k, w' = w.drewN k := by
  go_enter Tryz.func145, Tryz.ntmps145
  go_wp2_with fail
  go_quiet (fail)
  go_wp2_with fail
  go_ret
  exact ⟨rfl, _, rfl⟩
end Go.Proofs.YtgdgklhfakplhaaGreatDoor
