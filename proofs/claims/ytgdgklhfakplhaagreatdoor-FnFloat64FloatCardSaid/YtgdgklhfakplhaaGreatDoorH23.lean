/- Walks and lemmas for the laws of this seat. -/
namespace Go.DivPl

/-- What the guess keeps from round to round: q*y1 + r = u, and q is not too small. -/
structure Guess (B y1 y0 u d q r : Nat) : Prop where
  eq : q * y1 + r = u
  big : u * B + d < (q + 1) * (y1 * B + y0)

theorem expand (B y1 y0 q r d : Nat) : (q * y1 + r) * B + d + q * y0 = q * (y1 * B + y0) + (B * r + d) := by
  rw [Nat.add_mul, Nat.mul_add, Nat.mul_assoc, Nat.mul_comm r B]; omega

theorem guess_start {B y1 y0 u d : Nat} (hy : 0 < y1) (hd : d < B) : Guess B y1 y0 u d (u / y1) (u % y1) := by
  refine ⟨by rw [Nat.mul_comm]; exact Nat.div_add_mod u y1, ?_⟩
  have h : u + 1 ≤ (u / y1 + 1) * y1 := by
    have := Nat.div_add_mod u y1
    have hm := Nat.mod_lt u hy
    rw [Nat.add_mul, Nat.mul_comm (u / y1)]; omega
  have h2 : (u + 1) * B ≤ (u / y1 + 1) * y1 * B := Nat.mul_le_mul_right B h
  rw [Nat.mul_add, ← Nat.mul_assoc]
  rw [Nat.add_mul] at h2
  omega

theorem guess_low {B y1 y0 u d q r : Nat} (g : Guess B y1 y0 u d q r) (h : q * y0 ≤ B * r + d) : q * (y1 * B + y0) ≤ u * B + d := by
  have := expand B y1 y0 q r d
  rw [g.eq] at this
  omega

theorem guess_done {B y1 y0 u d q r : Nat} (g : Guess B y1 y0 u d q r) (h : q * y0 ≤ B * r + d) : q = (u * B + d) / (y1 * B + y0) := by
  have h1 := guess_low g h
  have h2 := g.big
  have hY : 0 < y1 * B + y0 := by
    rcases Nat.eq_zero_or_pos (y1 * B + y0) with e | e
    · rw [e] at h2; simp at h2
    · exact e
  refine (Nat.div_eq_of_lt_le ?_ ?_).symm
  · omega
  · exact h2

theorem guess_step {B y1 y0 u d q r : Nat} (g : Guess B y1 y0 u d q r) (hu : u < y1 * B + y0) (hd : d < B) (h : B ≤ q ∨ B * r + d < q * y0) :
    0 < q ∧ Guess B y1 y0 u d (q - 1) (r + y1) := by
  have hlt : u * B + d < q * (y1 * B + y0) := by
    rcases h with h | h
    · have h1 : (u + 1) * B ≤ (y1 * B + y0) * B := Nat.mul_le_mul_right B hu
      have h2 : B * (y1 * B + y0) ≤ q * (y1 * B + y0) := Nat.mul_le_mul_right _ h
      rw [Nat.mul_comm B] at h2
      rw [Nat.add_mul] at h1
      omega
    · have := expand B y1 y0 q r d
      rw [g.eq] at this
      omega
  have hq : 0 < q := by
    rcases Nat.eq_zero_or_pos q with e | e
    · rw [e] at hlt; simp at hlt
    · exact e
  refine ⟨hq, ?_, ?_⟩
  · have := g.eq
    obtain ⟨k, rfl⟩ : ∃ k, q = k + 1 := ⟨q - 1, by omega⟩
    rw [Nat.add_mul] at this
    simp; omega
  · rw [Nat.sub_add_cancel hq]; exact hlt

theorem guess_small {B y1 y0 u d q r : Nat} (g : Guess B y1 y0 u d q r) (hu : u < y1 * B + y0) (h0 : y0 < B) (hr : B ≤ r) : q < B := by
  have := g.eq
  rcases Nat.lt_or_ge q B with h | h
  · exact h
  · have : B * y1 ≤ q * y1 := Nat.mul_le_mul_right y1 h
    rw [Nat.mul_comm B] at this
    omega

theorem guess_break {B y1 y0 u d q r : Nat} (g : Guess B y1 y0 u d q r) (hu : u < y1 * B + y0) (h0 : y0 < B) (hr : B ≤ r) : q * y0 ≤ B * r + d := by
  have hq := guess_small g hu h0 hr
  have h1 : q * y0 ≤ B * y0 := Nat.mul_le_mul_right y0 (Nat.le_of_lt hq)
  have h2 : B * y0 ≤ B * r := Nat.mul_le_mul_left B (by omega)
  omega

/-- Two digits of a quotient, one behind the other. -/
theorem two_digits {B Y U d1 d0 : Nat} (hY : 0 < Y) :
    (U * B + d1) / Y * B + ((U * B + d1) % Y * B + d0) / Y = (U * (B * B) + (d1 * B + d0)) / Y ∧
    ((U * B + d1) % Y * B + d0) % Y = (U * (B * B) + (d1 * B + d0)) % Y := by
  have e : U * (B * B) + (d1 * B + d0) = Y * ((U * B + d1) / Y * B) + ((U * B + d1) % Y * B + d0) := by
    have := Nat.div_add_mod (U * B + d1) Y
    have h2 : (Y * ((U * B + d1) / Y) + (U * B + d1) % Y) * B = (U * B + d1) * B := by rw [this]
    rw [Nat.add_mul, Nat.add_mul] at h2
    rw [← Nat.mul_assoc, ← Nat.mul_assoc]
    omega
  rw [e]
  constructor
  · rw [Nat.mul_add_div hY]
  · rw [Nat.mul_add_mod]


theorem guess_step' {B y1 y0 u d q r : Nat} (g : Guess B y1 y0 u d q r) (h : B * r + d < q * y0) :
    0 < q ∧ Guess B y1 y0 u d (q - 1) (r + y1) := by
  have hlt : u * B + d < q * (y1 * B + y0) := by
    have := expand B y1 y0 q r d
    rw [g.eq] at this
    omega
  have hq : 0 < q := by
    rcases Nat.eq_zero_or_pos q with e | e
    · rw [e] at hlt; simp at hlt
    · exact e
  refine ⟨hq, ?_, ?_⟩
  · have := g.eq
    obtain ⟨k, rfl⟩ : ∃ k, q = k + 1 := ⟨q - 1, by omega⟩
    rw [Nat.add_mul] at this
    simp; omega
  · rw [Nat.sub_add_cancel hq]; exact hlt

theorem guess_break' {B y0 d q r : Nat} (hq : q < B) (h0 : y0 < B) (hr : B ≤ r) : q * y0 ≤ B * r + d := by
  have h1 : q * y0 ≤ B * y0 := Nat.mul_le_mul_right y0 (Nat.le_of_lt hq)
  have h2 : B * y0 ≤ B * r := Nat.mul_le_mul_left B (by omega)
  omega

theorem digit_lt {B x1 x0 y1 : Nat} (h1 : x1 < y1) (h0 : x0 < B) : (x1 * B + x0) / y1 < B := by
  apply Nat.div_lt_of_lt_mul
  have : (x1 + 1) * B ≤ y1 * B := Nat.mul_le_mul_right B h1
  rw [Nat.add_mul] at this
  omega

/-- The first guess of a 2-by-1 division with a reciprocal m: at most 2 too small. -/
theorem recip_guess {B d m x1 x0 : Nat} (hdB : d < B) (hm : m + B = (B * B - 1) / d) (hd : 0 < d) (h1 : x1 < d) (h0 : x0 < B) :
    ((m * x1 + x0) / B + x1) * d ≤ x1 * B + x0 ∧ x1 * B + x0 < ((m * x1 + x0) / B + x1) * d + B + d := by
  have hB : 0 < B := by omega
  have hBB : 1 ≤ B * B := Nat.mul_pos hB hB
  have e1 : d * (m + B) ≤ B * B - 1 := by rw [hm]; exact Nat.mul_div_le _ _
  have e2 : B * B - 1 < d * (m + B) + d := by
    have := Nat.lt_mul_div_succ (B * B - 1) hd
    rw [← hm, Nat.mul_add, Nat.mul_one] at this
    exact this
  have eq : (m * x1 + x0) / B + x1 = (x1 * (m + B) + x0) / B := by
    rw [Nat.mul_add, Nat.mul_comm x1 m]
    rw [show m * x1 + x1 * B + x0 = m * x1 + x0 + B * x1 from by rw [Nat.mul_comm x1 B]; omega, Nat.add_mul_div_left _ _ hB]
  rw [eq]
  generalize hQ : (x1 * (m + B) + x0) / B = Q
  have q1 : Q * B ≤ x1 * (m + B) + x0 := by rw [← hQ]; exact Nat.div_mul_le_self _ _
  have q2 : x1 * (m + B) + x0 < Q * B + B := by
    have := Nat.lt_mul_div_succ (x1 * (m + B) + x0) hB
    rw [hQ, Nat.mul_comm B, Nat.add_mul, Nat.one_mul] at this
    exact this
  -- multiply by d
  have d1 : d * (Q * B) ≤ d * (x1 * (m + B) + x0) := Nat.mul_le_mul_left d q1
  have d2 : d * (x1 * (m + B) + x0) < d * (Q * B + B) := Nat.mul_lt_mul_of_pos_left q2 hd
  have ek : d * (x1 * (m + B) + x0) = x1 * (d * (m + B)) + d * x0 := by
    rw [Nat.mul_add, Nat.mul_left_comm]
  rw [ek] at d1 d2
  have d3 : x1 * (d * (m + B)) + d * x0 < d * (Q * B) + d * B := by rw [← Nat.mul_add]; exact d2
  clear d2
  have p1 : x1 * (d * (m + B)) ≤ x1 * (B * B - 1) := Nat.mul_le_mul_left x1 e1
  have p2 : x1 * (B * B) ≤ x1 * (d * (m + B) + d) := Nat.mul_le_mul_left x1 (by omega)
  have p1' : x1 * (B * B - 1) ≤ x1 * (B * B) := Nat.mul_le_mul_left x1 (by omega)
  rw [Nat.mul_add] at p2
  have s1 : d * x0 ≤ B * x0 := Nat.mul_le_mul_right x0 (by omega)
  have l1 : d * (Q * B) = (Q * d) * B := by rw [← Nat.mul_assoc, Nat.mul_comm d Q]
  have l2 : x1 * (B * B) = (x1 * B) * B := by rw [Nat.mul_assoc]
  rw [l1] at d1 d3
  rw [l2] at p1' p2
  constructor
  · apply Nat.le_of_mul_le_mul_right (c := B) _ hB
    rw [Nat.add_mul, Nat.mul_comm x0 B]; omega
  · apply Nat.lt_of_mul_lt_mul_right (a := B)
    rw [Nat.add_mul, Nat.add_mul, Nat.add_mul]
    -- x0*B + x1*d ≤ d*x0 + B*B
    obtain ⟨e, rfl⟩ : ∃ e, B = d + e := ⟨B - d, by omega⟩
    have t1 : x0 * e ≤ (d + e) * e := Nat.mul_le_mul_right e (by omega)
    have t2 : x1 * d ≤ (d + e) * d := Nat.mul_le_mul_right d (by omega)
    have t3 : x0 * (d + e) = x0 * d + x0 * e := Nat.mul_add _ _ _
    have t4 : (d + e) * (d + e) = (d + e) * d + (d + e) * e := Nat.mul_add _ _ _
    have t5 : d * x0 = x0 * d := Nat.mul_comm _ _
    omega

/-- Quotient and remainder, known by what they are. -/
theorem quot_rem {X d Q r : Nat} (h : X = Q * d + r) (hr : r < d) : Q = X / d ∧ r = X % d := by
  have hd : 0 < d := by omega
  rw [Nat.mul_comm] at h
  constructor
  · rw [h, Nat.mul_add_div hd, Nat.div_eq_of_lt hr]; omega
  · rw [h, Nat.mul_add_mod, Nat.mod_eq_of_lt hr]

theorem scaled_div {X y k : Nat} (hk : 0 < k) : X * k / (y * k) = X / y := Nat.mul_div_mul_right X y hk
theorem scaled_mod {X y k : Nat} : X * k % (y * k) = X % y * k := Nat.mul_mod_mul_right k X y

/-- The 3-by-2 guess is the quotient's digit or one more. -/
theorem three_by_two {K V2 T vl ul : Nat} (hK : 0 < K) (hvl : vl < K) (hul : ul < K) (hV : 0 < V2) (hq : T / V2 ≤ V2) :
    (T * K + ul) / (V2 * K + vl) ≤ T / V2 ∧ T / V2 ≤ (T * K + ul) / (V2 * K + vl) + 1 := by
  have hv : 0 < V2 * K + vl := by have := Nat.mul_pos hV hK; omega
  constructor
  · rw [Nat.le_div_iff_mul_le hV]
    have h1 : (T * K + ul) / (V2 * K + vl) * (V2 * K + vl) ≤ T * K + ul := Nat.div_mul_le_self _ _
    generalize (T * K + ul) / (V2 * K + vl) = q at h1 ⊢
    rw [Nat.mul_add, ← Nat.mul_assoc] at h1
    have h2 : q * V2 * K < (T + 1) * K := by rw [Nat.add_mul]; omega
    have := Nat.lt_of_mul_lt_mul_right h2
    omega
  · generalize hQ : T / V2 = Q at hq ⊢
    have hT : Q * V2 ≤ T := by rw [← hQ]; exact Nat.div_mul_le_self _ _
    rcases Nat.eq_zero_or_pos Q with e | e
    · rw [e]; exact Nat.zero_le _
    · have : Q - 1 ≤ (T * K + ul) / (V2 * K + vl) := by
        rw [Nat.le_div_iff_mul_le hv]
        obtain ⟨k, rfl⟩ : ∃ k, Q = k + 1 := ⟨Q - 1, by omega⟩
        show k * (V2 * K + vl) ≤ _
        have a1 : (k + 1) * V2 * K ≤ T * K := Nat.mul_le_mul_right K hT
        have a2 : k * vl ≤ k * K := Nat.mul_le_mul_left k (by omega)
        have a3 : k * K ≤ V2 * K := Nat.mul_le_mul_right K (by omega)
        rw [Nat.add_mul, Nat.add_mul, Nat.one_mul] at a1
        rw [Nat.mul_add, ← Nat.mul_assoc]
        omega
      exact Nat.sub_le_iff_le_add.1 this

/-- Where the leading digits are one, the greatest digit is the quotient's or one more. -/
theorem top_equal {B P y vl ul : Nat} (hB : 2 ≤ B) (hy : B ≤ 2 * y) (hvl : vl < P) (hlt : y * (P * B) + ul < (y * P + vl) * B) (_hP : 0 < P) :
    (y * (P * B) + ul) / (y * P + vl) ≤ B - 1 ∧ B - 1 ≤ (y * (P * B) + ul) / (y * P + vl) + 1 := by
  have hv : 0 < y * P + vl := by
    rcases Nat.eq_zero_or_pos (y * P + vl) with e | e
    · rw [e] at hlt; simp at hlt
    · exact e
  constructor
  · have := Nat.div_lt_of_lt_mul hlt
    omega
  · have : B - 2 ≤ (y * (P * B) + ul) / (y * P + vl) := by
      rw [Nat.le_div_iff_mul_le hv]
      obtain ⟨k, rfl⟩ : ∃ k, B = k + 2 := ⟨B - 2, by omega⟩
      show k * (y * P + vl) ≤ _
      have a1 : k * vl ≤ k * P := Nat.mul_le_mul_left k (by omega)
      have a2 : k * P ≤ (2 * y) * P := Nat.mul_le_mul_right P (by omega)
      have a3 : 2 * y * P = y * P + y * P := by rw [Nat.mul_assoc, Nat.two_mul]
      have a4 : y * (P * (k + 2)) = k * (y * P) + (y * P + y * P) := by
        rw [← Nat.mul_assoc, Nat.mul_add, Nat.mul_two, Nat.mul_comm]
      rw [Nat.mul_add, a4]
      omega
    have h2 : B - 1 = (B - 2) + 1 := by omega
    rw [h2]
    exact Nat.succ_le_succ this

end Go.DivPl
