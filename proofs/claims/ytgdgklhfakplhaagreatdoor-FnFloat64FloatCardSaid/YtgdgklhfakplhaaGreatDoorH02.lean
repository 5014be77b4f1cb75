/- Walks and lemmas for the laws of this seat. -/
namespace Go.Dig

def val (b : Nat) : List Nat → Nat
  | [] => 0
  | d :: l => d + b * val b l

def dg (b n : Nat) : List Nat :=
  if _h : n = 0 ∨ b < 2 then [] else n % b :: dg b (n / b)
termination_by n
decreasing_by
  exact Nat.div_lt_self (by omega) (by omega)

theorem dg_zero (b : Nat) : dg b 0 = [] := by unfold dg; simp
theorem dg_pos {b n : Nat} (hb : 2 ≤ b) (hn : n ≠ 0) : dg b n = n % b :: dg b (n / b) := by
  rw [dg]; rw [dif_neg (by omega)]

theorem val_dg {b : Nat} (hb : 2 ≤ b) (n : Nat) : val b (dg b n) = n := by
  induction n using Nat.strongRecOn with
  | ind n ih =>
    by_cases h : n = 0
    · subst h; rw [dg_zero]; rfl
    · rw [dg_pos hb h]
      show n % b + b * val b (dg b (n / b)) = n
      rw [ih _ (Nat.div_lt_self (by omega) (by omega))]
      exact Nat.mod_add_div n b

theorem dg_lt {b : Nat} (hb : 2 ≤ b) (n : Nat) : ∀ d ∈ dg b n, d < b := by
  induction n using Nat.strongRecOn with
  | ind n ih =>
    by_cases h : n = 0
    · subst h; rw [dg_zero]; simp
    · rw [dg_pos hb h]
      intro d hd
      rcases List.mem_cons.1 hd with rfl | hd
      · exact Nat.mod_lt _ (by omega)
      · exact ih _ (Nat.div_lt_self (by omega) (by omega)) d hd

theorem dg_nil_iff {b n : Nat} (hb : 2 ≤ b) : dg b n = [] ↔ n = 0 := by
  constructor
  · intro h
    by_cases hn : n = 0
    · exact hn
    · rw [dg_pos hb hn] at h; cases h
  · rintro rfl; exact dg_zero b

/-- The digits are told without 0 at the end. -/
def Canon (b : Nat) (l : List Nat) : Prop := (∀ d ∈ l, d < b) ∧ ∀ (h : l ≠ []), l.getLast h ≠ 0

theorem canon_nil (b : Nat) : Canon b [] := ⟨by simp, fun h => absurd rfl h⟩

theorem canon_tail {b d : Nat} {l : List Nat} (h : Canon b (d :: l)) : Canon b l := by
  refine ⟨fun x hx => h.1 x (List.mem_cons_of_mem _ hx), fun hl => ?_⟩
  have := h.2 (by simp)
  rwa [List.getLast_cons hl] at this

theorem val_pos_of_canon {b : Nat} (hb : 2 ≤ b) : ∀ {l : List Nat}, Canon b l → l ≠ [] → 0 < val b l
  | [], _, h => absurd rfl h
  | [d], h, _ => by
    have := h.2 (by simp)
    simp at this
    show 0 < d + b * 0
    omega
  | d :: e :: l, h, _ => by
    have ih := val_pos_of_canon hb (canon_tail h) (by simp)
    show 0 < d + b * val b (e :: l)
    have : 0 < b * val b (e :: l) := Nat.mul_pos (by omega) ih
    omega

theorem canon_eq {b : Nat} (hb : 2 ≤ b) : ∀ {l : List Nat}, Canon b l → l = dg b (val b l)
  | [], _ => by show [] = dg b 0; rw [dg_zero]
  | d :: l, h => by
    have hp := val_pos_of_canon hb h (by simp)
    have ih := canon_eq hb (canon_tail h)
    have hd : d < b := h.1 d (by simp)
    rw [dg_pos hb (by omega)]
    show d :: l = (d + b * val b l) % b :: dg b ((d + b * val b l) / b)
    rw [Nat.add_mul_mod_self_left, Nat.mod_eq_of_lt hd, Nat.add_mul_div_left _ _ (by omega), Nat.div_eq_of_lt hd, Nat.zero_add, ← ih]

theorem canon_dg {b : Nat} (hb : 2 ≤ b) (n : Nat) : Canon b (dg b n) := by
  refine ⟨dg_lt hb n, ?_⟩
  induction n using Nat.strongRecOn with
  | ind n ih =>
    intro h
    by_cases hn : n = 0
    · subst hn; exact absurd (dg_zero b) h
    · have e := dg_pos hb hn
      by_cases hq : n / b = 0
      · have e' : dg b n = [n % b] := by rw [e, hq, dg_zero]
        have hlt : n < b := by
          rcases Nat.lt_or_ge n b with h | h
          · exact h
          · have := Nat.div_pos h (by omega); omega
        simp only [e', List.getLast_singleton]
        rw [Nat.mod_eq_of_lt hlt]; exact hn
      · have hne : dg b (n / b) ≠ [] := by rw [Ne, dg_nil_iff hb]; exact hq
        have := ih _ (Nat.div_lt_self (by omega) (by omega)) hne
        have e2 : (dg b n).getLast h = (n % b :: dg b (n / b)).getLast (by simp) := by
          congr 1
        rw [e2, List.getLast_cons hne]
        exact this

theorem val_append (b : Nat) (l m : List Nat) : val b (l ++ m) = val b l + b ^ l.length * val b m := by
  induction l with
  | nil => simp [val]
  | cons d l ih =>
    show d + b * val b (l ++ m) = d + b * val b l + b ^ (l.length + 1) * val b m
    rw [ih, Nat.mul_add, Nat.pow_succ, ← Nat.mul_assoc, Nat.mul_comm b (b ^ l.length), Nat.add_assoc]

theorem val_lt {b : Nat} (hb : 1 ≤ b) : ∀ {l : List Nat}, (∀ d ∈ l, d < b) → val b l < b ^ l.length
  | [], _ => by simp [val]
  | d :: l, h => by
    have ih := val_lt hb (l := l) fun x hx => h x (List.mem_cons_of_mem _ hx)
    have hd := h d (by simp)
    show d + b * val b l < b ^ (l.length + 1)
    rw [Nat.pow_succ, Nat.mul_comm (b ^ l.length) b]
    have : b * (val b l + 1) ≤ b * b ^ l.length := Nat.mul_le_mul_left _ ih
    rw [Nat.mul_add] at this
    omega

theorem val_replicate (b n : Nat) : val b (List.replicate n 0) = 0 := by
  induction n with
  | zero => rfl
  | succ n ih => show 0 + b * val b (List.replicate n 0) = 0; rw [ih]; simp

theorem val_append_zeros (b : Nat) (l : List Nat) (n : Nat) : val b (l ++ List.replicate n 0) = val b l := by
  rw [val_append, val_replicate]; simp

theorem dg_length_le {b : Nat} (hb : 2 ≤ b) {n k : Nat} (h : n < b ^ k) : (dg b n).length ≤ k := by
  induction k generalizing n with
  | zero => simp at h; subst h; rw [dg_zero]; simp
  | succ k ih =>
    by_cases hn : n = 0
    · subst hn; rw [dg_zero]; simp
    · rw [dg_pos hb hn]
      have : n / b < b ^ k := by
        apply Nat.div_lt_of_lt_mul
        rw [Nat.pow_succ] at h; rwa [Nat.mul_comm] at h
      have := ih this
      simp; omega

theorem lt_pow_dg_length {b : Nat} (hb : 2 ≤ b) (n : Nat) : n < b ^ (dg b n).length := by
  have := val_lt (b := b) (by omega) (dg_lt hb n)
  rwa [val_dg hb] at this

theorem pow_le_of_dg_length {b : Nat} (hb : 2 ≤ b) {n k : Nat} (h : k < (dg b n).length) : b ^ k ≤ n := by
  rcases Nat.lt_or_ge n (b ^ k) with h' | h'
  · have := dg_length_le hb h'; omega
  · exact h'

theorem dg_length_eq {b : Nat} (hb : 2 ≤ b) {n k : Nat} (h0 : b ^ k ≤ n) (h1 : n < b ^ (k + 1)) : (dg b n).length = k + 1 := by
  have a := dg_length_le hb h1
  have c := lt_pow_dg_length hb n
  rcases Nat.lt_or_ge (dg b n).length (k + 1) with h | h
  · have : b ^ (dg b n).length ≤ b ^ k := Nat.pow_le_pow_right (by omega) (by omega)
    omega
  · omega

theorem dg_length_mono {b : Nat} (hb : 2 ≤ b) {m n : Nat} (h : m ≤ n) : (dg b m).length ≤ (dg b n).length :=
  dg_length_le hb (Nat.lt_of_le_of_lt h (lt_pow_dg_length hb n))

theorem dg_getD {b : Nat} (hb : 2 ≤ b) (n i : Nat) : (dg b n).getD i 0 = n / b ^ i % b := by
  induction i generalizing n with
  | zero =>
    by_cases hn : n = 0
    · subst hn; rw [dg_zero]; simp
    · rw [dg_pos hb hn]; simp
  | succ i ih =>
    by_cases hn : n = 0
    · subst hn; rw [dg_zero]; simp
    · rw [dg_pos hb hn]
      rw [List.getD_cons_succ, ih, Nat.pow_succ, Nat.mul_comm, Nat.div_div_eq_div_mul]

theorem dg_drop {b : Nat} (hb : 2 ≤ b) (n k : Nat) : (dg b n).drop k = dg b (n / b ^ k) := by
  induction k generalizing n with
  | zero => simp
  | succ k ih =>
    by_cases hn : n = 0
    · subst hn; rw [dg_zero]; simp [dg_zero]
    · rw [dg_pos hb hn, List.drop_succ_cons, ih, Nat.pow_succ, Nat.mul_comm, Nat.div_div_eq_div_mul]

theorem val_take (b : Nat) : ∀ (l : List Nat) (k : Nat), (∀ d ∈ l, d < b) → val b (l.take k) = val b l % b ^ k := by
  intro l
  induction l with
  | nil => intro k _; simp [val]
  | cons d l ih =>
    intro k h
    cases k with
    | zero => simp [val, Nat.mod_one]
    | succ k =>
      have hd := h d (by simp)
      have ih' := ih k fun x hx => h x (List.mem_cons_of_mem _ hx)
      show d + b * val b (l.take k) = (d + b * val b l) % b ^ (k + 1)
      rw [ih', Nat.pow_succ, Nat.mul_comm (b ^ k) b, Nat.mod_mul, Nat.add_mul_mod_self_left, Nat.mod_eq_of_lt hd, Nat.add_mul_div_left _ _ (by omega), Nat.div_eq_of_lt hd, Nat.zero_add]

theorem val_drop {b : Nat} : ∀ (l : List Nat) (k : Nat), (∀ d ∈ l, d < b) → val b (l.drop k) = val b l / b ^ k := by
  intro l
  induction l with
  | nil => intro k _; simp [val]
  | cons d l ih =>
    intro k h
    cases k with
    | zero => simp
    | succ k =>
      have hd := h d (by simp)
      have ih' := ih k fun x hx => h x (List.mem_cons_of_mem _ hx)
      show val b (l.drop k) = (d + b * val b l) / b ^ (k + 1)
      rw [ih', Nat.pow_succ, Nat.mul_comm (b ^ k) b, ← Nat.div_div_eq_div_mul, Nat.add_mul_div_left _ _ (by omega), Nat.div_eq_of_lt hd, Nat.zero_add]

theorem dg_val_take {b : Nat} (hb : 2 ≤ b) (n k : Nat) : val b ((dg b n).take k) = n % b ^ k := by
  rw [val_take b _ _ (dg_lt hb n), val_dg hb]

/-- Digits 0 at the end left out. -/
def trim : List Nat → List Nat
  | [] => []
  | d :: l => match trim l with
    | [] => if d = 0 then [] else [d]
    | e :: m => d :: e :: m

theorem trim_val (b : Nat) : ∀ l : List Nat, val b (trim l) = val b l
  | [] => rfl
  | d :: l => by
    have ih := trim_val b l
    unfold trim
    split
    · rename_i h
      rw [h] at ih
      have ih' : val b l = 0 := ih.symm
      split
      · rename_i h0; subst h0; show 0 = 0 + b * val b l; rw [ih']; simp
      · show d + b * 0 = d + b * val b l; rw [ih']
    · rename_i e m h
      rw [h] at ih
      show d + b * val b (e :: m) = d + b * val b l
      rw [ih]

theorem trim_mem : ∀ {l : List Nat} {x : Nat}, x ∈ trim l → x ∈ l
  | [], _, h => h
  | d :: l, x, h => by
    unfold trim at h
    split at h
    · split at h
      · cases h
      · simp at h; subst h; simp
    · rename_i e m hm
      rcases List.mem_cons.1 h with rfl | h
      · simp
      · exact List.mem_cons_of_mem _ (trim_mem (by rw [hm]; exact h))

theorem trim_cons_nil {d : Nat} {l : List Nat} (h : trim l = []) : trim (d :: l) = if d = 0 then [] else [d] := by rw [trim, h]
theorem trim_cons_cons {d e : Nat} {l m : List Nat} (h : trim l = e :: m) : trim (d :: l) = d :: e :: m := by rw [trim, h]

theorem trim_last : ∀ (l : List Nat), ∀ x, (trim l).getLast? = some x → x ≠ 0
  | [], x, h => by simp [trim] at h
  | d :: l, x, h => by
    have ih := trim_last l
    cases hm : trim l with
    | nil =>
      rw [trim_cons_nil hm] at h
      split at h
      · simp at h
      · simp at h; omega
    | cons e m =>
      rw [trim_cons_cons hm] at h
      rw [hm] at ih
      rw [List.getLast?_cons_cons] at h
      exact ih x h

theorem trim_canon {b : Nat} {l : List Nat} (h : ∀ d ∈ l, d < b) : Canon b (trim l) :=
  ⟨fun d hd => h d (trim_mem hd), fun hne => trim_last l _ (List.getLast?_eq_some_getLast hne)⟩

theorem trim_eq {b : Nat} (hb : 2 ≤ b) {l : List Nat} (h : ∀ d ∈ l, d < b) : trim l = dg b (val b l) := by
  rw [canon_eq hb (trim_canon h), trim_val]

theorem trim_snoc_zero : ∀ l : List Nat, trim (l ++ [0]) = trim l
  | [] => rfl
  | d :: l => by
    show trim (d :: (l ++ [0])) = _
    unfold trim
    rw [trim_snoc_zero l]

theorem trim_snoc_ne : ∀ (l : List Nat) {d : Nat}, d ≠ 0 → trim (l ++ [d]) = l ++ [d]
  | [], d, h => by simp [trim, h]
  | e :: l, d, h => by
    show trim (e :: (l ++ [d])) = _
    rw [trim, trim_snoc_ne l h]
    cases l <;> rfl

theorem trim_zeros : ∀ (n : Nat), trim (List.replicate n 0) = []
  | 0 => rfl
  | n + 1 => by rw [List.replicate_succ]; rw [trim_cons_nil (trim_zeros n)]; rfl

theorem trim_app_zeros (l : List Nat) : ∀ n, trim (l ++ List.replicate n 0) = trim l
  | 0 => by simp
  | n + 1 => by rw [List.replicate_succ', ← List.append_assoc, trim_snoc_zero, trim_app_zeros l n]

/-- What is left of digits when those that are 0 at the end are struck. -/
theorem trim_take {l : List Nat} {m : Nat} (hm : m ≤ l.length) (hz : ∀ i, m ≤ i → i < l.length → l.getD i 0 = 0) (hn : 0 < m → l.getD (m - 1) 0 ≠ 0) : trim l = l.take m := by
  have e : l = l.take m ++ List.replicate (l.length - m) 0 := by
    apply List.ext_getElem?
    intro i
    rcases Nat.lt_or_ge i m with h | h
    · rw [List.getElem?_append_left (by simp; omega), List.getElem?_take_of_lt h]
    · rw [List.getElem?_append_right (by simp; omega)]
      rcases Nat.lt_or_ge i l.length with h2 | h2
      · have := hz i h h2
        rw [List.getD_eq_getElem?_getD, List.getElem?_eq_getElem h2] at this
        rw [List.getElem?_eq_getElem h2, List.getElem?_replicate, if_pos (by simp; omega)]
        simpa using this
      · rw [List.getElem?_eq_none h2, List.getElem?_eq_none (by simp; omega)]
  rw [e, trim_app_zeros]
  have e2 : (l.take m ++ List.replicate (l.length - m) 0).take m = l.take m := by rw [← e]
  rw [e2]
  rcases Nat.eq_zero_or_pos m with h0 | h0
  · subst h0; rfl
  · obtain ⟨k, rfl⟩ : ∃ k, m = k + 1 := ⟨m - 1, by omega⟩
    have hk := hn h0
    have hkl : k < l.length := by omega
    rw [List.take_succ_eq_append_getElem hkl]
    apply trim_snoc_ne
    rw [show k + 1 - 1 = k from rfl, List.getD_eq_getElem?_getD, List.getElem?_eq_getElem hkl] at hk
    simpa using hk

theorem val_split_at {b : Nat} {l : List Nat} {i : Nat} (hi : i < l.length) : val b l = val b (l.take i) + b ^ i * (l.getD i 0 + b * val b (l.drop (i + 1))) := by
  have e : l = l.take i ++ (l.getD i 0 :: l.drop (i + 1)) := by
    rw [List.getD_eq_getElem?_getD, List.getElem?_eq_getElem hi, Option.getD_some, List.getElem_cons_drop, List.take_append_drop]
  have h2 := congrArg (val b) e
  rw [val_append] at h2
  rw [h2, List.length_take, Nat.min_eq_left (Nat.le_of_lt hi)]
  rfl

theorem drop_eq {l m : List Nat} (hl : l.length = m.length) {i : Nat} (h : ∀ j, i ≤ j → j < l.length → l.getD j 0 = m.getD j 0) : l.drop i = m.drop i := by
  apply List.ext_getElem?
  intro j
  rw [List.getElem?_drop, List.getElem?_drop]
  rcases Nat.lt_or_ge (i + j) l.length with h1 | h1
  · have := h (i + j) (by omega) h1
    rw [List.getD_eq_getElem?_getD, List.getD_eq_getElem?_getD, List.getElem?_eq_getElem h1, List.getElem?_eq_getElem (by omega)] at this
    rw [List.getElem?_eq_getElem h1, List.getElem?_eq_getElem (by omega)]
    simpa using this
  · rw [List.getElem?_eq_none h1, List.getElem?_eq_none (by omega)]

/-- The first digit from above that parts decides. -/
theorem val_lt_of_digit {b : Nat} (hb : 1 ≤ b) {l m : List Nat} (hl : l.length = m.length) (hdl : ∀ d ∈ l, d < b) {i : Nat} (hi : i < l.length)
    (h : ∀ j, i + 1 ≤ j → j < l.length → l.getD j 0 = m.getD j 0) (hlt : l.getD i 0 < m.getD i 0) : val b l < val b m := by
  rw [val_split_at hi, val_split_at (l := m) (i := i) (by omega), drop_eq hl h]
  have h1 : val b (l.take i) < b ^ i := by
    have := val_lt hb (l := l.take i) (fun d hd => hdl d (List.mem_of_mem_take hd))
    rwa [List.length_take, Nat.min_eq_left (Nat.le_of_lt hi)] at this
  generalize val b (m.drop (i + 1)) = V
  have h2 : b ^ i * (l.getD i 0 + 1 + b * V) ≤ b ^ i * (m.getD i 0 + b * V) := Nat.mul_le_mul_left _ (by omega)
  rw [show l.getD i 0 + 1 + b * V = (l.getD i 0 + b * V) + 1 from by omega, Nat.mul_add, Nat.mul_one] at h2
  omega

/-- A row that holds the digits of q, and 0 behind them. -/
theorem digits_trim {b : Nat} (hb : 2 ≤ b) {l : List Nat} {q : Nat} (hq : q < b ^ l.length) (h : ∀ j, j < l.length → l.getD j 0 = q / b ^ j % b) : trim l = dg b q := by
  have hm := dg_length_le hb hq
  have e : l.take (dg b q).length = dg b q := by
    apply List.ext_getElem?
    intro i
    rcases Nat.lt_or_ge i (dg b q).length with hi | hi
    · rw [List.getElem?_take_of_lt hi]
      have h1 := h i (by omega)
      rw [← dg_getD hb] at h1
      rw [List.getD_eq_getElem?_getD, List.getD_eq_getElem?_getD, List.getElem?_eq_getElem (by omega), List.getElem?_eq_getElem hi] at h1
      rw [List.getElem?_eq_getElem (by omega), List.getElem?_eq_getElem hi]
      simpa using h1
    · rw [List.getElem?_eq_none hi, List.getElem?_eq_none (by rw [List.length_take]; omega)]
  rw [trim_take hm, e]
  · intro i h1 h2
    rw [h i h2, ← dg_getD hb, List.getD_eq_getElem?_getD, List.getElem?_eq_none h1]; rfl
  · intro h0
    have hc := (canon_dg hb q).2 (by intro e; rw [e] at h0; simp at h0)
    rw [h _ (by omega), ← dg_getD hb, List.getD_eq_getElem?_getD, ← List.getLast?_eq_getElem?, List.getLast?_eq_some_getLast (by intro e; rw [e] at h0; simp at h0)]
    exact hc

/-- One step of a division digit by digit. -/
theorem long_step {B d n j : Nat} (hd : 0 < d) (hB : 0 < B) :
    (n / B ^ (j + 1) % d * B + n / B ^ j % B) / d = n / d / B ^ j % B ∧ (n / B ^ (j + 1) % d * B + n / B ^ j % B) % d = n / B ^ j % d := by
  have e1 : n / B ^ j = n / B ^ (j + 1) * B + n / B ^ j % B := by
    have := Nat.div_add_mod (n / B ^ j) B
    rw [Nat.div_div_eq_div_mul, ← Nat.pow_succ, Nat.mul_comm] at this
    exact this.symm
  generalize n / B ^ (j + 1) = u at e1
  generalize ha : n / B ^ j % B = a at e1
  have hab : a < B := by rw [← ha]; exact Nat.mod_lt _ hB
  have e2 : n / B ^ j = d * (u / d * B) + (u % d * B + a) := by
    have h := Nat.div_add_mod u d
    have h2 : (d * (u / d) + u % d) * B = u * B := by rw [h]
    rw [Nat.add_mul, Nat.mul_assoc] at h2
    omega
  have hlt : (u % d * B + a) / d < B := by
    apply Nat.div_lt_of_lt_mul
    have := Nat.mod_lt u hd
    have h3 : (u % d + 1) * B ≤ d * B := Nat.mul_le_mul_right B this
    rw [Nat.add_mul] at h3
    omega
  constructor
  · rw [Nat.div_div_eq_div_mul, Nat.mul_comm d, ← Nat.div_div_eq_div_mul, e2, Nat.mul_add_div hd, Nat.mul_comm (u / d) B, Nat.mul_add_mod, Nat.mod_eq_of_lt hlt]
  · rw [e2, Nat.mul_add_mod]

/-- One digit turned. -/
theorem val_set (b : Nat) : ∀ (l : List Nat) (j d : Nat), j < l.length → val b (l.set j d) + l.getD j 0 * b ^ j = val b l + d * b ^ j
  | [], j, d, h => absurd h (by simp)
  | e :: l, 0, d, _ => by
    show d + b * val b l + e * 1 = e + b * val b l + d * 1
    omega
  | e :: l, j + 1, d, h => by
    have ih := val_set b l j d (by simpa using h)
    show e + b * val b (l.set j d) + l.getD j 0 * b ^ (j + 1) = e + b * val b l + d * b ^ (j + 1)
    have e1 : b * (val b (l.set j d) + l.getD j 0 * b ^ j) = b * (val b l + d * b ^ j) := by rw [ih]
    rw [Nat.mul_add, Nat.mul_add, Nat.mul_left_comm b, Nat.mul_left_comm b d, Nat.mul_comm b (b ^ j), ← Nat.pow_succ, Nat.succ_eq_add_one] at e1
    omega

/-- How many bits a number has. -/
def blen (n : Nat) : Nat := (dg 2 n).length
theorem blen_zero : blen 0 = 0 := by unfold blen; rw [dg_zero]; rfl
theorem blen_half {n : Nat} (h : n ≠ 0) : blen n = blen (n / 2) + 1 := by unfold blen; rw [dg_pos (by omega) h]; rfl
theorem blen_lt (n : Nat) : n < 2 ^ blen n := lt_pow_dg_length (by omega) n
theorem blen_le {n k : Nat} (h : n < 2 ^ k) : blen n ≤ k := dg_length_le (by omega) h
theorem blen_ge {n k : Nat} (h : k < blen n) : 2 ^ k ≤ n := pow_le_of_dg_length (by omega) h
theorem blen_eq {n k : Nat} (h0 : 2 ^ k ≤ n) (h1 : n < 2 ^ (k + 1)) : blen n = k + 1 := dg_length_eq (by omega) h0 h1
theorem blen_pos {n : Nat} (h : n ≠ 0) : 0 < blen n := by rw [blen_half h]; omega
theorem blen_mono {m n : Nat} (h : m ≤ n) : blen m ≤ blen n := dg_length_mono (by omega) h
/-- Bits behind whole digits. -/
theorem blen_shift {n k : Nat} (h : n / 2 ^ k ≠ 0) : blen n = k + blen (n / 2 ^ k) := by
  have hp := blen_pos h
  obtain ⟨c, hc⟩ : ∃ c, blen (n / 2 ^ k) = c + 1 := ⟨blen (n / 2 ^ k) - 1, by omega⟩
  have h1 : 2 ^ c ≤ n / 2 ^ k := blen_ge (by omega)
  have h2 : n / 2 ^ k < 2 ^ (c + 1) := by rw [← hc]; exact blen_lt _
  have hk : 0 < 2 ^ k := Nat.pow_pos (by omega)
  rw [hc, ← Nat.add_assoc]
  apply blen_eq
  · rw [Nat.pow_add, Nat.mul_comm]; exact (Nat.le_div_iff_mul_le hk).1 h1
  · rw [Nat.add_assoc, Nat.pow_add, Nat.mul_comm]; exact (Nat.div_lt_iff_lt_mul hk).1 h2
/-- The leading digit. -/
theorem top_digit {b n : Nat} (hb : 2 ≤ b) (h : n ≠ 0) : (dg b n).getD ((dg b n).length - 1) 0 = n / b ^ ((dg b n).length - 1) ∧ n / b ^ ((dg b n).length - 1) ≠ 0 ∧ n / b ^ ((dg b n).length - 1) < b := by
  have hl : 0 < (dg b n).length := by rw [dg_pos hb h]; simp
  have h1 : b ^ ((dg b n).length - 1) ≤ n := pow_le_of_dg_length hb (by omega)
  have h2 := lt_pow_dg_length hb n
  obtain ⟨k, hk⟩ : ∃ k, (dg b n).length = k + 1 := ⟨(dg b n).length - 1, by omega⟩
  rw [hk] at h1 h2 ⊢
  simp only [Nat.add_sub_cancel] at h1 ⊢
  have hp : 0 < b ^ k := Nat.pow_pos (by omega)
  have h3 : n / b ^ k < b := by
    apply Nat.div_lt_of_lt_mul
    rwa [Nat.pow_succ] at h2
  have h4 : 0 < n / b ^ k := Nat.div_pos h1 hp
  exact ⟨by rw [dg_getD hb, Nat.mod_eq_of_lt h3], by omega, h3⟩

/-- Comparing canonical digits compares the numbers. -/
theorem dg_inj {b : Nat} (hb : 2 ≤ b) {m n : Nat} (h : dg b m = dg b n) : m = n := by
  rw [← val_dg hb m, h, val_dg hb]

end Go.Dig
