/- Walks and lemmas for the laws of this seat. -/
import Derived.Test.YtgdgklhfakplhaaGreatDoorH14
import Derived.Test.YtgdgklhfakplhaaGreatDoorH17
import Derived.Test.YtgdgklhfakplhaaGreatDoorH13
namespace Go.Proofs.YtgdgklhfakplhaaGreatDoor
open Go.RowKit Go.Dig
set_option maxRecDepth 100000
theorem band63 (z : Int) (h0 : 0 ≤ z) (h1 : z < 64) : bits .and .u64 z 63 = z := by
  rw [u64_and z 63 (by omega) (by omega) (by omega) (by omega), show (63 : Int).toNat = 2 ^ 6 - 1 from rfl, Nat.and_two_pow_sub_one_eq_mod]
  omega
theorem wrap_mul (m s : Nat) : IntKind.u64.wrap ((m : Int) * 2 ^ s) = ((m * 2 ^ s % 18446744073709551616 : Nat) : Int) := by
  rw [IntKind.wrap_u64, show (m : Int) * 2 ^ s = ((m * 2 ^ s : Nat) : Int) by simp]
  omega
theorem shr_cast (m s : Nat) (hs : s ≤ 64) : Op.shift .shr .u64 (m : Int) .u64 (s : Int) = pure (.int .u64 ((m / 2 ^ s : Nat) : Int)) := by
  have h := shift_shr_u64 (x := (m : Int)) (yk := .u64) (y := (s : Int)) (by omega) (by omega)
  rw [h, Int.toNat_natCast]
  simp
theorem shl_cast (m s : Nat) (hs : s ≤ 64) : Op.shift .shl .u64 (m : Int) .u64 (s : Int) = pure (.int .u64 ((m * 2 ^ s % 18446744073709551616 : Nat) : Int)) := by
  have h := shift_shl_u64 (x := (m : Int)) (yk := .u64) (y := (s : Int)) (by omega) (by omega)
  rw [h, Int.toNat_natCast, IntKind.wrap_u64, show (m : Int) * 2 ^ s = ((m * 2 ^ s : Nat) : Int) by simp]
  rfl
set_option maxHeartbeats 400000 in
/-- One word, shifted by less than a word. -/
theorem lshVUg_one (B o cz b m s : Nat) (hs0 : 0 < s) (hs : s < 64) (w : World) (h0 : w.cell? ⟨b, 0, none⟩ = some (.int .u64 m)) (h1 : ∃ v, w.cell? ⟨B, o, none⟩ = some v) (f0 : w.frozen? ⟨B, o, none⟩ = false) (_hne : B ≠ b) :
    Calls Tryz.prog 143 #[.slice (some ⟨B, o, none⟩) 1 cz, .slice (some ⟨b, 0, none⟩) 1 1, .int .u64 s] w fun e w' => e = .returned (.int .u64 ((m / 2 ^ (64 - s) : Nat) : Int)) ∧ w' = w.setCell ⟨B, o, none⟩ (.int .u64 ((m * 2 ^ s % 18446744073709551616 : Nat) : Int)) := by
  obtain ⟨v, h1⟩ := h1
  have hs1 : ((s : Int) == 0) = false := by simp; omega
  have a1 := band63 (s : Int) (by omega) (by omega)
  have a2 := band63 (64 - (s : Int)) (by omega) (by omega)
  have a3 : IntKind.u64.wrap (64 - (s : Int)) = 64 - (s : Int) := by rw [IntKind.wrap_u64]; omega
  obtain ⟨hi, hhi⟩ : ∃ hi, m / 2 ^ (64 - s) = hi := ⟨_, rfl⟩
  obtain ⟨lo, hlo⟩ : ∃ lo, m * 2 ^ s % 18446744073709551616 = lo := ⟨_, rfl⟩
  have S1 : (m : Int) / 2 ^ (64 - s) = hi := by rw [← hhi]; simp
  have S2 : IntKind.u64.wrap ((m : Int) * 2 ^ s) = lo := by rw [← hlo]; exact wrap_mul m s
  rw [hhi, hlo]
  clear hhi hlo
  go_enter Tryz.func143, Tryz.ntmps143
  go_wp2_with fail
  go_loopw [8] (fun v wr => v = .int .i64 0 ∧ wr = w) (fun _ _ => 0)
  case atStart => exact ⟨rfl, rfl⟩
  case round =>
    obtain ⟨rfl, rfl⟩ := hrel
    go_wp2_with fail
    go_ret
    exact ⟨rfl, rfl⟩
set_option maxHeartbeats 400000 in
theorem lshVU_one (B o cz b m s : Nat) (hs0 : 0 < s) (hs : s < 64) (w : World) (h0 : w.cell? ⟨b, 0, none⟩ = some (.int .u64 m)) (h1 : ∃ v, w.cell? ⟨B, o, none⟩ = some v) (f0 : w.frozen? ⟨B, o, none⟩ = false) (hne : B ≠ b) :
    Calls Tryz.prog 108 #[.slice (some ⟨B, o, none⟩) 1 cz, .slice (some ⟨b, 0, none⟩) 1 1, .int .u64 s] w fun e w' => e = .returned (.int .u64 ((m / 2 ^ (64 - s) : Nat) : Int)) ∧ w' = w.setCell ⟨B, o, none⟩ (.int .u64 ((m * 2 ^ s % 18446744073709551616 : Nat) : Int)) := by
  have H := lshVUg_one B o cz b m s hs0 hs w h0 h1 f0 hne
  generalize m / 2 ^ (64 - s) = hi at *
  generalize m * 2 ^ s % 18446744073709551616 = lo at *
  go_enter Tryz.func108, Tryz.ntmps108
  go_wp2_with fail
  refine H.mono ?_
  rintro e w' ⟨rfl, rfl⟩
  go_wp2_with fail
  go_ret
  exact ⟨rfl, rfl⟩
end Go.Proofs.YtgdgklhfakplhaaGreatDoor
namespace Go.Proofs.YtgdgklhfakplhaaGreatDoor
open Go.RowKit Go.Dig
set_option maxRecDepth 100000
/-- A word moved left by s, and what falls out of it. -/
def wlo (s x : Nat) : Nat := x * 2 ^ s % 18446744073709551616
def whi (s x : Nat) : Nat := x / 2 ^ (64 - s)
theorem pow_split {s : Nat} (hs : s < 64) : 2 ^ s * 2 ^ (64 - s) = 18446744073709551616 := by
  rw [← Nat.pow_add, show s + (64 - s) = 64 by omega]
theorem lohi {s x : Nat} (hs : s < 64) : wlo s x + whi s x * 18446744073709551616 = x * 2 ^ s := by
  unfold wlo whi
  have h := Nat.div_add_mod (x * 2 ^ s) 18446744073709551616
  have e : x * 2 ^ s / 18446744073709551616 = x / 2 ^ (64 - s) := by
    rw [← pow_split hs, Nat.mul_comm x, Nat.mul_div_mul_left _ _ (Nat.pow_pos (by omega))]
  rw [← e]; omega
theorem whi_lt {s x : Nat} (hs : s < 64) (hx : x < 18446744073709551616) : whi s x < 2 ^ s := by
  unfold whi
  apply Nat.div_lt_of_lt_mul
  rw [Nat.mul_comm, pow_split hs]; exact hx
theorem or_lohi {s x y : Nat} (hs : s < 64) (hy : y < 18446744073709551616) : bits .or .u64 (wlo s x : Int) (whi s y : Int) = ((wlo s x + whi s y : Nat) : Int) ∧ wlo s x + whi s y < 18446744073709551616 := by
  have h1 := whi_lt hs hy
  have h2 : (2 : Nat) ^ s ≤ 2 ^ 63 := Nat.pow_le_pow_right (by omega) (by omega)
  have h3 : wlo s x = x % 2 ^ (64 - s) * 2 ^ s := by
    unfold wlo
    rw [← pow_split hs, Nat.mul_comm (2 ^ s), Nat.mul_mod_mul_right]
  have h4 : x % 2 ^ (64 - s) < 2 ^ (64 - s) := Nat.mod_lt _ (Nat.pow_pos (by omega))
  generalize x % 2 ^ (64 - s) = t at *
  have h5 : wlo s x + whi s y < 18446744073709551616 := by
    rw [h3]
    have : (t + 1) * 2 ^ s ≤ 2 ^ (64 - s) * 2 ^ s := Nat.mul_le_mul_right _ h4
    rw [Nat.mul_comm (2 ^ (64 - s)), pow_split hs, Nat.add_mul] at this
    omega
  refine ⟨?_, h5⟩
  rw [bits_or_u64_nat _ _ (by omega) (by omega)]
  congr 1
  rw [h3, ← Nat.shiftLeft_eq, ← Nat.shiftLeft_add_eq_or_of_lt h1]
/-- The words of a row moved left: from the j-th on. -/
theorem lsh_val {s : Nat} (hs : s < 64) : ∀ (xs l : List Nat) (c0 : Nat), l.length = xs.length → (0 < xs.length → l.getD 0 0 = wlo s (xs.getD 0 0) + c0) → (∀ j, 0 < j → j < xs.length → l.getD j 0 = wlo s (xs.getD j 0) + whi s (xs.getD (j - 1) 0)) →
    val 18446744073709551616 l + (if xs.length = 0 then c0 else whi s (xs.getD (xs.length - 1) 0)) * 18446744073709551616 ^ xs.length = val 18446744073709551616 xs * 2 ^ s + c0
  | [], [], c0, _, _, _ => by simp [val]
  | x :: xs, a :: l, c0, hl, h0, hr => by
    have hl' : l.length = xs.length := by simpa using hl
    have ih := lsh_val hs xs l (whi s x) hl' (fun hp => by have := hr 1 (by omega) (by simp; omega); simpa using this) (fun j h1 h2 => by
      have := hr (j + 1) (by omega) (by simp; omega)
      simp only [List.getD_cons_succ] at this
      rw [this]
      congr 2
      obtain ⟨i, rfl⟩ : ∃ i, j = i + 1 := ⟨j - 1, by omega⟩
      simp)
    have ha : a = wlo s x + c0 := by have := h0 (by simp); simpa using this
    have hlh := lohi (x := x) hs
    simp only [val, List.length_cons]
    rw [if_neg (by omega), Nat.pow_succ]
    have e1 : (x :: xs).getD (xs.length + 1 - 1) 0 = if xs.length = 0 then x else xs.getD (xs.length - 1) 0 := by
      rw [Nat.add_sub_cancel]
      rcases Nat.eq_zero_or_pos xs.length with e | e
      · rw [e]; simp
      · obtain ⟨i, hi⟩ : ∃ i, xs.length = i + 1 := ⟨xs.length - 1, by omega⟩
        rw [if_neg (by omega), hi]; simp
    have e2 : whi s ((x :: xs).getD (xs.length + 1 - 1) 0) = if xs.length = 0 then whi s x else whi s (xs.getD (xs.length - 1) 0) := by
      rw [e1]; split <;> rfl
    rw [e2]
    generalize (if xs.length = 0 then whi s x else whi s (xs.getD (xs.length - 1) 0)) = C at *
    rw [ha, Nat.add_mul, Nat.mul_assoc 18446744073709551616 (val _ xs)]
    have e3 : 18446744073709551616 * (val 18446744073709551616 l + C * 18446744073709551616 ^ xs.length) = 18446744073709551616 * (val 18446744073709551616 xs * 2 ^ s + whi s x) := by rw [ih]
    rw [Nat.mul_add, Nat.mul_add] at e3
    rw [← Nat.mul_assoc C, Nat.mul_comm (C * _) 18446744073709551616]
    omega
end Go.Proofs.YtgdgklhfakplhaaGreatDoor
namespace Go.Proofs.YtgdgklhfakplhaaGreatDoor
open Go.RowKit Go.Dig
set_option maxRecDepth 100000
theorem shr_h {s x h : Nat} (hh : whi s x = h) : (x : Int) / 2 ^ (64 - s) = h := by
  rw [← hh]; unfold whi; simp
theorem shl_h {s x h : Nat} (hh : wlo s x = h) : IntKind.u64.wrap ((x : Int) * 2 ^ s) = h := by
  rw [← hh]; unfold wlo; exact wrap_mul x s
set_option maxHeartbeats 1000000 in
theorem lshvu_g (bz oz cz bx ox cx s k : Nat) (lz xs : List Nat) (w : World) (hz : Ds w bz oz lz) (hx : Ds w bx ox xs) (hl : lz.length = k) (hxk : xs.length = k) (hk0 : 0 < k) (hk : k < 1000000) (hd : bx ≠ bz ∨ ox ≤ oz) (hdx : ∀ d ∈ xs, d < 18446744073709551616) (hs0 : 0 < s) (hs : s < 64) :
    Calls Tryz.prog 143 #[.slice (some ⟨bz, oz, none⟩) k cz, .slice (some ⟨bx, ox, none⟩) k cx, .int .u64 s] w fun e w' => ∃ (l' : List Nat) (c : Nat), e = .returned (.int .u64 (c : Nat)) ∧ l'.length = k ∧ val 18446744073709551616 l' + c * 18446744073709551616 ^ k = val 18446744073709551616 xs * 2 ^ s ∧ (∀ d ∈ l', d < 18446744073709551616) ∧ Ds w' bz oz l' ∧ Fx bz oz k w w' := by
  have hs1 : ((s : Int) == 0) = false := by simp; omega
  have hk1 : ((k : Int) == 0) = false := by simp; omega
  have a1 := band63 (s : Int) (by omega) (by omega)
  have a2 := band63 (64 - (s : Int)) (by omega) (by omega)
  have a3 : IntKind.u64.wrap (64 - (s : Int)) = 64 - (s : Int) := by rw [IntKind.wrap_u64]; omega
  have HX := hid hx
  have HD := hid hd
  have HDX := hid hdx
  have h0 := hx.cell (i := k - 1) (by omega)
  generalize hx0 : xs.getD (k - 1) 0 = x0 at h0
  obtain ⟨c, hc⟩ : ∃ c, whi s x0 = c := ⟨_, rfl⟩
  have S0 := shr_h hc
  have HC := hid hc
  have HX0 := hid hx0
  clear hdx hd hx hc hx0
  go_enter Tryz.func143, Tryz.ntmps143
  go_wp2_with fail
  clear S0
  go_loopw [8] (fun q wr => ∃ (i : Nat) (m : List Nat), q = .int .i64 i ∧ i < k ∧ Hid (m.length = k) ∧ Ds wr bz oz m ∧ Hid (∀ j, i < j → j < k → m.getD j 0 = wlo s (xs.getD j 0) + whi s (xs.getD (j - 1) 0)) ∧ Fx bz (oz + i + 1) (k - 1 - i) w wr) (fun q _ => (intOf q).toNat)
  case atStart => exact ⟨k - 1, lz, by go_num, by omega, hid hl, hz, hid (fun j h1 h2 => absurd h1 (by omega)), Fx.refl _ _ _ _⟩
  case round =>
    clear hz hl h0
    obtain ⟨i, m, rfl, hi, hml, hBm, hv, hb⟩ := hrel
    have HXi := (HX.out.take (i + 1)).fx hb (by rcases HD.out with h | h; exact .inl h; exact .inr (.inl (by rw [List.length_take]; omega)))
    have hgt : ∀ j, j ≤ i → (xs.take (i + 1)).getD j 0 = xs.getD j 0 := fun j hj => by
      simp only [List.getD_eq_getElem?_getD]; rw [List.getElem?_take_of_lt (by omega)]
    have hx := HXi.cell (i := i) (by rw [List.length_take]; omega)
    rw [hgt i (Nat.le_refl _)] at hx
    rcases Nat.eq_zero_or_pos i with h0 | h0
    · subst h0
      have hcell := hBm.cell (i := 0) (by rw [hml.out]; omega)
      have hfr := hBm.frozen (oz + 0)
      rw [Nat.add_zero] at hx hcell hfr
      generalize hxe : xs.getD 0 0 = x at hx
      have HXE := hid hxe
      clear hxe HXi hgt
      obtain ⟨lo, hlo⟩ : ∃ lo, wlo s x = lo := ⟨_, rfl⟩
      have S1 := shl_h hlo
      have HLO := hid hlo
      clear hlo
      generalize m.getD 0 0 = old at hcell
      go_wp2_with fail
      go_ret
      have hput := hBm.put (i := 0) (by rw [hml.out]; omega) lo
      have hfx := (hb.mono (o' := oz) (k' := k) (by omega) (by omega)).setCell (i := oz) (by omega) (by omega) (.int .u64 (lo : Int))
      have e1 : val 18446744073709551616 (m.set 0 lo) + c * 18446744073709551616 ^ k = val 18446744073709551616 xs * 2 ^ s := by
        have := lsh_val hs xs (m.set 0 lo) 0 (by rw [List.length_set, hml.out, hxk]) (fun _ => by
          rw [List.getD_eq_getElem?_getD, List.getElem?_set_self (by rw [hml.out]; omega), HXE.out, HLO.out]; rfl) (fun j h1 h2 => by
          rw [set_far (by omega)]; exact hv.out j h1 (by omega))
        rw [if_neg (by omega), hxk, HX0.out, HC.out] at this
        simpa using this
      refine ⟨m.set 0 lo, c, rfl, by rw [List.length_set]; exact hml.out, e1, mem_getD (fun j hj => ?_), by simpa using hput, by simpa using hfx⟩
      rw [List.length_set, hml.out] at hj
      rcases Nat.eq_zero_or_pos j with h | h
      · subst h
        rw [List.getD_eq_getElem?_getD, List.getElem?_set_self (by rw [hml.out]; omega), ← HLO.out]
        exact Nat.mod_lt _ (by omega)
      · rw [set_far (by omega), hv.out j h hj]
        exact (or_lohi hs (getD_lt (by omega) HDX.out (j - 1))).2
    · obtain ⟨i, rfl⟩ : ∃ i', i = i' + 1 := ⟨i - 1, by omega⟩
      have hy := HXi.cell (i := i) (by rw [List.length_take]; omega)
      rw [hgt i (by omega)] at hy
      have hcell := hBm.cell (i := i + 1) (by rw [hml.out]; omega)
      have hfr := hBm.frozen (oz + (i + 1))
      clear HXi hgt
      have hyw : xs.getD i 0 < 18446744073709551616 := getD_lt (by omega) HDX.out i
      generalize hxe : xs.getD (i + 1) 0 = x at hx
      generalize hye : xs.getD i 0 = y at hy hyw
      have HXE := hid hxe
      have HYE := hid hye
      clear hxe hye
      obtain ⟨O1, O2⟩ := or_lohi (s := s) (x := x) hs hyw
      obtain ⟨lo, hlo⟩ : ∃ lo, wlo s x = lo := ⟨_, rfl⟩
      obtain ⟨hi', hhi⟩ : ∃ lo, whi s y = lo := ⟨_, rfl⟩
      have S1 := shl_h hlo
      have S2 := shr_h hhi
      have HLO := hid hlo
      have HHI := hid hhi
      rw [hlo, hhi] at O1 O2
      clear hlo hhi
      obtain ⟨d, hd⟩ : ∃ d, lo + hi' = d := ⟨_, rfl⟩
      rw [hd] at O1 O2
      have HDD := hid hd
      clear hd
      generalize m.getD (i + 1) 0 = old at hcell
      go_wp2_with fail
      go_region
      go_wp2_with fail
      go_roundw
      case rel =>
        refine ⟨i, m.set (i + 1) d, by go_num, by omega, hid (by rw [List.length_set]; exact hml.out), ?_, hid (fun j h1 h2 => ?_), ?_⟩
        · have := hBm.put (i := i + 1) (by rw [hml.out]; omega) d
          exact Ds.drew (by simpa using this)
        · rcases Nat.lt_or_ge (i + 1) j with h | h
          · rw [set_far (by omega)]; exact hv.out j h h2
          · obtain rfl : j = i + 1 := by omega
            rw [List.getD_eq_getElem?_getD, List.getElem?_set_self (by rw [hml.out]; omega), Nat.add_sub_cancel, HXE.out, HYE.out, HLO.out, HHI.out]
            exact HDD.out.symm
        · have := (hb.mono (o' := oz + i + 1) (k' := k - 1 - i) (by omega) (by omega)).setCell (i := oz + (i + 1)) (by omega) (by omega) (.int .u64 (d : Int))
          exact Fx.drew (by simpa using this)
      case measure => simp [intOf]
set_option maxHeartbeats 400000 in
theorem lshvu (bz oz cz bx ox cx s k : Nat) (lz xs : List Nat) (w : World) (hz : Ds w bz oz lz) (hx : Ds w bx ox xs) (hl : lz.length = k) (hxk : xs.length = k) (hk0 : 0 < k) (hk : k < 1000000) (hd : bx ≠ bz ∨ ox ≤ oz) (hdx : ∀ d ∈ xs, d < 18446744073709551616) (hs0 : 0 < s) (hs : s < 64) :
    Calls Tryz.prog 108 #[.slice (some ⟨bz, oz, none⟩) k cz, .slice (some ⟨bx, ox, none⟩) k cx, .int .u64 s] w fun e w' => ∃ (l' : List Nat) (c : Nat), e = .returned (.int .u64 (c : Nat)) ∧ l'.length = k ∧ val 18446744073709551616 l' + c * 18446744073709551616 ^ k = val 18446744073709551616 xs * 2 ^ s ∧ (∀ d ∈ l', d < 18446744073709551616) ∧ Ds w' bz oz l' ∧ Fx bz oz k w w' := by
  have H := lshvu_g bz oz cz bx ox cx s k lz xs w hz hx hl hxk hk0 hk hd hdx hs0 hs
  clear hz hx hl hxk hd hdx
  go_enter Tryz.func108, Tryz.ntmps108
  go_wp2_with fail
  refine H.mono ?_
  rintro e w' ⟨l', c, rfl, h2⟩
  have HQ := hid h2
  clear h2
  go_wp2_with fail
  go_ret
  exact ⟨l', c, rfl, HQ.out⟩
end Go.Proofs.YtgdgklhfakplhaaGreatDoor
namespace Go.Proofs.YtgdgklhfakplhaaGreatDoor
open Go.RowKit Go.Dig
set_option maxRecDepth 100000
theorem whi_r {s x : Nat} (hs : s ≤ 64) : whi (64 - s) x = x / 2 ^ s := by
  unfold whi; rw [show 64 - (64 - s) = s by omega]
theorem shr_r {s x h : Nat} (hs : s ≤ 64) (hh : whi (64 - s) x = h) : (x : Int) / 2 ^ s = h := by
  rw [← hh, whi_r hs]; simp
/-- The words of a row moved right. -/
theorem rsh_val {s : Nat} (hs0 : 0 < s) (hs : s < 64) : ∀ (xs l : List Nat), l.length = xs.length → (∀ j, j < xs.length → l.getD j 0 = wlo (64 - s) (xs.getD (j + 1) 0) + whi (64 - s) (xs.getD j 0)) →
    val 18446744073709551616 l * 2 ^ s + xs.getD 0 0 % 2 ^ s = val 18446744073709551616 xs
  | [], [], _, _ => by simp [val]
  | x :: xs, a :: l, hl, hr => by
    have hl' : l.length = xs.length := by simpa using hl
    have ih := rsh_val hs0 hs xs l hl' (fun j h1 => by
      have := hr (j + 1) (by simp; omega)
      simpa using this)
    have ha := hr 0 (by simp)
    simp only [List.getD_cons_zero, List.getD_cons_succ, Nat.zero_add] at ha ⊢
    have h1 : whi (64 - s) x * 2 ^ s + x % 2 ^ s = x := by
      rw [whi_r (by omega), Nat.mul_comm]; exact Nat.div_add_mod x (2 ^ s)
    have hp : 2 ^ (64 - s) * 2 ^ s = 18446744073709551616 := by rw [Nat.mul_comm]; exact pow_split hs
    have h2 : wlo (64 - s) (xs.getD 0 0) * 2 ^ s = 18446744073709551616 * (xs.getD 0 0 % 2 ^ s) := by
      unfold wlo
      have e : xs.getD 0 0 * 2 ^ (64 - s) % 18446744073709551616 = (xs.getD 0 0 % 2 ^ s) * 2 ^ (64 - s) := by
        rw [← hp, Nat.mul_comm (2 ^ (64 - s)) (2 ^ s), Nat.mul_mod_mul_right]
      rw [e, Nat.mul_assoc, hp, Nat.mul_comm]
    simp only [val]
    rw [ha, Nat.add_mul, Nat.add_mul, h2, ← ih, Nat.mul_assoc]
    generalize val 18446744073709551616 l * 2 ^ s = A
    rw [Nat.mul_add]
    omega
set_option maxHeartbeats 1000000 in
theorem rshvu_g (bz oz cz cx s k : Nat) (xs : List Nat) (w : World) (hx : Ds w bz oz xs) (hxk : xs.length = k) (hk0 : 0 < k) (hk : k < 1000000) (hdx : ∀ d ∈ xs, d < 18446744073709551616) (hs0 : 0 < s) (hs : s < 64) :
    Calls Tryz.prog 169 #[.slice (some ⟨bz, oz, none⟩) k cz, .slice (some ⟨bz, oz, none⟩) k cx, .int .u64 s] w fun e w' => ∃ (l' : List Nat) (c : Nat), e = .returned (.int .u64 (c : Nat)) ∧ l'.length = k ∧ val 18446744073709551616 l' = val 18446744073709551616 xs / 2 ^ s ∧ (∀ d ∈ l', d < 18446744073709551616) ∧ Ds w' bz oz l' ∧ Fx bz oz k w w' := by
  have hs1 : ((s : Int) == 0) = false := by simp; omega
  have hk1 : ((k : Int) == 0) = false := by simp; omega
  have a1 := band63 (s : Int) (by omega) (by omega)
  have a2 := band63 (64 - (s : Int)) (by omega) (by omega)
  have a3 : IntKind.u64.wrap (64 - (s : Int)) = 64 - (s : Int) := by rw [IntKind.wrap_u64]; omega
  have HDX := hid hdx
  have h0 := hx.cell (i := 0) (by omega)
  rw [Nat.add_zero] at h0
  generalize hx0 : xs.getD 0 0 = x0 at h0
  obtain ⟨c, hc⟩ : ∃ c, wlo (64 - s) x0 = c := ⟨_, rfl⟩
  have S0 := shl_h hc
  clear hdx hc hx0
  go_enter Tryz.func169, Tryz.ntmps169
  go_wp2_with fail
  clear S0 h0
  go_loopw [8] (fun q wr => ∃ (i : Nat) (m : List Nat), q = .int .i64 ((i : Int) + 1) ∧ i < k ∧ Hid (m.length = k) ∧ Ds wr bz oz m ∧ Hid (∀ j, j < i → m.getD j 0 = wlo (64 - s) (xs.getD (j + 1) 0) + whi (64 - s) (xs.getD j 0)) ∧ Hid (∀ j, i ≤ j → m.getD j 0 = xs.getD j 0) ∧ Fx bz oz k w wr) (fun q _ => k - (intOf q).toNat)
  case atStart => exact ⟨0, xs, rfl, hk0, hid hxk, hx, hid (fun j h1 => absurd h1 (by omega)), hid (fun _ _ => rfl), Fx.refl _ _ _ _⟩
  case round =>
    clear hx
    obtain ⟨i, m, rfl, hi, hml, hBm, hv, hrest, hb⟩ := hrel
    have hx := hBm.cell (i := i) (by rw [hml.out]; omega)
    rw [hrest.out i (Nat.le_refl _)] at hx
    have hxw : xs.getD i 0 < 18446744073709551616 := getD_lt (by omega) HDX.out i
    have hfr := hBm.frozen (oz + i)
    rcases Nat.lt_or_ge (i + 1) k with hlt | hge
    · have hy := hBm.cell (i := i + 1) (by rw [hml.out]; omega)
      rw [hrest.out (i + 1) (by omega)] at hy
      generalize hxe : xs.getD i 0 = x at hx hxw
      generalize hye : xs.getD (i + 1) 0 = y at hy
      have HXE := hid hxe
      have HYE := hid hye
      clear hxe hye
      obtain ⟨O1, O2⟩ := or_lohi (s := 64 - s) (x := y) (by omega) hxw
      obtain ⟨lo, hlo⟩ : ∃ lo, wlo (64 - s) y = lo := ⟨_, rfl⟩
      obtain ⟨hi', hhi⟩ : ∃ lo, whi (64 - s) x = lo := ⟨_, rfl⟩
      have S1 := shl_h hlo
      have S2 := shr_r (by omega) hhi
      have HLO := hid hlo
      have HHI := hid hhi
      rw [hlo, hhi] at O1 O2
      clear hlo hhi
      have O1' : bits .or .u64 (hi' : Int) (lo : Int) = ((lo + hi' : Nat) : Int) := by
        have h1 : lo < 18446744073709551616 := by omega
        have h2 : hi' < 18446744073709551616 := by omega
        rw [bits_or_u64_nat _ _ h1 h2] at O1
        rw [bits_or_u64_nat _ _ h2 h1, Nat.or_comm]; exact O1
      clear O1
      obtain ⟨d, hd⟩ : ∃ d, lo + hi' = d := ⟨_, rfl⟩
      rw [hd] at O1' O2
      have HDD := hid hd
      clear hd
      go_wp2_with fail
      go_region
      go_wp2_with fail
      go_roundw
      case rel =>
        refine ⟨i + 1, m.set i d, by go_num, by omega, hid (by rw [List.length_set]; exact hml.out), ?_, hid (fun j h1 => ?_), hid (fun j h1 => ?_), ?_⟩
        · have := hBm.put (i := i) (by rw [hml.out]; omega) d
          exact Ds.drew (by simpa using this)
        · rcases Nat.lt_or_ge j i with h | h
          · rw [set_far (by omega)]; exact hv.out j h
          · obtain rfl : j = i := by omega
            rw [List.getD_eq_getElem?_getD, List.getElem?_set_self (by rw [hml.out]; omega), HXE.out, HYE.out, HLO.out, HHI.out]
            exact HDD.out.symm
        · rw [set_far (by omega)]; exact hrest.out j (by omega)
        · have := hb.setCell (i := oz + i) (by omega) (by omega) (.int .u64 (d : Int))
          exact Fx.drew (by simpa using this)
      case measure => simp [intOf]; omega
    · obtain rfl : k = i + 1 := by omega
      generalize hxe : xs.getD i 0 = x at hx hxw
      have HXE := hid hxe
      clear hxe
      obtain ⟨hi', hhi⟩ : ∃ lo, whi (64 - s) x = lo := ⟨_, rfl⟩
      have S2 := shr_r (by omega) hhi
      have HHI := hid hhi
      clear hhi
      go_wp2_with fail
      go_ret
      have e1 := rsh_val hs0 hs xs (m.set i hi') (by rw [List.length_set, hml.out, hxk]) (fun j h1 => by
        rcases Nat.lt_or_ge j i with h | h
        · rw [set_far (by omega)]; exact hv.out j h
        · obtain rfl : j = i := by omega
          rw [List.getD_eq_getElem?_getD, List.getElem?_set_self (by rw [hml.out]; omega), HXE.out, HHI.out]
          have : xs.getD (j + 1) 0 = 0 := by rw [List.getD_eq_getElem?_getD, List.getElem?_eq_none (by omega)]; rfl
          rw [this]
          simp [wlo])
      have h3 : val 18446744073709551616 (m.set i hi') = val 18446744073709551616 xs / 2 ^ s := by
        have hp : 0 < 2 ^ s := Nat.pow_pos (by omega)
        rw [← e1, Nat.mul_comm, Nat.mul_add_div hp, Nat.div_eq_of_lt (Nat.mod_lt _ hp), Nat.add_zero]
      have hput := hBm.put (i := i) (by rw [hml.out]; omega) hi'
      have hfx := hb.setCell (i := oz + i) (by omega) (by omega) (.int .u64 (hi' : Int))
      refine ⟨m.set i hi', c, rfl, by rw [List.length_set]; exact hml.out, h3, mem_getD (fun j hj => ?_), by simpa using hput, by simpa using hfx⟩
      rw [List.length_set, hml.out] at hj
      rcases Nat.lt_or_ge j i with h | h
      · rw [set_far (by omega), hv.out j h]
        exact (or_lohi (s := 64 - s) (by omega) (getD_lt (by omega) HDX.out j)).2
      · obtain rfl : j = i := by omega
        rw [List.getD_eq_getElem?_getD, List.getElem?_set_self (by rw [hml.out]; omega), ← HHI.out, whi_r (by omega)]
        exact Nat.lt_of_le_of_lt (Nat.div_le_self _ _) hxw
set_option maxHeartbeats 400000 in
theorem rshvu (bz oz cz cx s k : Nat) (xs : List Nat) (w : World) (hx : Ds w bz oz xs) (hxk : xs.length = k) (hk0 : 0 < k) (hk : k < 1000000) (hdx : ∀ d ∈ xs, d < 18446744073709551616) (hs0 : 0 < s) (hs : s < 64) :
    Calls Tryz.prog 140 #[.slice (some ⟨bz, oz, none⟩) k cz, .slice (some ⟨bz, oz, none⟩) k cx, .int .u64 s] w fun e w' => ∃ (l' : List Nat) (c : Nat), e = .returned (.int .u64 (c : Nat)) ∧ l'.length = k ∧ val 18446744073709551616 l' = val 18446744073709551616 xs / 2 ^ s ∧ (∀ d ∈ l', d < 18446744073709551616) ∧ Ds w' bz oz l' ∧ Fx bz oz k w w' := by
  have H := rshvu_g bz oz cz cx s k xs w hx hxk hk0 hk hdx hs0 hs
  clear hx hxk hdx
  go_enter Tryz.func140, Tryz.ntmps140
  go_wp2_with fail
  refine H.mono ?_
  rintro e w' ⟨l', c, rfl, h2⟩
  have HQ := hid h2
  clear h2
  go_wp2_with fail
  go_ret
  exact ⟨l', c, rfl, HQ.out⟩
end Go.Proofs.YtgdgklhfakplhaaGreatDoor
