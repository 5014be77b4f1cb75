/- Shifts of words, leading zeros, a division of two words by one. -/
import Derived.Test.YtdhgdachchhflaaGreatDoorQB
import Derived.Test.YtdhgdachchhflaaGreatDoorQD
import Derived.Test.YtdhgdachchhflaaGreatDoorQA
import Derived.Shelf.Small.Bits
import Derived.Shelf.Strconv.Itoa0
import Derived.Shelf.Bits.Mul64
import Derived.Lib.ItoaNum
import Derived.Deep.DeepCutAuto
import Derived.Deep.CutBlock
namespace Go.Proofs.YtdhgdachchhflaaGreatDoor
open Go.RowKit Go.Dig
set_option maxRecDepth 100000
theorem band63 (z : Int) (h0 : 0 ≤ z) (h1 : z < 64) : bits .and .u64 z 63 = z := by
  rw [u64_and z 63 (by omega) (by omega) (by omega) (by omega), show (63 : Int).toNat = 2 ^ 6 - 1 from rfl, Nat.and_two_pow_sub_one_eq_mod]
  omega
theorem wrap_mul (m s : Nat) : IntKind.u64.wrap ((m : Int) * 2 ^ s) = ((m * 2 ^ s % 18446744073709551616 : Nat) : Int) := by
  rw [IntKind.wrap_u64, show (m : Int) * 2 ^ s = ((m * 2 ^ s : Nat) : Int) by simp]
  omega
theorem shr_cast (m s : Nat) (hs : s ≤ 64) : Op.shift .shr .u64 (m : Int) .u64 (s : Int) = pure (.int .u64 ((m / 2 ^ s : Nat) : Int)) := by
  have h := shift_shr_u64 (x := (m : Int)) (yk := .u64) (y := (s : Int)) (by omega) (by omega)
  rw [h, Int.toNat_natCast]
  simp
theorem shl_cast (m s : Nat) (hs : s ≤ 64) : Op.shift .shl .u64 (m : Int) .u64 (s : Int) = pure (.int .u64 ((m * 2 ^ s % 18446744073709551616 : Nat) : Int)) := by
  have h := shift_shl_u64 (x := (m : Int)) (yk := .u64) (y := (s : Int)) (by omega) (by omega)
  rw [h, Int.toNat_natCast, IntKind.wrap_u64, show (m : Int) * 2 ^ s = ((m * 2 ^ s : Nat) : Int) by simp]
  rfl
set_option maxHeartbeats 400000 in
/-- One word, shifted by less than a word. -/
theorem lshVUg_one (B o cz b m s : Nat) (hs0 : 0 < s) (hs : s < 64) (w : World) (h0 : w.cell? ⟨b, 0, none⟩ = some (.int .u64 m)) (h1 : ∃ v, w.cell? ⟨B, o, none⟩ = some v) (f0 : w.frozen? ⟨B, o, none⟩ = false) (_hne : B ≠ b) :
    Calls Tryz.prog 123 #[.slice (some ⟨B, o, none⟩) 1 cz, .slice (some ⟨b, 0, none⟩) 1 1, .int .u64 s] w fun e w' => e = .returned (.int .u64 ((m / 2 ^ (64 - s) : Nat) : Int)) ∧ w' = w.setCell ⟨B, o, none⟩ (.int .u64 ((m * 2 ^ s % 18446744073709551616 : Nat) : Int)) := by
  obtain ⟨v, h1⟩ := h1
  have hs1 : ((s : Int) == 0) = false := by simp; omega
  have a1 := band63 (s : Int) (by omega) (by omega)
  have a2 := band63 (64 - (s : Int)) (by omega) (by omega)
  have a3 : IntKind.u64.wrap (64 - (s : Int)) = 64 - (s : Int) := by rw [IntKind.wrap_u64]; omega
  obtain ⟨hi, hhi⟩ : ∃ hi, m / 2 ^ (64 - s) = hi := ⟨_, rfl⟩
  obtain ⟨lo, hlo⟩ : ∃ lo, m * 2 ^ s % 18446744073709551616 = lo := ⟨_, rfl⟩
  have S1 : (m : Int) / 2 ^ (64 - s) = hi := by rw [← hhi]; simp
  have S2 : IntKind.u64.wrap ((m : Int) * 2 ^ s) = lo := by rw [← hlo]; exact wrap_mul m s
  rw [hhi, hlo]
  clear hhi hlo
  go_enter Tryz.func123, Tryz.ntmps123
  go_wp2_with fail
  go_loopw [8] (fun v wr => v = .int .i64 0 ∧ wr = w) (fun _ _ => 0)
  case atStart => exact ⟨rfl, rfl⟩
  case round =>
    obtain ⟨rfl, rfl⟩ := hrel
    go_wp2_with fail
    go_ret
    exact ⟨rfl, rfl⟩
set_option maxHeartbeats 400000 in
theorem lshVU_one (B o cz b m s : Nat) (hs0 : 0 < s) (hs : s < 64) (w : World) (h0 : w.cell? ⟨b, 0, none⟩ = some (.int .u64 m)) (h1 : ∃ v, w.cell? ⟨B, o, none⟩ = some v) (f0 : w.frozen? ⟨B, o, none⟩ = false) (hne : B ≠ b) :
    Calls Tryz.prog 95 #[.slice (some ⟨B, o, none⟩) 1 cz, .slice (some ⟨b, 0, none⟩) 1 1, .int .u64 s] w fun e w' => e = .returned (.int .u64 ((m / 2 ^ (64 - s) : Nat) : Int)) ∧ w' = w.setCell ⟨B, o, none⟩ (.int .u64 ((m * 2 ^ s % 18446744073709551616 : Nat) : Int)) := by
  have H := lshVUg_one B o cz b m s hs0 hs w h0 h1 f0 hne
  generalize m / 2 ^ (64 - s) = hi at *
  generalize m * 2 ^ s % 18446744073709551616 = lo at *
  go_enter Tryz.func95, Tryz.ntmps95
  go_wp2_with fail
  refine H.mono ?_
  rintro e w' ⟨rfl, rfl⟩
  go_wp2_with fail
  go_ret
  exact ⟨rfl, rfl⟩
end Go.Proofs.YtdhgdachchhflaaGreatDoor
namespace Go.Proofs.YtdhgdachchhflaaGreatDoor
open Go.Shelf
set_option maxRecDepth 100000
def sh_lays129_ren : Go.Shelf.Ren := ⟨fun | 129 => 178 | n => n, fun | 53 => 22 | 3 => 3 | 4 => 4 | 46 => 29 | 5 => 5 | 9 => 9 | n => n, fun | n => n⟩
theorem sh_lays129 : Go.Proofs.Lays.n129 Tryz.prog sh_lays129_ren := {
  mixed := by kernel_rfl
  f129 := Tryz.func178.trans (congrArg some (by kernel_rfl))
  t3 := Tryz.underlying3
  a3 := Tryz.isAgg3
  z3 := Tryz.sizeOf3
  v3 := Tryz.zeroValue3
  t4 := Tryz.underlying4
  a4 := Tryz.isAgg4
  z4 := Tryz.sizeOf4
  v4 := Tryz.zeroValue4
  t5 := Tryz.underlying5
  a5 := Tryz.isAgg5
  z5 := Tryz.sizeOf5
  v5 := Tryz.zeroValue5
  t9 := Tryz.underlying9
  a9 := Tryz.isAgg9
  z9 := Tryz.sizeOf9
  v9 := Tryz.zeroValue9
  t46 := Tryz.underlying29
  a46 := Tryz.isAgg29
  z46 := Tryz.sizeOf29
  v46 := Tryz.zeroValue29
  t53 := Tryz.underlying22
  a53 := Tryz.isAgg22
  z53 := Tryz.sizeOf22
  v53 := Tryz.zeroValue22 }
theorem sh_bits_Len64 (x : Int) (w : World) (h0 : 0 ≤ x) (h1 : x ≤ 18446744073709551615) :
    Calls Tryz.prog 178 #[.int .u64 x] w fun e w' => e = .returned (.int .i64 (Lib.bitLen x.toNat)) ∧ w' = w := Any.bits_Len64 sh_lays129 x w h0 h1
def sh_lays134_ren : Go.Shelf.Ren := ⟨fun | 134 => 183 | 129 => 178 | n => n, fun | 53 => 22 | 3 => 3 | 4 => 4 | 46 => 29 | 5 => 5 | 9 => 9 | n => n, fun | n => n⟩
theorem sh_lays134 : Go.Proofs.Lays.n134 Tryz.prog sh_lays134_ren := {
  mixed := by kernel_rfl
  f129 := Tryz.func178.trans (congrArg some (by kernel_rfl))
  f134 := Tryz.func183.trans (congrArg some (by kernel_rfl))
  t3 := Tryz.underlying3
  a3 := Tryz.isAgg3
  z3 := Tryz.sizeOf3
  v3 := Tryz.zeroValue3
  t4 := Tryz.underlying4
  a4 := Tryz.isAgg4
  z4 := Tryz.sizeOf4
  v4 := Tryz.zeroValue4
  t5 := Tryz.underlying5
  a5 := Tryz.isAgg5
  z5 := Tryz.sizeOf5
  v5 := Tryz.zeroValue5
  t9 := Tryz.underlying9
  a9 := Tryz.isAgg9
  z9 := Tryz.sizeOf9
  v9 := Tryz.zeroValue9
  t46 := Tryz.underlying29
  a46 := Tryz.isAgg29
  z46 := Tryz.sizeOf29
  v46 := Tryz.zeroValue29
  t53 := Tryz.underlying22
  a53 := Tryz.isAgg22
  z53 := Tryz.sizeOf22
  v53 := Tryz.zeroValue22 }
theorem sh_bits_LeadingZeros64 (x : Int) (w : World) (h0 : 0 ≤ x) (h1 : x ≤ 18446744073709551615) :
    Calls Tryz.prog 183 #[.int .u64 x] w fun e w' => e = .returned (.int .i64 (64 - (Lib.bitLen x.toNat : Int))) ∧ w' = w := Any.bits_LeadingZeros64 sh_lays134 x w h0 h1
open Go.RowKit
theorem bitLen_8 (x : Nat) (h0 : 128 ≤ x) (h1 : x < 256) : Lib.bitLen x = 8 := by
  have e : x / 2 ^ 7 = 1 := by omega
  rw [Lib.bitLen_shift 7 x h0 (by omega), e]
  decide
end Go.Proofs.YtdhgdachchhflaaGreatDoor
namespace Go.Proofs.YtdhgdachchhflaaGreatDoor
open Go.RowKit Go.Dig
set_option maxRecDepth 100000
set_option maxHeartbeats 1000000 in
theorem mul64_any (x y : Nat) (hx : x < 18446744073709551616) (hy : y < 18446744073709551616) (w : World) :
    Calls Tryz.prog 185 #[.int .u64 x, .int .u64 y] w fun e w' => e = .returned (.tuple #[.int .u64 ((x * y / 18446744073709551616 : Nat) : Int), .int .u64 ((x * y % 18446744073709551616 : Nat) : Int)]) ∧ w' = w := by
  obtain ⟨bd, bt, bw, hhi⟩ := Lib.mul64_hi x y hx hy
  have ba := Lib.half_mul_le (a := x / 4294967296) (b := y / 4294967296) (by omega) (by omega)
  have bb := Lib.half_mul_le (a := x / 4294967296) (b := y % 4294967296) (by omega) (by omega)
  have bc := Lib.half_mul_le (a := x % 4294967296) (b := y / 4294967296) (by omega) (by omega)
  have ba' : x / 4294967296 * (y / 4294967296) < 18446744073709551616 := by omega
  have bb' : x / 4294967296 * (y % 4294967296) < 18446744073709551616 := by omega
  have bc' : x % 4294967296 * (y / 4294967296) < 18446744073709551616 := by omega
  have bh1 : x / 4294967296 * (y / 4294967296) + (x / 4294967296 * (y % 4294967296) + x % 4294967296 * (y % 4294967296) / 4294967296) / 4294967296 < 18446744073709551616 := by omega
  have bh : x / 4294967296 * (y / 4294967296) + (x / 4294967296 * (y % 4294967296) + x % 4294967296 * (y % 4294967296) / 4294967296) / 4294967296 + ((x / 4294967296 * (y % 4294967296) + x % 4294967296 * (y % 4294967296) / 4294967296) % 4294967296 + x % 4294967296 * (y / 4294967296)) / 4294967296 < 18446744073709551616 := by
    rw [hhi]
    exact Nat.div_lt_of_lt_mul (Nat.lt_of_lt_of_le (Nat.mul_lt_mul_of_lt_of_lt hx hy) (by omega))
  go_enter Tryz.func185, Tryz.ntmps185
  go_wp2
  simp only [Mul64.maskN x hx, Mul64.maskN y hy, Mul64.divN, Mul64.mulN, Mul64.addN, Mul64.wrapN _ bd, Mul64.wrapN _ bb', Mul64.wrapN _ bt, Mul64.maskN _ bt, Mul64.wrapN _ bc', Mul64.wrapN _ bw, Mul64.wrapN _ ba', Mul64.wrapN _ bh1, Mul64.wrapN _ bh, Mul64.wrapM (x * y)]
  rw [hhi]
  go_ret2
  exact ⟨rfl, rfl⟩
set_option maxHeartbeats 400000 in
theorem bitsMul_any (x y : Nat) (hx : x < 18446744073709551616) (hy : y < 18446744073709551616) (w : World) :
    Calls Tryz.prog 175 #[.int .u64 x, .int .u64 y] w fun e w' => e = .returned (.tuple #[.int .u64 ((x * y / 18446744073709551616 : Nat) : Int), .int .u64 ((x * y % 18446744073709551616 : Nat) : Int)]) ∧ w' = w := by
  have c64 := mul64_any x y hx hy w
  generalize x * y / 18446744073709551616 = u at *
  generalize x * y % 18446744073709551616 = v at *
  go_enter Tryz.func175, Tryz.ntmps175
  go_wp2_with (go_at_call 185; refine c64.mono ?_; rintro e w' ⟨rfl, rfl⟩)
  go_ret2
  exact ⟨rfl, rfl⟩
theorem muladd_hi (p c : Nat) : p / 18446744073709551616 + (p % 18446744073709551616 + c) / 18446744073709551616 = (p + c) / 18446744073709551616 := by omega
theorem muladd_lo (p c : Nat) : (p % 18446744073709551616 + c) % 18446744073709551616 = (p + c) % 18446744073709551616 := by omega
theorem muladd_lt {x y c : Nat} (hx : x < 18446744073709551616) (hy : y < 18446744073709551616) (hc : c < 18446744073709551616) : (x * y + c) / 18446744073709551616 < 18446744073709551616 := by
  apply Nat.div_lt_of_lt_mul
  have h : x * y ≤ 18446744073709551615 * 18446744073709551615 := Nat.mul_le_mul (by omega) (by omega)
  omega
set_option maxHeartbeats 400000 in
theorem mulAddWWW_any (x y c : Nat) (hx : x < 18446744073709551616) (hy : y < 18446744073709551616) (hc : c < 18446744073709551616) (w : World) :
    Calls Tryz.prog 179 #[.int .u64 x, .int .u64 y, .int .u64 c] w fun e w' => ∃ u v : Nat, e = .returned (.tuple #[.int .u64 u, .int .u64 v]) ∧ Hid (u = (x * y + c) / 18446744073709551616) ∧ Hid (v = (x * y + c) % 18446744073709551616) ∧ w' = w := by
  have c1 := bitsMul_any x y hx hy w
  have c2 := bitsAdd_any (x * y % 18446744073709551616) c 0 (by omega) w
  rw [Nat.add_zero] at c2
  have H1 := muladd_hi (x * y) c
  have H2 := muladd_lo (x * y) c
  have H3 := muladd_lt hx hy hc
  generalize (x * y + c) / 18446744073709551616 = U at *
  generalize (x * y + c) % 18446744073709551616 = V at *
  rw [H2] at c2
  generalize x * y / 18446744073709551616 = u at *
  generalize x * y % 18446744073709551616 = v at *
  generalize (v + c) / 18446744073709551616 = d at *
  have hs : ((u : Int) + (d : Int)) = ((U : Nat) : Int) := by omega
  go_enter Tryz.func179, Tryz.ntmps179
  go_wp2_with (first | (go_at_call 175; refine c1.mono ?_; rintro e w' ⟨rfl, rfl⟩) | (go_at_call 111; refine c2.mono ?_; rintro e w' ⟨rfl, rfl⟩))

  go_ret2
  exact ⟨_, _, rfl, hid rfl, hid rfl, rfl⟩
end Go.Proofs.YtdhgdachchhflaaGreatDoor
namespace Go.DivPl

/-- What the guess keeps from round to round: q*y1 + r = u, and q is not too small. -/
structure Guess (B y1 y0 u d q r : Nat) : Prop where
  eq : q * y1 + r = u
  big : u * B + d < (q + 1) * (y1 * B + y0)

theorem expand (B y1 y0 q r d : Nat) : (q * y1 + r) * B + d + q * y0 = q * (y1 * B + y0) + (B * r + d) := by
  rw [Nat.add_mul, Nat.mul_add, Nat.mul_assoc, Nat.mul_comm r B]; omega

theorem guess_start {B y1 y0 u d : Nat} (hy : 0 < y1) (hd : d < B) : Guess B y1 y0 u d (u / y1) (u % y1) := by
  refine ⟨by rw [Nat.mul_comm]; exact Nat.div_add_mod u y1, ?_⟩
  have h : u + 1 ≤ (u / y1 + 1) * y1 := by
    have := Nat.div_add_mod u y1
    have hm := Nat.mod_lt u hy
    rw [Nat.add_mul, Nat.mul_comm (u / y1)]; omega
  have h2 : (u + 1) * B ≤ (u / y1 + 1) * y1 * B := Nat.mul_le_mul_right B h
  rw [Nat.mul_add, ← Nat.mul_assoc]
  rw [Nat.add_mul] at h2
  omega

theorem guess_low {B y1 y0 u d q r : Nat} (g : Guess B y1 y0 u d q r) (h : q * y0 ≤ B * r + d) : q * (y1 * B + y0) ≤ u * B + d := by
  have := expand B y1 y0 q r d
  rw [g.eq] at this
  omega

theorem guess_done {B y1 y0 u d q r : Nat} (g : Guess B y1 y0 u d q r) (h : q * y0 ≤ B * r + d) : q = (u * B + d) / (y1 * B + y0) := by
  have h1 := guess_low g h
  have h2 := g.big
  have hY : 0 < y1 * B + y0 := by
    rcases Nat.eq_zero_or_pos (y1 * B + y0) with e | e
    · rw [e] at h2; simp at h2
    · exact e
  refine (Nat.div_eq_of_lt_le ?_ ?_).symm
  · omega
  · exact h2

theorem guess_step {B y1 y0 u d q r : Nat} (g : Guess B y1 y0 u d q r) (hu : u < y1 * B + y0) (hd : d < B) (h : B ≤ q ∨ B * r + d < q * y0) :
    0 < q ∧ Guess B y1 y0 u d (q - 1) (r + y1) := by
  have hlt : u * B + d < q * (y1 * B + y0) := by
    rcases h with h | h
    · have h1 : (u + 1) * B ≤ (y1 * B + y0) * B := Nat.mul_le_mul_right B hu
      have h2 : B * (y1 * B + y0) ≤ q * (y1 * B + y0) := Nat.mul_le_mul_right _ h
      rw [Nat.mul_comm B] at h2
      rw [Nat.add_mul] at h1
      omega
    · have := expand B y1 y0 q r d
      rw [g.eq] at this
      omega
  have hq : 0 < q := by
    rcases Nat.eq_zero_or_pos q with e | e
    · rw [e] at hlt; simp at hlt
    · exact e
  refine ⟨hq, ?_, ?_⟩
  · have := g.eq
    obtain ⟨k, rfl⟩ : ∃ k, q = k + 1 := ⟨q - 1, by omega⟩
    rw [Nat.add_mul] at this
    simp; omega
  · rw [Nat.sub_add_cancel hq]; exact hlt

theorem guess_small {B y1 y0 u d q r : Nat} (g : Guess B y1 y0 u d q r) (hu : u < y1 * B + y0) (h0 : y0 < B) (hr : B ≤ r) : q < B := by
  have := g.eq
  rcases Nat.lt_or_ge q B with h | h
  · exact h
  · have : B * y1 ≤ q * y1 := Nat.mul_le_mul_right y1 h
    rw [Nat.mul_comm B] at this
    omega

theorem guess_break {B y1 y0 u d q r : Nat} (g : Guess B y1 y0 u d q r) (hu : u < y1 * B + y0) (h0 : y0 < B) (hr : B ≤ r) : q * y0 ≤ B * r + d := by
  have hq := guess_small g hu h0 hr
  have h1 : q * y0 ≤ B * y0 := Nat.mul_le_mul_right y0 (Nat.le_of_lt hq)
  have h2 : B * y0 ≤ B * r := Nat.mul_le_mul_left B (by omega)
  omega

/-- Two digits of a quotient, one behind the other. -/
theorem two_digits {B Y U d1 d0 : Nat} (hY : 0 < Y) :
    (U * B + d1) / Y * B + ((U * B + d1) % Y * B + d0) / Y = (U * (B * B) + (d1 * B + d0)) / Y ∧
    ((U * B + d1) % Y * B + d0) % Y = (U * (B * B) + (d1 * B + d0)) % Y := by
  have e : U * (B * B) + (d1 * B + d0) = Y * ((U * B + d1) / Y * B) + ((U * B + d1) % Y * B + d0) := by
    have := Nat.div_add_mod (U * B + d1) Y
    have h2 : (Y * ((U * B + d1) / Y) + (U * B + d1) % Y) * B = (U * B + d1) * B := by rw [this]
    rw [Nat.add_mul, Nat.add_mul] at h2
    rw [← Nat.mul_assoc, ← Nat.mul_assoc]
    omega
  rw [e]
  constructor
  · rw [Nat.mul_add_div hY]
  · rw [Nat.mul_add_mod]


theorem guess_step' {B y1 y0 u d q r : Nat} (g : Guess B y1 y0 u d q r) (h : B * r + d < q * y0) :
    0 < q ∧ Guess B y1 y0 u d (q - 1) (r + y1) := by
  have hlt : u * B + d < q * (y1 * B + y0) := by
    have := expand B y1 y0 q r d
    rw [g.eq] at this
    omega
  have hq : 0 < q := by
    rcases Nat.eq_zero_or_pos q with e | e
    · rw [e] at hlt; simp at hlt
    · exact e
  refine ⟨hq, ?_, ?_⟩
  · have := g.eq
    obtain ⟨k, rfl⟩ : ∃ k, q = k + 1 := ⟨q - 1, by omega⟩
    rw [Nat.add_mul] at this
    simp; omega
  · rw [Nat.sub_add_cancel hq]; exact hlt

theorem guess_break' {B y0 d q r : Nat} (hq : q < B) (h0 : y0 < B) (hr : B ≤ r) : q * y0 ≤ B * r + d := by
  have h1 : q * y0 ≤ B * y0 := Nat.mul_le_mul_right y0 (Nat.le_of_lt hq)
  have h2 : B * y0 ≤ B * r := Nat.mul_le_mul_left B (by omega)
  omega

theorem digit_lt {B x1 x0 y1 : Nat} (h1 : x1 < y1) (h0 : x0 < B) : (x1 * B + x0) / y1 < B := by
  apply Nat.div_lt_of_lt_mul
  have : (x1 + 1) * B ≤ y1 * B := Nat.mul_le_mul_right B h1
  rw [Nat.add_mul] at this
  omega

/-- The first guess of a 2-by-1 division with a reciprocal m: at most 2 too small. -/
theorem recip_guess {B d m x1 x0 : Nat} (hdB : d < B) (hm : m + B = (B * B - 1) / d) (hd : 0 < d) (h1 : x1 < d) (h0 : x0 < B) :
    ((m * x1 + x0) / B + x1) * d ≤ x1 * B + x0 ∧ x1 * B + x0 < ((m * x1 + x0) / B + x1) * d + B + d := by
  have hB : 0 < B := by omega
  have hBB : 1 ≤ B * B := Nat.mul_pos hB hB
  have e1 : d * (m + B) ≤ B * B - 1 := by rw [hm]; exact Nat.mul_div_le _ _
  have e2 : B * B - 1 < d * (m + B) + d := by
    have := Nat.lt_mul_div_succ (B * B - 1) hd
    rw [← hm, Nat.mul_add, Nat.mul_one] at this
    exact this
  have eq : (m * x1 + x0) / B + x1 = (x1 * (m + B) + x0) / B := by
    rw [Nat.mul_add, Nat.mul_comm x1 m]
    rw [show m * x1 + x1 * B + x0 = m * x1 + x0 + B * x1 from by rw [Nat.mul_comm x1 B]; omega, Nat.add_mul_div_left _ _ hB]
  rw [eq]
  generalize hQ : (x1 * (m + B) + x0) / B = Q
  have q1 : Q * B ≤ x1 * (m + B) + x0 := by rw [← hQ]; exact Nat.div_mul_le_self _ _
  have q2 : x1 * (m + B) + x0 < Q * B + B := by
    have := Nat.lt_mul_div_succ (x1 * (m + B) + x0) hB
    rw [hQ, Nat.mul_comm B, Nat.add_mul, Nat.one_mul] at this
    exact this
  -- multiply by d
  have d1 : d * (Q * B) ≤ d * (x1 * (m + B) + x0) := Nat.mul_le_mul_left d q1
  have d2 : d * (x1 * (m + B) + x0) < d * (Q * B + B) := Nat.mul_lt_mul_of_pos_left q2 hd
  have ek : d * (x1 * (m + B) + x0) = x1 * (d * (m + B)) + d * x0 := by
    rw [Nat.mul_add, Nat.mul_left_comm]
  rw [ek] at d1 d2
  have d3 : x1 * (d * (m + B)) + d * x0 < d * (Q * B) + d * B := by rw [← Nat.mul_add]; exact d2
  clear d2
  have p1 : x1 * (d * (m + B)) ≤ x1 * (B * B - 1) := Nat.mul_le_mul_left x1 e1
  have p2 : x1 * (B * B) ≤ x1 * (d * (m + B) + d) := Nat.mul_le_mul_left x1 (by omega)
  have p1' : x1 * (B * B - 1) ≤ x1 * (B * B) := Nat.mul_le_mul_left x1 (by omega)
  rw [Nat.mul_add] at p2
  have s1 : d * x0 ≤ B * x0 := Nat.mul_le_mul_right x0 (by omega)
  have l1 : d * (Q * B) = (Q * d) * B := by rw [← Nat.mul_assoc, Nat.mul_comm d Q]
  have l2 : x1 * (B * B) = (x1 * B) * B := by rw [Nat.mul_assoc]
  rw [l1] at d1 d3
  rw [l2] at p1' p2
  constructor
  · apply Nat.le_of_mul_le_mul_right (c := B) _ hB
    rw [Nat.add_mul, Nat.mul_comm x0 B]; omega
  · apply Nat.lt_of_mul_lt_mul_right (a := B)
    rw [Nat.add_mul, Nat.add_mul, Nat.add_mul]
    -- x0*B + x1*d ≤ d*x0 + B*B
    obtain ⟨e, rfl⟩ : ∃ e, B = d + e := ⟨B - d, by omega⟩
    have t1 : x0 * e ≤ (d + e) * e := Nat.mul_le_mul_right e (by omega)
    have t2 : x1 * d ≤ (d + e) * d := Nat.mul_le_mul_right d (by omega)
    have t3 : x0 * (d + e) = x0 * d + x0 * e := Nat.mul_add _ _ _
    have t4 : (d + e) * (d + e) = (d + e) * d + (d + e) * e := Nat.mul_add _ _ _
    have t5 : d * x0 = x0 * d := Nat.mul_comm _ _
    omega

/-- Quotient and remainder, known by what they are. -/
theorem quot_rem {X d Q r : Nat} (h : X = Q * d + r) (hr : r < d) : Q = X / d ∧ r = X % d := by
  have hd : 0 < d := by omega
  rw [Nat.mul_comm] at h
  constructor
  · rw [h, Nat.mul_add_div hd, Nat.div_eq_of_lt hr]; omega
  · rw [h, Nat.mul_add_mod, Nat.mod_eq_of_lt hr]

theorem scaled_div {X y k : Nat} (hk : 0 < k) : X * k / (y * k) = X / y := Nat.mul_div_mul_right X y hk
theorem scaled_mod {X y k : Nat} : X * k % (y * k) = X % y * k := Nat.mul_mod_mul_right k X y

/-- The 3-by-2 guess is the quotient's digit or one more. -/
theorem three_by_two {K V2 T vl ul : Nat} (hK : 0 < K) (hvl : vl < K) (hul : ul < K) (hV : 0 < V2) (hq : T / V2 ≤ V2) :
    (T * K + ul) / (V2 * K + vl) ≤ T / V2 ∧ T / V2 ≤ (T * K + ul) / (V2 * K + vl) + 1 := by
  have hv : 0 < V2 * K + vl := by have := Nat.mul_pos hV hK; omega
  constructor
  · rw [Nat.le_div_iff_mul_le hV]
    have h1 : (T * K + ul) / (V2 * K + vl) * (V2 * K + vl) ≤ T * K + ul := Nat.div_mul_le_self _ _
    generalize (T * K + ul) / (V2 * K + vl) = q at h1 ⊢
    rw [Nat.mul_add, ← Nat.mul_assoc] at h1
    have h2 : q * V2 * K < (T + 1) * K := by rw [Nat.add_mul]; omega
    have := Nat.lt_of_mul_lt_mul_right h2
    omega
  · generalize hQ : T / V2 = Q at hq ⊢
    have hT : Q * V2 ≤ T := by rw [← hQ]; exact Nat.div_mul_le_self _ _
    rcases Nat.eq_zero_or_pos Q with e | e
    · rw [e]; exact Nat.zero_le _
    · have : Q - 1 ≤ (T * K + ul) / (V2 * K + vl) := by
        rw [Nat.le_div_iff_mul_le hv]
        obtain ⟨k, rfl⟩ : ∃ k, Q = k + 1 := ⟨Q - 1, by omega⟩
        show k * (V2 * K + vl) ≤ _
        have a1 : (k + 1) * V2 * K ≤ T * K := Nat.mul_le_mul_right K hT
        have a2 : k * vl ≤ k * K := Nat.mul_le_mul_left k (by omega)
        have a3 : k * K ≤ V2 * K := Nat.mul_le_mul_right K (by omega)
        rw [Nat.add_mul, Nat.add_mul, Nat.one_mul] at a1
        rw [Nat.mul_add, ← Nat.mul_assoc]
        omega
      exact Nat.sub_le_iff_le_add.1 this

/-- Where the leading digits are one, the greatest digit is the quotient's or one more. -/
theorem top_equal {B P y vl ul : Nat} (hB : 2 ≤ B) (hy : B ≤ 2 * y) (hvl : vl < P) (hlt : y * (P * B) + ul < (y * P + vl) * B) (_hP : 0 < P) :
    (y * (P * B) + ul) / (y * P + vl) ≤ B - 1 ∧ B - 1 ≤ (y * (P * B) + ul) / (y * P + vl) + 1 := by
  have hv : 0 < y * P + vl := by
    rcases Nat.eq_zero_or_pos (y * P + vl) with e | e
    · rw [e] at hlt; simp at hlt
    · exact e
  constructor
  · have := Nat.div_lt_of_lt_mul hlt
    omega
  · have : B - 2 ≤ (y * (P * B) + ul) / (y * P + vl) := by
      rw [Nat.le_div_iff_mul_le hv]
      obtain ⟨k, rfl⟩ : ∃ k, B = k + 2 := ⟨B - 2, by omega⟩
      show k * (y * P + vl) ≤ _
      have a1 : k * vl ≤ k * P := Nat.mul_le_mul_left k (by omega)
      have a2 : k * P ≤ (2 * y) * P := Nat.mul_le_mul_right P (by omega)
      have a3 : 2 * y * P = y * P + y * P := by rw [Nat.mul_assoc, Nat.two_mul]
      have a4 : y * (P * (k + 2)) = k * (y * P) + (y * P + y * P) := by
        rw [← Nat.mul_assoc, Nat.mul_add, Nat.mul_two, Nat.mul_comm]
      rw [Nat.mul_add, a4]
      omega
    have h2 : B - 1 = (B - 2) + 1 := by omega
    rw [h2]
    exact Nat.succ_le_succ this

end Go.DivPl
namespace Go.Proofs.YtdhgdachchhflaaGreatDoor
open Go.RowKit Go.Dig
set_option maxRecDepth 100000
theorem lz_bounds {y : Nat} (h0 : 0 < y) (h1 : y < 18446744073709551616) : ∃ s : Nat, s ≤ 63 ∧ (64 : Int) - (Lib.bitLen y : Int) = (s : Int) ∧ 9223372036854775808 ≤ y * 2 ^ s ∧ y * 2 ^ s < 18446744073709551616 := by
  obtain ⟨b1, b2, b3⟩ := Lib.bitLenAux_bounds 64 y h1 (by omega)
  have hle : Lib.bitLen y ≤ 64 := Lib.bitLen_le y 64 (by omega) h1
  have e : Lib.bitLen y = Lib.bitLenAux 64 y := rfl
  rw [← e] at b1 b2 b3
  refine ⟨64 - Lib.bitLen y, by omega, by omega, ?_, ?_⟩
  · calc 9223372036854775808 = 2 ^ (Lib.bitLen y - 1) * 2 ^ (64 - Lib.bitLen y) := by rw [← Nat.pow_add, show Lib.bitLen y - 1 + (64 - Lib.bitLen y) = 63 by omega]
      _ ≤ y * 2 ^ (64 - Lib.bitLen y) := Nat.mul_le_mul_right _ b2
  · calc y * 2 ^ (64 - Lib.bitLen y) < 2 ^ Lib.bitLen y * 2 ^ (64 - Lib.bitLen y) := Nat.mul_lt_mul_of_pos_right b3 (Nat.two_pow_pos _)
      _ = 18446744073709551616 := by rw [← Nat.pow_add, show Lib.bitLen y + (64 - Lib.bitLen y) = 64 by omega]
set_option maxHeartbeats 400000 in
theorem blen_any (y : Nat) (h1 : y < 18446744073709551616) (w : World) : Calls Tryz.prog 164 #[.int .u64 y] w fun e w' => e = .returned (.int .i64 (Lib.bitLen y)) ∧ w' = w := by
  have H := fun w => sh_bits_Len64 (y : Int) w (by omega) (by omega)
  rw [Int.toNat_natCast] at H
  generalize Lib.bitLen y = L at *
  go_enter Tryz.func164, Tryz.ntmps164
  go_wp2_with fail
  refine (H _).mono ?_
  rintro e w' ⟨rfl, rfl⟩
  go_wp2_with fail
  go_ret
  exact ⟨rfl, rfl⟩
set_option maxHeartbeats 400000 in
theorem lz_any (y s : Nat) (h1 : y < 18446744073709551616) (hs : s ≤ 63) (he : (64 : Int) - (Lib.bitLen y : Int) = (s : Int)) (w : World) : Calls Tryz.prog 147 #[.int .u64 y] w fun e w' => e = .returned (.int .i64 s) ∧ w' = w := by
  have H := fun w => blen_any y h1 w
  have hb : Lib.bitLen y ≤ 64 := Lib.bitLen_le y 64 (by omega) h1
  generalize Lib.bitLen y = L at *
  go_enter Tryz.func147, Tryz.ntmps147
  go_wp2_with fail
  refine (H _).mono ?_
  rintro e w' ⟨rfl, rfl⟩
  go_wp2_with fail
  go_ret
  exact ⟨rfl, rfl⟩
set_option maxHeartbeats 400000 in
theorem nlz_any (y s : Nat) (h1 : y < 18446744073709551616) (hs : s ≤ 63) (he : (64 : Int) - (Lib.bitLen y : Int) = (s : Int)) (w : World) : Calls Tryz.prog 124 #[.int .u64 y] w fun e w' => e = .returned (.int .u64 s) ∧ w' = w := by
  have H := fun w => lz_any y s h1 hs he w
  clear he
  go_enter Tryz.func124, Tryz.ntmps124
  go_wp2_with fail
  refine (H _).mono ?_
  rintro e w' ⟨rfl, rfl⟩
  go_wp2_with fail
  go_ret
  exact ⟨rfl, rfl⟩
/-- What the shifted operands of a division are. -/
theorem shifted_facts {hi lo y s : Nat} (hh : hi < y) (hlo : lo < 18446744073709551616) (hs : s ≤ 63) (hn2 : y * 2 ^ s < 18446744073709551616) :
    bits .or .u64 ((hi * 2 ^ s : Nat) : Int) ((lo / 2 ^ (64 - s) : Nat) : Int) = ((hi * 2 ^ s + lo / 2 ^ (64 - s) : Nat) : Int) ∧ hi * 2 ^ s + lo / 2 ^ (64 - s) < y * 2 ^ s ∧
    (hi * 2 ^ s + lo / 2 ^ (64 - s)) * 18446744073709551616 + lo * 2 ^ s % 18446744073709551616 = (hi * 18446744073709551616 + lo) * 2 ^ s := by
  have hp := Nat.two_pow_pos s
  have e64 : (18446744073709551616 : Nat) = 2 ^ (64 - s) * 2 ^ s := by rw [← Nat.pow_add, show 64 - s + s = 64 by omega]
  have hl : lo / 2 ^ (64 - s) < 2 ^ s := by
    apply Nat.div_lt_of_lt_mul
    rw [← e64]
    exact hlo
  have h1 : (hi + 1) * 2 ^ s ≤ y * 2 ^ s := Nat.mul_le_mul_right _ hh
  rw [Nat.add_mul, Nat.one_mul] at h1
  refine ⟨?_, by omega, ?_⟩
  · rw [bits_or_u64_nat _ _ (by omega) (by omega)]
    congr 1
    rw [← Nat.shiftLeft_eq, ← Nat.shiftLeft_add_eq_or_of_lt hl]
  · have e1 : lo * 2 ^ s % 18446744073709551616 = lo % 2 ^ (64 - s) * 2 ^ s := by
      rw [e64, Nat.mul_mod_mul_right]
    rw [e1]
    have e2 := Nat.div_add_mod lo (2 ^ (64 - s))
    have e3 : lo / 2 ^ (64 - s) * 18446744073709551616 = 2 ^ (64 - s) * (lo / 2 ^ (64 - s)) * 2 ^ s := by
      rw [e64, Nat.mul_comm (2 ^ (64 - s)) (lo / 2 ^ (64 - s)), Nat.mul_assoc]
    rw [Nat.add_mul, e3, Nat.add_mul, Nat.add_assoc, ← Nat.add_mul, e2, Nat.mul_right_comm]
theorem band32 (z : Nat) (h : z < 18446744073709551616) : bits .and .u64 (z : Int) 4294967295 = ((z % 4294967296 : Nat) : Int) := by
  rw [u64_and _ 4294967295 (by omega) (by omega) (by omega) (by omega), show (4294967295 : Int).toNat = 2 ^ 32 - 1 from rfl, Nat.and_two_pow_sub_one_eq_mod]
  simp
theorem wrapN' (n : Nat) (h : n < 18446744073709551616) : IntKind.u64.wrap (n : Int) = n := by rw [IntKind.wrap_u64]; omega
theorem tdivN (a b : Nat) : Int.tdiv (a : Int) (b : Int) = ((a / b : Nat) : Int) := by
  rw [Int.tdiv_eq_ediv_of_nonneg (by omega)]; simp
theorem wrap_rest {U u1 Y q R : Nat} (h : U * 4294967296 + u1 = q * Y + R) (hR : R < 18446744073709551616) :
    IntKind.u64.wrap (IntKind.u64.wrap (IntKind.u64.wrap ((U : Int) * 4294967296) + (u1 : Int)) - IntKind.u64.wrap ((q : Int) * (Y : Int))) = (R : Int) := by
  simp only [IntKind.wrap_u64]
  rw [show (q : Int) * (Y : Int) = ((q * Y : Nat) : Int) by simp]
  generalize q * Y = T at *
  omega
theorem guess_facts {U yn1 : Nat} (hU : U < 18446744073709551616) (h1 : 2147483648 ≤ yn1) (h2 : yn1 < 4294967296) :
    IntKind.u64.wrap ((U : Int) / (yn1 : Int)) = ((U / yn1 : Nat) : Int) ∧ IntKind.u64.wrap (Int.tdiv (U : Int) (yn1 : Int)) = ((U / yn1 : Nat) : Int) ∧ IntKind.u64.wrap (((U / yn1 : Nat) : Int) * (yn1 : Int)) = ((U / yn1 * yn1 : Nat) : Int) ∧
    IntKind.u64.wrap ((U : Int) - ((U / yn1 * yn1 : Nat) : Int)) = ((U % yn1 : Nat) : Int) ∧ U % yn1 < 4294967296 := by
  have hq1 : U / yn1 * yn1 ≤ U := Nat.div_mul_le_self _ _
  have hm := Nat.mod_lt U (show yn1 > 0 by omega)
  refine ⟨?_, ?_, ?_, ?_, by omega⟩
  · rw [show (U : Int) / (yn1 : Int) = ((U / yn1 : Nat) : Int) by simp, wrapN' _ (Nat.lt_of_le_of_lt (Nat.div_le_self _ _) hU)]
  · rw [tdivN, wrapN' _ (Nat.lt_of_le_of_lt (Nat.div_le_self _ _) hU)]
  · rw [show ((U / yn1 : Nat) : Int) * (yn1 : Int) = ((U / yn1 * yn1 : Nat) : Int) by simp, wrapN' _ (by omega)]
  · have := Nat.div_add_mod U yn1
    rw [Nat.mul_comm] at this
    rw [show (U : Int) - ((U / yn1 * yn1 : Nat) : Int) = ((U % yn1 : Nat) : Int) by omega, wrapN' _ (by omega)]
theorem guess_top {U Y yn1 yn0 : Nat} (hU : U < Y) (hY : Y = yn1 * 4294967296 + yn0) (h1 : 2147483648 ≤ yn1) (h0 : yn0 < 4294967296) : U / yn1 ≤ 4294967297 := by
  have : U / yn1 < 4294967298 := Nat.div_lt_of_lt_mul (by
    have : yn1 * 4294967298 = yn1 * 4294967296 + yn1 * 2 := by rw [← Nat.mul_add]
    omega)
  omega
set_option maxHeartbeats 1000000 in
theorem div64_any (hi lo y s : Nat) (hh : hi < y) (hlo : lo < 18446744073709551616) (hy : y < 18446744073709551616) (hs : s ≤ 63) (he : (64 : Int) - (Lib.bitLen y : Int) = (s : Int)) (hn1 : 9223372036854775808 ≤ y * 2 ^ s) (hn2 : y * 2 ^ s < 18446744073709551616) (w : World) :
    Calls Tryz.prog 174 #[.int .u64 hi, .int .u64 lo, .int .u64 y] w fun e w' => e = .returned (.tuple #[.int .u64 (((hi * 18446744073709551616 + lo) / y : Nat) : Int), .int .u64 (((hi * 18446744073709551616 + lo) % y : Nat) : Int)]) ∧ ∃ k, w' = w.drewN k := by
  have H := fun w => sh_bits_LeadingZeros64 (y : Int) w (by omega) (by omega)
  rw [Int.toNat_natCast, he] at H
  have y0 : ((y : Int) == 0) = false := by simp; omega
  have yn : (y : Int) ≠ 0 := by omega
  have yn2 : ¬ y = 0 := by omega
  have yd : decide (y = 0) = false := decide_eq_false (by omega)
  rcases Nat.eq_zero_or_pos hi with h0 | h0
  · subst h0
    rw [Nat.zero_mul, Nat.zero_add]
    have HY := hid hh
    clear hh he H hn1 hn2
    have t1 : IntKind.u64.wrap (Int.tdiv (lo : Int) (y : Int)) = ((lo / y : Nat) : Int) := by
      rw [tdivN, wrapN' _ (Nat.lt_of_le_of_lt (Nat.div_le_self _ _) hlo)]
    have t1' : IntKind.u64.wrap ((lo : Int) / (y : Int)) = ((lo / y : Nat) : Int) := by
      rw [show (lo : Int) / (y : Int) = ((lo / y : Nat) : Int) by simp, wrapN' _ (Nat.lt_of_le_of_lt (Nat.div_le_self _ _) hlo)]
    have t2 : Int.tmod (lo : Int) (y : Int) = ((lo % y : Nat) : Int) := by
      rw [Int.tmod_eq_emod_of_nonneg (by omega)]; simp
    have t3 := wrapN' (lo % y) (Nat.lt_of_le_of_lt (Nat.mod_le _ _) hlo)
    generalize lo / y = q at *
    generalize lo % y = r at *
    go_enter Tryz.func174, Tryz.ntmps174
    go_wp2_with fail
    go_quiet (fail)
    go_wp2_with fail
    go_ret2
    exact ⟨rfl, _, rfl⟩
  · have hi0 : ((hi : Int) == 0) = false := by simp; omega
    have y1 : decide ((y : Int) ≤ hi) = false := decide_eq_false (by omega)
    obtain ⟨QQ, HQQ⟩ : ∃ QQ, Hid (QQ = (hi * 18446744073709551616 + lo) / y) := ⟨_, rfl⟩
    obtain ⟨RR, HRR⟩ : ∃ RR, Hid (RR = (hi * 18446744073709551616 + lo) % y) := ⟨_, rfl⟩
    rw [← HQQ.out, ← HRR.out]
    obtain ⟨g1, g2, g3⟩ := shifted_facts hh hlo hs hn2
    obtain ⟨Y, hY⟩ : ∃ Y, Y = y * 2 ^ s := ⟨_, rfl⟩
    obtain ⟨A, hA⟩ : ∃ A, A = hi * 2 ^ s := ⟨_, rfl⟩
    obtain ⟨C, hC⟩ : ∃ C, C = lo / 2 ^ (64 - s) := ⟨_, rfl⟩
    obtain ⟨V, hV⟩ : ∃ V, V = lo * 2 ^ s % 18446744073709551616 := ⟨_, rfl⟩
    have f1 : IntKind.u64.wrap ((y : Int) * 2 ^ s) = (Y : Int) := by rw [hY, wrap_mul, Nat.mod_eq_of_lt hn2]
    have f4 : IntKind.u64.wrap ((hi : Int) * 2 ^ s) = (A : Int) := by rw [hA, wrap_mul, Nat.mod_eq_of_lt (by omega)]
    have f5 : (lo : Int) / 2 ^ (64 - s) = (C : Int) := by rw [hC]; simp
    have f7 : IntKind.u64.wrap ((lo : Int) * 2 ^ s) = (V : Int) := by rw [hV, wrap_mul]
    rw [← hY] at hn1 hn2 g2
    rw [← hA, ← hC] at g1 g2 g3
    rw [← hV] at g3
    have hV2 : V < 18446744073709551616 := by rw [hV]; exact Nat.mod_lt _ (by omega)
    have HG3 := hid g3
    have HYs := hid hY
    clear hY hA hC hV g3
    obtain ⟨U, hU⟩ : ∃ U, U = A + C := ⟨_, rfl⟩
    rw [← hU] at g1 g2 HG3
    have HU := hid hU
    clear hU
    obtain ⟨yn1, hyn1⟩ : ∃ n, n = Y / 4294967296 := ⟨_, rfl⟩
    obtain ⟨yn0, hyn0⟩ : ∃ n, n = Y % 4294967296 := ⟨_, rfl⟩
    obtain ⟨u1, hu1⟩ : ∃ n, n = V / 4294967296 := ⟨_, rfl⟩
    obtain ⟨u0, hu0⟩ : ∃ n, n = V % 4294967296 := ⟨_, rfl⟩
    have f2 : (Y : Int) / 4294967296 = (yn1 : Int) := by omega
    have f3 : bits .and .u64 (Y : Int) 4294967295 = (yn0 : Int) := by rw [hyn0, band32 Y hn2]
    have f8 : (V : Int) / 4294967296 = (u1 : Int) := by omega
    have f9 : bits .and .u64 (V : Int) 4294967295 = (u0 : Int) := by rw [hu0, band32 V hV2]
    have b1 : 2147483648 ≤ yn1 ∧ yn1 < 4294967296 := by omega
    have b0 : yn0 < 4294967296 := by omega
    have bu1 : u1 < 4294967296 := by omega
    have bu0 : u0 < 4294967296 := by omega
    have hYe : Y = yn1 * 4294967296 + yn0 := by omega
    have hVe : V = u1 * 4294967296 + u0 := by omega
    have HYe := hid hYe
    have HVe := hid hVe
    clear hyn1 hyn0 hu1 hu0 hVe
    have hq1 : U / yn1 * yn1 ≤ U := Nat.div_mul_le_self _ _
    have f10 : IntKind.u64.wrap ((U : Int) / (yn1 : Int)) = ((U / yn1 : Nat) : Int) := by
      rw [show (U : Int) / (yn1 : Int) = ((U / yn1 : Nat) : Int) by simp, wrapN' _ (Nat.lt_of_le_of_lt (Nat.div_le_self _ _) (by omega))]
    have f11 : IntKind.u64.wrap (((U / yn1 : Nat) : Int) * (yn1 : Int)) = ((U / yn1 * yn1 : Nat) : Int) := by
      rw [show ((U / yn1 : Nat) : Int) * (yn1 : Int) = ((U / yn1 * yn1 : Nat) : Int) by simp, wrapN' _ (by omega)]
    have f12 : IntKind.u64.wrap ((U : Int) - ((U / yn1 * yn1 : Nat) : Int)) = ((U % yn1 : Nat) : Int) := by
      have := Nat.div_add_mod U yn1
      rw [Nat.mul_comm] at this
      rw [show (U : Int) - ((U / yn1 * yn1 : Nat) : Int) = ((U % yn1 : Nat) : Int) by omega, wrapN' _ (by have := Nat.mod_lt U (show yn1 > 0 by omega); omega)]
    have HG0 : Hid (Go.DivPl.Guess 4294967296 yn1 yn0 U u1 (U / yn1) (U % yn1)) := Go.DivPl.guess_start (by omega) bu1
    have hr0 : U % yn1 < 4294967296 := by have := Nat.mod_lt U (show yn1 > 0 by omega); omega
    have hq0 : U / yn1 ≤ 4294967297 := by
      have : U / yn1 < 4294967298 := Nat.div_lt_of_lt_mul (by
        have : yn1 * 4294967298 = yn1 * 4294967296 + yn1 * 2 := by rw [← Nat.mul_add]
        omega)
      omega
    generalize U / yn1 * yn1 = P at *
    generalize U / yn1 = q0 at *
    generalize U % yn1 = r0 at *
    have yp : (yn1 : Int) ≠ 0 := by omega
    have yp2 : ¬ yn1 = 0 := by omega
    have hU2 : U < 18446744073709551616 := by omega
    clear hq1 hYe
    go_enter Tryz.func174, Tryz.ntmps174
    go_upto_block 0 with (go_at_call 183; refine (H _).mono ?_; rintro e w' ⟨rfl, rfl⟩)
    clear f1 f2 f3 f4 f5 f7 f8 f9 f10 f11 f12
    go_cut [15, 16] (fun v15 v16 wx => ∃ q r : Nat, v15 = .int .u64 q ∧ v16 = .int .u64 r ∧ Hid (Go.DivPl.Guess 4294967296 yn1 yn0 U u1 q r) ∧ Hid (q * yn0 ≤ 4294967296 * r + u1) ∧ wx = w')
    case first =>
      go_wp2_with fail
      go_loopw [15, 16] (fun v15 v16 wr => ∃ q r : Nat, v15 = .int .u64 q ∧ v16 = .int .u64 r ∧ q ≤ 4294967297 ∧ r < 4294967296 ∧ Hid (Go.DivPl.Guess 4294967296 yn1 yn0 U u1 q r) ∧ wr = w') (fun v15 _ _ => (intOf v15).toNat)
      case atStart => exact ⟨q0, r0, rfl, rfl, hq0, hr0, HG0, rfl⟩
      case round =>
        obtain ⟨q, r, rfl, rfl, hq, hr, HG, rfl⟩ := hrel
        have hcase : 4294967296 ≤ q ∨ (q < 4294967296 ∧ 4294967296 * r + u1 < q * yn0) ∨ (q < 4294967296 ∧ q * yn0 ≤ 4294967296 * r + u1) := by omega
        have HM : Hid (∃ M, M = q * yn0 ∧ (q < 4294967296 → M < 18446744073709551616)) := ⟨_, rfl, fun h => by
          have := Nat.mul_le_mul (show q ≤ 4294967295 by omega) (show yn0 ≤ 4294967295 by omega); omega⟩
        obtain ⟨M, hM, hM2⟩ := HM.out
        rw [← hM] at hcase
        have hM3 := hid hM
        clear hM HM
        have p2 : IntKind.u64.wrap (4294967296 * (r : Int)) = 4294967296 * (r : Int) := by rw [IntKind.wrap_u64]; omega
        have p3 : IntKind.u64.wrap (4294967296 * (r : Int) + (u1 : Int)) = 4294967296 * (r : Int) + (u1 : Int) := by rw [IntKind.wrap_u64]; omega
        rcases hcase with hb | ⟨hb, hb2⟩ | ⟨hb, hb2⟩
        · have c1 : decide ((4294967296 : Int) ≤ (q : Int)) = true := decide_eq_true (by omega)
          obtain ⟨hp, G'⟩ := Go.DivPl.guess_step HG.out (by rw [← HYe.out]; exact g2) bu1 (.inl hb)
          have HG' := hid G'
          clear G'
          by_cases hbr : 4294967296 ≤ r + yn1
          · have c2 : decide ((4294967296 : Int) ≤ (r : Int) + (yn1 : Int)) = true := decide_eq_true (by omega)
            go_wp2_with fail
            go_meet
            exact ⟨q - 1, r + yn1, by go_num, by go_num, HG', Go.DivPl.guess_break HG'.out (by rw [← HYe.out]; exact g2) b0 hbr, rfl⟩
          · have c2 : decide ((4294967296 : Int) ≤ (r : Int) + (yn1 : Int)) = false := decide_eq_false (by omega)
            go_wp2_with fail
            refine ⟨⟨q - 1, r + yn1, by go_num, by go_num, by omega, by omega, HG', trivial⟩, by simp [intOf]; omega⟩
        · have c1 : decide ((4294967296 : Int) ≤ (q : Int)) = false := decide_eq_false (by omega)
          have p1 : IntKind.u64.wrap ((q : Int) * (yn0 : Int)) = (M : Int) := by rw [hM3.out, show (q : Int) * (yn0 : Int) = ((q * yn0 : Nat) : Int) by simp, wrapN' _ (by rw [← hM3.out]; exact hM2 hb)]
          have c3 : decide (4294967296 * (r : Int) + (u1 : Int) < (M : Int)) = true := decide_eq_true (by omega)
          obtain ⟨hp, G'⟩ := Go.DivPl.guess_step HG.out (by rw [← HYe.out]; exact g2) bu1 (.inr (by rw [← hM3.out]; exact hb2))
          have HG' := hid G'
          clear G' hM2
          by_cases hbr : 4294967296 ≤ r + yn1
          · have c2 : decide ((4294967296 : Int) ≤ (r : Int) + (yn1 : Int)) = true := decide_eq_true (by omega)
            go_wp2_with fail
            go_meet
            exact ⟨q - 1, r + yn1, by go_num, by go_num, HG', Go.DivPl.guess_break HG'.out (by rw [← HYe.out]; exact g2) b0 hbr, rfl⟩
          · have c2 : decide ((4294967296 : Int) ≤ (r : Int) + (yn1 : Int)) = false := decide_eq_false (by omega)
            go_wp2_with fail
            refine ⟨⟨q - 1, r + yn1, by go_num, by go_num, by omega, by omega, HG', trivial⟩, by simp [intOf]; omega⟩
        · have c1 : decide ((4294967296 : Int) ≤ (q : Int)) = false := decide_eq_false (by omega)
          have p1 : IntKind.u64.wrap ((q : Int) * (yn0 : Int)) = (M : Int) := by rw [hM3.out, show (q : Int) * (yn0 : Int) = ((q * yn0 : Nat) : Int) by simp, wrapN' _ (by rw [← hM3.out]; exact hM2 hb)]
          have c3 : decide (4294967296 * (r : Int) + (u1 : Int) < (M : Int)) = false := decide_eq_false (by omega)
          clear hM2
          go_wp2_with fail
          go_meet
          exact ⟨q, r, rfl, rfl, HG, hid (by rw [← hM3.out]; exact hb2), rfl⟩
    case rest =>
      obtain ⟨q, r, rfl, rfl, HG, HL, rfl⟩ := hcut
      have hqd := Go.DivPl.guess_done HG.out HL.out
      rw [← HYe.out] at hqd
      have HQ := hid hqd
      obtain ⟨R, hR⟩ : ∃ R, R = (U * 4294967296 + u1) % Y := ⟨_, rfl⟩
      have hRY : R < Y := by rw [hR]; exact Nat.mod_lt _ (by omega)
      have hsum : U * 4294967296 + u1 = q * Y + R := by
        have := Nat.div_add_mod (U * 4294967296 + u1) Y
        rw [← hqd, ← hR, Nat.mul_comm] at this
        exact this.symm
      have m1 := wrap_rest hsum (by omega)
      have HR := hid hR
      obtain ⟨m2, m2', m3, m4, hr2⟩ := guess_facts (show R < 18446744073709551616 by omega) b1.1 b1.2
      have hq2 := guess_top hRY HYe.out b1.1 b0
      have HG2 : Hid (Go.DivPl.Guess 4294967296 yn1 yn0 R u0 (R / yn1) (R % yn1)) := Go.DivPl.guess_start (by omega) bu0
      generalize R / yn1 * yn1 = P2 at *
      generalize R / yn1 = q2 at *
      generalize R % yn1 = r2 at *
      clear hqd hR hsum HG HL
      go_upto_block 2 with fail
      clear m1 m2 m2' m3 m4
      go_cut [18, 16] (fun v18 v16 wx => ∃ q r : Nat, v18 = .int .u64 q ∧ v16 = .int .u64 r ∧ Hid (Go.DivPl.Guess 4294967296 yn1 yn0 R u0 q r) ∧ Hid (q * yn0 ≤ 4294967296 * r + u0) ∧ wx = wc)
      case first =>
        go_wp2_with fail
        go_loopw [18, 16] (fun v18 v16 wr => ∃ q r : Nat, v18 = .int .u64 q ∧ v16 = .int .u64 r ∧ q ≤ 4294967297 ∧ r < 4294967296 ∧ Hid (Go.DivPl.Guess 4294967296 yn1 yn0 R u0 q r) ∧ wr = wc) (fun v18 _ _ => (intOf v18).toNat)
        case atStart => exact ⟨q2, r2, rfl, rfl, hq2, hr2, HG2, rfl⟩
        case round =>
          obtain ⟨q, r, rfl, rfl, hq, hr, HG, rfl⟩ := hrel
          have hcase : 4294967296 ≤ q ∨ (q < 4294967296 ∧ 4294967296 * r + u0 < q * yn0) ∨ (q < 4294967296 ∧ q * yn0 ≤ 4294967296 * r + u0) := by omega
          have HM : Hid (∃ M, M = q * yn0 ∧ (q < 4294967296 → M < 18446744073709551616)) := ⟨_, rfl, fun h => by
            have := Nat.mul_le_mul (show q ≤ 4294967295 by omega) (show yn0 ≤ 4294967295 by omega); omega⟩
          obtain ⟨M, hM, hM2⟩ := HM.out
          rw [← hM] at hcase
          have hM3 := hid hM
          clear hM HM
          have p2 : IntKind.u64.wrap (4294967296 * (r : Int)) = 4294967296 * (r : Int) := by rw [IntKind.wrap_u64]; omega
          have p3 : IntKind.u64.wrap (4294967296 * (r : Int) + (u0 : Int)) = 4294967296 * (r : Int) + (u0 : Int) := by rw [IntKind.wrap_u64]; omega
          rcases hcase with hb | ⟨hb, hb2⟩ | ⟨hb, hb2⟩
          · have c1 : decide ((4294967296 : Int) ≤ (q : Int)) = true := decide_eq_true (by omega)
            obtain ⟨hp, G'⟩ := Go.DivPl.guess_step HG.out (by rw [← HYe.out]; exact hRY) bu0 (.inl hb)
            have HG' := hid G'
            clear G'
            by_cases hbr : 4294967296 ≤ r + yn1
            · have c2 : decide ((4294967296 : Int) ≤ (r : Int) + (yn1 : Int)) = true := decide_eq_true (by omega)
              go_wp2_with fail
              go_meet
              exact ⟨q - 1, r + yn1, by go_num, by go_num, HG', Go.DivPl.guess_break HG'.out (by rw [← HYe.out]; exact hRY) b0 hbr, rfl⟩
            · have c2 : decide ((4294967296 : Int) ≤ (r : Int) + (yn1 : Int)) = false := decide_eq_false (by omega)
              go_wp2_with fail
              refine ⟨⟨q - 1, r + yn1, by go_num, by go_num, by omega, by omega, HG', trivial⟩, by simp [intOf]; omega⟩
          · have c1 : decide ((4294967296 : Int) ≤ (q : Int)) = false := decide_eq_false (by omega)
            have p1 : IntKind.u64.wrap ((q : Int) * (yn0 : Int)) = (M : Int) := by rw [hM3.out, show (q : Int) * (yn0 : Int) = ((q * yn0 : Nat) : Int) by simp, wrapN' _ (by rw [← hM3.out]; exact hM2 hb)]
            have c3 : decide (4294967296 * (r : Int) + (u0 : Int) < (M : Int)) = true := decide_eq_true (by omega)
            obtain ⟨hp, G'⟩ := Go.DivPl.guess_step HG.out (by rw [← HYe.out]; exact hRY) bu0 (.inr (by rw [← hM3.out]; exact hb2))
            have HG' := hid G'
            clear G' hM2
            by_cases hbr : 4294967296 ≤ r + yn1
            · have c2 : decide ((4294967296 : Int) ≤ (r : Int) + (yn1 : Int)) = true := decide_eq_true (by omega)
              go_wp2_with fail
              go_meet
              exact ⟨q - 1, r + yn1, by go_num, by go_num, HG', Go.DivPl.guess_break HG'.out (by rw [← HYe.out]; exact hRY) b0 hbr, rfl⟩
            · have c2 : decide ((4294967296 : Int) ≤ (r : Int) + (yn1 : Int)) = false := decide_eq_false (by omega)
              go_wp2_with fail
              refine ⟨⟨q - 1, r + yn1, by go_num, by go_num, by omega, by omega, HG', trivial⟩, by simp [intOf]; omega⟩
          · have c1 : decide ((4294967296 : Int) ≤ (q : Int)) = false := decide_eq_false (by omega)
            have p1 : IntKind.u64.wrap ((q : Int) * (yn0 : Int)) = (M : Int) := by rw [hM3.out, show (q : Int) * (yn0 : Int) = ((q * yn0 : Nat) : Int) by simp, wrapN' _ (by rw [← hM3.out]; exact hM2 hb)]
            have c3 : decide (4294967296 * (r : Int) + (u0 : Int) < (M : Int)) = false := decide_eq_false (by omega)
            clear hM2
            go_wp2_with fail
            go_meet
            exact ⟨q, r, rfl, rfl, HG, hid (by rw [← hM3.out]; exact hb2), rfl⟩
      case rest =>
        obtain ⟨q', r', rfl, rfl, HG', HL', rfl⟩ := hcut
        have hqd := Go.DivPl.guess_done HG'.out HL'.out
        rw [← HYe.out] at hqd
        obtain ⟨R2, hR2⟩ : ∃ R2, R2 = (R * 4294967296 + u0) % Y := ⟨_, rfl⟩
        have hR2Y : R2 < Y := by rw [hR2]; exact Nat.mod_lt _ (by omega)
        have hsum : R * 4294967296 + u0 = q' * Y + R2 := by
          have := Nat.div_add_mod (R * 4294967296 + u0) Y
          rw [← hqd, ← hR2, Nat.mul_comm] at this
          exact this.symm
        have m1 := wrap_rest hsum (by omega)
        obtain ⟨t1, t2⟩ := Go.DivPl.two_digits (B := 4294967296) (U := U) (d1 := u1) (d0 := u0) (show 0 < Y by omega)
        rw [← HR.out, ← HQ.out, ← hqd, show U * (4294967296 * 4294967296) + (u1 * 4294967296 + u0) = (hi * 18446744073709551616 + lo) * 2 ^ s by rw [← HG3.out, HVe.out], HYs.out, Go.DivPl.scaled_div (Nat.two_pow_pos s)] at t1
        rw [← HR.out, ← hR2, show U * (4294967296 * 4294967296) + (u1 * 4294967296 + u0) = (hi * 18446744073709551616 + lo) * 2 ^ s by rw [← HG3.out, HVe.out], HYs.out, Go.DivPl.scaled_mod] at t2
        have hX : (hi * 18446744073709551616 + lo) / y < 18446744073709551616 := Nat.div_lt_of_lt_mul (by
          have := Nat.mul_le_mul_right 18446744073709551616 (Nat.succ_le_of_lt hh)
          rw [Nat.succ_mul] at this
          omega)
        have m5 : IntKind.u64.wrap (IntKind.u64.wrap ((q : Int) * 4294967296) + (q' : Int)) = (QQ : Int) := by
          rw [HQQ.out, ← t1]
          rw [← t1] at hX
          simp only [IntKind.wrap_u64]
          omega
        have m6 : (R2 : Int) / 2 ^ s = (RR : Int) := by
          rw [HRR.out, t2, show (((hi * 18446744073709551616 + lo) % y * 2 ^ s : Nat) : Int) / 2 ^ s = (((hi * 18446744073709551616 + lo) % y * 2 ^ s / 2 ^ s : Nat) : Int) by simp, Nat.mul_div_cancel _ (Nat.two_pow_pos s)]
        clear t1 t2 hqd hR2 hsum HG' HL' hX
        go_wp2_with fail
        go_ret2
        exact ⟨rfl, 0, rfl⟩
end Go.Proofs.YtdhgdachchhflaaGreatDoor
