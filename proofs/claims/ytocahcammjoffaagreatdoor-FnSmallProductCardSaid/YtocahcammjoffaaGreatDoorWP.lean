/- Walks and lemmas for the laws of this seat. -/
import Derived.Test.YtocahcammjoffaaGreatDoorN5
import Derived.Shelf.Bits.Mul64
import Derived.Test.YtocahcammjoffaaGreatDoorS10
import Derived.Deep.RegionHeld
import Derived.Test.YtocahcammjoffaaGreatDoorN10
import Derived.Test.YtocahcammjoffaaGreatDoorN13h
import Derived.LaidEqlPtr
import Derived.Deep.RegionWith
import Derived.Test.YtocahcammjoffaaGreatDoorWS
import Derived.Test.YtocahcammjoffaaGreatDoorB3
namespace Go.Proofs.YtocahcammjoffaaGreatDoor
open Go.RowKit Go.Dig
set_option maxRecDepth 100000
set_option maxHeartbeats 1000000 in
theorem mul64_any (x y : Nat) (hx : x < 18446744073709551616) (hy : y < 18446744073709551616) (w : World) :
    Calls Tryz.prog 337 #[.int .u64 x, .int .u64 y] w fun e w' => e = .returned (.tuple #[.int .u64 ((x * y / 18446744073709551616 : Nat) : Int), .int .u64 ((x * y % 18446744073709551616 : Nat) : Int)]) ∧ w' = w := by
  obtain ⟨bd, bt, bw, hhi⟩ := Lib.mul64_hi x y hx hy
  have ba := Lib.half_mul_le (a := x / 4294967296) (b := y / 4294967296) (by omega) (by omega)
  have bb := Lib.half_mul_le (a := x / 4294967296) (b := y % 4294967296) (by omega) (by omega)
  have bc := Lib.half_mul_le (a := x % 4294967296) (b := y / 4294967296) (by omega) (by omega)
  have ba' : x / 4294967296 * (y / 4294967296) < 18446744073709551616 := by omega
  have bb' : x / 4294967296 * (y % 4294967296) < 18446744073709551616 := by omega
  have bc' : x % 4294967296 * (y / 4294967296) < 18446744073709551616 := by omega
  have bh1 : x / 4294967296 * (y / 4294967296) + (x / 4294967296 * (y % 4294967296) + x % 4294967296 * (y % 4294967296) / 4294967296) / 4294967296 < 18446744073709551616 := by omega
  have bh : x / 4294967296 * (y / 4294967296) + (x / 4294967296 * (y % 4294967296) + x % 4294967296 * (y % 4294967296) / 4294967296) / 4294967296 + ((x / 4294967296 * (y % 4294967296) + x % 4294967296 * (y % 4294967296) / 4294967296) % 4294967296 + x % 4294967296 * (y / 4294967296)) / 4294967296 < 18446744073709551616 := by
    rw [hhi]
    exact Nat.div_lt_of_lt_mul (Nat.lt_of_lt_of_le (Nat.mul_lt_mul_of_lt_of_lt hx hy) (by omega))
  go_enter Tryz.func337, Tryz.ntmps337
  go_wp2
  simp only [Mul64.maskN x hx, Mul64.maskN y hy, Mul64.divN, Mul64.mulN, Mul64.addN, Mul64.wrapN _ bd, Mul64.wrapN _ bb', Mul64.wrapN _ bt, Mul64.maskN _ bt, Mul64.wrapN _ bc', Mul64.wrapN _ bw, Mul64.wrapN _ ba', Mul64.wrapN _ bh1, Mul64.wrapN _ bh, Mul64.wrapM (x * y)]
  rw [hhi]
  go_ret2
  exact ⟨rfl, rfl⟩
set_option maxHeartbeats 400000 in
theorem bitsMul_any (x y : Nat) (hx : x < 18446744073709551616) (hy : y < 18446744073709551616) (w : World) :
    Calls Tryz.prog 306 #[.int .u64 x, .int .u64 y] w fun e w' => e = .returned (.tuple #[.int .u64 ((x * y / 18446744073709551616 : Nat) : Int), .int .u64 ((x * y % 18446744073709551616 : Nat) : Int)]) ∧ w' = w := by
  have c64 := mul64_any x y hx hy w
  generalize x * y / 18446744073709551616 = u at *
  generalize x * y % 18446744073709551616 = v at *
  go_enter Tryz.func306, Tryz.ntmps306
  go_wp2_with (go_at_call 337; refine c64.mono ?_; rintro e w' ⟨rfl, rfl⟩)
  go_ret2
  exact ⟨rfl, rfl⟩
theorem muladd_hi (p c : Nat) : p / 18446744073709551616 + (p % 18446744073709551616 + c) / 18446744073709551616 = (p + c) / 18446744073709551616 := by omega
theorem muladd_lo (p c : Nat) : (p % 18446744073709551616 + c) % 18446744073709551616 = (p + c) % 18446744073709551616 := by omega
theorem muladd_lt {x y c : Nat} (hx : x < 18446744073709551616) (hy : y < 18446744073709551616) (hc : c < 18446744073709551616) : (x * y + c) / 18446744073709551616 < 18446744073709551616 := by
  apply Nat.div_lt_of_lt_mul
  have h : x * y ≤ 18446744073709551615 * 18446744073709551615 := Nat.mul_le_mul (by omega) (by omega)
  omega
set_option maxHeartbeats 400000 in
theorem mulAddWWW_any (x y c : Nat) (hx : x < 18446744073709551616) (hy : y < 18446744073709551616) (hc : c < 18446744073709551616) (w : World) :
    Calls Tryz.prog 351 #[.int .u64 x, .int .u64 y, .int .u64 c] w fun e w' => ∃ u v : Nat, e = .returned (.tuple #[.int .u64 u, .int .u64 v]) ∧ Hid (u = (x * y + c) / 18446744073709551616) ∧ Hid (v = (x * y + c) % 18446744073709551616) ∧ w' = w := by
  have c1 := bitsMul_any x y hx hy w
  have c2 := bitsAdd_any (x * y % 18446744073709551616) c 0 (by omega) w
  rw [Nat.add_zero] at c2
  have H1 := muladd_hi (x * y) c
  have H2 := muladd_lo (x * y) c
  have H3 := muladd_lt hx hy hc
  generalize (x * y + c) / 18446744073709551616 = U at *
  generalize (x * y + c) % 18446744073709551616 = V at *
  rw [H2] at c2
  generalize x * y / 18446744073709551616 = u at *
  generalize x * y % 18446744073709551616 = v at *
  generalize (v + c) / 18446744073709551616 = d at *
  have hs : ((u : Int) + (d : Int)) = ((U : Nat) : Int) := by omega
  go_enter Tryz.func351, Tryz.ntmps351
  go_wp2_with (first | (go_at_call 306; refine c1.mono ?_; rintro e w' ⟨rfl, rfl⟩) | (go_at_call 291; refine c2.mono ?_; rintro e w' ⟨rfl, rfl⟩))

  go_ret2
  exact ⟨_, _, rfl, hid rfl, hid rfl, rfl⟩
end Go.Proofs.YtocahcammjoffaaGreatDoor
namespace Go.Proofs.YtocahcammjoffaaGreatDoor
open Go.RowKit Go.Dig
set_option maxRecDepth 100000
theorem mulvww_step {B : Nat} {l xs : List Nat} {i c x y r : Nat} (hx : xs.getD i 0 = x) (hxl : i < xs.length) (hl : i < l.length)
    (h : val B (l.take i) + c * B ^ i = val B (xs.take i) * y + r) :
    val B ((l.set i ((x * y + c) % B)).take (i + 1)) + (x * y + c) / B * B ^ (i + 1) = val B (xs.take (i + 1)) * y + r := by
  have e : ∀ (m : List Nat), i < m.length → val B (m.take (i + 1)) = val B (m.take i) + m.getD i 0 * B ^ i := by
    intro m hm
    rw [List.take_add_one, List.getElem?_eq_getElem hm, Option.toList_some, val_append, List.length_take, Nat.min_eq_left (by omega), List.getD_eq_getElem?_getD, List.getElem?_eq_getElem hm]
    simp [val, Nat.mul_comm]
  rw [e _ (by rw [List.length_set]; exact hl), e xs hxl, hx]
  have e1 : (l.set i ((x * y + c) % B)).take i = l.take i := by rw [List.take_set_of_le (by omega)]
  have e2 : (l.set i ((x * y + c) % B)).getD i 0 = (x * y + c) % B := by rw [List.getD_eq_getElem?_getD, List.getElem?_set_self hl]; rfl
  rw [e1, e2]
  have e3 : (x * y + c) * B ^ i = (x * y + c) % B * B ^ i + (x * y + c) / B * B ^ (i + 1) := by
    generalize x * y + c = t
    have := Nat.div_add_mod t B
    rw [Nat.pow_succ, Nat.mul_comm (B ^ i) B, ← Nat.mul_assoc, ← Nat.add_mul, Nat.add_comm (t % B), Nat.mul_comm (t / B), this]
  have e4 : (val B (xs.take i) + x * B ^ i) * y = val B (xs.take i) * y + x * y * B ^ i := by
    rw [Nat.add_mul, Nat.mul_assoc, Nat.mul_comm (B ^ i) y, ← Nat.mul_assoc]
  rw [e4]
  rw [Nat.add_mul] at e3
  omega
set_option maxHeartbeats 1000000 in
theorem mulAddVWW_g (w0 w : World) (b cap : Nat) (vx : Value) (xs l : List Nat) (y r : Nat) (hb : Below w0.heap.size w0 w) (hB : w0.heap.size ≤ b) (hl : BlkN .u64 158 w b l) (hx : Rd .u64 w0 vx xs)
    (hlen : xs.length ≤ l.length) (hdx : ∀ d ∈ xs, d < 18446744073709551616) (hy : y < 18446744073709551616) (hr : r < 18446744073709551616) :
    Calls Tryz.prog 348 #[.slice (some ⟨b, 0, none⟩) xs.length cap, vx, .int .u64 y, .int .u64 r] w fun e w' => ∃ (l' : List Nat) (c : Nat), e = .returned (.int .u64 (c : Nat)) ∧ l'.length = l.length ∧ c < 18446744073709551616 ∧ val 18446744073709551616 (l'.take xs.length) + c * 18446744073709551616 ^ xs.length = val 18446744073709551616 xs * y + r ∧
      (∀ j, xs.length ≤ j → l'.getD j 0 = l.getD j 0) ∧ (∀ j, j < xs.length → l'.getD j 0 < 18446744073709551616) ∧ BlkN .u64 158 w' b l' ∧ Below w0.heap.size w0 w' := by
  obtain ⟨ax, cx, rfl, hx1, hx2, hx3⟩ := hx
  have HX := hid hx3
  clear hx3
  go_enter Tryz.func348, Tryz.ntmps348
  go_wp2_with fail
  go_loopw [8, 19] (fun p q wr => ∃ (c i : Nat) (m : List Nat), p = .int .u64 c ∧ q = .int .i64 i ∧ i ≤ xs.length ∧ c < 18446744073709551616 ∧ Hid (m.length = l.length) ∧ BlkN .u64 158 wr b m ∧ Hid (val 18446744073709551616 (m.take i) + c * 18446744073709551616 ^ i = val 18446744073709551616 (xs.take i) * y + r) ∧
    Hid (∀ j, i ≤ j → m.getD j 0 = l.getD j 0) ∧ Hid (∀ j, j < i → m.getD j 0 < 18446744073709551616) ∧ Below w0.heap.size w0 wr) (fun _ q _ => xs.length - (intOf q).toNat)
  case atStart => exact ⟨r, 0, l, rfl, rfl, Nat.zero_le _, hr, hid rfl, hl, hid (by simp [val]), hid (fun _ _ => rfl), hid (fun j h => absurd h (by omega)), hb⟩
  case round =>
    clear hl hb
    obtain ⟨c, i, m, rfl, rfl, hi, hc, hml, hBm, hv, hrest, hlow, hb⟩ := hrel
    rcases Nat.lt_or_ge i xs.length with hlt | hge
    · obtain ⟨bx, ox, rfl, hcx⟩ := HX.out (by omega)
      have hkx := hcx i hlt
      clear hcx
      have hx := (hb.cell (World.block_lt_of_cell? w0 _ hkx)).trans hkx
      clear hkx
      generalize hxe : xs.getD i 0 = x at hx
      have HXE := hid hxe
      clear hxe
      have hx1 : x < 18446744073709551616 := by rw [← HXE.out]; exact getD_lt (by omega) hdx i
      have hcell := hBm.at (i := i) (by rw [hml.out]; omega)
      have hfr := Blk.frozen hBm i
      generalize m.getD i 0 = old at hcell
      go_wp2_with fail
      refine (mulAddWWW_any x y c hx1 hy hc _).mono ?_
      rintro e w' ⟨U, V, rfl, HU, HV0, rfl⟩
      have HV := hid (mulvww_step (B := 18446744073709551616) (l := m) (xs := xs) (i := i) (c := c) (y := y) (r := r) HXE.out hlt (by rw [hml.out]; omega) hv.out)
      rw [← HU.out, ← HV0.out] at HV
      have hc2 : U < 18446744073709551616 := by rw [HU.out]; exact muladd_lt hx1 hy hc
      have hu1 : V < 18446744073709551616 := by rw [HV0.out]; exact Nat.mod_lt _ (by omega)
      go_wp2_with fail
      go_roundw
      case rel =>
        refine ⟨U, i + 1, m.set i V, by simp, by go_num, by omega, hc2, hid (by rw [List.length_set]; exact hml.out), ?_, hid HV.out, hid ?_, hid ?_, hb.setCell hB _⟩
        · have := BlkN.put hBm i V
          simpa using this
        · intro j hj; rw [set_far (by omega)]; exact hrest.out j (by omega)
        · intro j hj
          rcases Nat.lt_or_ge j i with h | h
          · rw [set_far (by omega)]; exact hlow.out j h
          · obtain rfl : j = i := by omega
            rw [List.getD_eq_getElem?_getD, List.getElem?_set_self (by rw [hml.out]; omega)]; exact hu1
      case measure => simp [intOf]; omega
    · obtain rfl : i = xs.length := by omega
      go_wp2_with fail
      go_ret
      refine ⟨m, c, rfl, hml.out, hc, ?_, hrest.out, hlow.out, hBm, hb⟩
      have := hv.out
      rw [List.take_length] at this
      exact this
set_option maxHeartbeats 400000 in
theorem mulVW_wrap (p x : Option Addr) (L1 L2 c1 c2 : Nat) (y r : Int) (w : World) (R : Ending → World → Prop) (hR : Hid (∀ e w', R e w' → ∃ v, e = .returned v)) (h : Calls Tryz.prog 348 #[.slice p L1 c1, .slice x L2 c2, .int .u64 y, .int .u64 r] w R) :
    Calls Tryz.prog 326 #[.slice p L1 c1, .slice x L2 c2, .int .u64 y, .int .u64 r] w R := by
  go_enter Tryz.func326, Tryz.ntmps326
  go_wp2_with fail
  refine h.mono ?_
  intro e w' hq
  obtain ⟨v, rfl⟩ := hR.out e w' hq
  have HQ := hid hq
  clear hq
  go_wp2_with fail
  exact HQ
theorem mulAddVWW_w (w0 w : World) (b cap : Nat) (vx : Value) (xs l : List Nat) (y r : Nat) (hb : Below w0.heap.size w0 w) (hB : w0.heap.size ≤ b) (hl : BlkN .u64 158 w b l) (hx : Rd .u64 w0 vx xs)
    (hlen : xs.length ≤ l.length) (hdx : ∀ d ∈ xs, d < 18446744073709551616) (hy : y < 18446744073709551616) (hr : r < 18446744073709551616) :
    Calls Tryz.prog 326 #[.slice (some ⟨b, 0, none⟩) xs.length cap, vx, .int .u64 y, .int .u64 r] w fun e w' => ∃ (l' : List Nat) (c : Nat), e = .returned (.int .u64 (c : Nat)) ∧ l'.length = l.length ∧ c < 18446744073709551616 ∧ val 18446744073709551616 (l'.take xs.length) + c * 18446744073709551616 ^ xs.length = val 18446744073709551616 xs * y + r ∧
      (∀ j, xs.length ≤ j → l'.getD j 0 = l.getD j 0) ∧ (∀ j, j < xs.length → l'.getD j 0 < 18446744073709551616) ∧ BlkN .u64 158 w' b l' ∧ Below w0.heap.size w0 w' := by
  obtain ⟨ax, cx, rfl⟩ := hx.shape
  exact mulVW_wrap _ _ _ _ _ _ _ _ w _ (by rintro e w' ⟨l', c, h1, _⟩; exact ⟨_, h1⟩) (mulAddVWW_g w0 w b cap _ xs l y r hb hB hl hx hlen hdx hy hr)
end Go.Proofs.YtocahcammjoffaaGreatDoor
namespace Go.Proofs.YtocahcammjoffaaGreatDoor
open Go.RowKit Go.Dig
set_option maxRecDepth 100000
set_option maxHeartbeats 1000000 in
theorem mulAddWW_1 (vx : Value) (m y : Nat) (w : World) (hx : Nw w vx m) (hm : 0 < m) (hm1 : m < 18446744073709551616) (hy : 0 < y) (hy1 : y < 18446744073709551616) :
    Calls Tryz.prog 297 #[.slice none 0 0, vx, .int .u64 y, .int .u64 0] w fun e w' => ∃ v, e = .returned v ∧ Nw w' v (m * y) ∧ Below w.heap.size w w' := by
  have HX := hid hx
  obtain ⟨ax, cx, ex⟩ := hx.shape
  rw [dg_one hm hm1] at ex
  subst ex
  have hcx : 1 ≤ cx := by obtain ⟨_, c, e, h, _, _⟩ := hx; injection e with _ _ e3; rw [dg_one hm hm1] at h; rw [e3]; exact h
  have hcx2 : cx ≤ 9223372036854775807 := by obtain ⟨_, c, e, _, h, _⟩ := hx; injection e with _ _ e3; rw [e3]; exact h
  clear hx
  go_enter Tryz.func297, Tryz.ntmps297
  go_wp2_with fail
  refine (natMake_any 2 (by omega) (by omega) w).mono ?_
  rintro e w1 ⟨rfl, hw1⟩
  have hBz : BlkN .u64 158 w1 w.heap.size (List.replicate 6 0) := by rw [hw1]; exact blk_new w _ 158
  have hb1 : Below w.heap.size w w1 := by rw [hw1]; exact (Below.refl _ _).alloc (Nat.le_refl _) _
  clear hw1
  go_wp2_with fail
  have hX1 : Hid (Rd .u64 w (.slice ax 1 cx) [m]) := by have := HX.out.rd; rw [dg_one hm hm1] at this; exact this
  refine (mulAddVWW_w w _ w.heap.size _ _ [m] (List.replicate 6 0) y 0 hb1 (Nat.le_refl _) hBz hX1.out (by simp) (by simpa using hm1) hy1 (by omega)).mono ?_
  rintro e w2 ⟨l2, c, rfl, hl2, hc, hv, hrest, hlow, hB2, hb2⟩
  have HV := hid hv
  have HRE := hid hrest
  have HLO := hid hlow
  have HL2 := hid hl2
  have hb3 : Hid (Below w.heap.size w w2) := hb2
  clear hv hrest hlow hl2
  all_goals
    have e6 : (List.replicate 6 0).length = 6 := rfl
    rw [e6] at HL2
    have hBc := hB2.at (i := 1) (by rw [HL2.out]; omega)
    have hfr := Blk.frozen hB2 1
    have hz1 : l2.getD 1 0 = 0 := HRE.out 1 (Nat.le_refl _)
    rw [hz1] at hBc
    clear hz1
    have hB3 := hid hB2
    clear hB2
    go_wp2_with fail
    have hB4 : BlkN .u64 158 (w2.setCell ⟨w.heap.size, 1, none⟩ (.int .u64 (c : Int))) w.heap.size (l2.set 1 c) := hB3.out.put 1 c
    have hb4 : Below w.heap.size w (w2.setCell ⟨w.heap.size, 1, none⟩ (.int .u64 (c : Int))) := hb3.out.setCell (Nat.le_refl _) _
    generalize w2.setCell ⟨w.heap.size, 1, none⟩ (.int .u64 (c : Int)) = w3 at *
    have hsz : 6 = (l2.set 1 c).length := by rw [List.length_set]; exact HL2.out.symm
    have hRt : Rt 158 .u64 w3 (.slice (some ⟨w.heap.size, 0, none⟩) 6 6) (l2.set 1 c) := by
      have := hB4.rt (cap := 6) (by rw [← hsz]; omega) (by omega)
      rwa [← hsz] at this
    have hRt2 := hRt.take (m := 2) (by omega)
    refine (norm_any _ _ w3 hRt2).mono ?_
    rintro e w' ⟨v, rfl, hv, rfl⟩
    go_wp2_with fail
    go_ret
    refine ⟨_, rfl, ?_, hb4⟩
    have hv' : trim ((l2.set 1 c).take 2) = dg 18446744073709551616 (m * y) := by
      have hl : l2.getD 0 0 < 18446744073709551616 := HLO.out 0 (by simp)
      match l2, HL2.out, HV.out, hl with
      | a0 :: a1 :: l3, _, hval, hl =>
        have hl' : a0 < 18446744073709551616 := by simpa using hl
        have hval' : a0 + c * 18446744073709551616 = m * y := by simpa [val] using hval
        have e1 : ((a0 :: a1 :: l3).set 1 c).take 2 = [a0, c] := rfl
        rw [e1, trim_eq (b := 18446744073709551616) (by omega) (by intro d hd; simp at hd; omega)]
        congr 1
        rw [← hval']
        simp [val]; omega
    rw [hv'] at hv
    exact hv
set_option maxHeartbeats 400000 in
theorem nmul_00 (w : World) (vx vy : Value) (hx : Nw w vx 0) (hy : Nw w vy 0) :
    Calls Tryz.prog 265 #[.slice none 0 0, .pointer none, vx, vy] w fun e w' => ∃ v, e = .returned v ∧ Nw w' v 0 ∧ Below w.heap.size w w' := by
  obtain ⟨ax, cx, rfl⟩ := hx.shape
  obtain ⟨ay, cy, rfl⟩ := hy.shape
  rw [dg_zero, List.length_nil]
  clear hx hy
  go_enter Tryz.func265, Tryz.ntmps265
  go_wp2_with fail
  go_ret
  exact ⟨_, rfl, by show Rt 158 .u64 w (.slice none 0 0) (dg 18446744073709551616 0); rw [dg_zero]; exact Rt.nil _ _ _, Below.refl _ _⟩
set_option maxHeartbeats 400000 in
theorem nmul_10 (w : World) (vx vy : Value) (m : Nat) (hx : Nw w vx m) (hy : Nw w vy 0) (hm : 0 < m) (hm1 : m < 18446744073709551616) :
    Calls Tryz.prog 265 #[.slice none 0 0, .pointer none, vx, vy] w fun e w' => ∃ v, e = .returned v ∧ Nw w' v 0 ∧ Below w.heap.size w w' := by
  obtain ⟨ax, cx, ex⟩ := hx.shape
  obtain ⟨ay, cy, ey⟩ := hy.shape
  rw [dg_one hm hm1] at ex
  rw [dg_zero] at ey
  subst ex ey
  clear hx hy
  go_enter Tryz.func265, Tryz.ntmps265
  go_wp2_with fail
  go_ret
  exact ⟨_, rfl, by show Rt 158 .u64 w (.slice none 0 0) (dg 18446744073709551616 0); rw [dg_zero]; exact Rt.nil _ _ _, Below.refl _ _⟩
set_option maxHeartbeats 400000 in
theorem nmul_01 (w : World) (vx vy : Value) (n : Nat) (hx : Nw w vx 0) (hy : Nw w vy n) (hn : 0 < n) (hn1 : n < 18446744073709551616) :
    Calls Tryz.prog 265 #[.slice none 0 0, .pointer none, vx, vy] w fun e w' => ∃ v, e = .returned v ∧ Nw w' v 0 ∧ Below w.heap.size w w' := by
  have HY := hid hy
  have HX := hid hx
  obtain ⟨ax, cx, ex⟩ := hx.shape
  obtain ⟨ay, cy, ey⟩ := hy.shape
  rw [dg_zero] at ex
  rw [dg_one hn hn1] at ey
  subst ex ey
  clear hx hy
  go_enter Tryz.func265, Tryz.ntmps265
  go_wp2_with fail
  refine (nmul_10 w _ _ n HY.out HX.out hn hn1).mono ?_
  rintro e w1 ⟨v, rfl, hv, hb⟩
  go_wp2_with fail
  go_ret
  exact ⟨_, rfl, hv, hb⟩
set_option maxHeartbeats 400000 in
theorem nmul_11 (w : World) (vx vy : Value) (m n : Nat) (hx : Nw w vx m) (hy : Nw w vy n) (hm : 0 < m) (hm1 : m < 18446744073709551616) (hn : 0 < n) (hn1 : n < 18446744073709551616) :
    Calls Tryz.prog 265 #[.slice none 0 0, .pointer none, vx, vy] w fun e w' => ∃ v, e = .returned v ∧ Nw w' v (m * n) ∧ Below w.heap.size w w' := by
  have HX := hid hx
  obtain ⟨ax, cx, ex⟩ := hx.shape
  obtain ⟨ay, cy, ey, h4, h5, h6⟩ := hy
  rw [dg_one hm hm1] at ex
  rw [dg_one hn hn1] at ey h6
  subst ex ey
  obtain ⟨b', off', rfl, _, hc'⟩ := h6 (by simp)
  have hk' := hc' 0 (by simp)
  simp only [List.getD_cons_zero, Nat.add_zero] at hk'
  clear hx h4 h5 h6 hc'
  go_enter Tryz.func265, Tryz.ntmps265
  go_wp2_with fail
  refine (mulAddWW_1 _ m n w HX.out hm hm1 hn hn1).mono ?_
  rintro e w1 ⟨v, rfl, hv, hb⟩
  go_wp2_with fail
  go_ret
  exact ⟨_, rfl, hv, hb⟩
theorem nmul_small (w : World) (vx vy : Value) (m n : Nat) (hx : Nw w vx m) (hy : Nw w vy n) (hm1 : m < 18446744073709551616) (hn1 : n < 18446744073709551616) :
    Calls Tryz.prog 265 #[.slice none 0 0, .pointer none, vx, vy] w fun e w' => ∃ v, e = .returned v ∧ Nw w' v (m * n) ∧ Below w.heap.size w w' := by
  rcases Nat.eq_zero_or_pos m with h | h <;> rcases Nat.eq_zero_or_pos n with h' | h'
  · subst h h'; exact nmul_00 w vx vy hx hy
  · subst h; rw [Nat.zero_mul]; exact nmul_01 w vx vy n hx hy h' hn1
  · subst h'; rw [Nat.mul_zero]; exact nmul_10 w vx vy m hx hy h hm1
  · exact nmul_11 w vx vy m n hx hy h hm1 h' hn1
end Go.Proofs.YtocahcammjoffaaGreatDoor
namespace Go.Proofs.YtocahcammjoffaaGreatDoor
open Go.RowKit Go.Dig
set_option maxRecDepth 100000
theorem info203 : (Tryz.prog.info? 203).map (·.size) = some 2 := by kernel_rfl
theorem eql_int {w : World} {a b : Nat} {ca cb : Array Value} (ha : Blk w a ca 203) (hb : Blk w b cb 203) (h : a ≠ b) : (binOp .eql 120 (.pointer (some ⟨a, 0, none⟩)) (.pointer (some ⟨b, 0, none⟩))).run Tryz.prog w = .ok (.bool false) w := by
  obtain ⟨i, hi, hs⟩ := Option.map_eq_some_iff.1 info203
  exact run_eql_ptr_other w Tryz.underlying120 hi (by rw [hs]; omega) (fun e => h (congrArg Addr.block e)) ha hb
theorem Zh.done_drew {w w' : World} {bz k : Nat} {v : Value} {S : Int} (h : Zh w bz v k w') (s : Bool) (hS : sgn s k = S) : (∃ u k, sgn u k = S ∧ Iv (w'.setCell ⟨bz, 0, none⟩ (.bool s)).drew bz u k) ∧ Below bz w (w'.setCell ⟨bz, 0, none⟩ (.bool s)).drew := by
  obtain ⟨_, ⟨u, k, h1, h2⟩, h3⟩ := h.done s hS
  exact ⟨⟨u, k, h1, h2.below (below_drewN' 1)⟩, h3.drewN 1⟩
set_option maxHeartbeats 2000000 in
theorem intmul_any (bz bx b2 : Nat) (s t : Bool) (m n : Nat) (w : World) (hz : Blk w bz #[.bool false, .slice none 0 0] 203) (hx : Iv w bx s m) (hy : Iv w b2 t n) (hm : m < 18446744073709551616) (hn : n < 18446744073709551616) (hxz : bx ≠ bz) (hyz : b2 ≠ bz) (hxy : bx ≠ b2) :
    Calls Tryz.prog 209 #[.pointer (some ⟨bz, 0, none⟩), .pointer none, .pointer (some ⟨bx, 0, none⟩), .pointer (some ⟨b2, 0, none⟩)] w fun e w' => e = .returned (.tuple #[]) ∧ (∃ u k, sgn u k = sgn s m * sgn t n ∧ Iv w' bz u k) ∧ Below bz w w' := by
  obtain ⟨vx, hBx, hNx⟩ := hx
  obtain ⟨vy, hBy, hNy⟩ := hy
  obtain ⟨ax, lx, cx, rfl, _⟩ := nw_shape hNx
  obtain ⟨ay, ly, cy, rfl, _⟩ := nw_shape hNy
  have HX := hid hNx
  have HY := hid hNy
  have HZ := hid hz
  have hx0 := hBx.cell 0
  have hx1 := hBx.cell 1
  have hy0 := hBy.cell 0
  have hy1 := hBy.cell 1
  have hz1 := hz.cell 1
  simp only [List.getElem?_toArray, List.getElem?_cons_zero, List.getElem?_cons_succ] at hx0 hx1 hy0 hy1 hz1
  have hxl := hBx.lt
  have hyl := hBy.lt
  have hzl := hz.lt
  have hxd : w.drew.cell? ⟨bx, 1, none⟩ = some (.slice ax lx cx) := hx1
  have hyd : w.drew.cell? ⟨b2, 1, none⟩ = some (.slice ay ly cy) := hy1
  have hzd : w.drew.cell? ⟨bz, 1, none⟩ = some (.slice none 0 0) := hz1
  have heq := eql_int hBx hBy hxy
  clear hNx hNy hBx hBy hz
  go_enter Tryz.func209, Tryz.ntmps209
  go_wp2_with fail
  refine wp_region_held_drew (S := fun w' => w'.cell? ⟨bx, 1, none⟩ = some (.slice ax lx cx) ∧ w'.cell? ⟨b2, 1, none⟩ = some (.slice ay ly cy)) (by kernel_rfl) ⟨hxd, hyd⟩ (fun hHeld => ?_)
  refine wpAnyH_take (i := 0) (v := ?_) rfl (by kernel_rfl) (by kernel_rfl) (by kernel_rfl) (fun _ _ _ h => h) (Or.inl ⟨by rfl, ?_⟩) (by assumption) ?_
  rotate_left
  · intro w hSw
    try dsimp only at hSw
    go_simp
    try with_reducible rfl
  try simp only [Act.put, List.setIfInBounds_toArray]
  refine wpAnyH_take (i := 1) (v := ?_) rfl (by kernel_rfl) (by kernel_rfl) (by kernel_rfl) (fun _ _ _ h => h) (Or.inl ⟨by rfl, ?_⟩) (by assumption) ?_
  rotate_left
  · intro w hSw
    try dsimp only at hSw
    go_simp
    try with_reducible rfl
  try simp only [Act.put]
  refine wpAnyH_take (i := 2) (v := ?_) rfl (by kernel_rfl) (by kernel_rfl) (by kernel_rfl) (fun _ _ _ h => h) (Or.inl ⟨by rfl, ?_⟩) (by assumption) ?_
  rotate_left
  · intro w hSw
    try dsimp only at hSw
    go_simp
    try with_reducible rfl
  try simp only [Act.put]
  refine wpAnyH_take (i := 3) (v := ?_) rfl (by kernel_rfl) (by kernel_rfl) (by kernel_rfl) (fun _ _ _ h => h) (Or.inl ⟨by rfl, ?_⟩) (by assumption) ?_
  rotate_left
  · intro w hSw
    try dsimp only at hSw
    go_simp
    try with_reducible rfl
  try simp only [Act.put]
  refine wpAnyH_take (i := 5) (v := ?_) rfl (by kernel_rfl) (by kernel_rfl) (by kernel_rfl) (fun _ _ _ h => h) (Or.inl ⟨by rfl, ?_⟩) (by assumption) ?_
  rotate_left
  · intro w hSw
    try dsimp only at hSw
    go_simp
    try with_reducible rfl
  try simp only [Act.put]
  refine wpAnyH_take (i := 6) (v := ?_) rfl (by kernel_rfl) (by kernel_rfl) (by kernel_rfl) (fun _ _ _ h => h) (Or.inl ⟨by rfl, ?_⟩) (by assumption) ?_
  rotate_left
  · intro w hSw
    try dsimp only at hSw
    go_simp
    try with_reducible rfl
  try simp only [Act.put]
  refine wpAnyH_take (i := 7) (v := ?_) rfl (by kernel_rfl) (by kernel_rfl) (by kernel_rfl) (fun _ _ _ h => h) (Or.inl ⟨by rfl, ?_⟩) (by assumption) ?_
  rotate_left
  · intro w hSw
    try dsimp only at hSw
    go_simp
    try with_reducible rfl
  try simp only [Act.put]
  refine wpAnyH_take (i := 8) (v := ?_) rfl (by kernel_rfl) (by kernel_rfl) (by kernel_rfl) (fun _ _ _ h => h) (Or.inl ⟨by rfl, ?_⟩) (by assumption) ?_
  rotate_left
  · intro w hSw
    try dsimp only at hSw
    go_simp
    try with_reducible rfl
  try simp only [Act.put]
  refine wpAnyH_take (i := 9) (v := ?_) rfl (by kernel_rfl) (by kernel_rfl) (by kernel_rfl) (fun _ _ _ h => h) (Or.inl ⟨by rfl, ?_⟩) (by assumption) ?_
  rotate_left
  · intro w hSw
    try dsimp only at hSw
    go_simp
    try with_reducible rfl
  try simp only [Act.put]
  refine wpAnyH_take (i := 10) (v := ?_) rfl (by kernel_rfl) (by kernel_rfl) (by kernel_rfl) (fun _ _ _ h => h) (Or.inl ⟨by rfl, ?_⟩) (by assumption) ?_
  rotate_left
  · intro w hSw
    try dsimp only at hSw
    go_simp
    try with_reducible rfl
  try simp only [Act.put]
  refine wpAnyH_take (i := 11) (v := ?_) rfl (by kernel_rfl) (by kernel_rfl) (by kernel_rfl) (fun _ _ _ h => h) (Or.inl ⟨by rfl, ?_⟩) (by assumption) ?_
  rotate_left
  · intro w hSw
    try dsimp only at hSw
    go_simp
    try with_reducible rfl
  try simp only [Act.put]
  refine wpAnyH_take (i := 12) (v := ?_) rfl (by kernel_rfl) (by kernel_rfl) (by kernel_rfl) (fun _ _ _ h => h) (Or.inl ⟨by rfl, ?_⟩) (by assumption) ?_
  rotate_left
  · intro w hSw
    try dsimp only at hSw
    go_simp
    try with_reducible rfl
  try simp only [Act.put]
  refine wpAnyH_take (i := 13) (v := ?_) rfl (by kernel_rfl) (by kernel_rfl) (by kernel_rfl) (fun _ _ _ h => h) (Or.inl ⟨by rfl, ?_⟩) (by assumption) ?_
  rotate_left
  · intro w hSw
    try dsimp only at hSw
    go_simp
    try with_reducible rfl
  try simp only [Act.put]
  refine wpAnyH_ready (rs := [4]) (by kernel_rfl) (by simp) ?_
  refine AllReadyH.cons rfl (fun K hK => ?_) AllReadyH.nil
  go_simp
  refine hK.out _ _ ⟨hxd, hyd⟩ (fun _ => ?_)
  clear hK K
  refine wpAnyH_ready (rs := [14]) (by kernel_rfl) (by simp) ?_
  refine AllReadyH.cons rfl (fun K hK => ?_) AllReadyH.nil
  go_simp
  refine (nmul_small w.drew _ _ m n (HX.out.below (below_drewN' 1) (Nat.le_refl _)) (HY.out.below (below_drewN' 1) (Nat.le_refl _)) hm hn).mono ?_
  rintro e w1 ⟨v, rfl, hv, hb⟩
  obtain ⟨az, L, cz, rfl, HL⟩ := nw_shape hv
  have HB : Hid (Below w.heap.size w w1) := ((below_drewN' 1).trans hb)
  have HH := hid (zh_of HZ.out HB.out hv)
  have hB1 := HZ.out.below HB.out HZ.out.lt
  have hzc := hB1.cell 1
  simp only [List.getElem?_toArray, List.getElem?_cons_zero, List.getElem?_cons_succ] at hzc
  have fzc := hB1.frozen 1
  have hx1c := (HB.out.cell (p := ⟨bx, 1, none⟩) hxl).trans hx1
  have hy1c := (HB.out.cell (p := ⟨b2, 1, none⟩) hyl).trans hy1
  have hxs := (World.cell?_setCell_other w1 ⟨bz, 1, none⟩ ⟨bx, 1, none⟩ (.slice az L cz) (fun e => hxz (congrArg Addr.block e).symm)).trans hx1c
  have hys := (World.cell?_setCell_other w1 ⟨bz, 1, none⟩ ⟨b2, 1, none⟩ (.slice az L cz) (fun e => hyz (congrArg Addr.block e).symm)).trans hy1c
  have hxc := (World.cell?_setCell_other w1 ⟨bz, 1, none⟩ ⟨bx, 0, none⟩ (.slice az L cz) (fun e => hxz (congrArg Addr.block e).symm)).trans ((HB.out.cell (p := ⟨bx, 0, none⟩) hxl).trans hx0)
  have hyc := (World.cell?_setCell_other w1 ⟨bz, 1, none⟩ ⟨b2, 0, none⟩ (.slice az L cz) (fun e => hyz (congrArg Addr.block e).symm)).trans ((HB.out.cell (p := ⟨b2, 0, none⟩) hyl).trans hy0)
  clear hv hb hB1
  go_wp2_with fail
  refine hK.out _ _ ⟨hx1c, hy1c⟩ (fun _ => ?_)
  clear hK K
  refine wpAnyH_take (i := 15) (v := ?_) rfl (by kernel_rfl) (by kernel_rfl) (by kernel_rfl) (fun _ _ _ h => h) (Or.inl ⟨by rfl, ?_⟩) (by assumption) ?_
  rotate_left
  · intro w hSw
    try dsimp only at hSw
    go_simp
    try with_reducible rfl
  try simp only [Act.put, List.setIfInBounds_toArray]
  refine wpAnyH_take (i := 16) (v := ?_) rfl (by kernel_rfl) (by kernel_rfl) (by kernel_rfl) (fun _ _ _ h => h) (Or.inl ⟨by rfl, ?_⟩) (by assumption) ?_
  rotate_left
  · intro w hSw
    try dsimp only at hSw
    go_simp
    try with_reducible rfl
  try simp only [Act.put]
  refine wpAnyH_ready (rs := [17]) (by kernel_rfl) (by simp) ?_
  refine AllReadyH.cons rfl (fun K hK => ?_) AllReadyH.nil
  go_simp
  refine hK.out _ _ ⟨hxs, hys⟩ (fun _ => ?_)
  clear hK K
  refine wpAnyH_done (by kernel_rfl) ?_ _
  all_goals
    clear hzc fzc
    generalize w1.setCell ⟨bz, 1, none⟩ (.slice az L cz) = w2 at *
    obtain ⟨g0, g1, f0⟩ := HH.out.cells
    have kd : w2.drew.cell? ⟨bz, 1, none⟩ = some (.slice az L cz) ∧ w2.drew.cell? ⟨bx, 0, none⟩ = some (.bool s) ∧ w2.drew.cell? ⟨b2, 0, none⟩ = some (.bool t) := ⟨g1, hxc, hyc⟩
    have ks : Hid (∀ u, (w2.setCell ⟨bz, 0, none⟩ u).drew.cell? ⟨bz, 1, none⟩ = some (.slice az L cz) ∧ (w2.setCell ⟨bz, 0, none⟩ u).drew.cell? ⟨bx, 0, none⟩ = some (.bool s) ∧ (w2.setCell ⟨bz, 0, none⟩ u).drew.cell? ⟨b2, 0, none⟩ = some (.bool t)) := by
      intro u
      exact ⟨(World.cell?_setCell_other w2 ⟨bz, 0, none⟩ ⟨bz, 1, none⟩ u (by simp)).trans g1, (World.cell?_setCell_other w2 ⟨bz, 0, none⟩ ⟨bx, 0, none⟩ u (fun e => hxz (congrArg Addr.block e).symm)).trans hxc, (World.cell?_setCell_other w2 ⟨bz, 0, none⟩ ⟨b2, 0, none⟩ u (fun e => hyz (congrArg Addr.block e).symm)).trans hyc⟩
    have KD := hid kd
    clear kd hxc hyc
    have PF : Hid (∀ u, (m * n = 0 ∨ u = (s != t)) → sgn u (m * n) = sgn s m * sgn t n) := by
      intro u hu
      rw [← sgn_mul]
      rcases hu with hu | hu
      · rw [hu]; cases u <;> cases (s != t) <;> rfl
      · rw [hu]
    have hL2 : L ≤ 2 := by
      rw [HL.out]
      exact dg_length_le (by omega) (Nat.mul_lt_mul_of_lt_of_lt hm hn)
    rcases (by omega : L = 0 ∨ L = 1 ∨ L = 2) with hl | hl | hl
    · have HK : m * n = 0 := (dg_nil_iff (b := 18446744073709551616) (by omega)).1 (List.eq_nil_of_length_eq_zero (by rw [← HL.out, hl]))
      subst hl
      go_wp2_with fail
      refine wp_region_held_drew (S := (fun w' => w'.cell? ⟨bz, 1, none⟩ = some (.slice az 0 cz) ∧ w'.cell? ⟨bx, 0, none⟩ = some (.bool s) ∧ w'.cell? ⟨b2, 0, none⟩ = some (.bool t))) (by kernel_rfl) KD.out (fun hHeld => ?_)
      refine wpAnyH_take (i := 0) (v := ?_) rfl (by kernel_rfl) (by kernel_rfl) (by kernel_rfl) (fun _ _ _ h => h) (Or.inl ⟨by rfl, ?_⟩) (by assumption) ?_
      rotate_left
      · intro w hSw
        try dsimp only at hSw
        go_simp
        try with_reducible rfl
      try simp only [Act.put, List.setIfInBounds_toArray]
      refine wpAnyH_take (i := 1) (v := ?_) rfl (by kernel_rfl) (by kernel_rfl) (by kernel_rfl) (fun _ _ _ h => h) (Or.inl ⟨by rfl, ?_⟩) (by assumption) ?_
      rotate_left
      · intro w hSw
        try dsimp only at hSw
        go_simp
        try with_reducible rfl
      try simp only [Act.put]
      refine wpAnyH_take (i := 2) (v := ?_) rfl (by kernel_rfl) (by kernel_rfl) (by kernel_rfl) (fun _ _ _ h => h) (Or.inl ⟨by rfl, ?_⟩) (by assumption) ?_
      rotate_left
      · intro w hSw
        try dsimp only at hSw
        go_simp
        try with_reducible rfl
      try simp only [Act.put]
      refine wpAnyH_take (i := 3) (v := ?_) rfl (by kernel_rfl) (by kernel_rfl) (by kernel_rfl) (fun _ _ _ h => h) (Or.inl ⟨by rfl, ?_⟩) (by assumption) ?_
      rotate_left
      · intro w hSw
        try dsimp only at hSw
        go_simp
        try with_reducible rfl
      try simp only [Act.put]
      refine wpAnyH_take (i := 4) (v := ?_) rfl (by kernel_rfl) (by kernel_rfl) (by kernel_rfl) (fun _ _ _ h => h) (Or.inl ⟨by rfl, ?_⟩) (by assumption) ?_
      rotate_left
      · intro w hSw
        try dsimp only at hSw
        go_simp
        try with_reducible rfl
      try simp only [Act.put]
      refine wpAnyH_take (i := 5) (v := ?_) rfl (by kernel_rfl) (by kernel_rfl) (by kernel_rfl) (fun _ _ _ h => h) (Or.inl ⟨by rfl, ?_⟩) (by assumption) ?_
      rotate_left
      · intro w hSw
        try dsimp only at hSw
        go_simp
        try with_reducible rfl
      try simp only [Act.put]
      refine wpAnyH_take (i := 6) (v := ?_) rfl (by kernel_rfl) (by kernel_rfl) (by kernel_rfl) (fun _ _ _ h => h) (Or.inl ⟨by rfl, ?_⟩) (by assumption) ?_
      rotate_left
      · intro w hSw
        try dsimp only at hSw
        go_simp
        try with_reducible rfl
      try simp only [Act.put]
      refine wpAnyH_take (i := 7) (v := ?_) rfl (by kernel_rfl) (by kernel_rfl) (by kernel_rfl) (fun _ _ _ h => h) (Or.inl ⟨by rfl, ?_⟩) (by assumption) ?_
      rotate_left
      · intro w hSw
        try dsimp only at hSw
        go_simp
        try with_reducible rfl
      try simp only [Act.put]
      refine wpAnyH_take (i := 8) (v := undef) rfl (by kernel_rfl) (by kernel_rfl) (by kernel_rfl) (fun _ _ _ h => h) (Or.inr ⟨by kernel_rfl, rfl⟩) (by assumption) ?_
      try simp only [Act.put]
      refine wpAnyH_take (i := 9) (v := undef) rfl (by kernel_rfl) (by kernel_rfl) (by kernel_rfl) (fun _ _ _ h => h) (Or.inr ⟨by kernel_rfl, rfl⟩) (by assumption) ?_
      try simp only [Act.put]
      refine wpAnyH_take (i := 10) (v := undef) rfl (by kernel_rfl) (by kernel_rfl) (by kernel_rfl) (fun _ _ _ h => h) (Or.inr ⟨by kernel_rfl, rfl⟩) (by assumption) ?_
      try simp only [Act.put]
      refine wpAnyH_take (i := 11) (v := undef) rfl (by kernel_rfl) (by kernel_rfl) (by kernel_rfl) (fun _ _ _ h => h) (Or.inr ⟨by kernel_rfl, rfl⟩) (by assumption) ?_
      try simp only [Act.put]
      refine wpAnyH_take (i := 12) (v := undef) rfl (by kernel_rfl) (by kernel_rfl) (by kernel_rfl) (fun _ _ _ h => h) (Or.inr ⟨by kernel_rfl, rfl⟩) (by assumption) ?_
      try simp only [Act.put]
      refine wpAnyH_take (i := 13) (v := undef) rfl (by kernel_rfl) (by kernel_rfl) (by kernel_rfl) (fun _ _ _ h => h) (Or.inr ⟨by kernel_rfl, rfl⟩) (by assumption) ?_
      try simp only [Act.put]
      refine wpAnyH_take (i := 14) (v := undef) rfl (by kernel_rfl) (by kernel_rfl) (by kernel_rfl) (fun _ _ _ h => h) (Or.inr ⟨by kernel_rfl, rfl⟩) (by assumption) ?_
      try simp only [Act.put]
      refine wpAnyH_take (i := 15) (v := undef) rfl (by kernel_rfl) (by kernel_rfl) (by kernel_rfl) (fun _ _ _ h => h) (Or.inr ⟨by kernel_rfl, rfl⟩) (by assumption) ?_
      try simp only [Act.put]
      refine wpAnyH_take (i := 16) (v := undef) rfl (by kernel_rfl) (by kernel_rfl) (by kernel_rfl) (fun _ _ _ h => h) (Or.inr ⟨by kernel_rfl, rfl⟩) (by assumption) ?_
      try simp only [Act.put]
      refine wpAnyH_take (i := 17) (v := ?_) rfl (by kernel_rfl) (by kernel_rfl) (by kernel_rfl) (fun _ _ _ h => h) (Or.inl ⟨by rfl, ?_⟩) (by assumption) ?_
      rotate_left
      · intro w hSw
        try dsimp only at hSw
        go_simp
        try with_reducible rfl
      try simp only [Act.put]
      refine wpAnyH_take (i := 18) (v := ?_) rfl (by kernel_rfl) (by kernel_rfl) (by kernel_rfl) (fun _ _ _ h => h) (Or.inl ⟨by rfl, ?_⟩) (by assumption) ?_
      rotate_left
      · intro w hSw
        try dsimp only at hSw
        go_simp
        try with_reducible rfl
      try simp only [Act.put]
      refine wpAnyH_take (i := 19) (v := ?_) rfl (by kernel_rfl) (by kernel_rfl) (by kernel_rfl) (fun _ _ _ h => h) (Or.inl ⟨by rfl, ?_⟩) (by assumption) ?_
      rotate_left
      · intro w hSw
        try dsimp only at hSw
        go_simp
        try with_reducible rfl
      try simp only [Act.put]
      refine wpAnyH_ready (rs := [20]) (by kernel_rfl) (by simp) ?_
      refine AllReadyH.cons rfl (fun K hK => ?_) AllReadyH.nil
      go_simp
      refine hK.out _ _ (ks.out _) (fun _ => ?_)
      clear hK K
      refine wpAnyH_done (by kernel_rfl) ?_ _
      all_goals
        go_wp2_with fail
        go_end0
        exact ⟨rfl, HH.out.done_drew _ (PF.out _ (.inl HK))⟩
    · subst hl
      go_wp2_with fail
      go_region_held (fun w' => w'.cell? ⟨bz, 1, none⟩ = some (.slice az 1 cz) ∧ w'.cell? ⟨bx, 0, none⟩ = some (.bool s) ∧ w'.cell? ⟨b2, 0, none⟩ = some (.bool t)) (first | with_reducible exact KD.out | with_reducible exact ks.out _) (fail)
      all_goals
        go_wp2_with fail
        go_end0
        exact ⟨rfl, HH.out.done_drew _ (PF.out _ (.inr rfl))⟩
    · subst hl
      go_wp2_with fail
      go_region_held (fun w' => w'.cell? ⟨bz, 1, none⟩ = some (.slice az 2 cz) ∧ w'.cell? ⟨bx, 0, none⟩ = some (.bool s) ∧ w'.cell? ⟨b2, 0, none⟩ = some (.bool t)) (first | with_reducible exact KD.out | with_reducible exact ks.out _) (fail)
      all_goals
        go_wp2_with fail
        go_end0
        exact ⟨rfl, HH.out.done_drew _ (PF.out _ (.inr rfl))⟩
set_option maxHeartbeats 400000 in
theorem intMul_any (bz bx b2 : Nat) (s t : Bool) (m n : Nat) (w : World) (hz : Blk w bz #[.bool false, .slice none 0 0] 203) (hx : Iv w bx s m) (hy : Iv w b2 t n) (hm : m < 18446744073709551616) (hn : n < 18446744073709551616) (hxz : bx ≠ bz) (hyz : b2 ≠ bz) (hxy : bx ≠ b2) :
    Calls Tryz.prog 130 #[.pointer (some ⟨bz, 0, none⟩), .pointer (some ⟨bx, 0, none⟩), .pointer (some ⟨b2, 0, none⟩)] w (Zd w bz (sgn s m * sgn t n)) := by
  have H := hid (intmul_any bz bx b2 s t m n w hz hx hy hm hn hxz hyz hxy)
  clear hz hx hy
  go_enter Tryz.func130, Tryz.ntmps130
  go_wp2_with fail
  refine H.out.mono ?_
  rintro e w1 ⟨rfl, hI, hb⟩
  go_wp2_with fail
  go_ret
  exact ⟨rfl, hI, hb⟩
end Go.Proofs.YtocahcammjoffaaGreatDoor
namespace Go.Proofs.YtocahcammjoffaaGreatDoor
open Go.RowKit Go.Dig
set_option maxRecDepth 100000
theorem Iv.lt {w : World} {b n : Nat} {s : Bool} (h : Iv w b s n) : b < w.heap.size := by
  obtain ⟨v, h1, _⟩ := h
  exact h1.lt
/-- Whether an int64 has at most 32 bits. -/
def i32 (x : Int) : Bool := decide (-2147483648 ≤ x ∧ x ≤ 2147483647)
theorem i32_in {x : Int} (h : i32 x = true) : -2147483648 ≤ x ∧ x ≤ 2147483647 := by simpa [i32] using h
theorem prod_in {a b : Int} (p1 : -2147483648 ≤ a) (p2 : a ≤ 2147483647) (q1 : -2147483648 ≤ b) (q2 : b ≤ 2147483647) : -9223372036854775808 ≤ a * b ∧ a * b ≤ 9223372036854775807 := by
  have h : (a * b).natAbs ≤ 2147483648 * 2147483648 := by
    rw [Int.natAbs_mul]
    exact Nat.mul_le_mul (by omega) (by omega)
  omega
set_option maxHeartbeats 400000 in
theorem is32_any (x : Int) (w : World) : Calls Tryz.prog 129 #[.int .i64 x] w fun e w' => e = .returned (.bool (i32 x)) ∧ w = w' := by
  rcases (by omega : x < -2147483648 ∨ (-2147483648 ≤ x ∧ x ≤ 2147483647) ∨ (-2147483648 ≤ x ∧ 2147483647 < x)) with h | ⟨h1, h2⟩ | ⟨h1, h2⟩
  · have e : i32 x = false := by simp [i32]; omega
    rw [e]
    clear e
    go_enter Tryz.func129, Tryz.ntmps129
    go_wp2_with fail
    go_ret
    exact ⟨by first | rfl | (simp; done) | (simp; omega) | (simp [h2]; done), rfl⟩
  · have e : i32 x = true := by simp [i32]; omega
    rw [e]
    clear e
    go_enter Tryz.func129, Tryz.ntmps129
    go_wp2_with fail
    go_ret
    exact ⟨by first | rfl | (simp; done) | (simp; omega) | (simp [h2]; done), rfl⟩
  · have e : i32 x = false := by simp [i32]; omega
    rw [e]
    clear e
    go_enter Tryz.func129, Tryz.ntmps129
    go_wp2_with fail
    go_ret
    exact ⟨by first | rfl | (simp; done) | (simp; omega) | (simp [h2]; done), rfl⟩
set_option maxHeartbeats 1000000 in
theorem bin_prod_in (a b : Int) (ha : i32 a = true) (hb : i32 b = true) (w : World) : Calls Tryz.prog 74 #[.iface 119 (.int .i64 a), .int .i64 14, .iface 119 (.int .i64 b)] w fun e w' => ∃ v, e = .returned v ∧ Bi w' (a * b) v ∧ Below w.heap.size w w' := by
  have h1 := ta_119_119
  have h2 := ta_119_137
  have h3 := ta_119_165
  have h4 := ta1_119
  obtain ⟨p1, p2⟩ := i32_in ha
  obtain ⟨q1, q2⟩ := i32_in hb
  have hpr := prod_in p1 p2 q1 q2
  go_enter Tryz.func74, Tryz.ntmps74
  go_wp2_with (go_at_call 124; refine (match_i _ _ _).mono ?_; rintro e w' ⟨rfl, rfl⟩)
  go_step3
  go_wp2_with (first | (go_at_call 124; refine (match_i _ _ _).mono ?_; rintro e w' ⟨rfl, rfl⟩) | (go_at_call 129; refine (is32_any _ _).mono ?_; rintro e w' ⟨rfl, rfl⟩; first | rw [ha] | rw [hb]))
  rw [Exit.noGoto_ret]
  go_ret
  exact ⟨_, rfl, .inl ⟨fit_in (prod_in p1 p2 q1 q2), rfl⟩, Below.refl _ _⟩
set_option maxHeartbeats 1000000 in
theorem bin_prod_out (a b : Int) (l0 : -9223372036854775808 ≤ a) (u0 : a ≤ 9223372036854775807) (l1 : -9223372036854775808 ≤ b) (u1 : b ≤ 9223372036854775807) (ha : i32 a = false ∨ (i32 a = true ∧ i32 b = false)) (w : World) : Calls Tryz.prog 74 #[.iface 119 (.int .i64 a), .int .i64 14, .iface 119 (.int .i64 b)] w fun e w' => ∃ v, e = .returned v ∧ Bi w' (a * b) v ∧ Below w.heap.size w w' := by
  have h1 := ta_119_119
  have h2 := ta_119_137
  have h3 := ta_119_165
  have h4 := ta1_119
  have HW := hid (Below.refl w.heap.size w)
  obtain ⟨bz, hbz⟩ : ∃ bz, w.heap.size = bz := ⟨_, rfl⟩
  rcases ha with ha | ⟨ha, hb⟩
  all_goals
    go_enter Tryz.func74, Tryz.ntmps74
    go_wp2_with (go_at_call 124; refine (match_i _ _ _).mono ?_; rintro e w' ⟨rfl, rfl⟩)
    go_step3
    go_wp2_with (first | (go_at_call 124; refine (match_i _ _ _).mono ?_; rintro e w' ⟨rfl, rfl⟩) | (go_at_call 129; refine (is32_any _ _).mono ?_; rintro e w' ⟨rfl, rfl⟩; first | rw [ha] | rw [hb]))
    refine (newInt_any w).mono ?_
    rintro e w1 ⟨rfl, hB, hb1⟩
    rw [hbz] at hB hb1
    rw [hbz]
    have HB := hid hB
    have HW1 := hid hb1
    have HLT := hid hB.lt
    clear hB hb1
    go_wp2_with fail
    refine (bigNewInt_any a w1 l0 u0).mono ?_
    rintro e w2 ⟨bx, rfl, hbx, hI1, hb2⟩
    have HB2 := hid (HB.out.below hb2 HB.out.lt)
    have HW2 := hid (HW1.out.trans (hb2.mono (Nat.le_of_lt HLT.out)))
    have HI1 := hid hI1
    clear hI1 hb2
    go_wp2_with fail
    refine (bigNewInt_any b w2 l1 u1).mono ?_
    rintro e w3 ⟨b2, rfl, hby, hI2, hb3⟩
    have HB3 := hid (HB2.out.below hb3 HB2.out.lt)
    have HW3 := hid (HW2.out.trans (hb3.mono (Nat.le_of_lt HB2.out.lt)))
    have HI3 := hid (HI1.out.below hb3)
    have HI2 := hid hI2
    clear hI2 hb3
    go_wp2_with fail
    refine (intMul_any bz bx b2 (decide (a < 0)) (decide (b < 0)) a.natAbs b.natAbs w3 HB3.out HI3.out HI2.out (by omega) (by omega) (by have := HLT.out; have := hbx.out; omega) (by have := HB2.out.lt; have := hby.out; omega) (by have := HI1.out.lt; have := hby.out; omega)).mono ?_
    rintro e w4 ⟨rfl, ⟨s, k, hS, hI⟩, hb4⟩
    rw [sgn_abs, sgn_abs] at hS
    have HS4 := hid hS
    have HI4 := hid hI
    have HW4 := hid (HW3.out.trans hb4)
    clear hS hI hb4
    go_wp2_with fail
    refine (makeInt_any bz s k w4 HI4.out).mono ?_
    rintro e w5 ⟨v, rfl, hM, hb5⟩
    go_wp2_with fail
    rw [Exit.noGoto_ret]
    go_ret
    rw [HS4.out] at hM
    refine ⟨v, rfl, ?_, by rw [hbz]; exact HW4.out.trans (hb5.mono (by have := HW4.out.size; omega))⟩
    rcases hM with ⟨e1, e2⟩ | ⟨e1, e2⟩
    · exact .inl ⟨e1, e2⟩
    · exact .inr ⟨e1, bz, s, k, e2, HI4.out.below hb5⟩
theorem bin_prod (a b : Int) (l0 : -9223372036854775808 ≤ a) (u0 : a ≤ 9223372036854775807) (l1 : -9223372036854775808 ≤ b) (u1 : b ≤ 9223372036854775807) (w : World) : Calls Tryz.prog 74 #[.iface 119 (.int .i64 a), .int .i64 14, .iface 119 (.int .i64 b)] w fun e w' => ∃ v, e = .returned v ∧ Bi w' (a * b) v ∧ Below w.heap.size w w' := by
  cases ha : i32 a
  · exact bin_prod_out a b l0 u0 l1 u1 (.inl ha) w
  · cases hb : i32 b
    · exact bin_prod_out a b l0 u0 l1 u1 (.inr ⟨ha, hb⟩) w
    · exact bin_prod_in a b ha hb w
end Go.Proofs.YtocahcammjoffaaGreatDoor
namespace Go.Proofs.YtocahcammjoffaaGreatDoor
open Go.RowKit Go.Dig
set_option maxRecDepth 100000
set_option maxHeartbeats 1000000 in
theorem small_prod (a b : Int) (l0 : -9223372036854775808 ≤ a) (u0 : a ≤ 9223372036854775807) (l1 : -9223372036854775808 ≤ b) (u1 : b ≤ 9223372036854775807) (w : World) : Calls Tryz.prog 36 #[.int .i64 2, .int .i64 a, .int .i64 b] w fun e w' => ∃ z ok, e = .returned (.tuple #[.int .i64 z, .bool ok]) ∧ Hid (ok = fitI (a * b)) ∧ Hid (ok = true → z = a * b) ∧ Below w.heap.size w w' := by
  go_enter Tryz.func36, Tryz.ntmps36
  go_wp2_with fail
  refine (operator_any 2 14 (by simp) _).mono ?_
  rintro e w1 ⟨rfl, hb1⟩
  have HB1 := hid hb1
  clear hb1
  go_wp2_with (first | (go_at_call 77; refine (mk64 _ _).mono ?_; rintro e w' ⟨rfl, rfl⟩))
  refine (bin_prod a b l0 u0 l1 u1 w1).mono ?_
  rintro e w2 ⟨v, rfl, hv, hb2⟩
  have HB2 := hid (HB1.out.trans (hb2.mono HB1.out.size))
  clear hb2
  rcases hv with ⟨hf, rfl⟩ | ⟨hf, bk, s, k, rfl, hI⟩
  · have HF := hid hf
    clear hf
    go_wp2_with fail
    refine (int64Val_64 _ _).mono ?_
    rintro e w3 ⟨rfl, rfl⟩
    go_wp2_with fail
    go_ret2
    exact ⟨_, _, rfl, HF.out.symm, hid (fun _ => rfl), HB2.out⟩
  · have HF := hid hf
    have HI := hid hI
    clear hf hI
    go_wp2_with fail
    refine (int64Val_big bk s k _ HI.out).mono ?_
    rintro e w3 ⟨z, rfl, hb3⟩
    go_wp2_with fail
    go_ret2
    exact ⟨_, _, rfl, HF.out.symm, hid (fun h => absurd h (by decide)), HB2.out.trans (hb3.mono HB2.out.size)⟩
end Go.Proofs.YtocahcammjoffaaGreatDoor

namespace Go.Proofs.YtocahcammjoffaaGreatDoor
open Go.RowKit Go.Dig
set_option maxRecDepth 100000
set_option maxHeartbeats 1000000 in
theorem prod_walk (a b : Int) (l0 : -9223372036854775808 ≤ a) (u0 : a ≤ 9223372036854775807) (l1 : -9223372036854775808 ≤ b) (u1 : b ≤ 9223372036854775807) (w : World) : Calls Tryz.prog 13 #[.int .i64 a, .int .i64 b] w fun e w' => e = .returned (.bool true) ∧ Below w.heap.size w w' := by
  go_enter Tryz.func13, Tryz.ntmps13
  go_wp2_with fail
  refine (small_prod a b l0 u0 l1 u1 _).mono ?_
  rintro e w1 ⟨z, ok, rfl, OK, ZZ, hb1⟩
  go_wp2_with fail
  refine (of64_h a _ l0 u0).mono ?_
  rintro e w2 ⟨sa, ma, v1, v2, rfl, SA, MA, h1, h2, hb2⟩
  obtain ⟨p1, c1, rfl⟩ := h1.shape
  obtain ⟨p2, c2, rfl⟩ := h2.shape
  have A1 := hid h1
  have A2 := hid h2
  have hba := below_next hb1 hb2
  clear h1 h2 hb1 hb2
  go_wp2_with fail
  refine (of64_h b _ l1 u1).mono ?_
  rintro e w3 ⟨sb, mb, v3, v4, rfl, SB, MB, h3, h4, hb3⟩
  obtain ⟨p3, c3, rfl⟩ := h3.shape
  obtain ⟨p4, c4, rfl⟩ := h4.shape
  have B1 := hid h3
  have B2 := hid h4
  have hbb := below_next hba hb3
  have C1 : Hid (Nt w3 _ ma) := A1.out.below hb3 (Nat.le_refl _)
  have C2 : Hid (Nt w3 _ 1) := A2.out.below hb3 (Nat.le_refl _)
  clear h3 h4 hb3 hba A1 A2
  go_wp2_with fail
  have LA : (dg 65536 ma).length ≤ 20000 := by rw [MA.out]; exact Nat.le_trans (small_len a l0 u0) (by omega)
  have LB : (dg 65536 mb).length ≤ 20000 := by rw [MB.out]; exact Nat.le_trans (small_len b l1 u1) (by omega)
  have L1 : (dg 65536 1).length ≤ 20000 := Nat.le_trans (dg_length_le (b := 65536) (k := 1) (by omega) (by omega)) (by omega)
  refine (times_bz _ _ sa sb ma 1 mb 1 w3 ⟨_, _, rfl, C1.out, C2.out⟩ ⟨_, _, rfl, B1.out, B2.out⟩ LA L1 LB L1 (by omega) (by omega)).mono ?_
  rintro e w4 ⟨S, bz, v5, v6, rfl, HS, HBZ, hv5, hv6, hb4⟩
  rw [Nat.mul_one, Nat.gcd_one_right, Nat.div_one] at hv5
  rw [Nat.mul_one, Nat.gcd_one_right, Nat.div_one] at hv6
  obtain ⟨p5, c5, rfl⟩ := hv5.shape
  obtain ⟨p6, c6, rfl⟩ := hv6.shape
  have V5 := hid hv5
  have V6 := hid hv6
  have hbc := below_next hbb hb4
  have ES : Hid (S = a * b) := by
    rw [HS.out, SA.out, SB.out, MA.out, MB.out]
    exact prod_abs a b
  clear hv5 hv6 hb4 hbb C1 C2 B1 B2 LA LB L1
  go_wp2_with fail
  refine (fits_any z ok bz _ _ S.natAbs w4 V5.out V6.out (fun h => by rw [HBZ.out] at h; have := of_decide_eq_true h; omega) (abs_len _ (by rw [ES.out]; exact prod_bound l0 u0 l1 u1)) (by rw [HBZ.out, sgn_abs, ES.out]; exact OK.out) (fun h => by rw [HBZ.out, sgn_abs, ES.out]; exact ZZ.out h)).mono ?_
  rintro e w5 ⟨rfl, hb5⟩
  go_wp2_with fail
  go_ret
  exact ⟨rfl, below_next hbc hb5⟩
end Go.Proofs.YtocahcammjoffaaGreatDoor
