/- Walks and lemmas for the laws of this seat. -/
import Derived.Test.YtgdgklhfakplhaaGreatDoorH12
import Derived.Shelf.Spec.BitsCarry
import Derived.Shelf.Bits.Mul64
import Derived.Test.YtgdgklhfakplhaaGreatDoorH05
import Derived.Deep.RegionHeld
namespace Go.Proofs.YtgdgklhfakplhaaGreatDoor
open Go.RowKit Go.Dig
set_option maxRecDepth 100000
theorem info158 : (Tryz.prog.info? 181).map (fun i => (i.zero, i.size, i.bytes)) = some (some (.int .u64 0), 1, 8) := by kernel_rfl
theorem make_words (n m : Nat) (hn : n ≤ m) (hm : m ≤ 1000000) (w : World) :
    (Instr.makeSlice 118 (.int .i64 (n : Int)) (.int .i64 (m : Int))).run Tryz.prog w = .ok (.slice (some ⟨w.heap.size, 0, none⟩) n m) (w.alloc (.cells (madeCells #[.int .u64 0] m) 181)) := by
  obtain ⟨i, hi, hzz⟩ := Option.map_eq_some_iff.1 info158
  simp only [Prod.mk.injEq] at hzz
  obtain ⟨hz, hs, hb⟩ := hzz
  have hr := run_make (P := Tryz.prog) w 118 181 i (.int .u64 0) Tryz.underlying118 hi hz .i64 .i64 n m (by omega) (by omega) (by rw [hb]; omega) (by omega)
  simp only [Int.toNat_natCast, hs, Nat.mul_one] at hr
  exact hr
set_option maxHeartbeats 400000 in
theorem natMake_any (k : Nat) (hk : 1 < k) (hk2 : k < 1000) (w : World) : Calls Tryz.prog 106 #[.slice none 0 0, .int .i64 k] w fun e w' => e = .returned (.slice (some ⟨w.heap.size, 0, none⟩) k (k + 4)) ∧ w' = w.alloc (.cells (cs .u64 (List.replicate (k + 4) 0)).toArray 181) := by
  have hmk := make_words k (k + 4) (by omega) (by omega)
  have ec : ((k + 4 : Nat) : Int) = (k : Int) + 4 := by omega
  rw [ec] at hmk
  go_enter Tryz.func106, Tryz.ntmps106
  go_wp2_with fail
  go_ret
  rw [cs_zeros]
  exact ⟨rfl, rfl⟩
set_option maxHeartbeats 400000 in
theorem natMake_one (w : World) : Calls Tryz.prog 106 #[.slice none 0 0, .int .i64 1] w fun e w' => e = .returned (.slice (some ⟨w.heap.size, 0, none⟩) 1 1) ∧ w' = w.alloc (.cells (cs .u64 [0]).toArray 181) := by
  have hmk : ∀ w, (Instr.makeSlice 118 (.int .i64 1) (.int .i64 1)).run Tryz.prog w = .ok (.slice (some ⟨w.heap.size, 0, none⟩) 1 1) (w.alloc (.cells (madeCells #[.int .u64 0] 1) 181)) := make_words 1 1 (by omega) (by omega)
  go_enter Tryz.func106, Tryz.ntmps106
  go_wp2_with fail
  go_ret
  rw [cs_zeros]
  exact ⟨rfl, rfl⟩
theorem add64_c (x y c : Nat) (hc : c ≤ 1) (w : World) :
    (callFunc 196 #[.int .u64 x, .int .u64 y, .int .u64 c]).run Tryz.prog w =
      .ok (.value (.tuple #[.int .u64 (((x + y + c) % 18446744073709551616 : Nat) : Int), .int .u64 (((x + y + c) / 18446744073709551616 : Nat) : Int)])) w := by
  rw [run_callFunc_extern Tryz.func196 (by kernel_rfl) (by kernel_rfl) (by kernel_rfl) (e := add64Entry) (by kernel_rfl), run_add64 x y c (by omega) (by omega) (by omega) (by omega)]
  simp only [Result.andThen]
  congr 5 <;> omega
theorem sub64_c (x y b : Nat) (hb : b ≤ 1) (w : World) :
    (callFunc 238 #[.int .u64 x, .int .u64 y, .int .u64 b]).run Tryz.prog w =
      .ok (.value (.tuple #[.int .u64 (((x + 18446744073709551616 - y - b) % 18446744073709551616 : Nat) : Int), .int .u64 ((if x < y + b then 1 else 0 : Nat) : Int)])) w := by
  rw [run_callFunc_extern Tryz.func238 (by kernel_rfl) (by kernel_rfl) (by kernel_rfl) (e := sub64Entry) (by kernel_rfl), run_sub64 x y b hb]
  rfl
set_option maxHeartbeats 400000 in
theorem bitsAdd_any (x y c : Nat) (hc : c ≤ 1) (w : World) : Calls Tryz.prog 168 #[.int .u64 x, .int .u64 y, .int .u64 c] w fun e w' => e = .returned (.tuple #[.int .u64 ((x + y + c) % 18446744073709551616 : Nat), .int .u64 ((x + y + c) / 18446744073709551616 : Nat)]) ∧ w' = w := by
  have hr := add64_c x y c hc w
  generalize (x + y + c) % 18446744073709551616 = u at *
  generalize (x + y + c) / 18446744073709551616 = v at *
  go_enter Tryz.func168, Tryz.ntmps168
  go_wp2_with fail
  go_ret2
  exact ⟨rfl, rfl⟩
set_option maxHeartbeats 400000 in
theorem bitsSub_any (x y b : Nat) (hb : b ≤ 1) (w : World) : Calls Tryz.prog 224 #[.int .u64 x, .int .u64 y, .int .u64 b] w fun e w' => e = .returned (.tuple #[.int .u64 ((x + 18446744073709551616 - y - b) % 18446744073709551616 : Nat), .int .u64 ((if x < y + b then 1 else 0 : Nat) : Int)]) ∧ w' = w := by
  have hr := sub64_c x y b hb w
  generalize (x + 18446744073709551616 - y - b) % 18446744073709551616 = u at *
  generalize (if x < y + b then 1 else 0 : Nat) = v at *
  go_enter Tryz.func224, Tryz.ntmps224
  go_wp2_with fail
  go_ret2
  exact ⟨rfl, rfl⟩
end Go.Proofs.YtgdgklhfakplhaaGreatDoor
namespace Go.Proofs.YtgdgklhfakplhaaGreatDoor
open Go.RowKit Go.Dig
set_option maxRecDepth 100000
set_option maxHeartbeats 1000000 in
theorem mul64_any (x y : Nat) (hx : x < 18446744073709551616) (hy : y < 18446744073709551616) (w : World) :
    Calls Tryz.prog 236 #[.int .u64 x, .int .u64 y] w fun e w' => e = .returned (.tuple #[.int .u64 ((x * y / 18446744073709551616 : Nat) : Int), .int .u64 ((x * y % 18446744073709551616 : Nat) : Int)]) ∧ w' = w := by
  obtain ⟨bd, bt, bw, hhi⟩ := Lib.mul64_hi x y hx hy
  have ba := Lib.half_mul_le (a := x / 4294967296) (b := y / 4294967296) (by omega) (by omega)
  have bb := Lib.half_mul_le (a := x / 4294967296) (b := y % 4294967296) (by omega) (by omega)
  have bc := Lib.half_mul_le (a := x % 4294967296) (b := y / 4294967296) (by omega) (by omega)
  have ba' : x / 4294967296 * (y / 4294967296) < 18446744073709551616 := by omega
  have bb' : x / 4294967296 * (y % 4294967296) < 18446744073709551616 := by omega
  have bc' : x % 4294967296 * (y / 4294967296) < 18446744073709551616 := by omega
  have bh1 : x / 4294967296 * (y / 4294967296) + (x / 4294967296 * (y % 4294967296) + x % 4294967296 * (y % 4294967296) / 4294967296) / 4294967296 < 18446744073709551616 := by omega
  have bh : x / 4294967296 * (y / 4294967296) + (x / 4294967296 * (y % 4294967296) + x % 4294967296 * (y % 4294967296) / 4294967296) / 4294967296 + ((x / 4294967296 * (y % 4294967296) + x % 4294967296 * (y % 4294967296) / 4294967296) % 4294967296 + x % 4294967296 * (y / 4294967296)) / 4294967296 < 18446744073709551616 := by
    rw [hhi]
    exact Nat.div_lt_of_lt_mul (Nat.lt_of_lt_of_le (Nat.mul_lt_mul_of_lt_of_lt hx hy) (by omega))
  go_enter Tryz.func236, Tryz.ntmps236
  go_wp2
  simp only [Mul64.maskN x hx, Mul64.maskN y hy, Mul64.divN, Mul64.mulN, Mul64.addN, Mul64.wrapN _ bd, Mul64.wrapN _ bb', Mul64.wrapN _ bt, Mul64.maskN _ bt, Mul64.wrapN _ bc', Mul64.wrapN _ bw, Mul64.wrapN _ ba', Mul64.wrapN _ bh1, Mul64.wrapN _ bh, Mul64.wrapM (x * y)]
  rw [hhi]
  go_ret2
  exact ⟨rfl, rfl⟩
set_option maxHeartbeats 400000 in
theorem bitsMul_any (x y : Nat) (hx : x < 18446744073709551616) (hy : y < 18446744073709551616) (w : World) :
    Calls Tryz.prog 223 #[.int .u64 x, .int .u64 y] w fun e w' => e = .returned (.tuple #[.int .u64 ((x * y / 18446744073709551616 : Nat) : Int), .int .u64 ((x * y % 18446744073709551616 : Nat) : Int)]) ∧ w' = w := by
  have c64 := mul64_any x y hx hy w
  generalize x * y / 18446744073709551616 = u at *
  generalize x * y % 18446744073709551616 = v at *
  go_enter Tryz.func223, Tryz.ntmps223
  go_wp2_with (go_at_call 236; refine c64.mono ?_; rintro e w' ⟨rfl, rfl⟩)
  go_ret2
  exact ⟨rfl, rfl⟩
theorem muladd_hi (p c : Nat) : p / 18446744073709551616 + (p % 18446744073709551616 + c) / 18446744073709551616 = (p + c) / 18446744073709551616 := by omega
theorem muladd_lo (p c : Nat) : (p % 18446744073709551616 + c) % 18446744073709551616 = (p + c) % 18446744073709551616 := by omega
theorem muladd_lt {x y c : Nat} (hx : x < 18446744073709551616) (hy : y < 18446744073709551616) (hc : c < 18446744073709551616) : (x * y + c) / 18446744073709551616 < 18446744073709551616 := by
  apply Nat.div_lt_of_lt_mul
  have h : x * y ≤ 18446744073709551615 * 18446744073709551615 := Nat.mul_le_mul (by omega) (by omega)
  omega
set_option maxHeartbeats 400000 in
theorem mulAddWWW_any (x y c : Nat) (hx : x < 18446744073709551616) (hy : y < 18446744073709551616) (hc : c < 18446744073709551616) (w : World) :
    Calls Tryz.prog 239 #[.int .u64 x, .int .u64 y, .int .u64 c] w fun e w' => ∃ u v : Nat, e = .returned (.tuple #[.int .u64 u, .int .u64 v]) ∧ Hid (u = (x * y + c) / 18446744073709551616) ∧ Hid (v = (x * y + c) % 18446744073709551616) ∧ w' = w := by
  have c1 := bitsMul_any x y hx hy w
  have c2 := bitsAdd_any (x * y % 18446744073709551616) c 0 (by omega) w
  rw [Nat.add_zero] at c2
  have H1 := muladd_hi (x * y) c
  have H2 := muladd_lo (x * y) c
  have H3 := muladd_lt hx hy hc
  generalize (x * y + c) / 18446744073709551616 = U at *
  generalize (x * y + c) % 18446744073709551616 = V at *
  rw [H2] at c2
  generalize x * y / 18446744073709551616 = u at *
  generalize x * y % 18446744073709551616 = v at *
  generalize (v + c) / 18446744073709551616 = d at *
  have hs : ((u : Int) + (d : Int)) = ((U : Nat) : Int) := by omega
  go_enter Tryz.func239, Tryz.ntmps239
  go_wp2_with (first | (go_at_call 223; refine c1.mono ?_; rintro e w' ⟨rfl, rfl⟩) | (go_at_call 168; refine c2.mono ?_; rintro e w' ⟨rfl, rfl⟩))

  go_ret2
  exact ⟨_, _, rfl, hid rfl, hid rfl, rfl⟩
end Go.Proofs.YtgdgklhfakplhaaGreatDoor
namespace Go.Proofs.YtgdgklhfakplhaaGreatDoor
open Go.RowKit Go.Dig
set_option maxRecDepth 100000
theorem mulvww_step {B : Nat} {l xs : List Nat} {i c x y r : Nat} (hx : xs.getD i 0 = x) (hxl : i < xs.length) (hl : i < l.length)
    (h : val B (l.take i) + c * B ^ i = val B (xs.take i) * y + r) :
    val B ((l.set i ((x * y + c) % B)).take (i + 1)) + (x * y + c) / B * B ^ (i + 1) = val B (xs.take (i + 1)) * y + r := by
  have e : ∀ (m : List Nat), i < m.length → val B (m.take (i + 1)) = val B (m.take i) + m.getD i 0 * B ^ i := by
    intro m hm
    rw [List.take_add_one, List.getElem?_eq_getElem hm, Option.toList_some, val_append, List.length_take, Nat.min_eq_left (by omega), List.getD_eq_getElem?_getD, List.getElem?_eq_getElem hm]
    simp [val, Nat.mul_comm]
  rw [e _ (by rw [List.length_set]; exact hl), e xs hxl, hx]
  have e1 : (l.set i ((x * y + c) % B)).take i = l.take i := by rw [List.take_set_of_le (by omega)]
  have e2 : (l.set i ((x * y + c) % B)).getD i 0 = (x * y + c) % B := by rw [List.getD_eq_getElem?_getD, List.getElem?_set_self hl]; rfl
  rw [e1, e2]
  have e3 : (x * y + c) * B ^ i = (x * y + c) % B * B ^ i + (x * y + c) / B * B ^ (i + 1) := by
    generalize x * y + c = t
    have := Nat.div_add_mod t B
    rw [Nat.pow_succ, Nat.mul_comm (B ^ i) B, ← Nat.mul_assoc, ← Nat.add_mul, Nat.add_comm (t % B), Nat.mul_comm (t / B), this]
  have e4 : (val B (xs.take i) + x * B ^ i) * y = val B (xs.take i) * y + x * y * B ^ i := by
    rw [Nat.add_mul, Nat.mul_assoc, Nat.mul_comm (B ^ i) y, ← Nat.mul_assoc]
  rw [e4]
  rw [Nat.add_mul] at e3
  omega
set_option maxHeartbeats 1000000 in
theorem mulAddVWW_g (w0 w : World) (b cap : Nat) (vx : Value) (xs l : List Nat) (y r : Nat) (hb : Below w0.heap.size w0 w) (hB : w0.heap.size ≤ b) (hl : BlkN .u64 181 w b l) (hx : Rd .u64 w0 vx xs)
    (hlen : xs.length ≤ l.length) (hdx : ∀ d ∈ xs, d < 18446744073709551616) (hy : y < 18446744073709551616) (hr : r < 18446744073709551616) :
    Calls Tryz.prog 226 #[.slice (some ⟨b, 0, none⟩) xs.length cap, vx, .int .u64 y, .int .u64 r] w fun e w' => ∃ (l' : List Nat) (c : Nat), e = .returned (.int .u64 (c : Nat)) ∧ l'.length = l.length ∧ c < 18446744073709551616 ∧ val 18446744073709551616 (l'.take xs.length) + c * 18446744073709551616 ^ xs.length = val 18446744073709551616 xs * y + r ∧
      (∀ j, xs.length ≤ j → l'.getD j 0 = l.getD j 0) ∧ (∀ j, j < xs.length → l'.getD j 0 < 18446744073709551616) ∧ BlkN .u64 181 w' b l' ∧ Below w0.heap.size w0 w' := by
  obtain ⟨ax, cx, rfl, hx1, hx2, hx3⟩ := hx
  have HX := hid hx3
  clear hx3
  go_enter Tryz.func226, Tryz.ntmps226
  go_wp2_with fail
  go_loopw [8, 19] (fun p q wr => ∃ (c i : Nat) (m : List Nat), p = .int .u64 c ∧ q = .int .i64 i ∧ i ≤ xs.length ∧ c < 18446744073709551616 ∧ Hid (m.length = l.length) ∧ BlkN .u64 181 wr b m ∧ Hid (val 18446744073709551616 (m.take i) + c * 18446744073709551616 ^ i = val 18446744073709551616 (xs.take i) * y + r) ∧
    Hid (∀ j, i ≤ j → m.getD j 0 = l.getD j 0) ∧ Hid (∀ j, j < i → m.getD j 0 < 18446744073709551616) ∧ Below w0.heap.size w0 wr) (fun _ q _ => xs.length - (intOf q).toNat)
  case atStart => exact ⟨r, 0, l, rfl, rfl, Nat.zero_le _, hr, hid rfl, hl, hid (by simp [val]), hid (fun _ _ => rfl), hid (fun j h => absurd h (by omega)), hb⟩
  case round =>
    clear hl hb
    obtain ⟨c, i, m, rfl, rfl, hi, hc, hml, hBm, hv, hrest, hlow, hb⟩ := hrel
    rcases Nat.lt_or_ge i xs.length with hlt | hge
    · obtain ⟨bx, ox, rfl, hcx⟩ := HX.out (by omega)
      have hkx := hcx i hlt
      clear hcx
      have hx := (hb.cell (World.block_lt_of_cell? w0 _ hkx)).trans hkx
      clear hkx
      generalize hxe : xs.getD i 0 = x at hx
      have HXE := hid hxe
      clear hxe
      have hx1 : x < 18446744073709551616 := by rw [← HXE.out]; exact getD_lt (by omega) hdx i
      have hcell := hBm.at (i := i) (by rw [hml.out]; omega)
      have hfr := Blk.frozen hBm i
      generalize m.getD i 0 = old at hcell
      go_wp2_with fail
      refine (mulAddWWW_any x y c hx1 hy hc _).mono ?_
      rintro e w' ⟨U, V, rfl, HU, HV0, rfl⟩
      have HV := hid (mulvww_step (B := 18446744073709551616) (l := m) (xs := xs) (i := i) (c := c) (y := y) (r := r) HXE.out hlt (by rw [hml.out]; omega) hv.out)
      rw [← HU.out, ← HV0.out] at HV
      have hc2 : U < 18446744073709551616 := by rw [HU.out]; exact muladd_lt hx1 hy hc
      have hu1 : V < 18446744073709551616 := by rw [HV0.out]; exact Nat.mod_lt _ (by omega)
      go_wp2_with fail
      go_roundw
      case rel =>
        refine ⟨U, i + 1, m.set i V, by simp, by go_num, by omega, hc2, hid (by rw [List.length_set]; exact hml.out), ?_, hid HV.out, hid ?_, hid ?_, hb.setCell hB _⟩
        · have := BlkN.put hBm i V
          simpa using this
        · intro j hj; rw [set_far (by omega)]; exact hrest.out j (by omega)
        · intro j hj
          rcases Nat.lt_or_ge j i with h | h
          · rw [set_far (by omega)]; exact hlow.out j h
          · obtain rfl : j = i := by omega
            rw [List.getD_eq_getElem?_getD, List.getElem?_set_self (by rw [hml.out]; omega)]; exact hu1
      case measure => simp [intOf]; omega
    · obtain rfl : i = xs.length := by omega
      go_wp2_with fail
      go_ret
      refine ⟨m, c, rfl, hml.out, hc, ?_, hrest.out, hlow.out, hBm, hb⟩
      have := hv.out
      rw [List.take_length] at this
      exact this
set_option maxHeartbeats 400000 in
theorem mulVW_wrap (p x : Option Addr) (L1 L2 c1 c2 : Nat) (y r : Int) (w : World) (R : Ending → World → Prop) (hR : Hid (∀ e w', R e w' → ∃ v, e = .returned v)) (h : Calls Tryz.prog 226 #[.slice p L1 c1, .slice x L2 c2, .int .u64 y, .int .u64 r] w R) :
    Calls Tryz.prog 206 #[.slice p L1 c1, .slice x L2 c2, .int .u64 y, .int .u64 r] w R := by
  go_enter Tryz.func206, Tryz.ntmps206
  go_wp2_with fail
  refine h.mono ?_
  intro e w' hq
  obtain ⟨v, rfl⟩ := hR.out e w' hq
  have HQ := hid hq
  clear hq
  go_wp2_with fail
  exact HQ
theorem mulAddVWW_w (w0 w : World) (b cap : Nat) (vx : Value) (xs l : List Nat) (y r : Nat) (hb : Below w0.heap.size w0 w) (hB : w0.heap.size ≤ b) (hl : BlkN .u64 181 w b l) (hx : Rd .u64 w0 vx xs)
    (hlen : xs.length ≤ l.length) (hdx : ∀ d ∈ xs, d < 18446744073709551616) (hy : y < 18446744073709551616) (hr : r < 18446744073709551616) :
    Calls Tryz.prog 206 #[.slice (some ⟨b, 0, none⟩) xs.length cap, vx, .int .u64 y, .int .u64 r] w fun e w' => ∃ (l' : List Nat) (c : Nat), e = .returned (.int .u64 (c : Nat)) ∧ l'.length = l.length ∧ c < 18446744073709551616 ∧ val 18446744073709551616 (l'.take xs.length) + c * 18446744073709551616 ^ xs.length = val 18446744073709551616 xs * y + r ∧
      (∀ j, xs.length ≤ j → l'.getD j 0 = l.getD j 0) ∧ (∀ j, j < xs.length → l'.getD j 0 < 18446744073709551616) ∧ BlkN .u64 181 w' b l' ∧ Below w0.heap.size w0 w' := by
  obtain ⟨ax, cx, rfl⟩ := hx.shape
  exact mulVW_wrap _ _ _ _ _ _ _ _ w _ (by rintro e w' ⟨l', c, h1, _⟩; exact ⟨_, h1⟩) (mulAddVWW_g w0 w b cap _ xs l y r hb hB hl hx hlen hdx hy hr)
end Go.Proofs.YtgdgklhfakplhaaGreatDoor
namespace Go.Proofs.YtgdgklhfakplhaaGreatDoor
open Go.RowKit Go.Dig
set_option maxRecDepth 100000
set_option maxHeartbeats 1000000 in
theorem mvww_g (bz oz cz bx ox cx y r : Nat) (lz xs : List Nat) (w : World) (hz : Ds w bz oz lz) (hx : Ds w bx ox xs) (hl : lz.length = xs.length) (hd : bx ≠ bz ∨ ox + xs.length ≤ oz ∨ oz + xs.length ≤ ox) (hk : xs.length < 1000000) (hdx : ∀ d ∈ xs, d < 18446744073709551616) (hy : y < 18446744073709551616) (hr : r < 18446744073709551616) :
    Calls Tryz.prog 226 #[.slice (some ⟨bz, oz, none⟩) xs.length cz, .slice (some ⟨bx, ox, none⟩) xs.length cx, .int .u64 y, .int .u64 r] w fun e w' => ∃ (l' : List Nat) (c : Nat), e = .returned (.int .u64 (c : Nat)) ∧ l'.length = xs.length ∧ c < 18446744073709551616 ∧ val 18446744073709551616 l' + c * 18446744073709551616 ^ xs.length = val 18446744073709551616 xs * y + r ∧ (∀ d ∈ l', d < 18446744073709551616) ∧ Ds w' bz oz l' ∧ Fx bz oz xs.length w w' := by
  have HX := hid hx
  have HD := hid hd
  have HDX := hid hdx
  clear hdx
  go_enter Tryz.func226, Tryz.ntmps226
  go_wp2_with fail
  go_loopw [8, 19] (fun p q wr => ∃ (c i : Nat) (m : List Nat), p = .int .u64 c ∧ q = .int .i64 i ∧ i ≤ xs.length ∧ c < 18446744073709551616 ∧ Hid (m.length = xs.length) ∧ Ds wr bz oz m ∧ Hid (val 18446744073709551616 (m.take i) + c * 18446744073709551616 ^ i = val 18446744073709551616 (xs.take i) * y + r) ∧
    Hid (∀ j, j < i → m.getD j 0 < 18446744073709551616) ∧ Fx bz oz xs.length w wr) (fun _ q _ => xs.length - (intOf q).toNat)
  case atStart => exact ⟨r, 0, lz, rfl, rfl, Nat.zero_le _, hr, hid hl, hz, hid (by simp [val]), hid (fun j h => absurd h (by omega)), Fx.refl _ _ _ _⟩
  case round =>
    clear hz hl hx hd
    obtain ⟨c, i, m, rfl, rfl, hi, hc, hml, hBm, hv, hlow, hb⟩ := hrel
    rcases Nat.lt_or_ge i xs.length with hlt | hge
    · have hx := (HX.out.fx hb HD.out).cell (i := i) hlt
      generalize hxe : xs.getD i 0 = x at hx
      have HXE := hid hxe
      clear hxe
      have hx1 : x < 18446744073709551616 := by rw [← HXE.out]; exact getD_lt (by omega) HDX.out i
      have hcell := hBm.cell (i := i) (by rw [hml.out]; omega)
      have hfr := hBm.frozen (oz + i)
      generalize m.getD i 0 = old at hcell
      go_wp2_with fail
      refine (mulAddWWW_any x y c hx1 hy hc _).mono ?_
      rintro e w' ⟨U, V, rfl, HU, HV0, rfl⟩
      have HV := hid (mulvww_step (B := 18446744073709551616) (l := m) (xs := xs) (i := i) (c := c) (y := y) (r := r) HXE.out hlt (by rw [hml.out]; omega) hv.out)
      rw [← HU.out, ← HV0.out] at HV
      have hc2 : U < 18446744073709551616 := by rw [HU.out]; exact muladd_lt hx1 hy hc
      have hu1 : V < 18446744073709551616 := by rw [HV0.out]; exact Nat.mod_lt _ (by omega)
      go_wp2_with fail
      go_roundw
      case rel =>
        refine ⟨U, i + 1, m.set i V, by simp, by go_num, by omega, hc2, hid (by rw [List.length_set]; exact hml.out), ?_, hid HV.out, hid ?_, ?_⟩
        · have := hBm.put (i := i) (by rw [hml.out]; omega) V
          simpa using this
        · intro j hj
          rcases Nat.lt_or_ge j i with h | h
          · rw [set_far (by omega)]; exact hlow.out j h
          · obtain rfl : j = i := by omega
            rw [List.getD_eq_getElem?_getD, List.getElem?_set_self (by rw [hml.out]; omega)]; exact hu1
        · have := hb.setCell (i := oz + i) (by omega) (by omega) (.int .u64 (V : Int))
          simpa using this
      case measure => simp [intOf]; omega
    · obtain rfl : i = xs.length := by omega
      go_wp2_with fail
      go_ret
      refine ⟨m, c, rfl, hml.out, hc, ?_, mem_getD (fun i hi => hlow.out i (by rw [← hml.out]; exact hi)), hBm, hb⟩
      have := hv.out
      rw [List.take_length] at this
      have e2 : m.take xs.length = m := by rw [← hml.out, List.take_length]
      rw [e2] at this
      exact this
theorem mvww (bz oz cz bx ox cx y r : Nat) (lz xs : List Nat) (w : World) (hz : Ds w bz oz lz) (hx : Ds w bx ox xs) (hl : lz.length = xs.length) (hd : bx ≠ bz ∨ ox + xs.length ≤ oz ∨ oz + xs.length ≤ ox) (hk : xs.length < 1000000) (hdx : ∀ d ∈ xs, d < 18446744073709551616) (hy : y < 18446744073709551616) (hr : r < 18446744073709551616) :
    Calls Tryz.prog 206 #[.slice (some ⟨bz, oz, none⟩) xs.length cz, .slice (some ⟨bx, ox, none⟩) xs.length cx, .int .u64 y, .int .u64 r] w fun e w' => ∃ (l' : List Nat) (c : Nat), e = .returned (.int .u64 (c : Nat)) ∧ l'.length = xs.length ∧ c < 18446744073709551616 ∧ val 18446744073709551616 l' + c * 18446744073709551616 ^ xs.length = val 18446744073709551616 xs * y + r ∧ (∀ d ∈ l', d < 18446744073709551616) ∧ Ds w' bz oz l' ∧ Fx bz oz xs.length w w' :=
  mulVW_wrap _ _ _ _ _ _ _ _ w _ (by rintro e w' ⟨l', c, h1, _⟩; exact ⟨_, h1⟩) (mvww_g bz oz cz bx ox cx y r lz xs w hz hx hl hd hk hdx hy hr)
end Go.Proofs.YtgdgklhfakplhaaGreatDoor
namespace Go.Proofs.YtgdgklhfakplhaaGreatDoor
open Go.RowKit Go.Dig
set_option maxRecDepth 100000
theorem addvv_step {B : Nat} {l xs ys : List Nat} {i c x y : Nat} (hx : xs.getD i 0 = x) (hy : ys.getD i 0 = y) (hxl : i < xs.length) (hyl : i < ys.length) (hl : i < l.length)
    (h : val B (l.take i) + c * B ^ i = val B (xs.take i) + val B (ys.take i)) :
    val B ((l.set i ((x + y + c) % B)).take (i + 1)) + (x + y + c) / B * B ^ (i + 1) = val B (xs.take (i + 1)) + val B (ys.take (i + 1)) := by
  have e : ∀ (m : List Nat), i < m.length → val B (m.take (i + 1)) = val B (m.take i) + m.getD i 0 * B ^ i := by
    intro m hm
    rw [List.take_add_one, List.getElem?_eq_getElem hm, Option.toList_some, val_append, List.length_take, Nat.min_eq_left (by omega), List.getD_eq_getElem?_getD, List.getElem?_eq_getElem hm]
    simp [val, Nat.mul_comm]
  rw [e _ (by rw [List.length_set]; exact hl), e xs hxl, e ys hyl, hx, hy]
  have e1 : (l.set i ((x + y + c) % B)).take i = l.take i := by rw [List.take_set_of_le (by omega)]
  have e2 : (l.set i ((x + y + c) % B)).getD i 0 = (x + y + c) % B := by rw [List.getD_eq_getElem?_getD, List.getElem?_set_self hl]; rfl
  rw [e1, e2]
  have e3 : (x + y + c) * B ^ i = (x + y + c) % B * B ^ i + (x + y + c) / B * B ^ (i + 1) := by
    generalize x + y + c = t
    have := Nat.div_add_mod t B
    rw [Nat.pow_succ, Nat.mul_comm (B ^ i) B, ← Nat.mul_assoc, ← Nat.add_mul, Nat.add_comm (t % B), Nat.mul_comm (t / B), this]
  rw [Nat.add_mul, Nat.add_mul] at e3
  omega
set_option maxHeartbeats 1000000 in
theorem addVV_any (w0 w : World) (b cap : Nat) (vx vy : Value) (xs ys l : List Nat) (hb : Below w0.heap.size w0 w) (hB : w0.heap.size ≤ b) (hl : BlkN .u64 181 w b l) (hx : Rd .u64 w0 vx xs) (hy : Rd .u64 w0 vy ys)
    (hxy : xs.length = ys.length) (hlen : xs.length ≤ l.length) (hdx : ∀ d ∈ xs, d < 18446744073709551616) (hdy : ∀ d ∈ ys, d < 18446744073709551616) :
    Calls Tryz.prog 228 #[.slice (some ⟨b, 0, none⟩) xs.length cap, vx, vy] w fun e w' => ∃ l' c, e = .returned (.int .u64 (c : Nat)) ∧ l'.length = l.length ∧ c ≤ 1 ∧ val 18446744073709551616 (l'.take xs.length) + c * 18446744073709551616 ^ xs.length = val 18446744073709551616 xs + val 18446744073709551616 ys ∧
      (∀ j, xs.length ≤ j → l'.getD j 0 = l.getD j 0) ∧ (∀ j, j < xs.length → l'.getD j 0 < 18446744073709551616) ∧ BlkN .u64 181 w' b l' ∧ Below w0.heap.size w0 w' := by
  obtain ⟨ax, cx, rfl, hx1, hx2, hx3⟩ := hx
  obtain ⟨ay, cy, rfl, hy1, hy2, hy3⟩ := hy
  rw [← hxy] at hy1 hy3 ⊢
  have HX := hid hx3
  have HY := hid hy3
  have HXY := hid hxy
  clear hx3 hy3 hxy
  go_enter Tryz.func228, Tryz.ntmps228
  go_wp2_with fail
  go_loopw [6, 25] (fun p q wr => ∃ (c i : Nat) (m : List Nat), p = .int .u64 c ∧ q = .int .i64 i ∧ i ≤ xs.length ∧ c ≤ 1 ∧ Hid (m.length = l.length) ∧ BlkN .u64 181 wr b m ∧ Hid (val 18446744073709551616 (m.take i) + c * 18446744073709551616 ^ i = val 18446744073709551616 (xs.take i) + val 18446744073709551616 (ys.take i)) ∧
    Hid (∀ j, i ≤ j → m.getD j 0 = l.getD j 0) ∧ Hid (∀ j, j < i → m.getD j 0 < 18446744073709551616) ∧ Below w0.heap.size w0 wr) (fun _ q _ => xs.length - (intOf q).toNat)
  case atStart => exact ⟨0, 0, l, rfl, rfl, Nat.zero_le _, by omega, hid rfl, hl, hid (by simp [val]), hid (fun _ _ => rfl), hid (fun j h => absurd h (by omega)), hb⟩
  case round =>
    clear hl hb
    obtain ⟨c, i, m, rfl, rfl, hi, hc, hml, hBm, hv, hrest, hlow, hb⟩ := hrel
    rcases Nat.lt_or_ge i xs.length with hlt | hge
    · obtain ⟨bx, ox, rfl, hcx⟩ := HX.out (by omega)
      obtain ⟨bj, oy, rfl, hcy⟩ := HY.out (by omega)
      have hkx := hcx i hlt
      have hky := hcy i hlt
      clear hcx hcy
      have hx := (hb.cell (World.block_lt_of_cell? w0 _ hkx)).trans hkx
      have hy := (hb.cell (World.block_lt_of_cell? w0 _ hky)).trans hky
      clear hkx hky
      generalize hxe : xs.getD i 0 = x at hx
      generalize hye : ys.getD i 0 = y at hy
      have HXE := hid hxe
      have HYE := hid hye
      clear hxe hye
      have hcell := hBm.at (i := i) (by rw [hml.out]; omega)
      have hfr := Blk.frozen hBm i
      generalize m.getD i 0 = old at hcell
      go_wp2_with fail
      go_region_held (fun w' => w'.cell? ⟨bx, ox + i, none⟩ = some (.int .u64 x) ∧ w'.cell? ⟨bj, oy + i, none⟩ = some (.int .u64 y)) (go_keep)
        (first | (go_at_call 168; refine (bitsAdd_any x y c hc _).mono ?_; rintro e w' ⟨rfl, rfl⟩))
      have hb2 : Below w0.heap.size w0 wr.drew := hb.trans (below_drewN' (B := w0.heap.size) 1)
      have hBm2 : BlkN .u64 181 wr.drew b m := hBm.below (below_drewN' 1) hBm.lt
      have hcell2 : wr.drew.cell? ⟨b, i, none⟩ = some (.int .u64 old) := hcell
      have hfr2 : wr.drew.frozen? ⟨b, i, none⟩ = false := hfr
      have HV := hid (addvv_step (B := 18446744073709551616) (l := m) (xs := xs) (ys := ys) (i := i) (c := c) HXE.out HYE.out hlt (by rw [← HXY.out]; exact hlt) (by rw [hml.out]; omega) hv.out)
      clear hcell hfr hBm hb hx hy
      generalize wr.drew = wd at *
      have hc2 : (x + y + c) / 18446744073709551616 ≤ 1 := by
        have := HXE.out; have := HYE.out
        have h1 : x < 18446744073709551616 := by rw [← HXE.out]; exact getD_lt (by omega) hdx i
        have h2 : y < 18446744073709551616 := by rw [← HYE.out]; exact getD_lt (by omega) hdy i
        omega
      have hu1 : (x + y + c) % 18446744073709551616 < 18446744073709551616 := Nat.mod_lt _ (by omega)
      go_wp2_with fail
      go_roundw
      case rel =>
        refine ⟨(x + y + c) / 18446744073709551616, i + 1, m.set i ((x + y + c) % 18446744073709551616), by simp, by go_num, by omega, hc2, hid (by rw [List.length_set]; exact hml.out), ?_, hid HV.out, hid ?_, hid ?_, hb2.setCell hB _⟩
        · have := BlkN.put hBm2 i ((x + y + c) % 18446744073709551616)
          simpa using this
        · intro j hj; rw [set_far (by omega)]; exact hrest.out j (by omega)
        · intro j hj
          rcases Nat.lt_or_ge j i with h | h
          · rw [set_far (by omega)]; exact hlow.out j h
          · obtain rfl : j = i := by omega
            rw [List.getD_eq_getElem?_getD, List.getElem?_set_self (by rw [hml.out]; omega)]; exact hu1
      case measure => simp [intOf]; omega
    · obtain rfl : i = xs.length := by omega
      go_wp2_with fail
      go_ret
      refine ⟨m, c, rfl, hml.out, hc, ?_, hrest.out, hlow.out, hBm, hb⟩
      have := hv.out
      rw [List.take_length] at this
      have e : ys.take xs.length = ys := by rw [HXY.out, List.take_length]
      rw [e] at this
      exact this
end Go.Proofs.YtgdgklhfakplhaaGreatDoor
