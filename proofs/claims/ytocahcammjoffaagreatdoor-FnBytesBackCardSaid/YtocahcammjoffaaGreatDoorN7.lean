/- Walks and lemmas for the laws of this seat. -/
import Derived.Test.YtocahcammjoffaaGreatDoorN6
namespace Go.Proofs.YtocahcammjoffaaGreatDoor
open Go.RowKit Go.Dig
set_option maxRecDepth 100000
theorem subvv_step {B : Nat} {l xs ys : List Nat} {i c x y z c2 : Nat} (hx : xs.getD i 0 = x) (hy : ys.getD i 0 = y) (hxl : i < xs.length) (hyl : i < ys.length) (hl : i < l.length) (hz : z + y + c = x + c2 * B)
    (h : val B (l.take i) + val B (ys.take i) = val B (xs.take i) + c * B ^ i) :
    val B ((l.set i z).take (i + 1)) + val B (ys.take (i + 1)) = val B (xs.take (i + 1)) + c2 * B ^ (i + 1) := by
  have e : ∀ (m : List Nat), i < m.length → val B (m.take (i + 1)) = val B (m.take i) + m.getD i 0 * B ^ i := by
    intro m hm
    rw [List.take_add_one, List.getElem?_eq_getElem hm, Option.toList_some, val_append, List.length_take, Nat.min_eq_left (by omega), List.getD_eq_getElem?_getD, List.getElem?_eq_getElem hm]
    simp [val, Nat.mul_comm]
  rw [e _ (by rw [List.length_set]; exact hl), e xs hxl, e ys hyl, hx, hy]
  have e1 : (l.set i z).take i = l.take i := by rw [List.take_set_of_le (by omega)]
  have e2 : (l.set i z).getD i 0 = z := by rw [List.getD_eq_getElem?_getD, List.getElem?_set_self hl]; rfl
  rw [e1, e2]
  have e3 : (z + y + c) * B ^ i = (x + c2 * B) * B ^ i := by rw [hz]
  have e4 : c2 * B * B ^ i = c2 * B ^ (i + 1) := by rw [Nat.pow_succ, Nat.mul_assoc, Nat.mul_comm B]
  rw [Nat.add_mul, Nat.add_mul, Nat.add_mul, e4] at e3
  omega
theorem bitsSub_h (x y b : Nat) (hb : b ≤ 1) (w : World) : Calls Tryz.prog 296 #[.int .u64 x, .int .u64 y, .int .u64 b] w fun e w' => ∃ z c2 : Nat, e = .returned (.tuple #[.int .u64 z, .int .u64 c2]) ∧ Hid (z = (x + 18446744073709551616 - y - b) % 18446744073709551616) ∧ Hid (c2 = if x < y + b then 1 else 0) ∧ w' = w :=
  (bitsSub_any x y b hb w).mono fun _ _ ⟨e, h⟩ => ⟨_, _, e, rfl, rfl, h⟩
set_option maxHeartbeats 1000000 in
theorem subVV_any (w0 w : World) (b cap : Nat) (vx vy : Value) (xs ys l : List Nat) (hb : Below w0.heap.size w0 w) (hB : w0.heap.size ≤ b) (hl : BlkN .u64 158 w b l) (hx : Rd .u64 w0 vx xs) (hy : Rd .u64 w0 vy ys)
    (hxy : xs.length = ys.length) (hlen : xs.length ≤ l.length) (hdx : ∀ d ∈ xs, d < 18446744073709551616) (hdy : ∀ d ∈ ys, d < 18446744073709551616) :
    Calls Tryz.prog 295 #[.slice (some ⟨b, 0, none⟩) xs.length cap, vx, vy] w fun e w' => ∃ l' c, e = .returned (.int .u64 (c : Nat)) ∧ l'.length = l.length ∧ c ≤ 1 ∧ val 18446744073709551616 (l'.take xs.length) + val 18446744073709551616 ys = val 18446744073709551616 xs + c * 18446744073709551616 ^ xs.length ∧
      (∀ j, xs.length ≤ j → l'.getD j 0 = l.getD j 0) ∧ (∀ j, j < xs.length → l'.getD j 0 < 18446744073709551616) ∧ BlkN .u64 158 w' b l' ∧ Below w0.heap.size w0 w' := by
  obtain ⟨ax, cx, rfl, hx1, hx2, hx3⟩ := hx
  obtain ⟨ay, cy, rfl, hy1, hy2, hy3⟩ := hy
  rw [← hxy] at hy1 hy3 ⊢
  have HX := hid hx3
  have HY := hid hy3
  have HXY := hid hxy
  clear hx3 hy3 hxy
  go_enter Tryz.func295, Tryz.ntmps295
  go_wp2_with fail
  go_loopw [6, 25] (fun p q wr => ∃ (c i : Nat) (m : List Nat), p = .int .u64 c ∧ q = .int .i64 i ∧ i ≤ xs.length ∧ c ≤ 1 ∧ Hid (m.length = l.length) ∧ BlkN .u64 158 wr b m ∧ Hid (val 18446744073709551616 (m.take i) + val 18446744073709551616 (ys.take i) = val 18446744073709551616 (xs.take i) + c * 18446744073709551616 ^ i) ∧
    Hid (∀ j, i ≤ j → m.getD j 0 = l.getD j 0) ∧ Hid (∀ j, j < i → m.getD j 0 < 18446744073709551616) ∧ Below w0.heap.size w0 wr) (fun _ q _ => xs.length - (intOf q).toNat)
  case atStart => exact ⟨0, 0, l, rfl, rfl, Nat.zero_le _, by omega, hid rfl, hl, hid (by simp [val]), hid (fun _ _ => rfl), hid (fun j h => absurd h (by omega)), hb⟩
  case round =>
    clear hl hb
    obtain ⟨c, i, m, rfl, rfl, hi, hc, hml, hBm, hv, hrest, hlow, hb⟩ := hrel
    rcases Nat.lt_or_ge i xs.length with hlt | hge
    · obtain ⟨bx, ox, rfl, hcx⟩ := HX.out (by omega)
      obtain ⟨bj, oy, rfl, hcy⟩ := HY.out (by omega)
      have hkx := hcx i hlt
      have hky := hcy i hlt
      clear hcx hcy
      have hx := (hb.cell (World.block_lt_of_cell? w0 _ hkx)).trans hkx
      have hy := (hb.cell (World.block_lt_of_cell? w0 _ hky)).trans hky
      clear hkx hky
      generalize hxe : xs.getD i 0 = x at hx
      generalize hye : ys.getD i 0 = y at hy
      have HXE := hid hxe
      have HYE := hid hye
      clear hxe hye
      have hcell := hBm.at (i := i) (by rw [hml.out]; omega)
      have hfr := Blk.frozen hBm i
      generalize m.getD i 0 = old at hcell
      go_wp2_with fail
      go_region_held (fun w' => w'.cell? ⟨bx, ox + i, none⟩ = some (.int .u64 x) ∧ w'.cell? ⟨bj, oy + i, none⟩ = some (.int .u64 y)) (go_keep)
        (first | (go_at_call 296; refine (bitsSub_h x y c hc _).mono ?_; rintro e w' ⟨z, c2, rfl, HZ, HC, rfl⟩))
      have hb2 : Below w0.heap.size w0 wr.drew := hb.trans (below_drewN' (B := w0.heap.size) 1)
      have hBm2 : BlkN .u64 158 wr.drew b m := hBm.below (below_drewN' 1) hBm.lt
      have hcell2 : wr.drew.cell? ⟨b, i, none⟩ = some (.int .u64 old) := hcell
      have hfr2 : wr.drew.frozen? ⟨b, i, none⟩ = false := hfr
      clear hcell hfr hBm hb hx hy
      generalize wr.drew = wd at *
      have hc2 : c2 ≤ 1 := by rw [HC.out]; split <;> omega
      have hxw : x < 18446744073709551616 := by rw [← HXE.out]; exact getD_lt (by omega) hdx i
      have hyw : y < 18446744073709551616 := by rw [← HYE.out]; exact getD_lt (by omega) hdy i
      have hzz : z + y + c = x + c2 * 18446744073709551616 := by rw [HZ.out, HC.out]; split <;> omega
      have HV := hid (subvv_step (B := 18446744073709551616) (l := m) (xs := xs) (ys := ys) (i := i) (c := c) HXE.out HYE.out hlt (by rw [← HXY.out]; exact hlt) (by rw [hml.out]; omega) hzz hv.out)
      clear hzz
      have hu1 : z < 18446744073709551616 := by rw [HZ.out]; exact Nat.mod_lt _ (by omega)
      go_wp2_with fail
      go_roundw
      case rel =>
        refine ⟨c2, i + 1, m.set i (z), by simp, by go_num, by omega, hc2, hid (by rw [List.length_set]; exact hml.out), ?_, hid HV.out, hid ?_, hid ?_, hb2.setCell hB _⟩
        · have := BlkN.put hBm2 i (z)
          simpa using this
        · intro j hj; rw [set_far (by omega)]; exact hrest.out j (by omega)
        · intro j hj
          rcases Nat.lt_or_ge j i with h | h
          · rw [set_far (by omega)]; exact hlow.out j h
          · obtain rfl : j = i := by omega
            rw [List.getD_eq_getElem?_getD, List.getElem?_set_self (by rw [hml.out]; omega)]; exact hu1
      case measure => simp [intOf]; omega
    · obtain rfl : i = xs.length := by omega
      go_wp2_with fail
      go_ret
      refine ⟨m, c, rfl, hml.out, hc, ?_, hrest.out, hlow.out, hBm, hb⟩
      have := hv.out
      rw [List.take_length] at this
      have e : ys.take xs.length = ys := by rw [HXY.out, List.take_length]
      rw [e] at this
      exact this
end Go.Proofs.YtocahcammjoffaaGreatDoor
