/- Walks and lemmas for the laws of this seat. -/
import Derived.Test.YtgdgklhfakplhaaGreatDoorH13
import Derived.Deep.RegionHeld
import Derived.Laws.IdiomCopy
namespace Go.Proofs.YtgdgklhfakplhaaGreatDoor
open Go.RowKit Go.Dig
set_option maxRecDepth 100000
theorem subvv_step {B : Nat} {l xs ys : List Nat} {i c x y z c2 : Nat} (hx : xs.getD i 0 = x) (hy : ys.getD i 0 = y) (hxl : i < xs.length) (hyl : i < ys.length) (hl : i < l.length) (hz : z + y + c = x + c2 * B)
    (h : val B (l.take i) + val B (ys.take i) = val B (xs.take i) + c * B ^ i) :
    val B ((l.set i z).take (i + 1)) + val B (ys.take (i + 1)) = val B (xs.take (i + 1)) + c2 * B ^ (i + 1) := by
  have e : ∀ (m : List Nat), i < m.length → val B (m.take (i + 1)) = val B (m.take i) + m.getD i 0 * B ^ i := by
    intro m hm
    rw [List.take_add_one, List.getElem?_eq_getElem hm, Option.toList_some, val_append, List.length_take, Nat.min_eq_left (by omega), List.getD_eq_getElem?_getD, List.getElem?_eq_getElem hm]
    simp [val, Nat.mul_comm]
  rw [e _ (by rw [List.length_set]; exact hl), e xs hxl, e ys hyl, hx, hy]
  have e1 : (l.set i z).take i = l.take i := by rw [List.take_set_of_le (by omega)]
  have e2 : (l.set i z).getD i 0 = z := by rw [List.getD_eq_getElem?_getD, List.getElem?_set_self hl]; rfl
  rw [e1, e2]
  have e3 : (z + y + c) * B ^ i = (x + c2 * B) * B ^ i := by rw [hz]
  have e4 : c2 * B * B ^ i = c2 * B ^ (i + 1) := by rw [Nat.pow_succ, Nat.mul_assoc, Nat.mul_comm B]
  rw [Nat.add_mul, Nat.add_mul, Nat.add_mul, e4] at e3
  omega
theorem bitsSub_h (x y b : Nat) (hb : b ≤ 1) (w : World) : Calls Tryz.prog 224 #[.int .u64 x, .int .u64 y, .int .u64 b] w fun e w' => ∃ z c2 : Nat, e = .returned (.tuple #[.int .u64 z, .int .u64 c2]) ∧ Hid (z = (x + 18446744073709551616 - y - b) % 18446744073709551616) ∧ Hid (c2 = if x < y + b then 1 else 0) ∧ w' = w :=
  (bitsSub_any x y b hb w).mono fun _ _ ⟨e, h⟩ => ⟨_, _, e, rfl, rfl, h⟩
set_option maxHeartbeats 1000000 in
theorem subVV_any (w0 w : World) (b cap : Nat) (vx vy : Value) (xs ys l : List Nat) (hb : Below w0.heap.size w0 w) (hB : w0.heap.size ≤ b) (hl : BlkN .u64 181 w b l) (hx : Rd .u64 w0 vx xs) (hy : Rd .u64 w0 vy ys)
    (hxy : xs.length = ys.length) (hlen : xs.length ≤ l.length) (hdx : ∀ d ∈ xs, d < 18446744073709551616) (hdy : ∀ d ∈ ys, d < 18446744073709551616) :
    Calls Tryz.prog 227 #[.slice (some ⟨b, 0, none⟩) xs.length cap, vx, vy] w fun e w' => ∃ l' c, e = .returned (.int .u64 (c : Nat)) ∧ l'.length = l.length ∧ c ≤ 1 ∧ val 18446744073709551616 (l'.take xs.length) + val 18446744073709551616 ys = val 18446744073709551616 xs + c * 18446744073709551616 ^ xs.length ∧
      (∀ j, xs.length ≤ j → l'.getD j 0 = l.getD j 0) ∧ (∀ j, j < xs.length → l'.getD j 0 < 18446744073709551616) ∧ BlkN .u64 181 w' b l' ∧ Below w0.heap.size w0 w' := by
  obtain ⟨ax, cx, rfl, hx1, hx2, hx3⟩ := hx
  obtain ⟨ay, cy, rfl, hy1, hy2, hy3⟩ := hy
  rw [← hxy] at hy1 hy3 ⊢
  have HX := hid hx3
  have HY := hid hy3
  have HXY := hid hxy
  clear hx3 hy3 hxy
  go_enter Tryz.func227, Tryz.ntmps227
  go_wp2_with fail
  go_loopw [6, 25] (fun p q wr => ∃ (c i : Nat) (m : List Nat), p = .int .u64 c ∧ q = .int .i64 i ∧ i ≤ xs.length ∧ c ≤ 1 ∧ Hid (m.length = l.length) ∧ BlkN .u64 181 wr b m ∧ Hid (val 18446744073709551616 (m.take i) + val 18446744073709551616 (ys.take i) = val 18446744073709551616 (xs.take i) + c * 18446744073709551616 ^ i) ∧
    Hid (∀ j, i ≤ j → m.getD j 0 = l.getD j 0) ∧ Hid (∀ j, j < i → m.getD j 0 < 18446744073709551616) ∧ Below w0.heap.size w0 wr) (fun _ q _ => xs.length - (intOf q).toNat)
  case atStart => exact ⟨0, 0, l, rfl, rfl, Nat.zero_le _, by omega, hid rfl, hl, hid (by simp [val]), hid (fun _ _ => rfl), hid (fun j h => absurd h (by omega)), hb⟩
  case round =>
    clear hl hb
    obtain ⟨c, i, m, rfl, rfl, hi, hc, hml, hBm, hv, hrest, hlow, hb⟩ := hrel
    rcases Nat.lt_or_ge i xs.length with hlt | hge
    · obtain ⟨bx, ox, rfl, hcx⟩ := HX.out (by omega)
      obtain ⟨bj, oy, rfl, hcy⟩ := HY.out (by omega)
      have hkx := hcx i hlt
      have hky := hcy i hlt
      clear hcx hcy
      have hx := (hb.cell (World.block_lt_of_cell? w0 _ hkx)).trans hkx
      have hy := (hb.cell (World.block_lt_of_cell? w0 _ hky)).trans hky
      clear hkx hky
      generalize hxe : xs.getD i 0 = x at hx
      generalize hye : ys.getD i 0 = y at hy
      have HXE := hid hxe
      have HYE := hid hye
      clear hxe hye
      have hcell := hBm.at (i := i) (by rw [hml.out]; omega)
      have hfr := Blk.frozen hBm i
      generalize m.getD i 0 = old at hcell
      go_wp2_with fail
      go_region_held (fun w' => w'.cell? ⟨bx, ox + i, none⟩ = some (.int .u64 x) ∧ w'.cell? ⟨bj, oy + i, none⟩ = some (.int .u64 y)) (go_keep)
        (first | (go_at_call 224; refine (bitsSub_h x y c hc _).mono ?_; rintro e w' ⟨z, c2, rfl, HZ, HC, rfl⟩))
      have hb2 : Below w0.heap.size w0 wr.drew := hb.trans (below_drewN' (B := w0.heap.size) 1)
      have hBm2 : BlkN .u64 181 wr.drew b m := hBm.below (below_drewN' 1) hBm.lt
      have hcell2 : wr.drew.cell? ⟨b, i, none⟩ = some (.int .u64 old) := hcell
      have hfr2 : wr.drew.frozen? ⟨b, i, none⟩ = false := hfr
      clear hcell hfr hBm hb hx hy
      generalize wr.drew = wd at *
      have hc2 : c2 ≤ 1 := by rw [HC.out]; split <;> omega
      have hxw : x < 18446744073709551616 := by rw [← HXE.out]; exact getD_lt (by omega) hdx i
      have hyw : y < 18446744073709551616 := by rw [← HYE.out]; exact getD_lt (by omega) hdy i
      have hzz : z + y + c = x + c2 * 18446744073709551616 := by rw [HZ.out, HC.out]; split <;> omega
      have HV := hid (subvv_step (B := 18446744073709551616) (l := m) (xs := xs) (ys := ys) (i := i) (c := c) HXE.out HYE.out hlt (by rw [← HXY.out]; exact hlt) (by rw [hml.out]; omega) hzz hv.out)
      clear hzz
      have hu1 : z < 18446744073709551616 := by rw [HZ.out]; exact Nat.mod_lt _ (by omega)
      go_wp2_with fail
      go_roundw
      case rel =>
        refine ⟨c2, i + 1, m.set i (z), by simp, by go_num, by omega, hc2, hid (by rw [List.length_set]; exact hml.out), ?_, hid HV.out, hid ?_, hid ?_, hb2.setCell hB _⟩
        · have := BlkN.put hBm2 i (z)
          simpa using this
        · intro j hj; rw [set_far (by omega)]; exact hrest.out j (by omega)
        · intro j hj
          rcases Nat.lt_or_ge j i with h | h
          · rw [set_far (by omega)]; exact hlow.out j h
          · obtain rfl : j = i := by omega
            rw [List.getD_eq_getElem?_getD, List.getElem?_set_self (by rw [hml.out]; omega)]; exact hu1
      case measure => simp [intOf]; omega
    · obtain rfl : i = xs.length := by omega
      go_wp2_with fail
      go_ret
      refine ⟨m, c, rfl, hml.out, hc, ?_, hrest.out, hlow.out, hBm, hb⟩
      have := hv.out
      rw [List.take_length] at this
      have e : ys.take xs.length = ys := by rw [HXY.out, List.take_length]
      rw [e] at this
      exact this
end Go.Proofs.YtgdgklhfakplhaaGreatDoor
namespace Go.Proofs.YtgdgklhfakplhaaGreatDoor
open Go.RowKit Go.Dig
set_option maxRecDepth 100000
set_option maxHeartbeats 400000 in
theorem norm_any (v : Value) (ds : List Nat) (w : World) (h : Rt 181 .u64 w v ds) :
    Calls Tryz.prog 123 #[v] w fun e w' => ∃ v', e = .returned v' ∧ Rt 181 .u64 w' v' (trim ds) ∧ w' = w := by
  have HR := hid h
  obtain ⟨a, cap, rfl, h1, h2, h3⟩ := h
  have HA := hid h3
  clear h3
  go_enter Tryz.func123, Tryz.ntmps123
  go_wp2_with fail
  go_loop [3] (fun v => ∃ m : Nat, v = .int .i64 m ∧ m ≤ ds.length ∧ Hid (∀ i, m ≤ i → i < ds.length → ds.getD i 0 = 0)) (fun v => (intOf v).toNat)
  case atStart => exact ⟨ds.length, rfl, Nat.le_refl _, fun i h1 h2 => by omega⟩
  case round =>
    obtain ⟨m, rfl, hm, hz⟩ := hrel
    rcases Nat.eq_zero_or_pos m with h0 | h0
    · subst h0
      go_wp2_with fail
      go_ret
      have e := trim_take (Nat.zero_le _) hz.out (fun h => absurd h (by omega))
      exact ⟨_, rfl, by rw [e]; exact HR.out.take (Nat.zero_le _), rfl⟩
    · obtain ⟨k, rfl⟩ : ∃ k, m = k + 1 := ⟨m - 1, by omega⟩
      obtain ⟨b, off, rfl, _, hb⟩ := HA.out (by omega)
      have hk := hb k (by omega)
      clear hb
      by_cases hf : ds.getD k 0 = 0
      · rw [hf] at hk
        have HF := hid hf
        clear hf
        go_wp2_with fail
        go_round
        case rel =>
          refine ⟨k, by go_num, by omega, fun i h1 h2 => ?_⟩
          rcases Nat.eq_or_lt_of_le h1 with rfl | h3
          · exact HF.out
          · exact hz.out i h3 h2
        case measure => simp [intOf]
      · have hf' : (((ds.getD k 0 : Nat) : Int) == 0) = false := by simp; simpa using hf
        generalize hg : ds.getD k 0 = d at hk hf'
        have HF := hid hf
        have HG := hid hg
        clear hf hg
        go_wp2_with fail
        go_ret
        have e := trim_take hm hz.out (fun _ => HF.out)
        exact ⟨_, rfl, by rw [e]; exact HR.out.take hm, rfl⟩
end Go.Proofs.YtgdgklhfakplhaaGreatDoor
namespace Go.Proofs.YtgdgklhfakplhaaGreatDoor
open Go.RowKit Go.Dig
set_option maxRecDepth 100000
theorem dgw_lt (n : Nat) : ∀ d ∈ dg 18446744073709551616 n, d < 18446744073709551616 := dg_lt (by omega) n
set_option maxHeartbeats 400000 in
theorem addVV_wrap (p x y : Option Addr) (L1 L2 L3 c1 c2 c3 : Nat) (w : World) (R : Ending → World → Prop) (hR : Hid (∀ e w', R e w' → ∃ v, e = .returned v)) (h : Calls Tryz.prog 228 #[.slice p L1 c1, .slice x L2 c2, .slice y L3 c3] w R) :
    Calls Tryz.prog 208 #[.slice p L1 c1, .slice x L2 c2, .slice y L3 c3] w R := by
  go_enter Tryz.func208, Tryz.ntmps208
  go_wp2_with fail
  refine h.mono ?_
  intro e w' hq
  obtain ⟨v, rfl⟩ := hR.out e w' hq
  have HQ := hid hq
  clear hq
  go_wp2_with fail
  exact HQ
theorem addVV_w (w0 w : World) (b cap : Nat) (vx vy : Value) (xs ys l : List Nat) (hb : Below w0.heap.size w0 w) (hB : w0.heap.size ≤ b) (hl : BlkN .u64 181 w b l) (hx : Rd .u64 w0 vx xs) (hy : Rd .u64 w0 vy ys)
    (hxy : xs.length = ys.length) (hlen : xs.length ≤ l.length) (hdx : ∀ d ∈ xs, d < 18446744073709551616) (hdy : ∀ d ∈ ys, d < 18446744073709551616) :
    Calls Tryz.prog 208 #[.slice (some ⟨b, 0, none⟩) xs.length cap, vx, vy] w fun e w' => ∃ l' c, e = .returned (.int .u64 (c : Nat)) ∧ l'.length = l.length ∧ c ≤ 1 ∧ val 18446744073709551616 (l'.take xs.length) + c * 18446744073709551616 ^ xs.length = val 18446744073709551616 xs + val 18446744073709551616 ys ∧
      (∀ j, xs.length ≤ j → l'.getD j 0 = l.getD j 0) ∧ (∀ j, j < xs.length → l'.getD j 0 < 18446744073709551616) ∧ BlkN .u64 181 w' b l' ∧ Below w0.heap.size w0 w' := by
  obtain ⟨ax, cx, rfl⟩ := hx.shape
  obtain ⟨ay, cy, rfl⟩ := hy.shape
  exact addVV_wrap _ _ _ _ _ _ _ _ _ w _ (by rintro e w' ⟨l', c, h1, _⟩; exact ⟨_, h1⟩) (addVV_any w0 w b cap _ _ xs ys l hb hB hl hx hy hxy hlen hdx hdy)
set_option maxHeartbeats 400000 in
theorem subVV_wrap (p x y : Option Addr) (L1 L2 L3 c1 c2 c3 : Nat) (w : World) (R : Ending → World → Prop) (hR : Hid (∀ e w', R e w' → ∃ v, e = .returned v)) (h : Calls Tryz.prog 227 #[.slice p L1 c1, .slice x L2 c2, .slice y L3 c3] w R) :
    Calls Tryz.prog 207 #[.slice p L1 c1, .slice x L2 c2, .slice y L3 c3] w R := by
  go_enter Tryz.func207, Tryz.ntmps207
  go_wp2_with fail
  refine h.mono ?_
  intro e w' hq
  obtain ⟨v, rfl⟩ := hR.out e w' hq
  have HQ := hid hq
  clear hq
  go_wp2_with fail
  exact HQ
theorem subVV_w (w0 w : World) (b cap : Nat) (vx vy : Value) (xs ys l : List Nat) (hb : Below w0.heap.size w0 w) (hB : w0.heap.size ≤ b) (hl : BlkN .u64 181 w b l) (hx : Rd .u64 w0 vx xs) (hy : Rd .u64 w0 vy ys)
    (hxy : xs.length = ys.length) (hlen : xs.length ≤ l.length) (hdx : ∀ d ∈ xs, d < 18446744073709551616) (hdy : ∀ d ∈ ys, d < 18446744073709551616) :
    Calls Tryz.prog 207 #[.slice (some ⟨b, 0, none⟩) xs.length cap, vx, vy] w fun e w' => ∃ l' c, e = .returned (.int .u64 (c : Nat)) ∧ l'.length = l.length ∧ c ≤ 1 ∧ val 18446744073709551616 (l'.take xs.length) + val 18446744073709551616 ys = val 18446744073709551616 xs + c * 18446744073709551616 ^ xs.length ∧
      (∀ j, xs.length ≤ j → l'.getD j 0 = l.getD j 0) ∧ (∀ j, j < xs.length → l'.getD j 0 < 18446744073709551616) ∧ BlkN .u64 181 w' b l' ∧ Below w0.heap.size w0 w' := by
  obtain ⟨ax, cx, rfl⟩ := hx.shape
  obtain ⟨ay, cy, rfl⟩ := hy.shape
  exact subVV_wrap _ _ _ _ _ _ _ _ _ w _ (by rintro e w' ⟨l', c, h1, _⟩; exact ⟨_, h1⟩) (subVV_any w0 w b cap _ _ xs ys l hb hB hl hx hy hxy hlen hdx hdy)
set_option maxHeartbeats 1000000 in
theorem nadd_11 (vx vy : Value) (m n : Nat) (w : World) (hx : Nw w vx m) (hy : Nw w vy n) (hm : 0 < m) (hm1 : m < 18446744073709551616) (hn : 0 < n) (hn1 : n < 18446744073709551616) :
    Calls Tryz.prog 192 #[.slice none 0 0, vx, vy] w fun e w' => ∃ v, e = .returned v ∧ Nw w' v (m + n) ∧ Below w.heap.size w w' := by
  have HX := hid hx
  have HY := hid hy
  obtain ⟨ax, cx, ex⟩ := hx.shape
  obtain ⟨ay, cy, ey⟩ := hy.shape
  rw [dg_one hm hm1] at ex
  rw [dg_one hn hn1] at ey
  subst ex ey
  have hcx : 1 ≤ cx := by obtain ⟨_, c, e, h, _, _⟩ := hx; injection e with _ _ e3; rw [dg_one hm hm1] at h; rw [e3]; exact h
  have hcy : 1 ≤ cy := by obtain ⟨_, c, e, h, _, _⟩ := hy; injection e with _ _ e3; rw [dg_one hn hn1] at h; rw [e3]; exact h
  have hcx2 : cx ≤ 9223372036854775807 := by obtain ⟨_, c, e, _, h, _⟩ := hx; injection e with _ _ e3; rw [e3]; exact h
  have hcy2 : cy ≤ 9223372036854775807 := by obtain ⟨_, c, e, _, h, _⟩ := hy; injection e with _ _ e3; rw [e3]; exact h
  clear hx hy
  go_enter Tryz.func192, Tryz.ntmps192
  go_wp2_with fail
  refine (natMake_any 2 (by omega) (by omega) w).mono ?_
  rintro e w1 ⟨rfl, hw1⟩
  have hBz : BlkN .u64 181 w1 w.heap.size (List.replicate 6 0) := by rw [hw1]; exact blk_new w _ 181
  have hb1 : Below w.heap.size w w1 := by rw [hw1]; exact (Below.refl _ _).alloc (Nat.le_refl _) _
  clear hw1
  go_wp2_with fail
  have hX1 : Hid (Rd .u64 w (.slice ax 1 cx) [m]) := by have := HX.out.rd; rw [dg_one hm hm1] at this; exact this
  have hY1 : Hid (Rd .u64 w (.slice ay 1 cy) [n]) := by have := HY.out.rd; rw [dg_one hn hn1] at this; exact this
  go_region_held (fun w' => Hid (Below w.heap.size w w')) (first | with_reducible assumption | exact hb1.trans (below_drewN' 1))
    (first | (go_at_call 208; refine (addVV_w w _ w.heap.size _ _ _ [m] [n] (List.replicate 6 0) (hb1.trans (below_drewN' 1)) (Nat.le_refl _) (hBz.below (below_drewN' 1) hBz.lt) hX1.out hY1.out rfl (by simp) (by simpa using hm1) (by simpa using hn1)).mono ?_; rintro e w2 ⟨l2, c, rfl, hl2, hc, hv, hrest, hlow, hB2, hb2⟩; have HV := hid hv; have HRE := hid hrest; have HLO := hid hlow; have HL2 := hid hl2; have hb3 : Hid (Below w.heap.size w w2) := hb2; clear hv hrest hlow hl2))
  all_goals
    have e6 : (List.replicate 6 0).length = 6 := rfl
    rw [e6] at HL2
    have hBc := hB2.at (i := 1) (by rw [HL2.out]; omega)
    have hfr := Blk.frozen hB2 1
    have hz1 : l2.getD 1 0 = 0 := HRE.out 1 (Nat.le_refl _)
    rw [hz1] at hBc
    clear hz1
    have hB3 := hid hB2
    clear hB2
    go_wp2_with fail
    have hB4 : BlkN .u64 181 (w2.setCell ⟨w.heap.size, 1, none⟩ (.int .u64 (c : Int))) w.heap.size (l2.set 1 c) := hB3.out.put 1 c
    have hb4 : Below w.heap.size w (w2.setCell ⟨w.heap.size, 1, none⟩ (.int .u64 (c : Int))) := hb3.out.setCell (Nat.le_refl _) _
    generalize w2.setCell ⟨w.heap.size, 1, none⟩ (.int .u64 (c : Int)) = w3 at *
    have hsz : 6 = (l2.set 1 c).length := by rw [List.length_set]; exact HL2.out.symm
    have hRt : Rt 181 .u64 w3 (.slice (some ⟨w.heap.size, 0, none⟩) 6 6) (l2.set 1 c) := by
      have := hB4.rt (cap := 6) (by rw [← hsz]; omega) (by omega)
      rwa [← hsz] at this
    have hRt2 := hRt.take (m := 2) (by omega)
    refine (norm_any _ _ w3 hRt2).mono ?_
    rintro e w' ⟨v, rfl, hv, rfl⟩
    go_wp2_with fail
    go_ret
    refine ⟨_, rfl, ?_, hb4⟩
    have hv' : trim ((l2.set 1 c).take 2) = dg 18446744073709551616 (m + n) := by
      have hl : l2.getD 0 0 < 18446744073709551616 := HLO.out 0 (by simp)
      match l2, HL2.out, HV.out, hl with
      | a0 :: a1 :: l3, _, hval, hl =>
        have hl' : a0 < 18446744073709551616 := by simpa using hl
        have hval' : a0 + c * 18446744073709551616 = m + n := by simpa [val] using hval
        have e1 : ((a0 :: a1 :: l3).set 1 c).take 2 = [a0, c] := rfl
        rw [e1, trim_eq (b := 18446744073709551616) (by omega) (by intro d hd; simp at hd; omega)]
        congr 1
        simp [val]; omega
    rw [hv'] at hv
    exact hv
end Go.Proofs.YtgdgklhfakplhaaGreatDoor
namespace Go.Proofs.YtgdgklhfakplhaaGreatDoor
open Go.RowKit Go.Dig
set_option maxRecDepth 100000
set_option maxHeartbeats 400000 in
theorem nset_one (vx : Value) (m : Nat) (w : World) (hx : Nw w vx m) (hm : 0 < m) (hm1 : m < 18446744073709551616) :
    Calls Tryz.prog 61 #[.slice none 0 0, vx] w fun e w' => ∃ v, e = .returned v ∧ Nw w' v m ∧ Below w.heap.size w w' := by
  have HX := hid hx
  obtain ⟨ax, cx, ex, h1, h2, h3⟩ := hx
  rw [dg_one hm hm1] at ex h1 h3
  subst ex
  obtain ⟨b, off, rfl, _, hc⟩ := h3 (by simp)
  have hk := hc 0 (by simp)
  simp only [List.getD_cons_zero, Nat.add_zero] at hk
  clear h3 hc
  go_enter Tryz.func61, Tryz.ntmps61
  go_wp2_with fail
  refine (natMake_one w).mono ?_
  rintro e w1 ⟨rfl, hw1⟩
  have hBz : BlkN .u64 181 w1 w.heap.size [0] := by rw [hw1]; exact blk_new w _ 181
  have hb1 : Below w.heap.size w w1 := by rw [hw1]; exact (Below.refl _ _).alloc (Nat.le_refl _) _
  have hk1 := (hb1.cell (World.block_lt_of_cell? w _ hk)).trans hk
  clear hw1
  have hc0 := hBz.at (i := 0) (by simp)
  have hfr := Blk.frozen hBz 0
  have hcp : (Builtin.copy_ #[118, 118] 3 #[.slice (some ⟨w.heap.size, 0, none⟩) 1 1, .slice (some ⟨b, off, none⟩) 1 cx]).run Tryz.prog w1 = .ok (.int .i64 1) (w1.setCell ⟨w.heap.size, 0, none⟩ (.int .u64 (m : Int))) := by
    refine run_copy_cells (P := Tryz.prog) w1 118 118 3 181 w.heap.size 0 1 1 ⟨b, off, none⟩ 1 cx [.int .u64 (m : Int)] Tryz.underlying118 (by kernel_rfl) rfl ?_ ?_ ?_ ?_
    · intro j v hj
      match j, hj with
      | 0, hj =>
        simp at hj
        subst hj
        exact hk1
    · intro j hj
      simp at hj
      subst hj
      simpa using (by rw [hc0]; rfl : (w1.cell? ⟨w.heap.size, 0, none⟩).isSome = true)
    · intro j hj
      simp at hj
      subst hj
      exact hfr
    · intro v hv
      simp at hv
      subst hv
      rfl
  have hB4 : BlkN .u64 181 (w1.setCell ⟨w.heap.size, 0, none⟩ (.int .u64 (m : Int))) w.heap.size [m] := hBz.put 0 m
  have hb4 : Below w.heap.size w (w1.setCell ⟨w.heap.size, 0, none⟩ (.int .u64 (m : Int))) := hb1.setCell (Nat.le_refl _) _
  generalize w1.setCell ⟨w.heap.size, 0, none⟩ (.int .u64 (m : Int)) = w2 at *
  have HB4 := hid hB4
  clear hB4 hk1 hc0 hfr
  go_wp2_with fail
  go_ret
  refine ⟨_, rfl, ?_, hb4⟩
  show Rt 181 .u64 w2 (.slice (some ⟨w.heap.size, 0, none⟩) 1 1) (dg 18446744073709551616 m)
  rw [dg_one hm hm1]
  exact HB4.out.rt (cap := 1) (by simp) (by omega)
set_option maxHeartbeats 400000 in
theorem nadd_00 (w : World) (vx vy : Value) (hx : Nw w vx 0) (hy : Nw w vy 0) :
    Calls Tryz.prog 192 #[.slice none 0 0, vx, vy] w fun e w' => ∃ v, e = .returned v ∧ Nw w' v 0 ∧ Below w.heap.size w w' := by
  obtain ⟨ax, cx, rfl⟩ := hx.shape
  obtain ⟨ay, cy, rfl⟩ := hy.shape
  rw [dg_zero, List.length_nil]
  clear hx hy
  go_enter Tryz.func192, Tryz.ntmps192
  go_wp2_with fail
  go_ret
  exact ⟨_, rfl, by show Rt 181 .u64 w (.slice none 0 0) (dg 18446744073709551616 0); rw [dg_zero]; exact Rt.nil _ _ _, Below.refl _ _⟩
set_option maxHeartbeats 400000 in
theorem nadd_10 (w : World) (vx vy : Value) (m : Nat) (hx : Nw w vx m) (hy : Nw w vy 0) (hm : 0 < m) (hm1 : m < 18446744073709551616) :
    Calls Tryz.prog 192 #[.slice none 0 0, vx, vy] w fun e w' => ∃ v, e = .returned v ∧ Nw w' v m ∧ Below w.heap.size w w' := by
  have HX := hid hx
  obtain ⟨ax, cx, ex⟩ := hx.shape
  obtain ⟨ay, cy, ey⟩ := hy.shape
  rw [dg_one hm hm1] at ex
  rw [dg_zero] at ey
  subst ex ey
  clear hx hy
  go_enter Tryz.func192, Tryz.ntmps192
  go_wp2_with fail
  refine (nset_one _ m w HX.out hm hm1).mono ?_
  rintro e w1 ⟨v, rfl, hv, hb⟩
  go_wp2_with fail
  go_ret
  exact ⟨_, rfl, hv, hb⟩
set_option maxHeartbeats 400000 in
theorem nadd_01 (w : World) (vx vy : Value) (n : Nat) (hx : Nw w vx 0) (hy : Nw w vy n) (hn : 0 < n) (hn1 : n < 18446744073709551616) :
    Calls Tryz.prog 192 #[.slice none 0 0, vx, vy] w fun e w' => ∃ v, e = .returned v ∧ Nw w' v n ∧ Below w.heap.size w w' := by
  have HY := hid hy
  have HX := hid hx
  obtain ⟨ax, cx, ex⟩ := hx.shape
  obtain ⟨ay, cy, ey⟩ := hy.shape
  rw [dg_zero] at ex
  rw [dg_one hn hn1] at ey
  subst ex ey
  clear hx hy
  go_enter Tryz.func192, Tryz.ntmps192
  go_wp2_with fail
  refine (nadd_10 w _ _ n HY.out HX.out hn hn1).mono ?_
  rintro e w1 ⟨v, rfl, hv, hb⟩
  go_wp2_with fail
  go_ret
  exact ⟨_, rfl, hv, hb⟩
theorem nadd_small (w : World) (vx vy : Value) (m n : Nat) (hx : Nw w vx m) (hy : Nw w vy n) (hm1 : m < 18446744073709551616) (hn1 : n < 18446744073709551616) :
    Calls Tryz.prog 192 #[.slice none 0 0, vx, vy] w fun e w' => ∃ v, e = .returned v ∧ Nw w' v (m + n) ∧ Below w.heap.size w w' := by
  rcases Nat.eq_zero_or_pos m with h | h <;> rcases Nat.eq_zero_or_pos n with h' | h'
  · subst h h'; exact nadd_00 w vx vy hx hy
  · subst h; rw [Nat.zero_add]; exact nadd_01 w vx vy n hx hy h' hn1
  · subst h'; rw [Nat.add_zero]; exact nadd_10 w vx vy m hx hy h hm1
  · exact nadd_11 vx vy m n w hx hy h hm1 h' hn1
end Go.Proofs.YtgdgklhfakplhaaGreatDoor
namespace Go.Proofs.YtgdgklhfakplhaaGreatDoor
open Go.RowKit Go.Dig
set_option maxRecDepth 100000
set_option maxHeartbeats 1000000 in
theorem nsub_11 (vx vy : Value) (m n : Nat) (w : World) (hx : Nw w vx m) (hy : Nw w vy n) (hm : 0 < m) (hm1 : m < 18446744073709551616) (hn : 0 < n) (hn1 : n < 18446744073709551616) (hnm : n ≤ m) :
    Calls Tryz.prog 193 #[.slice none 0 0, vx, vy] w fun e w' => ∃ v, e = .returned v ∧ Nw w' v (m - n) ∧ Below w.heap.size w w' := by
  have HX := hid hx
  have HY := hid hy
  obtain ⟨ax, cx, ex⟩ := hx.shape
  obtain ⟨ay, cy, ey⟩ := hy.shape
  rw [dg_one hm hm1] at ex
  rw [dg_one hn hn1] at ey
  subst ex ey
  have hcx : 1 ≤ cx := by obtain ⟨_, c, e, h, _, _⟩ := hx; injection e with _ _ e3; rw [dg_one hm hm1] at h; rw [e3]; exact h
  have hcy : 1 ≤ cy := by obtain ⟨_, c, e, h, _, _⟩ := hy; injection e with _ _ e3; rw [dg_one hn hn1] at h; rw [e3]; exact h
  have hcx2 : cx ≤ 9223372036854775807 := by obtain ⟨_, c, e, _, h, _⟩ := hx; injection e with _ _ e3; rw [e3]; exact h
  have hcy2 : cy ≤ 9223372036854775807 := by obtain ⟨_, c, e, _, h, _⟩ := hy; injection e with _ _ e3; rw [e3]; exact h
  clear hx hy
  go_enter Tryz.func193, Tryz.ntmps193
  go_wp2_with fail
  refine (natMake_one w).mono ?_
  rintro e w1 ⟨rfl, hw1⟩
  have hBz : BlkN .u64 181 w1 w.heap.size ([0]) := by rw [hw1]; exact blk_new w _ 181
  have hb1 : Below w.heap.size w w1 := by rw [hw1]; exact (Below.refl _ _).alloc (Nat.le_refl _) _
  clear hw1
  go_wp2_with fail
  have hX1 : Hid (Rd .u64 w (.slice ax 1 cx) [m]) := by have := HX.out.rd; rw [dg_one hm hm1] at this; exact this
  have hY1 : Hid (Rd .u64 w (.slice ay 1 cy) [n]) := by have := HY.out.rd; rw [dg_one hn hn1] at this; exact this
  go_region_held (fun w' => Hid (Below w.heap.size w w')) (first | with_reducible assumption | exact hb1.trans (below_drewN' 1))
    (first | (go_at_call 207; refine (subVV_w w _ w.heap.size _ _ _ [m] [n] ([0]) (hb1.trans (below_drewN' 1)) (Nat.le_refl _) (hBz.below (below_drewN' 1) hBz.lt) hX1.out hY1.out rfl (by simp) (by simpa using hm1) (by simpa using hn1)).mono ?_; rintro e w2 ⟨l2, c, rfl, hl2, hc, hv, hrest, hlow, hB2, hb2⟩; have HV := hid hv; have HRE := hid hrest; have HLO := hid hlow; have HL2 := hid hl2; have hb3 : Hid (Below w.heap.size w w2) := hb2; clear hv hrest hlow hl2))
  all_goals
    have hval : l2.getD 0 0 = m - n ∧ c = 0 ∧ l2 = [m - n] := by
      have hl : l2.getD 0 0 < 18446744073709551616 := HLO.out 0 (by simp)
      match l2, HL2.out, HV.out, hl with
      | [a0], _, hval, hl =>
        have hl' : a0 < 18446744073709551616 := by simpa using hl
        have hval' : a0 + n = m + c * 18446744073709551616 := by simpa [val] using hval
        have : c = 0 := by omega
        subst this
        have e : a0 = m - n := by omega
        subst e
        exact ⟨rfl, rfl, rfl⟩
    obtain ⟨_, rfl, rfl⟩ := hval
    have hB3 := hid hB2
    clear hB2
    go_wp2_with fail
    have hRt : Rt 181 .u64 w2 (.slice (some ⟨w.heap.size, 0, none⟩) 1 1) [m - n] := hB3.out.rt (cap := 1) (by simp) (by omega)
    refine (norm_any _ _ w2 hRt).mono ?_
    rintro e w' ⟨v, rfl, hv, rfl⟩
    go_wp2_with fail
    go_ret
    refine ⟨_, rfl, ?_, hb3.out⟩
    rw [trim_eq (b := 18446744073709551616) (by omega) (by intro d hd; simp at hd; omega)] at hv
    have e : val 18446744073709551616 [m - n] = m - n := by simp [val]
    rw [e] at hv
    exact hv
set_option maxHeartbeats 400000 in
theorem nsub_00 (w : World) (vx vy : Value) (hx : Nw w vx 0) (hy : Nw w vy 0) :
    Calls Tryz.prog 193 #[.slice none 0 0, vx, vy] w fun e w' => ∃ v, e = .returned v ∧ Nw w' v 0 ∧ Below w.heap.size w w' := by
  obtain ⟨ax, cx, rfl⟩ := hx.shape
  obtain ⟨ay, cy, rfl⟩ := hy.shape
  rw [dg_zero, List.length_nil]
  clear hx hy
  go_enter Tryz.func193, Tryz.ntmps193
  go_wp2_with fail
  go_ret
  exact ⟨_, rfl, by show Rt 181 .u64 w (.slice none 0 0) (dg 18446744073709551616 0); rw [dg_zero]; exact Rt.nil _ _ _, Below.refl _ _⟩
set_option maxHeartbeats 400000 in
theorem nsub_10 (w : World) (vx vy : Value) (m : Nat) (hx : Nw w vx m) (hy : Nw w vy 0) (hm : 0 < m) (hm1 : m < 18446744073709551616) :
    Calls Tryz.prog 193 #[.slice none 0 0, vx, vy] w fun e w' => ∃ v, e = .returned v ∧ Nw w' v m ∧ Below w.heap.size w w' := by
  have HX := hid hx
  obtain ⟨ax, cx, ex⟩ := hx.shape
  obtain ⟨ay, cy, ey⟩ := hy.shape
  rw [dg_one hm hm1] at ex
  rw [dg_zero] at ey
  subst ex ey
  clear hx hy
  go_enter Tryz.func193, Tryz.ntmps193
  go_wp2_with fail
  refine (nset_one _ m w HX.out hm hm1).mono ?_
  rintro e w1 ⟨v, rfl, hv, hb⟩
  go_wp2_with fail
  go_ret
  exact ⟨_, rfl, hv, hb⟩
theorem nsub_small (w : World) (vx vy : Value) (m n : Nat) (hx : Nw w vx m) (hy : Nw w vy n) (hm1 : m < 18446744073709551616) (hnm : n ≤ m) :
    Calls Tryz.prog 193 #[.slice none 0 0, vx, vy] w fun e w' => ∃ v, e = .returned v ∧ Nw w' v (m - n) ∧ Below w.heap.size w w' := by
  rcases Nat.eq_zero_or_pos n with h' | h'
  · subst h'
    rw [Nat.sub_zero]
    rcases Nat.eq_zero_or_pos m with h | h
    · subst h; exact nsub_00 w vx vy hx hy
    · exact nsub_10 w vx vy m hx hy h hm1
  · exact nsub_11 vx vy m n w hx hy (by omega) hm1 h' (by omega) hnm
end Go.Proofs.YtgdgklhfakplhaaGreatDoor
