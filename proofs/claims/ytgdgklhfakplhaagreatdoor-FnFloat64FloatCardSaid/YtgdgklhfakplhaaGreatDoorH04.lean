/- Walks and lemmas for the laws of this seat. -/
import Derived.Test.YtgdgklhfakplhaaGreatDoorH03
namespace Go.Proofs.YtgdgklhfakplhaaGreatDoor
open Go.RowKit Go.Dig
set_option maxRecDepth 100000
/-- A slice's length, as a number. -/
def lenOf : Value → Nat | .slice _ m _ => m | _ => 0
set_option maxHeartbeats 400000 in
theorem trim_any (v : Value) (ds : List Nat) (w : World) (h : Rt 3 .i64 w v ds) :
    Calls Tryz.prog 58 #[v] w fun e w' => ∃ v', e = .returned v' ∧ Rt 3 .i64 w v' (trim ds) ∧ w = w' := by
  have HR := hid h
  obtain ⟨a, cap, rfl, hn, hcap, hc⟩ := h
  have HC := hid hc
  clear hc
  go_enter Tryz.func58, Tryz.ntmps58
  go_wp2_with fail
  go_loop [0] (fun v => ∃ m : Nat, m ≤ ds.length ∧ v = .slice a m cap ∧ Hid (∀ i, m ≤ i → i < ds.length → ds.getD i 0 = 0)) (fun v => lenOf v)
  case atStart => exact ⟨ds.length, Nat.le_refl _, rfl, fun i h1 h2 => by omega⟩
  case round =>
    obtain ⟨m, hm, rfl, hz⟩ := hrel
    rcases Nat.eq_zero_or_pos m with h0 | h0
    · subst h0
      go_wp2_with fail
      go_ret
      have e := trim_take (Nat.zero_le _) hz.out (fun h => absurd h (by omega))
      exact ⟨_, rfl, by rw [e]; exact HR.out.take (Nat.zero_le _), rfl⟩
    · obtain ⟨k, rfl⟩ : ∃ k, m = k + 1 := ⟨m - 1, by omega⟩
      obtain ⟨b, off, rfl, _, hb⟩ := HC.out (by omega)
      have hk := hb k (by omega)
      clear hb
      by_cases hf : ds.getD k 0 = 0
      · rw [hf] at hk
        have HF := hid hf
        clear hf
        go_wp2_with fail
        go_round
        case rel =>
          refine ⟨k, by omega, rfl, fun i h1 h2 => ?_⟩
          rcases Nat.eq_or_lt_of_le h1 with rfl | h3
          · exact HF.out
          · exact hz.out i h3 h2
        case measure => simp [lenOf]
      · have hf' : (((ds.getD k 0 : Nat) : Int) == 0) = false := by simp; simpa using hf
        generalize hg : ds.getD k 0 = d at hk hf'
        have HF := hid hf
        have HG := hid hg
        clear hf hg
        go_wp2_with fail
        go_ret
        have e := trim_take hm hz.out (fun _ => HF.out)
        exact ⟨_, rfl, by rw [e]; exact HR.out.take hm, rfl⟩
end Go.Proofs.YtgdgklhfakplhaaGreatDoor
namespace Go.Proofs.YtgdgklhfakplhaaGreatDoor
open Go.RowKit Go.Dig
set_option maxRecDepth 100000
theorem info3 : (Tryz.prog.info? 3).map (fun i => (i.zero, i.size, i.bytes)) = some (some (.int .i64 0), 1, 8) := by kernel_rfl
set_option maxHeartbeats 400000 in
theorem small_any (n : Nat) (w : World) (hn : n ≤ 9223372036854775807) :
    Calls Tryz.prog 30 #[.int .i64 n] w fun e w' => ∃ v', e = .returned v' ∧ Nt w' v' n ∧ Below w.heap.size w w' := by
  have hlen : (dg 65536 n).length ≤ 4 := dg_length_le (by omega) (by omega)
  have HL := hid hlen
  clear hlen
  go_enter Tryz.func30, Tryz.ntmps30
  go_wp2_with fail
  go_loopw [3, 0] (fun v x wr => ∃ (ds : List Nat) (m : Nat), x = .int .i64 m ∧ m ≤ 9223372036854775807 ∧ wr.ownsRow w.heap.size 3 1 v ds.length (cs .i64 ds) ∧ Hid (dg 65536 n = ds ++ dg 65536 m) ∧ Below w.heap.size w wr) (fun _ x _ => (intOf x).toNat)
  case atStart => exact ⟨[], n, rfl, hn, own_empty w 3 (Nat.le_refl _), rfl, (Below.refl _ _).alloc (Nat.le_refl _) _⟩
  case round =>
    obtain ⟨ds, m, rfl, hm, hown, hd, hb⟩ := hrel
    have hbs := hb.size
    rcases Nat.eq_zero_or_pos m with h0 | h0
    · subst h0
      go_wp2_with fail
      go_ret
      have e : dg 65536 n = ds := by rw [hd.out, dg_zero, List.append_nil]
      exact ⟨_, rfl, by unfold Nt; rw [e]; exact own_rd hown, hb⟩
    · have hd2 : dg 65536 n = (ds ++ [m % 65536]) ++ dg 65536 (m / 65536) := by rw [hd.out, dg_pos (by omega) (by omega)]; simp
      have HD := hid hd2
      have hl : ds.length + 1 ≤ 4 := by have := HL.out; rw [hd2] at this; simp at this; omega
      clear hd2 hd
      go_wp2_with (at_builtin; refine app1 rfl _ _ 29 3 rfl .i64 8 Tryz.underlying29 info3 (by decide) w.heap.size w _ ds _ (m % 65536) (by omega) rfl rfl hown hb (by omega) (by omega) ?_; intro v' w' hown' hb' _)
      go_roundw
      case rel => exact ⟨ds ++ [m % 65536], m / 65536, by go_num, by omega, hown', HD, hb'⟩
      case measure => simp [intOf]; omega
end Go.Proofs.YtgdgklhfakplhaaGreatDoor
namespace Go.Proofs.YtgdgklhfakplhaaGreatDoor
open Go.RowKit Go.Dig
set_option maxRecDepth 100000
theorem band16 (z : Int) (h0 : 0 ≤ z) (h1 : z < 18446744073709551616) : bits .and .u64 z 65535 = z % 65536 := by
  rw [u64_and z 65535 h0 h1 (by omega) (by omega)]
  rw [show (65535 : Int).toNat = 2 ^ 16 - 1 from rfl, Nat.and_two_pow_sub_one_eq_mod]
  omega
/-- Words of 64 bits as digits to 65536. -/
def split4 (x : Nat) : List Nat := [x % 65536, x / 65536 % 65536, x / 4294967296 % 65536, x / 281474976710656 % 65536]
def split (ws : List Nat) : List Nat := ws.flatMap split4
theorem split_lt (ws : List Nat) : ∀ d ∈ split ws, d < 65536 := by
  intro d hd
  obtain ⟨x, _, hx⟩ := List.mem_flatMap.1 hd
  simp [split4] at hx
  omega
theorem split_val : ∀ (ws : List Nat), (∀ x ∈ ws, x < 18446744073709551616) → val 65536 (split ws) = val 18446744073709551616 ws
  | [], _ => rfl
  | x :: ws, h => by
    have ih := split_val ws fun y hy => h y (List.mem_cons_of_mem _ hy)
    have hx := h x (by simp)
    show val 65536 (split4 x ++ split ws) = x + 18446744073709551616 * val 18446744073709551616 ws
    rw [val_append, ih]
    simp only [split4, val, List.length_cons, List.length_nil]
    omega
theorem split_take {ws : List Nat} {j : Nat} (h : j < ws.length) : split (ws.take (j + 1)) = split (ws.take j) ++ split4 (ws.getD j 0) := by
  rw [List.take_succ_eq_append_getElem h, List.getD_eq_getElem?_getD, List.getElem?_eq_getElem h]
  unfold split
  rw [List.flatMap_append, List.flatMap_singleton]
  rfl
set_option maxHeartbeats 400000 in
theorem of_any (v : Value) (ws : List Nat) (w : World) (h : Rd .u64 w v ws) (hws : ∀ x ∈ ws, x < 18446744073709551616) (hl : ws.length ≤ 100000) :
    Calls Tryz.prog 51 #[v] w fun e w' => ∃ v', e = .returned v' ∧ Nt w' v' (val 18446744073709551616 ws) ∧ Below w.heap.size w w' := by
  obtain ⟨a, cap, rfl, hn, hcap, hc⟩ := h
  have HC := hid hc
  have HW := hid hws
  clear hc hws
  go_enter Tryz.func51, Tryz.ntmps51
  go_wp2_with fail
  go_loopw [3, 10] (fun v x wr => ∃ (ds : List Nat) (j : Nat), x = .int .i64 j ∧ j ≤ ws.length ∧ ds.length ≤ 4 * j ∧ wr.ownsRow w.heap.size 3 1 v ds.length (cs .i64 ds) ∧ Hid (ds = split (ws.take j)) ∧ Below w.heap.size w wr) (fun _ x _ => ws.length - (intOf x).toNat)
  case atStart => exact ⟨[], 0, rfl, by omega, by simp, own_empty w 3 (Nat.le_refl _), rfl, (Below.refl _ _).alloc (Nat.le_refl _) _⟩
  case round =>
    obtain ⟨ds, j, rfl, hj, hlj, hown, hd, hb⟩ := hrel
    have hbs := hb.size
    rcases Nat.lt_or_ge j ws.length with h0 | h0
    · obtain ⟨b, off, rfl, hb2⟩ := HC.out (by omega)
      have hk := hb2 j (by omega)
      clear hb2
      have hk2 := (hb.cell (World.block_lt_of_cell? w _ hk)).trans hk
      clear hk
      have hx := getD_lt (by omega) HW.out j
      generalize hg : ws.getD j 0 = x at hk2 hx
      have HG := hid hg
      clear hg
      go_wp2_with fail
      obtain ⟨wo, hwo⟩ : ∃ wo : World, wo = wr := ⟨_, rfl⟩
      subst hwo
      go_loopw [3, 6] (fun v x' wr => ∃ (ds' : List Nat) (k : Nat), x' = .int .i64 k ∧ k ≤ 4 ∧ ds'.length ≤ 4 * j + k ∧ wr.ownsRow w.heap.size 3 1 v ds'.length (cs .i64 ds') ∧ Hid (ds' = ds ++ (split4 x).take k) ∧ Below w.heap.size w wr) (fun _ x _ => 4 - (intOf x).toNat)
      case atStart => exact ⟨ds, 0, rfl, by omega, hlj, hown, by show ds = ds ++ []; simp, hb⟩
      case round =>
        obtain ⟨ds', k, rfl, hk, hlk, hown', hd', hb'⟩ := hrel
        have hbs' := hb'.size
        clear hown
        have hk5 : k = 0 ∨ k = 1 ∨ k = 2 ∨ k = 3 ∨ k = 4 := by omega
        clear hk
        rcases hk5 with rfl | rfl | rfl | rfl | rfl
        · have b0 := band16 (x : Int) (by omega) (by omega)
          go_wp2_with (at_builtin; refine app1 rfl _ _ 29 3 rfl .i64 8 Tryz.underlying29 info3 (by decide) w.heap.size w _ ds' _ (x % 65536) (by omega) rfl rfl hown' hb' (by omega) (by omega) ?_; intro v' w' hown2 hb2 _)
          go_roundw
          case rel => exact ⟨ds' ++ [x % 65536], 1, by go_num, by omega, by simp; omega, hown2, hid (by rw [hd'.out]; simp [split4]), hb2⟩
          case measure => simp [intOf]
        · have b0 := band16 ((x : Int) / 65536) (by omega) (by omega)
          go_wp2_with (at_builtin; refine app1 rfl _ _ 29 3 rfl .i64 8 Tryz.underlying29 info3 (by decide) w.heap.size w _ ds' _ (x / 65536 % 65536) (by omega) rfl rfl hown' hb' (by omega) (by omega) ?_; intro v' w' hown2 hb2 _)
          go_roundw
          case rel => exact ⟨ds' ++ [x / 65536 % 65536], 2, by go_num, by omega, by simp; omega, hown2, hid (by rw [hd'.out]; simp [split4]), hb2⟩
          case measure => simp [intOf]
        · have b0 := band16 ((x : Int) / 4294967296) (by omega) (by omega)
          go_wp2_with (at_builtin; refine app1 rfl _ _ 29 3 rfl .i64 8 Tryz.underlying29 info3 (by decide) w.heap.size w _ ds' _ (x / 4294967296 % 65536) (by omega) rfl rfl hown' hb' (by omega) (by omega) ?_; intro v' w' hown2 hb2 _)
          go_roundw
          case rel => exact ⟨ds' ++ [x / 4294967296 % 65536], 3, by go_num, by omega, by simp; omega, hown2, hid (by rw [hd'.out]; simp [split4]), hb2⟩
          case measure => simp [intOf]
        · have b0 := band16 ((x : Int) / 281474976710656) (by omega) (by omega)
          go_wp2_with (at_builtin; refine app1 rfl _ _ 29 3 rfl .i64 8 Tryz.underlying29 info3 (by decide) w.heap.size w _ ds' _ (x / 281474976710656 % 65536) (by omega) rfl rfl hown' hb' (by omega) (by omega) ?_; intro v' w' hown2 hb2 _)
          go_roundw
          case rel => exact ⟨ds' ++ [x / 281474976710656 % 65536], 4, by go_num, by omega, by simp; omega, hown2, hid (by rw [hd'.out]; simp [split4]), hb2⟩
          case measure => simp [intOf]
        · go_wp2_with fail
          go_roundw
          case rel => exact ⟨ds', j + 1, by go_num, by omega, by omega, hown', hid (by rw [hd'.out, hd.out, split_take h0, HG.out]; rfl), hb'⟩
          case measure => simp [intOf]; omega
    · obtain rfl : j = ws.length := by omega
      have hR := own_rd hown
      go_wp2_with (go_at_call 58; refine (trim_any _ _ _ hR).mono ?_; rintro e w' ⟨v', rfl, hv, rfl⟩)
      go_ret
      refine ⟨_, rfl, ?_, hb⟩
      rw [hd.out, List.take_length, trim_eq (by omega) (split_lt ws), split_val ws HW.out] at hv
      exact hv
end Go.Proofs.YtgdgklhfakplhaaGreatDoor

namespace Go.Proofs.YtgdgklhfakplhaaGreatDoor
open Go.RowKit Go.Dig
set_option maxRecDepth 100000
theorem rd_one {k : IntKind} {w : World} {e : TypeId} {x : Int} {n b : Nat} (hb : b = w.heap.size) (h : x = (n : Int)) : Rd k (w.alloc (.cells #[.int k x] e)) (.slice (some ⟨b, 0, none⟩) 1 1) [n] := by
  subst h
  subst hb
  refine ⟨_, 1, rfl, by simp, by omega, fun _ => ⟨w.heap.size, 0, rfl, fun i hi => ?_⟩⟩
  simp at hi; subst hi
  rw [World.cell?_alloc_new]; rfl
theorem u64_neg (n : Nat) (h0 : 0 < n) (h1 : n ≤ 9223372036854775808) : IntKind.u64.wrap (-IntKind.u64.wrap (-(n : Int))) = (n : Int) := by
  rw [IntKind.wrap_u64, IntKind.wrap_u64]; omega
end Go.Proofs.YtgdgklhfakplhaaGreatDoor
namespace Go.Proofs.YtgdgklhfakplhaaGreatDoor
open Go.RowKit Go.Dig
set_option maxRecDepth 100000
/-- -1, 0 or 1. -/
def cmpI (m n : Nat) : Int := if m < n then -1 else if m = n then 0 else 1
set_option maxHeartbeats 400000 in
theorem cmp_lt (va vb : Value) (da db : List Nat) (w : World) (ha : Rd .i64 w va da) (hb : Rd .i64 w vb db) (hl : da.length < db.length) :
    Calls Tryz.prog 54 #[va, vb] w fun e w' => e = .returned (.int .i64 (-1)) ∧ w' = w := by
  obtain ⟨a, cap, rfl, hn, hcap, hc⟩ := ha
  obtain ⟨a2, cap2, rfl, hn2, hcap2, hc2⟩ := hb
  clear hc hc2
  go_enter Tryz.func54, Tryz.ntmps54
  go_wp2_with fail
  go_ret
  exact ⟨rfl, rfl⟩
set_option maxHeartbeats 400000 in
theorem cmp_gt (va vb : Value) (da db : List Nat) (w : World) (ha : Rd .i64 w va da) (hb : Rd .i64 w vb db) (hl : db.length < da.length) :
    Calls Tryz.prog 54 #[va, vb] w fun e w' => e = .returned (.int .i64 1) ∧ w' = w := by
  obtain ⟨a, cap, rfl, hn, hcap, hc⟩ := ha
  obtain ⟨a2, cap2, rfl, hn2, hcap2, hc2⟩ := hb
  clear hc hc2
  have h2 : ¬ da.length < db.length := by omega
  go_enter Tryz.func54, Tryz.ntmps54
  go_wp2_with fail
  go_ret
  exact ⟨rfl, rfl⟩
set_option maxHeartbeats 400000 in
theorem cmp_eq (va vb : Value) (da db : List Nat) (w : World) (ha : Rd .i64 w va da) (hb : Rd .i64 w vb db) (hl : da.length = db.length) (hda : ∀ d ∈ da, d < 65536) (hdb : ∀ d ∈ db, d < 65536) :
    Calls Tryz.prog 54 #[va, vb] w fun e w' => ∃ n, e = .returned (.int .i64 (cmpI (val 65536 da) (val 65536 db))) ∧ w' = w.drewN n := by
  obtain ⟨a, cap, rfl, hn, hcap, hc⟩ := ha
  obtain ⟨a2, cap2, rfl, hn2, hcap2, hc2⟩ := hb
  have HA := hid hc
  have HB := hid hc2
  have HDA := hid hda
  have HDB := hid hdb
  clear hc hc2 hda hdb
  have h1 : ¬ da.length < db.length := by omega
  have h2 : ¬ db.length < da.length := by omega
  have HL := hid hl
  clear hl
  go_enter Tryz.func54, Tryz.ntmps54
  go_wp2_with fail
  go_loopw [5] (fun x wr => ∃ (m : Nat) (n : Nat), x = .int .i64 ((m : Int) - 1) ∧ m ≤ da.length ∧ Hid (∀ j, m ≤ j → j < da.length → da.getD j 0 = db.getD j 0) ∧ wr = w.drewN n) (fun x _ => (intOf x + 1).toNat)
  case atStart => exact ⟨da.length, 0, rfl, Nat.le_refl _, fun j h1 h2 => by omega, rfl⟩
  case round =>
    obtain ⟨m, n, rfl, hm, hj, rfl⟩ := hrel
    rcases Nat.eq_zero_or_pos m with h0 | h0
    · subst h0
      go_wp2_with fail
      go_ret
      refine ⟨n, ?_, rfl⟩
      have e : da = db := by
        have := drop_eq HL.out hj.out
        simpa using this
      have e2 : cmpI (val 65536 da) (val 65536 db) = 0 := by rw [e]; simp [cmpI]
      rw [e2]; rfl
    · obtain ⟨k, rfl⟩ : ∃ k, m = k + 1 := ⟨m - 1, by omega⟩
      obtain ⟨b, off, rfl, hb⟩ := HA.out (by omega)
      have hk := hb k (by omega)
      have hL := HL.out
      obtain ⟨b2, off2, rfl, hb2⟩ := HB.out (by omega)
      have hk2 := hb2 k (by omega)
      have hkk : k < db.length := by omega
      clear hb hb2 hL
      have ek : ((k + 1 : Nat) : Int) - 1 = (k : Int) := by omega
      rw [ek]
      generalize hx : da.getD k 0 = x at hk
      generalize hy : db.getD k 0 = y at hk2
      have HX := hid hx
      have HY := hid hy
      clear hx hy
      rcases Nat.lt_trichotomy x y with hxy | hxy | hxy
      · go_wp2_with fail
        go_quiet (fail)
        go_wp2_with fail
        go_ret
        refine ⟨_, ?_, by simp only [World.drewN_drewN]; rfl⟩
        have e2 : cmpI (val 65536 da) (val 65536 db) = -1 := by
          have := val_lt_of_digit (by omega) HL.out HDA.out (by omega : k < da.length) hj.out (by rw [HX.out, HY.out]; exact hxy)
          rw [cmpI, if_pos this]
        rw [e2]; rfl
      · subst hxy
        go_wp2_with fail
        go_quiet (fail)
        go_wp2_with fail
        go_quiet (fail)
        go_wp2_with fail
        go_roundw
        case rel =>
          refine ⟨k, _, rfl, by omega, fun j h1 h2 => ?_, rfl⟩
          rcases Nat.eq_or_lt_of_le h1 with rfl | h3
          · rw [HX.out, HY.out]
          · exact hj.out j h3 h2
        case measure => simp [intOf]
      · have hxy2 : ¬ x < y := by omega
        go_wp2_with fail
        go_quiet (fail)
        go_wp2_with fail
        go_quiet (fail)
        go_wp2_with fail
        go_ret
        refine ⟨_, ?_, by simp only [World.drewN_drewN]; rfl⟩
        have e2 : cmpI (val 65536 da) (val 65536 db) = 1 := by
          have hLL := HL.out
          have := val_lt_of_digit (by omega) HL.out.symm HDB.out (by omega : k < db.length) (fun j h1 h2 => (hj.out j h1 (by omega)).symm) (by rw [HX.out, HY.out]; exact hxy)
          rw [cmpI, if_neg (by omega), if_neg (by omega)]
        rw [e2]; rfl
theorem cmp_any (va vb : Value) (m n : Nat) (w : World) (ha : Nt w va m) (hb : Nt w vb n) :
    Calls Tryz.prog 54 #[va, vb] w fun e w' => ∃ k, e = .returned (.int .i64 (cmpI m n)) ∧ w' = w.drewN k := by
  rcases Nat.lt_trichotomy (dg 65536 m).length (dg 65536 n).length with hl | hl | hl
  · have e : cmpI m n = -1 := by
      rw [cmpI, if_pos]
      rcases Nat.lt_or_ge m n with h | h
      · exact h
      · have := dg_length_mono (b := 65536) (by omega) h; omega
    rw [e]
    exact (cmp_lt va vb _ _ w ha.rd hb.rd hl).mono fun e w' ⟨h1, h2⟩ => ⟨0, h1, h2⟩
  · have := cmp_eq va vb _ _ w ha.rd hb.rd hl (dgl m) (dgl n)
    rwa [val_dg (by omega), val_dg (by omega)] at this
  · have e : cmpI m n = 1 := by
      have h1 : n < m := by
        rcases Nat.lt_or_ge n m with h | h
        · exact h
        · have := dg_length_mono (b := 65536) (by omega) h; omega
      rw [cmpI, if_neg (by omega), if_neg (by omega)]
    rw [e]
    exact (cmp_gt va vb _ _ w ha.rd hb.rd hl).mono fun e w' ⟨h1, h2⟩ => ⟨0, h1, h2⟩
end Go.Proofs.YtgdgklhfakplhaaGreatDoor

namespace Go.Proofs.YtgdgklhfakplhaaGreatDoor
open Go.RowKit Go.Dig
set_option maxRecDepth 100000
/-- A number with a sign. -/
def sgn (neg : Bool) (n : Nat) : Int := if neg = true then -(n : Int) else n
/-- Whether an integer is one of 64 bits. -/
def fitI (x : Int) : Bool := decide (-9223372036854775808 ≤ x ∧ x ≤ 9223372036854775807)
theorem ret_fit {z z' : Int} {f f' : Bool} (h1 : z = z') (h2 : f = f') : Ending.returned (.tuple #[.int .i64 z, .bool f]) = .returned (.tuple #[.int .i64 z', .bool f']) := by rw [h1, h2]
theorem fit_pos_neg {n : Nat} {z : Int} (ez : z = wrap64 n) (h : z < 0) : false = fitI (sgn false n) := by
  unfold wrap64 at ez
  unfold fitI sgn
  simp
  omega
theorem fit_pos {n : Nat} {z : Int} (ez : z = wrap64 n) (h : 0 ≤ z) : (cmpI z.natAbs n == 0) = fitI (sgn false n) := by
  unfold wrap64 at ez
  unfold fitI sgn cmpI
  by_cases h1 : z.natAbs = n
  · rw [if_neg (by omega), if_pos h1]; simp; omega
  · by_cases h2 : z.natAbs < n
    · rw [if_pos h2]; simp; omega
    · rw [if_neg h2, if_neg h1]; simp; omega
theorem fit_neg_pos {n : Nat} {z : Int} (ez : z = wrap64 (-wrap64 n)) (hn : n ≠ 0) (h : 0 ≤ z) : false = fitI (sgn true n) := by
  unfold wrap64 at ez
  unfold fitI sgn
  simp
  omega
theorem fit_neg {n : Nat} {z : Int} (ez : z = wrap64 (-wrap64 n)) (h : z < 0) : (cmpI z.natAbs n == 0) = fitI (sgn true n) := by
  unfold wrap64 at ez
  unfold fitI sgn cmpI
  by_cases h1 : z.natAbs = n
  · rw [if_neg (by omega), if_pos h1]; simp; omega
  · by_cases h2 : z.natAbs < n
    · rw [if_pos h2]; simp; omega
    · rw [if_neg h2, if_neg h1]; simp; omega
theorem wrap_neg_wrap (n : Nat) : wrap64 (-wrap64 n) = wrap64 (-(n : Int)) := by unfold wrap64; omega
end Go.Proofs.YtgdgklhfakplhaaGreatDoor
namespace Go.Proofs.YtgdgklhfakplhaaGreatDoor
open Go.RowKit Go.Dig
set_option maxRecDepth 100000
set_option maxHeartbeats 400000 in
theorem byDigit_any (va : Value) (n d : Nat) (w : World) (hn : Nt w va n) (hd0 : 0 < d) (hd1 : d < 65536) (hl : (dg 65536 n).length ≤ 100000) :
    Calls Tryz.prog 101 #[va, .int .i64 d] w fun e w' => ∃ v, e = .returned (.tuple #[v, .int .i64 (n % d : Nat)]) ∧ Nt w' v (n / d) ∧ Below w.heap.size w w' := by
  have HR := hid hn
  obtain ⟨a, cap, rfl, h1, h2, h3⟩ := hn
  have HA := hid h3
  clear h3
  have hmk := run_make_row' (P := Tryz.prog) 29 3 (.int .i64 0) 8 Tryz.underlying29 info3 rfl .i64 .i64 (dg 65536 n).length (by omega) (by omega)
  go_enter Tryz.func101, Tryz.ntmps101
  go_wp2_with fail
  go_loopw [7, 8] (fun x y wr => ∃ (m r : Nat) (l : List Nat), x = .int .i64 r ∧ y = .int .i64 ((m : Int) - 1) ∧ m ≤ (dg 65536 n).length ∧ r < d ∧ Hid (r = n / 65536 ^ m % d) ∧ Hid (l.length = (dg 65536 n).length) ∧ BlkN .i64 3 wr w.heap.size l ∧
    Hid (∀ j, m ≤ j → j < l.length → l.getD j 0 = n / d / 65536 ^ j % 65536) ∧ Below w.heap.size w wr) (fun _ y _ => (intOf y + 1).toNat)
  case atStart =>
    refine ⟨_, 0, List.replicate (dg 65536 n).length 0, rfl, rfl, Nat.le_refl _, hd0, ?_, hid (by simp), blkN_made _ _ _ _, hid ?_, (Below.refl _ _).alloc (Nat.le_refl _) _⟩
    · rw [Nat.div_eq_of_lt (lt_pow_dg_length (by omega) n)]; exact hid (by simp)
    · intro j h1 h2; simp at h2; omega
  case round =>
    obtain ⟨m, r, l, rfl, rfl, hm, hrd, hr, hll, hB, hq, hb⟩ := hrel
    rcases Nat.eq_zero_or_pos m with h0 | h0
    · subst h0
      have hR2 := BlkN.rt hB (cap := l.length) (Nat.le_refl _) (by rw [hll.out]; omega)
      rw [hll.out] at hR2
      go_wp2_with fail
      refine (trim_any _ _ _ hR2).mono ?_
      rintro e w1 ⟨v', rfl, hv, rfl⟩
      go_wp2_with fail
      go_ret2
      have e0 : r = n % d := by have := hr.out; rw [Nat.pow_zero, Nat.div_one] at this; exact this
      rw [← e0]
      refine ⟨_, rfl, ?_, hb⟩
      have e1 := digits_trim (b := 65536) (by omega) (l := l) (q := n / d) (by rw [hll.out]; exact Nat.lt_of_le_of_lt (Nat.div_le_self n d) (lt_pow_dg_length (by omega) n)) (fun j hj => hq.out j (Nat.zero_le _) hj)
      rw [e1] at hv
      exact hv
    · obtain ⟨k, rfl⟩ : ∃ k, m = k + 1 := ⟨m - 1, by omega⟩
      obtain ⟨b, off, rfl, _, hb3⟩ := HA.out (by omega)
      have hk := hb3 k (by omega)
      clear hb3
      have hk2 := (hb.cell (World.block_lt_of_cell? w _ hk)).trans hk
      clear hk
      have hdk : (dg 65536 n).getD k 0 = n / 65536 ^ k % 65536 := dg_getD (by omega) n k
      generalize (dg 65536 n).getD k 0 = a at hk2 hdk
      have ha : a < 65536 := by rw [hdk]; exact Nat.mod_lt _ (by omega)
      have HD := hid hdk
      clear hdk
      have hcell := hB.at (i := k) (by rw [hll.out]; omega)
      have hfr := Blk.frozen hB k
      generalize l.getD k 0 = old at hcell
      have ek : ((k + 1 : Nat) : Int) - 1 = (k : Int) := by omega
      rw [ek]
      go_wp2_with fail
      have hst := long_step (B := 65536) (d := d) (n := n) (j := k) (by omega) (by omega)
      rw [← hr.out, ← HD.out] at hst
      obtain ⟨hst1, hst2⟩ := hst
      go_roundw
      case rel =>
        refine ⟨k, (r * 65536 + a) % d, l.set k ((r * 65536 + a) / d), by simp, rfl, by omega, Nat.mod_lt _ hd0, hid hst2, hid (by rw [List.length_set]; exact hll.out), ?_, hid ?_, hb.setCell (Nat.le_refl _) _⟩
        · have := BlkN.put hB k ((r * 65536 + a) / d)
          simpa using this
        · intro j h1 h2
          rw [List.length_set] at h2
          rw [List.getD_eq_getElem?_getD, List.getElem?_set]
          rcases Nat.eq_or_lt_of_le h1 with rfl | h3
          · rw [if_pos rfl, if_pos h2]; exact hst1
          · rw [if_neg (by omega), ← List.getD_eq_getElem?_getD]; exact hq.out j h3 h2
      case measure => simp [intOf]
end Go.Proofs.YtgdgklhfakplhaaGreatDoor
