/- Walks and lemmas for the laws of this seat. -/
import Derived.Test.YtocahcammjoffaaGreatDoorS2
namespace Go.Proofs.YtocahcammjoffaaGreatDoor
open Go.RowKit Go.Dig
set_option maxRecDepth 100000
theorem band16 (z : Int) (h0 : 0 ≤ z) (h1 : z < 18446744073709551616) : bits .and .u64 z 65535 = z % 65536 := by
  rw [u64_and z 65535 h0 h1 (by omega) (by omega)]
  rw [show (65535 : Int).toNat = 2 ^ 16 - 1 from rfl, Nat.and_two_pow_sub_one_eq_mod]
  omega
/-- Words of 64 bits as digits to 65536. -/
def split4 (x : Nat) : List Nat := [x % 65536, x / 65536 % 65536, x / 4294967296 % 65536, x / 281474976710656 % 65536]
def split (ws : List Nat) : List Nat := ws.flatMap split4
theorem split_lt (ws : List Nat) : ∀ d ∈ split ws, d < 65536 := by
  intro d hd
  obtain ⟨x, _, hx⟩ := List.mem_flatMap.1 hd
  simp [split4] at hx
  omega
theorem split_val : ∀ (ws : List Nat), (∀ x ∈ ws, x < 18446744073709551616) → val 65536 (split ws) = val 18446744073709551616 ws
  | [], _ => rfl
  | x :: ws, h => by
    have ih := split_val ws fun y hy => h y (List.mem_cons_of_mem _ hy)
    have hx := h x (by simp)
    show val 65536 (split4 x ++ split ws) = x + 18446744073709551616 * val 18446744073709551616 ws
    rw [val_append, ih]
    simp only [split4, val, List.length_cons, List.length_nil]
    omega
theorem split_take {ws : List Nat} {j : Nat} (h : j < ws.length) : split (ws.take (j + 1)) = split (ws.take j) ++ split4 (ws.getD j 0) := by
  rw [List.take_succ_eq_append_getElem h, List.getD_eq_getElem?_getD, List.getElem?_eq_getElem h]
  unfold split
  rw [List.flatMap_append, List.flatMap_singleton]
  rfl
set_option maxHeartbeats 400000 in
theorem of_any (v : Value) (ws : List Nat) (w : World) (h : Rd .u64 w v ws) (hws : ∀ x ∈ ws, x < 18446744073709551616) (hl : ws.length ≤ 100000) :
    Calls Tryz.prog 79 #[v] w fun e w' => ∃ v', e = .returned v' ∧ Nt w' v' (val 18446744073709551616 ws) ∧ Below w.heap.size w w' := by
  obtain ⟨a, cap, rfl, hn, hcap, hc⟩ := h
  have HC := hid hc
  have HW := hid hws
  clear hc hws
  go_enter Tryz.func79, Tryz.ntmps79
  go_wp2_with fail
  go_loopw [3, 10] (fun v x wr => ∃ (ds : List Nat) (j : Nat), x = .int .i64 j ∧ j ≤ ws.length ∧ ds.length ≤ 4 * j ∧ wr.ownsRow w.heap.size 3 1 v ds.length (cs .i64 ds) ∧ Hid (ds = split (ws.take j)) ∧ Below w.heap.size w wr) (fun _ x _ => ws.length - (intOf x).toNat)
  case atStart => exact ⟨[], 0, rfl, by omega, by simp, own_empty w 3 (Nat.le_refl _), rfl, (Below.refl _ _).alloc (Nat.le_refl _) _⟩
  case round =>
    obtain ⟨ds, j, rfl, hj, hlj, hown, hd, hb⟩ := hrel
    have hbs := hb.size
    rcases Nat.lt_or_ge j ws.length with h0 | h0
    · obtain ⟨b, off, rfl, hb2⟩ := HC.out (by omega)
      have hk := hb2 j (by omega)
      clear hb2
      have hk2 := (hb.cell (World.block_lt_of_cell? w _ hk)).trans hk
      clear hk
      have hx := getD_lt (by omega) HW.out j
      generalize hg : ws.getD j 0 = x at hk2 hx
      have HG := hid hg
      clear hg
      go_wp2_with fail
      obtain ⟨wo, hwo⟩ : ∃ wo : World, wo = wr := ⟨_, rfl⟩
      subst hwo
      go_loopw [3, 6] (fun v x' wr => ∃ (ds' : List Nat) (k : Nat), x' = .int .i64 k ∧ k ≤ 4 ∧ ds'.length ≤ 4 * j + k ∧ wr.ownsRow w.heap.size 3 1 v ds'.length (cs .i64 ds') ∧ Hid (ds' = ds ++ (split4 x).take k) ∧ Below w.heap.size w wr) (fun _ x _ => 4 - (intOf x).toNat)
      case atStart => exact ⟨ds, 0, rfl, by omega, hlj, hown, by show ds = ds ++ []; simp, hb⟩
      case round =>
        obtain ⟨ds', k, rfl, hk, hlk, hown', hd', hb'⟩ := hrel
        have hbs' := hb'.size
        clear hown
        have hk5 : k = 0 ∨ k = 1 ∨ k = 2 ∨ k = 3 ∨ k = 4 := by omega
        clear hk
        rcases hk5 with rfl | rfl | rfl | rfl | rfl
        · have b0 := band16 (x : Int) (by omega) (by omega)
          go_wp2_with (at_builtin; refine app1 rfl _ _ 29 3 rfl .i64 8 Tryz.underlying29 info3 (by decide) w.heap.size w _ ds' _ (x % 65536) (by omega) rfl rfl hown' hb' (by omega) (by omega) ?_; intro v' w' hown2 hb2 _)
          go_roundw
          case rel => exact ⟨ds' ++ [x % 65536], 1, by go_num, by omega, by simp; omega, hown2, hid (by rw [hd'.out]; simp [split4]), hb2⟩
          case measure => simp [intOf]
        · have b0 := band16 ((x : Int) / 65536) (by omega) (by omega)
          go_wp2_with (at_builtin; refine app1 rfl _ _ 29 3 rfl .i64 8 Tryz.underlying29 info3 (by decide) w.heap.size w _ ds' _ (x / 65536 % 65536) (by omega) rfl rfl hown' hb' (by omega) (by omega) ?_; intro v' w' hown2 hb2 _)
          go_roundw
          case rel => exact ⟨ds' ++ [x / 65536 % 65536], 2, by go_num, by omega, by simp; omega, hown2, hid (by rw [hd'.out]; simp [split4]), hb2⟩
          case measure => simp [intOf]
        · have b0 := band16 ((x : Int) / 4294967296) (by omega) (by omega)
          go_wp2_with (at_builtin; refine app1 rfl _ _ 29 3 rfl .i64 8 Tryz.underlying29 info3 (by decide) w.heap.size w _ ds' _ (x / 4294967296 % 65536) (by omega) rfl rfl hown' hb' (by omega) (by omega) ?_; intro v' w' hown2 hb2 _)
          go_roundw
          case rel => exact ⟨ds' ++ [x / 4294967296 % 65536], 3, by go_num, by omega, by simp; omega, hown2, hid (by rw [hd'.out]; simp [split4]), hb2⟩
          case measure => simp [intOf]
        · have b0 := band16 ((x : Int) / 281474976710656) (by omega) (by omega)
          go_wp2_with (at_builtin; refine app1 rfl _ _ 29 3 rfl .i64 8 Tryz.underlying29 info3 (by decide) w.heap.size w _ ds' _ (x / 281474976710656 % 65536) (by omega) rfl rfl hown' hb' (by omega) (by omega) ?_; intro v' w' hown2 hb2 _)
          go_roundw
          case rel => exact ⟨ds' ++ [x / 281474976710656 % 65536], 4, by go_num, by omega, by simp; omega, hown2, hid (by rw [hd'.out]; simp [split4]), hb2⟩
          case measure => simp [intOf]
        · go_wp2_with fail
          go_roundw
          case rel => exact ⟨ds', j + 1, by go_num, by omega, by omega, hown', hid (by rw [hd'.out, hd.out, split_take h0, HG.out]; rfl), hb'⟩
          case measure => simp [intOf]; omega
    · obtain rfl : j = ws.length := by omega
      have hR := own_rd hown
      go_wp2_with (go_at_call 118; refine (trim_any _ _ _ hR).mono ?_; rintro e w' ⟨v', rfl, hv, rfl⟩)
      go_ret
      refine ⟨_, rfl, ?_, hb⟩
      rw [hd.out, List.take_length, trim_eq (by omega) (split_lt ws), split_val ws HW.out] at hv
      exact hv
end Go.Proofs.YtocahcammjoffaaGreatDoor
