/- Walks and lemmas for the laws of this seat. -/
import Derived.Test.YtocahcammjoffaaGreatDoorS10
namespace Go.Proofs.YtocahcammjoffaaGreatDoor
open Go.RowKit Go.Dig
set_option maxRecDepth 100000
set_option maxHeartbeats 400000 in
theorem len_zero (v : Value) (w : World) (h : Nt w v 0) : Calls Tryz.prog 94 #[v] w fun e w' => e = .returned (.int .i64 0) ∧ w' = w := by
  have h' : Rt 3 .i64 w v [] := by have := h; unfold Nt at this; rwa [dg_zero] at this
  obtain ⟨a, cap, rfl, h1, h2, h3⟩ := h'
  clear h h3
  go_enter Tryz.func94, Tryz.ntmps94
  go_wp2_with fail
  go_ret
  exact ⟨rfl, rfl⟩
set_option maxHeartbeats 400000 in
theorem len_any (v : Value) (n : Nat) (w : World) (h : Nt w v n) (hl : (dg 65536 n).length ≤ 100000) : Calls Tryz.prog 94 #[v] w fun e w' => e = .returned (.int .i64 (blen n)) ∧ w' = w := by
  by_cases hn : n = 0
  · subst hn; rw [blen_zero]; exact len_zero v w h
  · obtain ⟨a, cap, rfl, h1, h2, h3⟩ := h
    have hp : 0 < (dg 65536 n).length := by rw [dg_pos (by omega) hn]; simp
    obtain ⟨b, off, rfl, _, hb3⟩ := h3 hp
    have hk := hb3 ((dg 65536 n).length - 1) (by omega)
    clear hb3 h3
    obtain ⟨t1, t2, t3⟩ := top_digit (b := 65536) (by omega) hn
    have hsh := blen_shift (n := n) (k := 16 * ((dg 65536 n).length - 1)) (by rw [Nat.pow_mul]; exact t2)
    rw [Nat.pow_mul] at hsh
    rw [t1] at hk
    have hsh2 : blen n = 16 * ((dg 65536 n).length - 1) + blen (n / 65536 ^ ((dg 65536 n).length - 1)) := hsh
    obtain ⟨L, hL⟩ : ∃ L, (dg 65536 n).length = L + 1 := ⟨(dg 65536 n).length - 1, by omega⟩
    rw [hL] at hk hsh2 t2 t3 h1 hl ⊢
    simp only [Nat.add_sub_cancel] at hk hsh2 t2 t3
    generalize n / 65536 ^ L = t at hk hsh2 t2 t3
    have hz0 : (((L : Int) + 1) == 0) = false := by simp; omega
    have HS := hid hsh2
    have HH := hid hL
    clear hsh hsh2 t1 hL hp
    go_enter Tryz.func94, Tryz.ntmps94
    go_wp2_with fail
    go_loop [3, 4] (fun x y => ∃ (c s : Nat), x = .int .i64 c ∧ y = .int .i64 s ∧ s < 65536 ∧ c ≤ 10000000 ∧ Hid (c + blen s = blen n)) (fun _ y => (intOf y).toNat)
    case atStart => exact ⟨16 * L, t, by simp, rfl, t3, by omega, HS.out.symm⟩
    case round =>
      obtain ⟨c, s, rfl, rfl, hs, hc, hcs⟩ := hrel
      rcases Nat.eq_zero_or_pos s with h0 | h0
      · subst h0
        go_wp2_with fail
        go_ret
        refine ⟨?_, rfl⟩
        have := hcs.out
        rw [blen_zero, Nat.add_zero] at this
        rw [this]; rfl
      · have hh := blen_half (n := s) (by omega)
        have hcs2 : c + 1 + blen (s / 2) = blen n := by rw [← hcs.out, hh]; omega
        have HC := hid hcs2
        have hb1 : c + 1 ≤ 10000000 := by
          have h2 := hcs.out
          have h3 := dg_length_le (b := 65536) (n := n) (k := L + 1) (by omega) (by rw [← HH.out]; exact lt_pow_dg_length (by omega) n)
          have h4 : blen n ≤ 16 * (L + 1) := blen_le (by rw [Nat.pow_mul, ← HH.out]; exact lt_pow_dg_length (by omega) n)
          omega
        clear hh hcs2
        go_wp2_with fail
        go_round
        case rel => exact ⟨c + 1, s / 2, by go_num, by simp, by omega, hb1, HC⟩
        case measure => simp [intOf]; omega
end Go.Proofs.YtocahcammjoffaaGreatDoor
