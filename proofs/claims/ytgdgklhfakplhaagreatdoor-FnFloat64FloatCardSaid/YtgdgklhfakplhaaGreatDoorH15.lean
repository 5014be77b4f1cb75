/- Walks and lemmas for the laws of this seat. -/
import Derived.Test.YtgdgklhfakplhaaGreatDoorH14
import Derived.Test.YtgdgklhfakplhaaGreatDoorH09
namespace Go.Proofs.YtgdgklhfakplhaaGreatDoor
open Go.RowKit Go.Dig
set_option maxRecDepth 100000
set_option maxHeartbeats 400000 in
theorem ncmp_11 (vx vy : Value) (m n : Nat) (w : World) (hx : Nw w vx m) (hy : Nw w vy n) (hm : 0 < m) (hm1 : m < 18446744073709551616) (hn : 0 < n) (hn1 : n < 18446744073709551616) :
    Calls Tryz.prog 147 #[vx, vy] w fun e w' => e = .returned (.int .i64 (cmpI m n)) ∧ ∃ k, w' = w.drewN k := by
  obtain ⟨ax, cx, ex, h1, h2, h3⟩ := hx
  obtain ⟨ay, cy, ey, h4, h5, h6⟩ := hy
  rw [dg_one hm hm1] at ex h3
  rw [dg_one hn hn1] at ey h6
  subst ex ey
  obtain ⟨b, off, rfl, _, hc⟩ := h3 (by simp)
  have hk := hc 0 (by simp)
  obtain ⟨b', off', rfl, _, hc'⟩ := h6 (by simp)
  have hk' := hc' 0 (by simp)
  simp only [List.getD_cons_zero, Nat.add_zero] at hk hk'
  clear h3 hc h6 hc' h1 h2 h4 h5
  go_enter Tryz.func147, Tryz.ntmps147
  go_wp2_with fail
  go_loopw [7] (fun v wr => v = .int .i64 0 ∧ wr = w) (fun _ _ => 0)
  case atStart => exact ⟨rfl, rfl⟩
  case round =>
    obtain ⟨rfl, rfl⟩ := hrel
    rcases Nat.lt_trichotomy m n with h | h | h
    · have e : cmpI m n = -1 := by rw [cmpI, if_pos h]
      have E := hid e
      clear e
      go_wp2_with fail
      go_quiet (fail)
      go_wp2_with fail
      go_quiet (fail)
      go_wp2_with fail
      go_ret
      rw [E.out]
      exact ⟨rfl, _, by simp only [World.drewN_drewN]; rfl⟩
    · subst h
      have E : Hid (cmpI m m = 0) := by rw [cmpI, if_neg (by omega), if_pos rfl]; exact rfl
      go_wp2_with fail
      go_quiet (fail)
      go_wp2_with fail
      go_quiet (fail)
      go_wp2_with fail
      go_quiet (fail)
      go_wp2_with fail
      go_ret
      rw [E.out]
      exact ⟨rfl, _, by simp only [World.drewN_drewN]; rfl⟩
    · have hn2 : ¬ m < n := by omega
      have E : Hid (cmpI m n = 1) := by rw [cmpI, if_neg (by omega), if_neg (by omega)]; exact rfl
      go_wp2_with fail
      go_quiet (fail)
      go_wp2_with fail
      go_quiet (fail)
      go_wp2_with fail
      go_quiet (fail)
      go_wp2_with fail
      go_ret
      rw [E.out]
      exact ⟨rfl, _, by simp only [World.drewN_drewN]; rfl⟩
set_option maxHeartbeats 400000 in
theorem ncmp_len (vx vy : Value) (m n : Nat) (w : World) (hx : Nw w vx m) (hy : Nw w vy n) (hl : (dg 18446744073709551616 m).length ≠ (dg 18446744073709551616 n).length ∨ (dg 18446744073709551616 m).length = 0) :
    Calls Tryz.prog 147 #[vx, vy] w fun e w' => e = .returned (.int .i64 (if (dg 18446744073709551616 m).length < (dg 18446744073709551616 n).length then -1 else if (dg 18446744073709551616 n).length < (dg 18446744073709551616 m).length then 1 else 0)) ∧ w' = w := by
  obtain ⟨ax, cx, rfl⟩ := hx.shape
  obtain ⟨ay, cy, rfl⟩ := hy.shape
  clear hx hy
  generalize (dg 18446744073709551616 m).length = p at *
  generalize (dg 18446744073709551616 n).length = q at *
  rcases Nat.lt_trichotomy p q with h | h | h
  · have hne : p ≠ q := by omega
    rw [if_pos h]
    go_enter Tryz.func147, Tryz.ntmps147
    go_wp2_with fail
    go_ret
    exact ⟨rfl, rfl⟩
  · subst h
    obtain rfl : p = 0 := by omega
    rw [if_neg (by omega), if_neg (by omega)]
    go_enter Tryz.func147, Tryz.ntmps147
    go_wp2_with fail
    go_ret
    exact ⟨rfl, rfl⟩
  · have hne : p ≠ q := by omega
    rw [if_neg (by omega), if_pos h]
    go_enter Tryz.func147, Tryz.ntmps147
    go_wp2_with fail
    go_ret
    exact ⟨rfl, rfl⟩
theorem ncmp_small (vx vy : Value) (m n : Nat) (w : World) (hx : Nw w vx m) (hy : Nw w vy n) (hm1 : m < 18446744073709551616) (hn1 : n < 18446744073709551616) :
    Calls Tryz.prog 147 #[vx, vy] w fun e w' => e = .returned (.int .i64 (cmpI m n)) ∧ ∃ k, w' = w.drewN k := by
  rcases Nat.eq_zero_or_pos m with h | h <;> rcases Nat.eq_zero_or_pos n with h' | h'
  · subst h h'
    refine (ncmp_len vx vy 0 0 w hx hy (.inr (by rw [dg_zero]; rfl))).mono ?_
    rintro e w' ⟨rfl, rfl⟩
    exact ⟨by rw [dg_zero]; rfl, 0, rfl⟩
  · subst h
    refine (ncmp_len vx vy 0 n w hx hy (.inr (by rw [dg_zero]; rfl))).mono ?_
    rintro e w' ⟨rfl, rfl⟩
    refine ⟨?_, 0, rfl⟩
    have e : cmpI 0 n = -1 := by rw [cmpI, if_pos h']
    rw [dg_zero, dg_one h' hn1, e]; rfl
  · subst h'
    refine (ncmp_len vx vy m 0 w hx hy (.inl (by rw [dg_zero, dg_one h hm1]; simp))).mono ?_
    rintro e w' ⟨rfl, rfl⟩
    refine ⟨?_, 0, rfl⟩
    have e : cmpI m 0 = 1 := by rw [cmpI, if_neg (by omega), if_neg (by omega)]
    rw [dg_zero, dg_one h hm1, e]; rfl
  · exact ncmp_11 vx vy m n w hx hy h hm1 h' hn1
end Go.Proofs.YtgdgklhfakplhaaGreatDoor

namespace Go.Proofs.YtgdgklhfakplhaaGreatDoor
open Go.RowKit Go.Dig
set_option maxRecDepth 100000
theorem div_len {m k : Nat} (g : Nat) (h : (dg 65536 m).length ≤ k) : (dg 65536 (m / g)).length ≤ k := Nat.le_trans (dg_length_mono (by omega) (Nat.div_le_self _ _)) h
end Go.Proofs.YtgdgklhfakplhaaGreatDoor
