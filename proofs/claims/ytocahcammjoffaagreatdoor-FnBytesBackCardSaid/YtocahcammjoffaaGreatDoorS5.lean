/- Walks and lemmas for the laws of this seat. -/
import Derived.Test.YtocahcammjoffaaGreatDoorS4
namespace Go.Proofs.YtocahcammjoffaaGreatDoor
open Go.RowKit Go.Dig
set_option maxRecDepth 100000
/-- -1, 0 or 1. -/
def cmpI (m n : Nat) : Int := if m < n then -1 else if m = n then 0 else 1
set_option maxHeartbeats 400000 in
theorem cmp_lt (va vb : Value) (da db : List Nat) (w : World) (ha : Rd .i64 w va da) (hb : Rd .i64 w vb db) (hl : da.length < db.length) :
    Calls Tryz.prog 54 #[va, vb] w fun e w' => e = .returned (.int .i64 (-1)) ∧ w' = w := by
  obtain ⟨a, cap, rfl, hn, hcap, hc⟩ := ha
  obtain ⟨a2, cap2, rfl, hn2, hcap2, hc2⟩ := hb
  clear hc hc2
  go_enter Tryz.func54, Tryz.ntmps54
  go_wp2_with fail
  go_ret
  exact ⟨rfl, rfl⟩
set_option maxHeartbeats 400000 in
theorem cmp_gt (va vb : Value) (da db : List Nat) (w : World) (ha : Rd .i64 w va da) (hb : Rd .i64 w vb db) (hl : db.length < da.length) :
    Calls Tryz.prog 54 #[va, vb] w fun e w' => e = .returned (.int .i64 1) ∧ w' = w := by
  obtain ⟨a, cap, rfl, hn, hcap, hc⟩ := ha
  obtain ⟨a2, cap2, rfl, hn2, hcap2, hc2⟩ := hb
  clear hc hc2
  have h2 : ¬ da.length < db.length := by omega
  go_enter Tryz.func54, Tryz.ntmps54
  go_wp2_with fail
  go_ret
  exact ⟨rfl, rfl⟩
set_option maxHeartbeats 400000 in
theorem cmp_eq (va vb : Value) (da db : List Nat) (w : World) (ha : Rd .i64 w va da) (hb : Rd .i64 w vb db) (hl : da.length = db.length) (hda : ∀ d ∈ da, d < 65536) (hdb : ∀ d ∈ db, d < 65536) :
    Calls Tryz.prog 54 #[va, vb] w fun e w' => ∃ n, e = .returned (.int .i64 (cmpI (val 65536 da) (val 65536 db))) ∧ w' = w.drewN n := by
  obtain ⟨a, cap, rfl, hn, hcap, hc⟩ := ha
  obtain ⟨a2, cap2, rfl, hn2, hcap2, hc2⟩ := hb
  have HA := hid hc
  have HB := hid hc2
  have HDA := hid hda
  have HDB := hid hdb
  clear hc hc2 hda hdb
  have h1 : ¬ da.length < db.length := by omega
  have h2 : ¬ db.length < da.length := by omega
  have HL := hid hl
  clear hl
  go_enter Tryz.func54, Tryz.ntmps54
  go_wp2_with fail
  go_loopw [5] (fun x wr => ∃ (m : Nat) (n : Nat), x = .int .i64 ((m : Int) - 1) ∧ m ≤ da.length ∧ Hid (∀ j, m ≤ j → j < da.length → da.getD j 0 = db.getD j 0) ∧ wr = w.drewN n) (fun x _ => (intOf x + 1).toNat)
  case atStart => exact ⟨da.length, 0, rfl, Nat.le_refl _, fun j h1 h2 => by omega, rfl⟩
  case round =>
    obtain ⟨m, n, rfl, hm, hj, rfl⟩ := hrel
    rcases Nat.eq_zero_or_pos m with h0 | h0
    · subst h0
      go_wp2_with fail
      go_ret
      refine ⟨n, ?_, rfl⟩
      have e : da = db := by
        have := drop_eq HL.out hj.out
        simpa using this
      have e2 : cmpI (val 65536 da) (val 65536 db) = 0 := by rw [e]; simp [cmpI]
      rw [e2]; rfl
    · obtain ⟨k, rfl⟩ : ∃ k, m = k + 1 := ⟨m - 1, by omega⟩
      obtain ⟨b, off, rfl, hb⟩ := HA.out (by omega)
      have hk := hb k (by omega)
      have hL := HL.out
      obtain ⟨b2, off2, rfl, hb2⟩ := HB.out (by omega)
      have hk2 := hb2 k (by omega)
      have hkk : k < db.length := by omega
      clear hb hb2 hL
      have ek : ((k + 1 : Nat) : Int) - 1 = (k : Int) := by omega
      rw [ek]
      generalize hx : da.getD k 0 = x at hk
      generalize hy : db.getD k 0 = y at hk2
      have HX := hid hx
      have HY := hid hy
      clear hx hy
      rcases Nat.lt_trichotomy x y with hxy | hxy | hxy
      · go_wp2_with fail
        go_quiet (fail)
        go_wp2_with fail
        go_ret
        refine ⟨_, ?_, by simp only [World.drewN_drewN]; rfl⟩
        have e2 : cmpI (val 65536 da) (val 65536 db) = -1 := by
          have := val_lt_of_digit (by omega) HL.out HDA.out (by omega : k < da.length) hj.out (by rw [HX.out, HY.out]; exact hxy)
          rw [cmpI, if_pos this]
        rw [e2]; rfl
      · subst hxy
        go_wp2_with fail
        go_quiet (fail)
        go_wp2_with fail
        go_quiet (fail)
        go_wp2_with fail
        go_roundw
        case rel =>
          refine ⟨k, _, rfl, by omega, fun j h1 h2 => ?_, rfl⟩
          rcases Nat.eq_or_lt_of_le h1 with rfl | h3
          · rw [HX.out, HY.out]
          · exact hj.out j h3 h2
        case measure => simp [intOf]
      · have hxy2 : ¬ x < y := by omega
        go_wp2_with fail
        go_quiet (fail)
        go_wp2_with fail
        go_quiet (fail)
        go_wp2_with fail
        go_ret
        refine ⟨_, ?_, by simp only [World.drewN_drewN]; rfl⟩
        have e2 : cmpI (val 65536 da) (val 65536 db) = 1 := by
          have hLL := HL.out
          have := val_lt_of_digit (by omega) HL.out.symm HDB.out (by omega : k < db.length) (fun j h1 h2 => (hj.out j h1 (by omega)).symm) (by rw [HX.out, HY.out]; exact hxy)
          rw [cmpI, if_neg (by omega), if_neg (by omega)]
        rw [e2]; rfl
theorem cmp_any (va vb : Value) (m n : Nat) (w : World) (ha : Nt w va m) (hb : Nt w vb n) :
    Calls Tryz.prog 54 #[va, vb] w fun e w' => ∃ k, e = .returned (.int .i64 (cmpI m n)) ∧ w' = w.drewN k := by
  rcases Nat.lt_trichotomy (dg 65536 m).length (dg 65536 n).length with hl | hl | hl
  · have e : cmpI m n = -1 := by
      rw [cmpI, if_pos]
      rcases Nat.lt_or_ge m n with h | h
      · exact h
      · have := dg_length_mono (b := 65536) (by omega) h; omega
    rw [e]
    exact (cmp_lt va vb _ _ w ha.rd hb.rd hl).mono fun e w' ⟨h1, h2⟩ => ⟨0, h1, h2⟩
  · have := cmp_eq va vb _ _ w ha.rd hb.rd hl (dgl m) (dgl n)
    rwa [val_dg (by omega), val_dg (by omega)] at this
  · have e : cmpI m n = 1 := by
      have h1 : n < m := by
        rcases Nat.lt_or_ge n m with h | h
        · exact h
        · have := dg_length_mono (b := 65536) (by omega) h; omega
      rw [cmpI, if_neg (by omega), if_neg (by omega)]
    rw [e]
    exact (cmp_gt va vb _ _ w ha.rd hb.rd hl).mono fun e w' ⟨h1, h2⟩ => ⟨0, h1, h2⟩
end Go.Proofs.YtocahcammjoffaaGreatDoor
