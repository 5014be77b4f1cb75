/- Walks and lemmas for the laws of this seat. -/
import Derived.Test.YtgdgklhfakplhaaGreatDoorG06
import Derived.Test.YtgdgklhfakplhaaGreatDoorG08
namespace Go.Proofs.YtgdgklhfakplhaaGreatDoor
open Go.RowKit Go.Dig
set_option maxRecDepth 100000
set_option maxHeartbeats 1000000 in
theorem subvv_in_g (b o cz cx by' oy cy : Nat) (xs ys : List Nat) (w : World) (hz : Ds w b o xs) (hy : Ds w by' oy ys) (hxy : xs.length = ys.length) (hd : by' ≠ b ∨ oy + xs.length ≤ o ∨ o + xs.length ≤ oy) (hk : xs.length < 1000000) (hdx : ∀ d ∈ xs, d < 18446744073709551616) (hdy : ∀ d ∈ ys, d < 18446744073709551616) :
    Calls Tryz.prog 227 #[.slice (some ⟨b, o, none⟩) xs.length cz, .slice (some ⟨b, o, none⟩) xs.length cx, .slice (some ⟨by', oy, none⟩) xs.length cy] w fun e w' => ∃ (l' : List Nat) (c : Nat), e = .returned (.int .u64 (c : Nat)) ∧ l'.length = xs.length ∧ c ≤ 1 ∧ val 18446744073709551616 l' + val 18446744073709551616 ys = val 18446744073709551616 xs + c * 18446744073709551616 ^ xs.length ∧ (∀ d ∈ l', d < 18446744073709551616) ∧ Ds w' b o l' ∧ Fx b o xs.length w w' := by
  have HY := hid hy
  have HD := hid hd
  have HXY := hid hxy
  have HDX := hid hdx
  have HDY := hid hdy
  clear hdx hdy hxy
  go_enter Tryz.func227, Tryz.ntmps227
  go_wp2_with fail
  go_loopw [6, 25] (fun p q wr => ∃ (c i : Nat) (m : List Nat), p = .int .u64 c ∧ q = .int .i64 i ∧ i ≤ xs.length ∧ c ≤ 1 ∧ Hid (m.length = xs.length) ∧ Ds wr b o m ∧ Hid (val 18446744073709551616 (m.take i) + val 18446744073709551616 (ys.take i) = val 18446744073709551616 (xs.take i) + c * 18446744073709551616 ^ i) ∧
    Hid (∀ j, i ≤ j → m.getD j 0 = xs.getD j 0) ∧ Hid (∀ j, j < i → m.getD j 0 < 18446744073709551616) ∧ Fx b o xs.length w wr) (fun _ q _ => xs.length - (intOf q).toNat)
  case atStart => exact ⟨0, 0, xs, rfl, rfl, Nat.zero_le _, by omega, hid rfl, hz, hid (by simp [val]), hid (fun _ _ => rfl), hid (fun j h => absurd h (by omega)), Fx.refl _ _ _ _⟩
  case round =>
    clear hz hy hd
    obtain ⟨c, i, m, rfl, rfl, hi, hc, hml, hBm, hv, hrest, hlow, hb⟩ := hrel
    rcases Nat.lt_or_ge i xs.length with hlt | hge
    · have hy := (HY.out.fx hb (by rw [← HXY.out]; exact HD.out)).cell (i := i) (by rw [← HXY.out]; exact hlt)
      have hcell := hBm.cell (i := i) (by rw [hml.out]; omega)
      rw [hrest.out i (Nat.le_refl _)] at hcell
      generalize hxe : xs.getD i 0 = x at hcell
      generalize hye : ys.getD i 0 = y at hy
      have HXE := hid hxe
      have HYE := hid hye
      clear hxe hye
      have hfr := hBm.frozen (o + i)
      go_wp2_with fail
      go_region_held (fun w' => w'.cell? ⟨b, o + i, none⟩ = some (.int .u64 x) ∧ w'.cell? ⟨by', oy + i, none⟩ = some (.int .u64 y)) (go_keep)
        (first | (go_at_call 224; refine (bitsSub_h x y c hc _).mono ?_; rintro e w' ⟨z, c2, rfl, HZ, HC, rfl⟩))
      have hb2 : Fx b o xs.length w wr.drew := hb.drew
      have hBm2 : Ds wr.drew b o m := hBm
      have hcell2 : wr.drew.cell? ⟨b, o + i, none⟩ = some (.int .u64 x) := hcell
      have hfr2 : wr.drew.frozen? ⟨b, o + i, none⟩ = false := hfr
      clear hcell hfr hBm hb hy
      generalize wr.drew = wd at *
      have hxw : x < 18446744073709551616 := by rw [← HXE.out]; exact getD_lt (by omega) HDX.out i
      have hyw : y < 18446744073709551616 := by rw [← HYE.out]; exact getD_lt (by omega) HDY.out i
      have hc2 : c2 ≤ 1 := by rw [HC.out]; split <;> omega
      have hzz : z + y + c = x + c2 * 18446744073709551616 := by rw [HZ.out, HC.out]; split <;> omega
      have HV := hid (subvv_step (B := 18446744073709551616) (l := m) (xs := xs) (ys := ys) (i := i) (c := c) HXE.out HYE.out hlt (by rw [← HXY.out]; exact hlt) (by rw [hml.out]; omega) hzz hv.out)
      clear hzz
      have hu1 : z < 18446744073709551616 := by rw [HZ.out]; exact Nat.mod_lt _ (by omega)
      go_wp2_with fail
      go_roundw
      case rel =>
        refine ⟨c2, i + 1, m.set i (z), by simp, by go_num, by omega, hc2, hid (by rw [List.length_set]; exact hml.out), ?_, hid HV.out, hid ?_, hid ?_, ?_⟩
        · have := hBm2.put (i := i) (by rw [hml.out]; omega) (z)
          simpa using this
        · intro j hj; rw [set_far (by omega)]; exact hrest.out j (by omega)
        · intro j hj
          rcases Nat.lt_or_ge j i with h | h
          · rw [set_far (by omega)]; exact hlow.out j h
          · obtain rfl : j = i := by omega
            rw [List.getD_eq_getElem?_getD, List.getElem?_set_self (by rw [hml.out]; omega)]; exact hu1
        · have := hb2.setCell (i := o + i) (by omega) (by omega) (.int .u64 ((z : Nat) : Int))
          simpa using this
      case measure => simp [intOf]; omega
    · obtain rfl : i = xs.length := by omega
      go_wp2_with fail
      go_ret
      refine ⟨m, c, rfl, hml.out, hc, ?_, mem_getD (fun i hi => hlow.out i (by rw [← hml.out]; exact hi)), hBm, hb⟩
      have := hv.out
      rw [List.take_length] at this
      have e : ys.take xs.length = ys := by rw [HXY.out, List.take_length]
      have e2 : m.take xs.length = m := by rw [← hml.out, List.take_length]
      rw [e, e2] at this
      exact this
theorem subvv_in (b o cz cx by' oy cy : Nat) (xs ys : List Nat) (w : World) (hz : Ds w b o xs) (hy : Ds w by' oy ys) (hxy : xs.length = ys.length) (hd : by' ≠ b ∨ oy + xs.length ≤ o ∨ o + xs.length ≤ oy) (hk : xs.length < 1000000) (hdx : ∀ d ∈ xs, d < 18446744073709551616) (hdy : ∀ d ∈ ys, d < 18446744073709551616) :
    Calls Tryz.prog 207 #[.slice (some ⟨b, o, none⟩) xs.length cz, .slice (some ⟨b, o, none⟩) xs.length cx, .slice (some ⟨by', oy, none⟩) xs.length cy] w fun e w' => ∃ (l' : List Nat) (c : Nat), e = .returned (.int .u64 (c : Nat)) ∧ l'.length = xs.length ∧ c ≤ 1 ∧ val 18446744073709551616 l' + val 18446744073709551616 ys = val 18446744073709551616 xs + c * 18446744073709551616 ^ xs.length ∧ (∀ d ∈ l', d < 18446744073709551616) ∧ Ds w' b o l' ∧ Fx b o xs.length w w' :=
  subVV_wrap _ _ _ _ _ _ _ _ _ w _ (by rintro e w' ⟨l', c, h1, _⟩; exact ⟨_, h1⟩) (subvv_in_g b o cz cx by' oy cy xs ys w hz hy hxy hd hk hdx hdy)
end Go.Proofs.YtgdgklhfakplhaaGreatDoor
