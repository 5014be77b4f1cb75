/- Walks and lemmas for the laws of this seat. -/
import Derived.Test.YtocahcammjoffaaGreatDoorN7
namespace Go.Proofs.YtocahcammjoffaaGreatDoor
open Go.RowKit Go.Dig
set_option maxRecDepth 100000
set_option maxHeartbeats 400000 in
theorem norm_any (v : Value) (ds : List Nat) (w : World) (h : Rt 158 .u64 w v ds) :
    Calls Tryz.prog 203 #[v] w fun e w' => ∃ v', e = .returned v' ∧ Rt 158 .u64 w' v' (trim ds) ∧ w' = w := by
  have HR := hid h
  obtain ⟨a, cap, rfl, h1, h2, h3⟩ := h
  have HA := hid h3
  clear h3
  go_enter Tryz.func203, Tryz.ntmps203
  go_wp2_with fail
  go_loop [3] (fun v => ∃ m : Nat, v = .int .i64 m ∧ m ≤ ds.length ∧ Hid (∀ i, m ≤ i → i < ds.length → ds.getD i 0 = 0)) (fun v => (intOf v).toNat)
  case atStart => exact ⟨ds.length, rfl, Nat.le_refl _, fun i h1 h2 => by omega⟩
  case round =>
    obtain ⟨m, rfl, hm, hz⟩ := hrel
    rcases Nat.eq_zero_or_pos m with h0 | h0
    · subst h0
      go_wp2_with fail
      go_ret
      have e := trim_take (Nat.zero_le _) hz.out (fun h => absurd h (by omega))
      exact ⟨_, rfl, by rw [e]; exact HR.out.take (Nat.zero_le _), rfl⟩
    · obtain ⟨k, rfl⟩ : ∃ k, m = k + 1 := ⟨m - 1, by omega⟩
      obtain ⟨b, off, rfl, _, hb⟩ := HA.out (by omega)
      have hk := hb k (by omega)
      clear hb
      by_cases hf : ds.getD k 0 = 0
      · rw [hf] at hk
        have HF := hid hf
        clear hf
        go_wp2_with fail
        go_round
        case rel =>
          refine ⟨k, by go_num, by omega, fun i h1 h2 => ?_⟩
          rcases Nat.eq_or_lt_of_le h1 with rfl | h3
          · exact HF.out
          · exact hz.out i h3 h2
        case measure => simp [intOf]
      · have hf' : (((ds.getD k 0 : Nat) : Int) == 0) = false := by simp; simpa using hf
        generalize hg : ds.getD k 0 = d at hk hf'
        have HF := hid hf
        have HG := hid hg
        clear hf hg
        go_wp2_with fail
        go_ret
        have e := trim_take hm hz.out (fun _ => HF.out)
        exact ⟨_, rfl, by rw [e]; exact HR.out.take hm, rfl⟩
end Go.Proofs.YtocahcammjoffaaGreatDoor
