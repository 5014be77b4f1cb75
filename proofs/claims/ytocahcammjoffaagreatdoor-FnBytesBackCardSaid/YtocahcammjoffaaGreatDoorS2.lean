/- Walks and lemmas for the laws of this seat. -/
import Derived.Test.YtocahcammjoffaaGreatDoorS1
namespace Go.Proofs.YtocahcammjoffaaGreatDoor
open Go.RowKit Go.Dig
set_option maxRecDepth 100000
theorem info3 : (Tryz.prog.info? 3).map (fun i => (i.zero, i.size, i.bytes)) = some (some (.int .i64 0), 1, 8) := by kernel_rfl
set_option maxHeartbeats 400000 in
theorem small_any (n : Nat) (w : World) (hn : n ≤ 9223372036854775807) :
    Calls Tryz.prog 68 #[.int .i64 n] w fun e w' => ∃ v', e = .returned v' ∧ Nt w' v' n ∧ Below w.heap.size w w' := by
  have hlen : (dg 65536 n).length ≤ 4 := dg_length_le (by omega) (by omega)
  have HL := hid hlen
  clear hlen
  go_enter Tryz.func68, Tryz.ntmps68
  go_wp2_with fail
  go_loopw [3, 0] (fun v x wr => ∃ (ds : List Nat) (m : Nat), x = .int .i64 m ∧ m ≤ 9223372036854775807 ∧ wr.ownsRow w.heap.size 3 1 v ds.length (cs .i64 ds) ∧ Hid (dg 65536 n = ds ++ dg 65536 m) ∧ Below w.heap.size w wr) (fun _ x _ => (intOf x).toNat)
  case atStart => exact ⟨[], n, rfl, hn, own_empty w 3 (Nat.le_refl _), rfl, (Below.refl _ _).alloc (Nat.le_refl _) _⟩
  case round =>
    obtain ⟨ds, m, rfl, hm, hown, hd, hb⟩ := hrel
    have hbs := hb.size
    rcases Nat.eq_zero_or_pos m with h0 | h0
    · subst h0
      go_wp2_with fail
      go_ret
      have e : dg 65536 n = ds := by rw [hd.out, dg_zero, List.append_nil]
      exact ⟨_, rfl, by unfold Nt; rw [e]; exact own_rd hown, hb⟩
    · have hd2 : dg 65536 n = (ds ++ [m % 65536]) ++ dg 65536 (m / 65536) := by rw [hd.out, dg_pos (by omega) (by omega)]; simp
      have HD := hid hd2
      have hl : ds.length + 1 ≤ 4 := by have := HL.out; rw [hd2] at this; simp at this; omega
      clear hd2 hd
      go_wp2_with (at_builtin; refine app1 rfl _ _ 29 3 rfl .i64 8 Tryz.underlying29 info3 (by decide) w.heap.size w _ ds _ (m % 65536) (by omega) rfl rfl hown hb (by omega) (by omega) ?_; intro v' w' hown' hb' _)
      go_roundw
      case rel => exact ⟨ds ++ [m % 65536], m / 65536, by go_num, by omega, hown', HD, hb'⟩
      case measure => simp [intOf]; omega
end Go.Proofs.YtocahcammjoffaaGreatDoor
