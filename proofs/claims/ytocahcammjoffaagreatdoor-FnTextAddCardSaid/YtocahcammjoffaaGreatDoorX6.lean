/- Walks and lemmas for the laws of this seat. -/
import Derived.Test.YtocahcammjoffaaGreatDoorX5
namespace Go.Proofs.YtocahcammjoffaaGreatDoor
open Go.RowKit Go.MuLone
set_option maxRecDepth 100000
theorem text_xy : (ByteArray.mk #[120] ++ ByteArray.mk #[121]) = ByteArray.mk #[120, 121] := by decide
set_option maxHeartbeats 1000000 in
theorem textAdd_walk (sa sb : ByteArray) (w : World) : Calls Tryz.prog 16 #[.string sa, .string sb] w fun e w' => e = .returned (.bool true) ∧ Below w.heap.size w w' := by
  by_cases h : sa.size ≤ 1000 ∧ sb.size ≤ 1000
  · obtain ⟨ha, hb⟩ := h
    go_enter Tryz.func16, Tryz.ntmps16
    go_wp2_with fail
    refine (textAdd_any sa sb _ (by omega) (by omega)).mono ?_
    rintro e w1 ⟨rfl, hb1⟩
    have HB1 := hid hb1
    clear hb1
    go_wp2_with fail
    refine (textAdd_any _ _ _ (by decide) (by decide)).mono ?_
    rintro e w2 ⟨rfl, hb2⟩
    have HB2 := hid (below_next HB1.out hb2)
    clear hb2
    rw [text_xy]
    go_wp2_with fail
    go_ret
    exact ⟨rfl, HB2.out⟩
  · go_enter Tryz.func16, Tryz.ntmps16
    go_wp2_with fail
    all_goals go_ret
    all_goals exact ⟨rfl, Below.refl _ _⟩
end Go.Proofs.YtocahcammjoffaaGreatDoor
