/- Walks and lemmas for the laws of this seat. -/
import Derived.Test.YtocahcammjoffaaGreatDoorM5
namespace Go.Proofs.YtocahcammjoffaaGreatDoor
open Go.RowKit Go.MuLone
set_option maxRecDepth 100000
set_option maxHeartbeats 400000 in
theorem sameText_walk (s : ByteArray) (t : Bool) (w : World) : Calls Tryz.prog 18 #[.string s, .bool t] w fun e w' => e = .returned (.bool true) ∧ Below w.heap.size w w' := by
  go_enter Tryz.func18, Tryz.ntmps18
  go_wp2_with fail
  · go_ret
    exact ⟨rfl, Below.refl _ _⟩
  · go_ret
    exact ⟨rfl, Below.refl _ _⟩
  refine (same_str s _ _ _ _ _ _ _ _).mono ?_
  rintro e w1 ⟨rfl, hb1⟩
  go_wp2_with fail
  have hK := hid (blk_new w1 #[.int .i64 2, .bool false, .string s, .bool false, .slice none 0 0, .slice none 0 0, .bool false, .slice none 0 0, .slice none 0 0] 26)
  have hbk := hid (below_next hb1 ((Below.refl w1.heap.size w1).alloc (Nat.le_refl _) (.cells #[.int .i64 2, .bool false, .string s, .bool false, .slice none 0 0, .slice none 0 0, .bool false, .slice none 0 0, .slice none 0 0] 26)))
  clear hb1
  refine (same_bool _ t _ _ _ _ _ _ _).mono ?_
  rintro e w2 ⟨rfl, hb2⟩
  have hK2 := hid (hK.out.below hb2 hK.out.lt)
  have hb := hid (below_next hbk.out hb2)
  clear hb2
  have hK3 := hK2.out.alloc (.cells #[.int .i64 1, .bool t, .string (ByteArray.mk #[]), .bool false, .slice none 0 0, .slice none 0 0, .bool false, .slice none 0 0, .slice none 0 0] 26)
  obtain ⟨c0, c1, c2, c3, c4, c5, c6, c7, c8, f0, f1, f2, f3, f4, f5, f6, f7, f8⟩ := hK3.nine
  clear hK hK2 hK3 hbk f0 f1 f2 f3 f4 f5 f6 f7 f8 c1 c3 c4 c5 c6 c7 c8
  generalize w1.heap.size = q at *
  go_wp2_with fail
  go_ret
  exact ⟨rfl, below_next hb.out ((Below.refl _ _).alloc (Nat.le_refl _) _)⟩
end Go.Proofs.YtocahcammjoffaaGreatDoor
