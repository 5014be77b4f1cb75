/- Walks and lemmas for the laws of this seat. -/
import Derived.Test.YtocahcammjoffaaGreatDoorM5
namespace Go.Proofs.YtocahcammjoffaaGreatDoor
open Go.RowKit Go.MuLone
set_option maxRecDepth 100000
set_option maxHeartbeats 400000 in
theorem ord_s (v : Value) (w : World) : Calls Tryz.prog 204 #[.iface 180 v] w fun e w' => e = .returned (.int .i64 1) ∧ w = w' := by
  have h1 := ta_180_165
  have h2 := ta_180_137
  have h3 := ta_180_180
  go_enter Tryz.func204, Tryz.ntmps204
  go_wp2_with fail
  go_ret
  exact ⟨rfl, rfl⟩
set_option maxHeartbeats 400000 in
theorem match_s (a b : Value) (w : World) : Calls Tryz.prog 124 #[.iface 180 a, .iface 180 b] w fun e w' => e = .returned (.tuple #[.iface 180 a, .iface 180 b]) ∧ w = w' := by
  go_enter Tryz.func124, Tryz.ntmps124
  go_wp2_with (go_at_call 204; refine (ord_s _ _).mono ?_; rintro e w' ⟨rfl, rfl⟩)
  go_ret2
  exact ⟨rfl, rfl⟩
/-- A text of the package constant that is the sum of two. -/
abbrev St (w : World) (c a b : Nat) (st : Int) (s : ByteArray) : Prop := Blk w c #[.int .i32 st, .int .u32 0, .string s, .pointer (some ⟨a, 0, none⟩), .pointer (some ⟨b, 0, none⟩)] 187
set_option maxHeartbeats 400000 in
theorem bin_add_str (a b : Nat) (w : World) : Calls Tryz.prog 74 #[.iface 180 (.pointer (some ⟨a, 0, none⟩)), .int .i64 12, .iface 180 (.pointer (some ⟨b, 0, none⟩))] w fun e w' => ∃ c, e = .returned (.iface 180 (.pointer (some ⟨c, 0, none⟩))) ∧ Hid (w.heap.size ≤ c) ∧ St w' c a b 0 (ByteArray.mk #[]) ∧ Below w.heap.size w w' := by
  have h1 := ta_180_137
  have h2 := ta_180_165
  have h3 := ta_180_119
  have h4 := ta_180_122
  have h5 := ta_180_132
  have h6 := ta_180_135
  have h7 := ta_180_178
  have h8 := ta_180_180
  have h9 := ta1_180
  go_enter Tryz.func74, Tryz.ntmps74
  go_wp2_with (go_at_call 124; refine (match_s _ _ _).mono ?_; rintro e w' ⟨rfl, rfl⟩)
  go_step3
  go_wp2_with (go_at_call 124; refine (match_s _ _ _).mono ?_; rintro e w' ⟨rfl, rfl⟩)
  rw [Exit.noGoto_ret]
  go_ret
  exact ⟨_, rfl, hid (Nat.le_refl _), blk_new w _ 187, (Below.refl _ _).alloc (Nat.le_refl _) _⟩
end Go.Proofs.YtocahcammjoffaaGreatDoor
