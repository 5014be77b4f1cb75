/- Walks and lemmas for the laws of this seat. -/
import Derived.Test.YtocahcammjoffaaGreatDoorM4
import Derived.Test.YtocahcammjoffaaGreatDoorS14
import Derived.Test.YtocahcammjoffaaGreatDoorB4
namespace Go.Proofs.YtocahcammjoffaaGreatDoor
open Go.RowKit Go.MuLone
set_option maxRecDepth 100000
theorem Blk.nine {w : World} {b : Nat} {x0 x1 x2 x3 x4 x5 x6 x7 x8 : Value} {e : TypeId} (h : Blk w b #[x0, x1, x2, x3, x4, x5, x6, x7, x8] e) :
    w.cell? ⟨b, 0, none⟩ = some x0 ∧ w.cell? ⟨b, 1, none⟩ = some x1 ∧ w.cell? ⟨b, 2, none⟩ = some x2 ∧ w.cell? ⟨b, 3, none⟩ = some x3 ∧ w.cell? ⟨b, 4, none⟩ = some x4 ∧ w.cell? ⟨b, 5, none⟩ = some x5 ∧ w.cell? ⟨b, 6, none⟩ = some x6 ∧ w.cell? ⟨b, 7, none⟩ = some x7 ∧ w.cell? ⟨b, 8, none⟩ = some x8 ∧ w.frozen? ⟨b, 0, none⟩ = false ∧ w.frozen? ⟨b, 1, none⟩ = false ∧ w.frozen? ⟨b, 2, none⟩ = false ∧ w.frozen? ⟨b, 3, none⟩ = false ∧ w.frozen? ⟨b, 4, none⟩ = false ∧ w.frozen? ⟨b, 5, none⟩ = false ∧ w.frozen? ⟨b, 6, none⟩ = false ∧ w.frozen? ⟨b, 7, none⟩ = false ∧ w.frozen? ⟨b, 8, none⟩ = false :=
  ⟨h.cell 0, h.cell 1, h.cell 2, h.cell 3, h.cell 4, h.cell 5, h.cell 6, h.cell 7, h.cell 8, h.frozen 0, h.frozen 1, h.frozen 2, h.frozen 3, h.frozen 4, h.frozen 5, h.frozen 6, h.frozen 7, h.frozen 8⟩
theorem below_set9 {B : Nat} {w w1 : World} (h : Below B w w1) {b : Nat} (hB : B ≤ b) (x0 x1 x2 x3 x4 x5 x6 x7 x8 : Value) :
    Below B w (((((((((w1.setCell ⟨b, 0, none⟩ x0).setCell ⟨b, 1, none⟩ x1).setCell ⟨b, 2, none⟩ x2).setCell ⟨b, 3, none⟩ x3).setCell ⟨b, 4, none⟩ x4).setCell ⟨b, 5, none⟩ x5).setCell ⟨b, 6, none⟩ x6).setCell ⟨b, 7, none⟩ x7).setCell ⟨b, 8, none⟩ x8) :=
  ((((((((h.setCell (p := ⟨b, 0, none⟩) hB x0).setCell (p := ⟨b, 1, none⟩) hB x1).setCell (p := ⟨b, 2, none⟩) hB x2).setCell (p := ⟨b, 3, none⟩) hB x3).setCell (p := ⟨b, 4, none⟩) hB x4).setCell (p := ⟨b, 5, none⟩) hB x5).setCell (p := ⟨b, 6, none⟩) hB x6).setCell (p := ⟨b, 7, none⟩) hB x7).setCell (p := ⟨b, 8, none⟩) hB x8
/-- A value told, as it lies in a variable. -/
abbrev zeroV : Array Value := #[.int .i64 0, .bool false, .string (ByteArray.mk #[]), .bool false, .slice none 0 0, .slice none 0 0, .bool false, .slice none 0 0, .slice none 0 0]
set_option maxHeartbeats 400000 in
theorem made_str (s : ByteArray) (t n0 i0 : Bool) (v1 v2 v3 v4 : Value) (w : World) : Calls Tryz.prog 91 #[.agg #[.int .i64 2, .bool t, .string s, .bool n0, v1, v2, .bool i0, v3, v4]] w fun e w' => ∃ b, e = .returned (.iface 180 (.pointer (some ⟨b, 0, none⟩))) ∧ Sv w' b s ∧ Below w.heap.size w w' := by
  go_enter Tryz.func91, Tryz.ntmps91
  go_wp2_with fail
  refine (mkString_any s _).mono ?_
  rintro e w1 ⟨b, rfl, _, hs, hb⟩
  have hb2 := hid (below_over hb)
  clear hb
  go_wp2_with fail
  go_ret
  exact ⟨_, rfl, hs, hb2.out⟩
set_option maxHeartbeats 400000 in
theorem made_bool (s : ByteArray) (t n0 i0 : Bool) (v1 v2 v3 v4 : Value) (w : World) : Calls Tryz.prog 91 #[.agg #[.int .i64 1, .bool t, .string s, .bool n0, v1, v2, .bool i0, v3, v4]] w fun e w' => e = .returned (.iface 165 (.bool t)) ∧ Below w.heap.size w w' := by
  go_enter Tryz.func91, Tryz.ntmps91
  go_wp2_with fail
  refine (mkBool t _).mono ?_
  rintro e w1 ⟨rfl, rfl⟩
  go_wp2_with fail
  go_ret
  exact ⟨rfl, (Below.refl _ _).alloc (Nat.le_refl _) _⟩
set_option maxHeartbeats 400000 in
theorem same_str (s : ByteArray) (t n0 i0 : Bool) (v1 v2 v3 v4 : Value) (w : World) : Calls Tryz.prog 49 #[.agg #[.int .i64 2, .bool t, .string s, .bool n0, v1, v2, .bool i0, v3, v4]] w fun e w' => e = .returned (.agg #[.int .i64 2, .bool false, .string s, .bool false, .slice none 0 0, .slice none 0 0, .bool false, .slice none 0 0, .slice none 0 0]) ∧ Below w.heap.size w w' := by
  have hK : Blk ((w.alloc (.cells #[.int .i64 2, .bool t, .string s, .bool n0, v1, v2, .bool i0, v3, v4] 26)).alloc (.cells zeroV 26)) (w.heap.size + 1) zeroV 26 := by
    have := blk_new (w.alloc (.cells #[.int .i64 2, .bool t, .string s, .bool n0, v1, v2, .bool i0, v3, v4] 26)) zeroV 26
    simpa using this
  have hbk : Below w.heap.size w ((w.alloc (.cells #[.int .i64 2, .bool t, .string s, .bool n0, v1, v2, .bool i0, v3, v4] 26)).alloc (.cells zeroV 26)) := ((Below.refl _ _).alloc (Nat.le_refl _) _).alloc (by simp) _
  have hK := hid hK
  have hbk := hid hbk
  go_enter Tryz.func49, Tryz.ntmps49
  go_wp2_with fail
  refine (made_str s t n0 i0 v1 v2 v3 v4 _).mono ?_
  rintro e w1 ⟨b, rfl, hs, hb⟩
  have hs2 := hid hs
  clear hs
  have hK1 := hid (hK.out.below hb hK.out.lt)
  have hb1 := hid (below_next hbk.out hb)
  clear hb
  go_wp2_with fail
  refine (told_str b s _ hs2.out).mono ?_
  rintro e w2 ⟨rfl, hb2⟩
  have hK2 := hid (hK1.out.below hb2 hK1.out.lt)
  have hb3 := hid (below_next hb1.out hb2)
  clear hb2
  obtain ⟨c0, c1, c2, c3, c4, c5, c6, c7, c8, f0, f1, f2, f3, f4, f5, f6, f7, f8⟩ := hK2.out.nine
  go_wp2_with fail
  refine bodyPost_ret (v := .agg #[.int .i64 2, .bool false, .string s, .bool false, .slice none 0 0, .slice none 0 0, .bool false, .slice none 0 0, .slice none 0 0]) (by simp [results, Tryz.results49, go_sem, c0, c1, c2, c3, c4, c5, c6, c7, c8]) rfl ⟨rfl, ?_⟩
  exact below_set9 hb3.out (Nat.le_succ _) _ _ _ _ _ _ _ _ _
set_option maxHeartbeats 400000 in
theorem same_bool (s : ByteArray) (t n0 i0 : Bool) (v1 v2 v3 v4 : Value) (w : World) : Calls Tryz.prog 49 #[.agg #[.int .i64 1, .bool t, .string s, .bool n0, v1, v2, .bool i0, v3, v4]] w fun e w' => e = .returned (.agg #[.int .i64 1, .bool t, .string (ByteArray.mk #[]), .bool false, .slice none 0 0, .slice none 0 0, .bool false, .slice none 0 0, .slice none 0 0]) ∧ Below w.heap.size w w' := by
  have hK : Blk ((w.alloc (.cells #[.int .i64 1, .bool t, .string s, .bool n0, v1, v2, .bool i0, v3, v4] 26)).alloc (.cells zeroV 26)) (w.heap.size + 1) zeroV 26 := by
    have := blk_new (w.alloc (.cells #[.int .i64 1, .bool t, .string s, .bool n0, v1, v2, .bool i0, v3, v4] 26)) zeroV 26
    simpa using this
  have hbk : Below w.heap.size w ((w.alloc (.cells #[.int .i64 1, .bool t, .string s, .bool n0, v1, v2, .bool i0, v3, v4] 26)).alloc (.cells zeroV 26)) := ((Below.refl _ _).alloc (Nat.le_refl _) _).alloc (by simp) _
  have hK := hid hK
  have hbk := hid hbk
  go_enter Tryz.func49, Tryz.ntmps49
  go_wp2_with fail
  refine (made_bool s t n0 i0 v1 v2 v3 v4 _).mono ?_
  rintro e w1 ⟨rfl, hb⟩
  have hK1 := hid (hK.out.below hb hK.out.lt)
  have hb1 := hid (below_next hbk.out hb)
  clear hb
  go_wp2_with fail
  refine (told_bool t _).mono ?_
  rintro e w2 ⟨rfl, hb2⟩
  have hK2 := hid (hK1.out.below hb2 hK1.out.lt)
  have hb3 := hid (below_next hb1.out hb2)
  clear hb2
  obtain ⟨c0, c1, c2, c3, c4, c5, c6, c7, c8, f0, f1, f2, f3, f4, f5, f6, f7, f8⟩ := hK2.out.nine
  go_wp2_with fail
  refine bodyPost_ret (v := .agg #[.int .i64 1, .bool t, .string (ByteArray.mk #[]), .bool false, .slice none 0 0, .slice none 0 0, .bool false, .slice none 0 0, .slice none 0 0]) (by simp [results, Tryz.results49, go_sem, c0, c1, c2, c3, c4, c5, c6, c7, c8]) rfl ⟨rfl, ?_⟩
  exact below_set9 hb3.out (Nat.le_succ _) _ _ _ _ _ _ _ _ _
end Go.Proofs.YtocahcammjoffaaGreatDoor
