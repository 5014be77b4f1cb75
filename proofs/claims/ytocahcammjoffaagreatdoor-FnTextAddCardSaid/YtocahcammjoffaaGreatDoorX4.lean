/- Walks and lemmas for the laws of this seat. -/
import Derived.Test.YtocahcammjoffaaGreatDoorX3
import Derived.BigRegion
namespace Go.Proofs.YtocahcammjoffaaGreatDoor
open Go.RowKit Go.MuLone
set_option maxRecDepth 100000
/-- Where reverse of two texts stands at the head of its loop. -/
def RV (w : World) (base g : Nat) (s0 s1 : ByteArray) (vi : Value) (wr : World) : Prop :=
  (vi = .int .i64 0 ∧ wr = w) ∨ (vi = .int .i64 1 ∧ wr.cell? ⟨g, 0, none⟩ = some (.string s1) ∧ wr.cell? ⟨g, 1, none⟩ = some (.string s0) ∧ Below base w wr)
set_option maxHeartbeats 1000000 in
theorem rev_two (v : Value) (base : Nat) (s0 s1 : ByteArray) (w : World) (hown : w.ownsRow base 9 1 v 2 [.string s0, .string s1]) :
    Calls Tryz.prog 235 #[v] w fun e w' => e = .returned v ∧ (∃ g cap, v = .slice (some ⟨g, 0, none⟩) 2 cap ∧ 2 ≤ cap ∧ base ≤ g ∧ g < w.heap.size ∧ w'.cell? ⟨g, 0, none⟩ = some (.string s1) ∧ w'.cell? ⟨g, 1, none⟩ = some (.string s0)) ∧ Below base w w' := by
  obtain ⟨_, hown⟩ := hown
  rcases hown with ⟨_, h0⟩ | ⟨g, cap, cur, rfl, hg, hh, hnc, hcm, hcs, htk⟩
  · omega
  have hB : Blk w g cur 9 := hh
  have k0 : cur[0]? = some (.string s0) := by
    have : (cur.toList.take (2 * 1))[0]? = some (.string s0) := by rw [htk]; rfl
    rw [List.getElem?_take_of_lt (by omega)] at this
    simpa using this
  have k1 : cur[1]? = some (.string s1) := by
    have : (cur.toList.take (2 * 1))[1]? = some (.string s1) := by rw [htk]; rfl
    rw [List.getElem?_take_of_lt (by omega)] at this
    simpa using this
  have c0 := (hB.cell 0).trans k0
  have c1 := (hB.cell 1).trans k1
  have f0 := hB.frozen 0
  have f1 := hB.frozen 1
  have HG := hid hB.lt
  have HW : Hid (((w.setCell ⟨g, 0, none⟩ (.string s1)).setCell ⟨g, 1, none⟩ (.string s0)).cell? ⟨g, 0, none⟩ = some (.string s1) ∧ ((w.setCell ⟨g, 0, none⟩ (.string s1)).setCell ⟨g, 1, none⟩ (.string s0)).cell? ⟨g, 1, none⟩ = some (.string s0)) := by
    have hB2 := (hB.set 0 (.string s1)).set 1 (.string s0)
    have z0 : 0 < cur.size := (Array.getElem?_eq_some_iff.1 k0).1
    have z1 : 1 < cur.size := (Array.getElem?_eq_some_iff.1 k1).1
    refine ⟨(hB2.cell 0).trans ?_, (hB2.cell 1).trans ?_⟩
    · simp [z0]
    · simp [z1]
  have HBl : Hid (Below base w ((w.setCell ⟨g, 0, none⟩ (.string s1)).setCell ⟨g, 1, none⟩ (.string s0)).drew) :=
    (((Below.refl base w).setCell (p := ⟨g, 0, none⟩) hg _).setCell (p := ⟨g, 1, none⟩) hg _).drew
  have HNC := hid hnc
  have HBG := hid hg
  clear hh hcs htk k0 k1 hB hcm hnc hg
  go_enter Tryz.func235, Tryz.ntmps235
  go_wp2_with fail
  go_loopw [4] (fun vi wr => RV w base g s0 s1 vi wr) (fun vi _ => (1 - intOf vi).toNat)
  case atStart => exact .inl ⟨rfl, rfl⟩
  case round =>
    rcases hrel with ⟨rfl, rfl⟩ | ⟨rfl, d0, d1, hb⟩
    · go_wp2_with fail
      go_region
      go_wp2_with fail
      go_roundw
      case rel => exact .inr ⟨rfl, HW.out.1, HW.out.2, HBl.out⟩
      case measure => simp [intOf]
    · go_wp2_with fail
      go_ret
      exact ⟨rfl, ⟨g, cap, rfl, HNC.out, HBG.out, HG.out, d0, d1⟩, hb⟩
end Go.Proofs.YtocahcammjoffaaGreatDoor
