/- Walks and lemmas for the laws of this seat. -/
import Derived.Test.YtocahcammjoffaaGreatDoorM1
import Derived.WalkSpells
namespace Go.Proofs.YtocahcammjoffaaGreatDoor
open Go.RowKit Go.MuLone
set_option maxRecDepth 100000
theorem world_heap {w w' : World} (h : w'.heap = w.heap) (h1 : w'.tape = w.tape) (h2 : w'.drawn = w.drawn) (h3 : w'.os = w.os) (h4 : w'.output = w.output) : w' = w := by
  cases w; cases w'; simp_all
/-- A cell is turned and turned back. -/
theorem setCell_back {w : World} {b : Nat} {c : Array Value} {e : TypeId} (h : Blk w b c e) (i : Nat) (u v : Value) (hi : c[i]? = some v) : (w.setCell ⟨b, i, none⟩ u).setCell ⟨b, i, none⟩ v = w := by
  refine world_heap ?_ rfl rfl rfl rfl
  apply Array.ext_getElem?
  intro k
  by_cases hk : k = b
  · subst hk
    have h2 := (h.set i u).set i v
    unfold Blk at h2 h
    rw [h2, h]
    congr 2
    apply Array.ext_getElem?
    intro j
    simp only [Array.getElem?_setIfInBounds, Array.size_setIfInBounds]
    by_cases hj : i = j
    · subst hj
      obtain ⟨hlt, hv⟩ := Array.getElem?_eq_some_iff.1 hi
      simp [hlt, hv]
    · simp [hj]
  · rw [heap_setCell_other _ _ _ _ hk, heap_setCell_other _ _ _ _ hk]
/-- A text of the package constant that stands by itself. -/
abbrev Sv (w : World) (b : Nat) (s : ByteArray) : Prop := Blk w b #[.int .i32 0, .int .u32 0, .string s, .pointer none, .pointer none] 187
set_option maxHeartbeats 400000 in
theorem string_one (b : Nat) (s : ByteArray) (w : World) (h : Sv w b s) : Calls Tryz.prog 156 #[.pointer (some ⟨b, 0, none⟩)] w fun e w' => e = .returned (.string s) ∧ w' = w := by
  have hB1 := h.set 0 (.int .i32 1)
  simp only [List.setIfInBounds_toArray, List.set_cons_zero] at hB1
  have HE : Hid ((w.setCell ⟨b, 0, none⟩ (.int .i32 1)).setCell ⟨b, 0, none⟩ (.int .i32 0) = w) := setCell_back h 0 _ _ rfl
  go_enter_defers Tryz.func156, Tryz.ntmps156
  go_wp2_with fail
  refine (lock_free muLib ⟨b, 0, none⟩ _ (h.cell 0) (h.frozen 0)).mono ?_
  rintro e w1 ⟨rfl, rfl⟩
  clear h
  generalize w.setCell ⟨b, 0, none⟩ (.int .i32 1) = w1 at *
  have h0 := hB1.cell 0
  have h2 := hB1.cell 2
  have h3 := hB1.cell 3
  simp only [List.getElem?_toArray, List.getElem?_cons_zero, List.getElem?_cons_succ] at h0 h2 h3
  have f0 := hB1.frozen 0
  clear hB1
  go_wp2_with fail
  refine leaves_cons (f := 233) (args := #[.pointer (some ⟨b, 0, none⟩)]) (by simp) (by simp [go_sem]) ?_
  refine (unlock_deferred muLib ⟨b, 0, none⟩ .returning _ h0 f0).mono ?_
  rintro e u' w2 ⟨rfl, rfl, rfl⟩
  exact ⟨_, results_tmp rfl _ _ _, rfl, HE.out⟩
end Go.Proofs.YtocahcammjoffaaGreatDoor
