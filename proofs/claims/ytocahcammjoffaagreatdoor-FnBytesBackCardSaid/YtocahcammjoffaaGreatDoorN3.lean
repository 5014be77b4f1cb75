/- Walks and lemmas for the laws of this seat. -/
import Derived.Test.YtocahcammjoffaaGreatDoorN2
namespace Go.Proofs.YtocahcammjoffaaGreatDoor
open Go.RowKit Go.Dig
set_option maxRecDepth 100000
/-- What makeInt gives: the number itself if it is an int64, else the big one, boxed. -/
def Mk (b : Nat) (x : Int) (v : Value) : Prop := (fitI x = true ∧ v = .iface 119 (.int .i64 x)) ∨ (fitI x = false ∧ v = .iface 122 (.agg #[.pointer (some ⟨b, 0, none⟩)]))
set_option maxHeartbeats 400000 in
theorem makeInt_any (b : Nat) (s : Bool) (n : Nat) (w : World) (h : Iv w b s n) : Calls Tryz.prog 119 #[.pointer (some ⟨b, 0, none⟩)] w fun e w' => ∃ v, e = .returned v ∧ Mk b (sgn s n) v ∧ Below w.heap.size w w' := by
  have H := hid h
  clear h
  cases hf : fitI (sgn s n) with
  | true =>
    have HF := hid hf
    go_enter Tryz.func119, Tryz.ntmps119
    go_wp2_with fail
    refine (isInt64_any b s n w H.out).mono ?_
    rintro e w' ⟨rfl, rfl⟩
    rw [hf]
    clear hf
    go_wp2_with fail
    refine (intInt64_any b s n _ H.out).mono ?_
    rintro e w1 ⟨z, rfl, HZ, rfl⟩
    go_wp2_with fail
    go_ret
    exact ⟨_, rfl, .inl ⟨HF.out, by rw [HZ.out HF.out]; rfl⟩, Below.refl _ _⟩
  | false =>
    have HF := hid hf
    go_enter Tryz.func119, Tryz.ntmps119
    go_wp2_with fail
    refine (isInt64_any b s n w H.out).mono ?_
    rintro e w' ⟨rfl, rfl⟩
    rw [hf]
    clear hf
    go_wp2_with fail
    go_ret
    exact ⟨_, rfl, .inr ⟨HF.out, rfl⟩, Below.refl _ _⟩
set_option maxHeartbeats 400000 in
theorem int64Val_big (b : Nat) (s : Bool) (n : Nat) (w : World) (h : Iv w b s n) : Calls Tryz.prog 76 #[.iface 122 (.agg #[.pointer (some ⟨b, 0, none⟩)])] w fun e w' => ∃ z, e = .returned (.tuple #[.int .i64 z, .bool false]) ∧ Below w.heap.size w w' := by
  have H := hid h
  clear h
  have h1 := ta_122_119
  have h2 := ta_122_122
  go_enter Tryz.func76, Tryz.ntmps76
  go_wp2_with fail
  refine (intInt64_any b s n _ (H.out.below ((Below.refl _ _).alloc (Nat.le_refl _) _))).mono ?_
  rintro e w1 ⟨z, rfl, HZ, rfl⟩
  go_wp2_with fail
  go_ret2
  exact ⟨_, rfl, (Below.refl _ _).alloc (Nat.le_refl _) _⟩
end Go.Proofs.YtocahcammjoffaaGreatDoor
