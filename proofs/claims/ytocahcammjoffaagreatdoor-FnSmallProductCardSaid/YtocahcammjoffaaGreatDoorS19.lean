/- Walks and lemmas for the laws of this seat. -/
import Derived.Test.YtocahcammjoffaaGreatDoorS16
namespace Go.Proofs.YtocahcammjoffaaGreatDoor
open Go.RowKit Go.Dig
set_option maxRecDepth 100000
theorem wrap64_fit {z : Int} (h0 : -9223372036854775808 ≤ z) (h1 : z ≤ 9223372036854775807) : wrap64 z = z := by unfold wrap64; omega
theorem below_ov {w w1 : World} {o : Obj} (h : Below (w.alloc o).heap.size (w.alloc o) w1) : Below w.heap.size w w1 :=
  ((Below.refl w.heap.size w).alloc (Nat.le_refl _) o).trans (h.mono (by rw [World.alloc]; simp))
set_option maxHeartbeats 1000000 in
theorem fits_any (x : Int) (ok s : Bool) (v1 v2 : Value) (n : Nat) (w : World) (hn : Nt w v1 n) (hd : Nt w v2 1) (hneg : s = true → n ≠ 0) (hl : (dg 65536 n).length ≤ 100000) (hok : ok = fitI (sgn s n)) (hx : ok = true → x = sgn s n) :
    Calls Tryz.prog 37 #[.int .i64 x, .bool ok, .agg #[.bool s, v1, v2]] w fun e w' => e = .returned (.bool true) ∧ Below w.heap.size w w' := by
  obtain ⟨p1, c1, rfl⟩ := hn.shape
  obtain ⟨p2, c2, rfl⟩ := hd.shape
  have A1 := hid hn
  have A2 := hid hd
  clear hn hd
  go_enter Tryz.func37, Tryz.ntmps37
  go_wp2_with fail
  have hbA : Below w.heap.size w (w.alloc (.cells #[.bool s, .slice p1 (dg 65536 n).length c1, .slice p2 (dg 65536 1).length c2] 31)) := (Below.refl _ _).alloc (Nat.le_refl _) _
  refine (int64_any s _ _ n _ (A1.out.below hbA (Nat.le_refl _)) hneg hl).mono ?_
  rintro e w1 ⟨rfl, hb1⟩
  have hb2 := below_ov hb1
  have hxx : ok = true → x = wrap64 (sgn s n) := by
    intro h
    have h2 := hx h
    rw [hok, fitI, decide_eq_true_eq] at h
    rw [← h2] at h ⊢
    exact (wrap64_fit h.1 h.2).symm
  clear hx hb1 hbA
  generalize wrap64 (sgn s n) = z at *
  generalize fitI (sgn s n) = f at *
  subst hok
  cases ok with
  | false =>
    clear hxx
    go_wp2_with fail
    go_ret
    exact ⟨rfl, hb2⟩
  | true =>
    have hx2 := hxx rfl
    clear hxx
    subst hx2
    go_wp2_with fail
    go_ret
    exact ⟨rfl, hb2⟩
end Go.Proofs.YtocahcammjoffaaGreatDoor
