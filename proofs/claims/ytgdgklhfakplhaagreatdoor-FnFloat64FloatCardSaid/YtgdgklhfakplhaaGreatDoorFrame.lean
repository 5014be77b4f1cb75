/- Walks and lemmas for the laws of this seat. -/
import Derived.Test.YtgdgklhfakplhaaGreatDoorFr
import Derived.Test.YtgdgklhfakplhaaGreatDoorPF
import Derived.Test.YtgdgklhfakplhaaGreatDoorCards
import Derived.Test.YtgdgklhfakplhaaGreatDoorTie
import Derived.SevenTiedAt
namespace Go.Proofs.YtgdgklhfakplhaaGreatDoor
open Go.ChangeShapes Go.WideShapes Go.ChangeAt Go.WideMaps Go.WideElems Go.RowKit
abbrev laid4 : List (String × DataW Unit) := [("loop.example/pub-g03237/pub/bigall.divRecursiveThreshold", Rows.laid_loop_example_pub_g03237_pub_bigall_divRecursiveThreshold), ("loop.example/pub-g03237/pub/bigall.karatsubaThreshold", Rows.laid_loop_example_pub_g03237_pub_bigall_karatsubaThreshold), ("loop.example/pub-g03237/pub/bigall.basicSqrThreshold", Rows.laid_loop_example_pub_g03237_pub_bigall_basicSqrThreshold), ("loop.example/pub-g03237/pub/bigall.karatsubaSqrThreshold", Rows.laid_loop_example_pub_g03237_pub_bigall_karatsubaSqrThreshold)]
/-- The door's own heap meets the condition. -/
theorem door_met (os : Os) (args : Array Value) : laidMetH Tryz.prog laid4 ((World.doorLaid Tryz.prog 400 os).forCall (fun _ _ => 0) ⟨#[], args, []⟩).memory :=
  laidMetH_of_parts3 (fuel := 8) (laidMet_of_run' 8 (by kernel_rfl) (by kernel_rfl)) (by kernel_rfl) (by kernel_rfl)
theorem vars_read (s : ChangeSpec) (hs : s.vars = ["loop.example/pub-g03237/pub/bigall.divRecursiveThreshold", "loop.example/pub-g03237/pub/bigall.karatsubaThreshold", "loop.example/pub-g03237/pub/bigall.basicSqrThreshold", "loop.example/pub-g03237/pub/bigall.karatsubaSqrThreshold"]) :
    ∀ n ∈ s.vars, ∀ g t, Tryz.prog.globalNamed n = some g → (Tryz.prog.globals[g]?).map (·.type) = some t → Tryz.prog.readableRec t = true ∧ t < Tryz.prog.types.size := by
  rw [hs]
  have k0 : Tryz.prog.globalNamed "loop.example/pub-g03237/pub/bigall.divRecursiveThreshold" = some 1 := by kernel_rfl
  have k1 : Tryz.prog.globalNamed "loop.example/pub-g03237/pub/bigall.karatsubaThreshold" = some 5 := by kernel_rfl
  have k2 : Tryz.prog.globalNamed "loop.example/pub-g03237/pub/bigall.basicSqrThreshold" = some 3 := by kernel_rfl
  have k3 : Tryz.prog.globalNamed "loop.example/pub-g03237/pub/bigall.karatsubaSqrThreshold" = some 4 := by kernel_rfl
  have t0 : (Tryz.prog.globals[1]?).map (·.type) = some 3 := by kernel_rfl
  have t1 : (Tryz.prog.globals[5]?).map (·.type) = some 3 := by kernel_rfl
  have t2 : (Tryz.prog.globals[3]?).map (·.type) = some 3 := by kernel_rfl
  have t3 : (Tryz.prog.globals[4]?).map (·.type) = some 3 := by kernel_rfl
  have r3 : Tryz.prog.readableRec 3 = true := by kernel_rfl
  have z3 : 3 < Tryz.prog.types.size := of_decide_eq_true (by kernel_rfl)
  intro n hn g t hg ht
  simp only [List.mem_cons, List.not_mem_nil, or_false] at hn
  rcases hn with rfl | rfl | rfl | rfl
  · obtain rfl := Option.some.inj (k0.symm.trans hg)
    obtain rfl := Option.some.inj (t0.symm.trans ht)
    exact ⟨r3, z3⟩
  · obtain rfl := Option.some.inj (k1.symm.trans hg)
    obtain rfl := Option.some.inj (t1.symm.trans ht)
    exact ⟨r3, z3⟩
  · obtain rfl := Option.some.inj (k2.symm.trans hg)
    obtain rfl := Option.some.inj (t2.symm.trans ht)
    exact ⟨r3, z3⟩
  · obtain rfl := Option.some.inj (k3.symm.trans hg)
    obtain rfl := Option.some.inj (t3.symm.trans ht)
    exact ⟨r3, z3⟩
/-- Lists of four. -/
theorem four_of {H : Type} {enc : TypeId × Value → H} {W : World} {n0 n1 n2 n3 : String} {gs : List (DataW H)} {ps : List MemPlace} {sp : Nat → Bool} (h : DataW.TrodVars enc Tryz.prog W sp [n0, n1, n2, n3] gs ps) : ∃ g0 g1 g2 g3, gs = [g0, g1, g2, g3] := by
  match gs, h with
  | [g0, g1, g2, g3], _ => exact ⟨_, _, _, _, rfl⟩
  | [], h => simp [DataW.TrodVars] at h
  | [_], h => simp [DataW.TrodVars] at h
  | [_, _], h => simp [DataW.TrodVars] at h
  | [_, _, _], h => simp [DataW.TrodVars] at h
  | _ :: _ :: _ :: _ :: _ :: _, h => simp [DataW.TrodVars] at h
end Go.Proofs.YtgdgklhfakplhaaGreatDoor
