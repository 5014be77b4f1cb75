/- Closed facts of the loaded program; no condition. -/
import Derived.Test.YtdhgdachchhflaaGreatDoorRows
import Derived.JoinedOf
import GoSem.ClaimSeven
namespace Go.Proofs.YtdhgdachchhflaaGreatDoor
open Go
set_option maxRecDepth 100000
theorem head_lit : Tryz.prog.initOrder = "harness 870df038e8e1a2453081c00d4cebb2c871396ec9016f4b9fff2cae39ee1cd7ac cut at loop.example/pub-g03237/laws.FnFromFloat64" := by kernel_rfl
theorem lit_list : ("harness 870df038e8e1a2453081c00d4cebb2c871396ec9016f4b9fff2cae39ee1cd7ac cut at loop.example/pub-g03237/laws.FnFromFloat64" : String) = String.ofList [Char.ofNat 104, Char.ofNat 97, Char.ofNat 114, Char.ofNat 110, Char.ofNat 101, Char.ofNat 115, Char.ofNat 115, Char.ofNat 32, Char.ofNat 56, Char.ofNat 55, Char.ofNat 48, Char.ofNat 100, Char.ofNat 102, Char.ofNat 48, Char.ofNat 51, Char.ofNat 56, Char.ofNat 101, Char.ofNat 56, Char.ofNat 101, Char.ofNat 49, Char.ofNat 97, Char.ofNat 50, Char.ofNat 52, Char.ofNat 53, Char.ofNat 51, Char.ofNat 48, Char.ofNat 56, Char.ofNat 49, Char.ofNat 99, Char.ofNat 48, Char.ofNat 48, Char.ofNat 100, Char.ofNat 52, Char.ofNat 99, Char.ofNat 101, Char.ofNat 98, Char.ofNat 98, Char.ofNat 50, Char.ofNat 99, Char.ofNat 56, Char.ofNat 55, Char.ofNat 49, Char.ofNat 51, Char.ofNat 57, Char.ofNat 54, Char.ofNat 101, Char.ofNat 99, Char.ofNat 57, Char.ofNat 48, Char.ofNat 49, Char.ofNat 54, Char.ofNat 102, Char.ofNat 52, Char.ofNat 98, Char.ofNat 57, Char.ofNat 102, Char.ofNat 102, Char.ofNat 102, Char.ofNat 50, Char.ofNat 99, Char.ofNat 97, Char.ofNat 101, Char.ofNat 51, Char.ofNat 57, Char.ofNat 101, Char.ofNat 101, Char.ofNat 49, Char.ofNat 99, Char.ofNat 100, Char.ofNat 55, Char.ofNat 97, Char.ofNat 99, Char.ofNat 32, Char.ofNat 99, Char.ofNat 117, Char.ofNat 116, Char.ofNat 32, Char.ofNat 97, Char.ofNat 116, Char.ofNat 32, Char.ofNat 108, Char.ofNat 111, Char.ofNat 111, Char.ofNat 112, Char.ofNat 46, Char.ofNat 101, Char.ofNat 120, Char.ofNat 97, Char.ofNat 109, Char.ofNat 112, Char.ofNat 108, Char.ofNat 101, Char.ofNat 47, Char.ofNat 112, Char.ofNat 117, Char.ofNat 98, Char.ofNat 45, Char.ofNat 103, Char.ofNat 48, Char.ofNat 51, Char.ofNat 50, Char.ofNat 51, Char.ofNat 55, Char.ofNat 47, Char.ofNat 108, Char.ofNat 97, Char.ofNat 119, Char.ofNat 115, Char.ofNat 46, Char.ofNat 70, Char.ofNat 110, Char.ofNat 70, Char.ofNat 114, Char.ofNat 111, Char.ofNat 109, Char.ofNat 70, Char.ofNat 108, Char.ofNat 111, Char.ofNat 97, Char.ofNat 116, Char.ofNat 54, Char.ofNat 52] := by kernel_rfl
theorem head_list : Tryz.prog.initOrder.toList = [Char.ofNat 104, Char.ofNat 97, Char.ofNat 114, Char.ofNat 110, Char.ofNat 101, Char.ofNat 115, Char.ofNat 115, Char.ofNat 32, Char.ofNat 56, Char.ofNat 55, Char.ofNat 48, Char.ofNat 100, Char.ofNat 102, Char.ofNat 48, Char.ofNat 51, Char.ofNat 56, Char.ofNat 101, Char.ofNat 56, Char.ofNat 101, Char.ofNat 49, Char.ofNat 97, Char.ofNat 50, Char.ofNat 52, Char.ofNat 53, Char.ofNat 51, Char.ofNat 48, Char.ofNat 56, Char.ofNat 49, Char.ofNat 99, Char.ofNat 48, Char.ofNat 48, Char.ofNat 100, Char.ofNat 52, Char.ofNat 99, Char.ofNat 101, Char.ofNat 98, Char.ofNat 98, Char.ofNat 50, Char.ofNat 99, Char.ofNat 56, Char.ofNat 55, Char.ofNat 49, Char.ofNat 51, Char.ofNat 57, Char.ofNat 54, Char.ofNat 101, Char.ofNat 99, Char.ofNat 57, Char.ofNat 48, Char.ofNat 49, Char.ofNat 54, Char.ofNat 102, Char.ofNat 52, Char.ofNat 98, Char.ofNat 57, Char.ofNat 102, Char.ofNat 102, Char.ofNat 102, Char.ofNat 50, Char.ofNat 99, Char.ofNat 97, Char.ofNat 101, Char.ofNat 51, Char.ofNat 57, Char.ofNat 101, Char.ofNat 101, Char.ofNat 49, Char.ofNat 99, Char.ofNat 100, Char.ofNat 55, Char.ofNat 97, Char.ofNat 99, Char.ofNat 32, Char.ofNat 99, Char.ofNat 117, Char.ofNat 116, Char.ofNat 32, Char.ofNat 97, Char.ofNat 116, Char.ofNat 32, Char.ofNat 108, Char.ofNat 111, Char.ofNat 111, Char.ofNat 112, Char.ofNat 46, Char.ofNat 101, Char.ofNat 120, Char.ofNat 97, Char.ofNat 109, Char.ofNat 112, Char.ofNat 108, Char.ofNat 101, Char.ofNat 47, Char.ofNat 112, Char.ofNat 117, Char.ofNat 98, Char.ofNat 45, Char.ofNat 103, Char.ofNat 48, Char.ofNat 51, Char.ofNat 50, Char.ofNat 51, Char.ofNat 55, Char.ofNat 47, Char.ofNat 108, Char.ofNat 97, Char.ofNat 119, Char.ofNat 115, Char.ofNat 46, Char.ofNat 70, Char.ofNat 110, Char.ofNat 70, Char.ofNat 114, Char.ofNat 111, Char.ofNat 109, Char.ofNat 70, Char.ofNat 108, Char.ofNat 111, Char.ofNat 97, Char.ofNat 116, Char.ofNat 54, Char.ofNat 52] := by rw [head_lit, lit_list, String.toList_ofList]
theorem all_words : wordsSigns Tryz.prog.initOrder.toList = "harness".toList :: "870df038e8e1a2453081c00d4cebb2c871396ec9016f4b9fff2cae39ee1cd7ac".toList :: [[Char.ofNat 99, Char.ofNat 117, Char.ofNat 116], [Char.ofNat 97, Char.ofNat 116], [Char.ofNat 108, Char.ofNat 111, Char.ofNat 111, Char.ofNat 112, Char.ofNat 46, Char.ofNat 101, Char.ofNat 120, Char.ofNat 97, Char.ofNat 109, Char.ofNat 112, Char.ofNat 108, Char.ofNat 101, Char.ofNat 47, Char.ofNat 112, Char.ofNat 117, Char.ofNat 98, Char.ofNat 45, Char.ofNat 103, Char.ofNat 48, Char.ofNat 51, Char.ofNat 50, Char.ofNat 51, Char.ofNat 55, Char.ofNat 47, Char.ofNat 108, Char.ofNat 97, Char.ofNat 119, Char.ofNat 115, Char.ofNat 46, Char.ofNat 70, Char.ofNat 110, Char.ofNat 70, Char.ofNat 114, Char.ofNat 111, Char.ofNat 109, Char.ofNat 70, Char.ofNat 108, Char.ofNat 111, Char.ofNat 97, Char.ofNat 116, Char.ofNat 54, Char.ofNat 52]] := by rw [head_list]; kernel_rfl
theorem main_of {P : Program} {r : List (List Char)} {s : List Char} (h : wordsSigns P.initOrder.toList = "harness".toList :: s :: r) (hs : isSumSigns s = true) : P.mainIs = some (true, s) := by
  unfold Program.mainIs
  rw [h]
  simp only [hs]
  kernel_rfl
theorem behind_of {r : List (List Char)} {s : List Char} (hs : isSumSigns s = true) : behindMainWord ("harness".toList :: s :: r) = r := by
  unfold behindMainWord
  simp only [hs]
  kernel_rfl
theorem sum_signs : isSumSigns "870df038e8e1a2453081c00d4cebb2c871396ec9016f4b9fff2cae39ee1cd7ac".toList = true := by kernel_rfl
theorem pf_main : Tryz.prog.mainIs = some (true, "870df038e8e1a2453081c00d4cebb2c871396ec9016f4b9fff2cae39ee1cd7ac".toList) := main_of all_words sum_signs
/-- The head's words behind the main's. -/
theorem head_words : behindMainWord (wordsSigns Tryz.prog.initOrder.toList) = [[Char.ofNat 99, Char.ofNat 117, Char.ofNat 116], [Char.ofNat 97, Char.ofNat 116], [Char.ofNat 108, Char.ofNat 111, Char.ofNat 111, Char.ofNat 112, Char.ofNat 46, Char.ofNat 101, Char.ofNat 120, Char.ofNat 97, Char.ofNat 109, Char.ofNat 112, Char.ofNat 108, Char.ofNat 101, Char.ofNat 47, Char.ofNat 112, Char.ofNat 117, Char.ofNat 98, Char.ofNat 45, Char.ofNat 103, Char.ofNat 48, Char.ofNat 51, Char.ofNat 50, Char.ofNat 51, Char.ofNat 55, Char.ofNat 47, Char.ofNat 108, Char.ofNat 97, Char.ofNat 119, Char.ofNat 115, Char.ofNat 46, Char.ofNat 70, Char.ofNat 110, Char.ofNat 70, Char.ofNat 114, Char.ofNat 111, Char.ofNat 109, Char.ofNat 70, Char.ofNat 108, Char.ofNat 111, Char.ofNat 97, Char.ofNat 116, Char.ofNat 54, Char.ofNat 52]] := by rw [all_words, behind_of sum_signs]
theorem strip_cut (r : List (List Char)) : stripLifts liftWords ("cut".toList :: r) = ([], "cut".toList :: r) := by kernel_rfl
theorem make_cut {P : Program} {r : List (List Char)} (h : behindMainWord (wordsSigns P.initOrder.toList) = "cut".toList :: r) : P.make = some .cut := by
  unfold Program.make
  rw [h]
  kernel_rfl
theorem headLifts_cut {P : Program} {r : List (List Char)} (h : behindMainWord (wordsSigns P.initOrder.toList) = "cut".toList :: r) : P.headLifts = [] := by
  unfold Program.headLifts
  rw [h, strip_cut]
  kernel_rfl
theorem lifts_cut {P : Program} {r : List (List Char)} (h : behindMainWord (wordsSigns P.initOrder.toList) = "cut".toList :: r) : P.liftsFinal = false := by
  unfold Program.liftsFinal
  rw [headLifts_cut h, h]
  kernel_rfl
theorem enter_cut {P : Program} {r : List (List Char)} (h : behindMainWord (wordsSigns P.initOrder.toList) = "cut".toList :: r) (h1 : P.laysLater = false) (h2 : P.bearsReflect = false) (h3 : P.doorFits [] = true) : P.mayEnter = true := by
  unfold Program.mayEnter
  rw [h]
  simp only [strip_cut, h1, h2, h3]
  kernel_rfl
theorem pf_cut : ∃ r, behindMainWord (wordsSigns Tryz.prog.initOrder.toList) = "cut".toList :: r := ⟨_, head_words⟩
theorem pf_make : Tryz.prog.make = some .cut := let ⟨_, h⟩ := pf_cut; make_cut h
theorem pf_lifts : Tryz.prog.liftsFinal = false := let ⟨_, h⟩ := pf_cut; lifts_cut h
theorem pf_later : Tryz.prog.laysLater = false := by kernel_rfl
theorem pf_reflect : Tryz.prog.bearsReflect = false := by kernel_rfl
theorem pf_door : Tryz.prog.doorFits [] = true := by kernel_rfl
theorem pf_enter : Tryz.prog.mayEnter = true := let ⟨_, h⟩ := pf_cut; enter_cut h pf_later pf_reflect pf_door
theorem pf_heard : Tryz.prog.stopsHeard = true := by kernel_rfl
theorem pf_laidOut : laidOutB Tryz.prog = true := by kernel_rfl
theorem pf_maps : mapsRowed Tryz.prog = true := by kernel_rfl
theorem pf_stops : Tryz.prog.stops = [] := by kernel_rfl
theorem pf_knobs : Tryz.prog.stopKnobs = [] := by kernel_rfl
theorem pf_keys : Tryz.prog.plainKeys = true := by kernel_rfl
theorem pf_looks : true = Tryz.prog.looks [] := by kernel_rfl
theorem pf_own : ownKnob Tryz.prog.godebug = none := by kernel_rfl
end Go.Proofs.YtdhgdachchhflaaGreatDoor
