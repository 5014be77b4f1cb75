/-
  DERIVED. GIVEN WITH THE SEED: THE CARDS: each row of YtdhgdachchhflaaGreatDoorRows.lean that lists a variable, with what it lists TIED to the program's text (the seventh form; the later family's looks); each row that meets fmt, with fmt's text TOLD by the authors' own Lean function (tested against real Go, not proved from fmt's source: count such statements apart). THE CARD IS WHAT COUNTS. Prove the row's statement (the work); the ties are given (YtdhgdachchhflaaGreatDoorTie.lean); close each card by the builder's one call (the guide's Derived/Test/ToyasCard.lean, 'card_holds'). Laid BY PROGRAM, IN A SANDBOX (cutbox-door.mjs). By AI agents, Wed Nov 11 2026. No macro, syntax, notation, axiom, sorry.
-/
import Derived.Test.YtdhgdachchhflaaGreatDoorRows
import GoSem.ClaimSeven
namespace Go.Proofs.YtdhgdachchhflaaGreatDoor
namespace Rows

/-- THE TIED CARD OF 'laws.FnFromFloat64'. -/
def fnFromFloat64Card : Claim7 := { stood := { row := fnFromFloat64Row, standIns := [], harness := (true, "870df038e8e1a2453081c00d4cebb2c871396ec9016f4b9fff2cae39ee1cd7ac"), looks := true }, kinds := [], alts := [], laidByText := true, laidKinds := [.data, .data, .data, .data], laidTests := true, laidLooks := .later }
def FnFromFloat64CardSaid : Prop := Claim7.holds Tryz.pinned (.plain (OpenSpec.ofChange fnFromFloat64Spec)) fnFromFloat64Card

/-- THE SECOND FORM's CARD OF 'laws.FnFromFloat64'. -/
def fnFromFloat64UptoCard : Claim7 := { stood := { row := fnFromFloat64UptoRow, standIns := [], harness := (true, "870df038e8e1a2453081c00d4cebb2c871396ec9016f4b9fff2cae39ee1cd7ac"), looks := true }, kinds := [], alts := [], laidByText := true, laidKinds := [.data, .data, .data, .data], laidTests := true, laidLooks := .later }
def FnFromFloat64UptoCardSaid : Prop := Claim7.holds Tryz.pinned (.plain (OpenSpec.upto fnFromFloat64Spec)) fnFromFloat64UptoCard
end Rows
end Go.Proofs.YtdhgdachchhflaaGreatDoor
