/-
  DERIVED. GIVEN WITH THE SEED: THE CARDS: each row of YtgdgklhfakplhaaGreatDoorRows.lean that lists a variable, with what it lists TIED to the program's text (the seventh form; the later family's looks); each row that meets fmt, with fmt's text TOLD by the authors' own Lean function (tested against real Go, not proved from fmt's source: count such statements apart). THE CARD IS WHAT COUNTS. Prove the row's statement (the work); the ties are given (YtgdgklhfakplhaaGreatDoorTie.lean); close each card by the builder's one call (the guide's Derived/Test/ToyasCard.lean, 'card_holds'). Laid BY PROGRAM, IN A SANDBOX (cutbox-door.mjs). By AI agents, Wed Nov 11 2026. No macro, syntax, notation, axiom, sorry.
-/
import Derived.Test.YtgdgklhfakplhaaGreatDoorRows
import GoSem.ClaimSeven
namespace Go.Proofs.YtgdgklhfakplhaaGreatDoor
namespace Rows

/-- THE TIED CARD OF 'laws.FnFloat64Float'. -/
def fnFloat64FloatCard : Claim7 := { stood := { row := fnFloat64FloatRow, standIns := [], harness := (true, "7ccb63aa0ca2724d7077a3b66de2a8b67c65cdc35f52de3e564caf80c5353ba7"), looks := true }, kinds := [], alts := [], laidByText := true, laidKinds := [.data, .data, .data, .data], laidTests := true, laidLooks := .later }
def FnFloat64FloatCardSaid : Prop := Claim7.holds Tryz.pinned (.plain (OpenSpec.ofChange fnFloat64FloatSpec)) fnFloat64FloatCard

/-- THE TIED CARD OF 'laws.FnFloat32Float'. -/
def fnFloat32FloatCard : Claim7 := { stood := { row := fnFloat32FloatRow, standIns := [], harness := (true, "7ccb63aa0ca2724d7077a3b66de2a8b67c65cdc35f52de3e564caf80c5353ba7"), looks := true }, kinds := [], alts := [], laidByText := true, laidKinds := [.data, .data, .data, .data], laidTests := true, laidLooks := .later }
def FnFloat32FloatCardSaid : Prop := Claim7.holds Tryz.pinned (.plain (OpenSpec.ofChange fnFloat32FloatSpec)) fnFloat32FloatCard

/-- THE TIED CARD OF 'laws.FnFloatBack'. -/
def fnFloatBackCard : Claim7 := { stood := { row := fnFloatBackRow, standIns := [], harness := (true, "7ccb63aa0ca2724d7077a3b66de2a8b67c65cdc35f52de3e564caf80c5353ba7"), looks := true }, kinds := [], alts := [], laidByText := true, laidKinds := [.data, .data, .data, .data], laidTests := true, laidLooks := .later }
def FnFloatBackCardSaid : Prop := Claim7.holds Tryz.pinned (.plain (OpenSpec.ofChange fnFloatBackSpec)) fnFloatBackCard

/-- THE SECOND FORM's CARD OF 'laws.FnFloat64Float'. -/
def fnFloat64FloatUptoCard : Claim7 := { stood := { row := fnFloat64FloatUptoRow, standIns := [], harness := (true, "7ccb63aa0ca2724d7077a3b66de2a8b67c65cdc35f52de3e564caf80c5353ba7"), looks := true }, kinds := [], alts := [], laidByText := true, laidKinds := [.data, .data, .data, .data], laidTests := true, laidLooks := .later }
def FnFloat64FloatUptoCardSaid : Prop := Claim7.holds Tryz.pinned (.plain (OpenSpec.upto fnFloat64FloatSpec)) fnFloat64FloatUptoCard

/-- THE SECOND FORM's CARD OF 'laws.FnFloat32Float'. -/
def fnFloat32FloatUptoCard : Claim7 := { stood := { row := fnFloat32FloatUptoRow, standIns := [], harness := (true, "7ccb63aa0ca2724d7077a3b66de2a8b67c65cdc35f52de3e564caf80c5353ba7"), looks := true }, kinds := [], alts := [], laidByText := true, laidKinds := [.data, .data, .data, .data], laidTests := true, laidLooks := .later }
def FnFloat32FloatUptoCardSaid : Prop := Claim7.holds Tryz.pinned (.plain (OpenSpec.upto fnFloat32FloatSpec)) fnFloat32FloatUptoCard

/-- THE SECOND FORM's CARD OF 'laws.FnFloatBack'. -/
def fnFloatBackUptoCard : Claim7 := { stood := { row := fnFloatBackUptoRow, standIns := [], harness := (true, "7ccb63aa0ca2724d7077a3b66de2a8b67c65cdc35f52de3e564caf80c5353ba7"), looks := true }, kinds := [], alts := [], laidByText := true, laidKinds := [.data, .data, .data, .data], laidTests := true, laidLooks := .later }
def FnFloatBackUptoCardSaid : Prop := Claim7.holds Tryz.pinned (.plain (OpenSpec.upto fnFloatBackSpec)) fnFloatBackUptoCard
end Rows
end Go.Proofs.YtgdgklhfakplhaaGreatDoor
