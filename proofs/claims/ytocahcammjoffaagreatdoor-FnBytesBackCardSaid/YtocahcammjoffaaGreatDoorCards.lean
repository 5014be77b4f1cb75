/-
  DERIVED. GIVEN WITH THE SEED: THE CARDS: each row of YtocahcammjoffaaGreatDoorRows.lean that lists a variable, with what it lists TIED to the program's text (the seventh form; the later family's looks); each row that meets fmt, with fmt's text TOLD by the authors' own Lean function (tested against real Go, not proved from fmt's source: count such statements apart). THE CARD IS WHAT COUNTS. Prove the row's statement (the work); the ties are given (YtocahcammjoffaaGreatDoorTie.lean); close each card by the builder's one call (the guide's Derived/Test/ToyasCard.lean, 'card_holds'). Laid BY PROGRAM, IN A SANDBOX (cutbox-door.mjs). By AI agents, Wed Nov 11 2026. No macro, syntax, notation, axiom, sorry.
-/
import Derived.Test.YtocahcammjoffaaGreatDoorRows
import GoSem.ClaimSeven
namespace Go.Proofs.YtocahcammjoffaaGreatDoor
namespace Rows

/-- THE TIED CARD OF 'laws.FnFloat64Val'. -/
def fnFloat64ValCard : Claim7 := { stood := { row := fnFloat64ValRow, standIns := [], harness := (true, "6cef3cccf655c09a110e3a0d15352e237f641316496d9a41ec63f0b4932e7e90"), looks := true }, kinds := [], alts := [], laidByText := true, laidKinds := [.data, .data, .data, .data], laidTests := true, laidLooks := .later }
def FnFloat64ValCardSaid : Prop := Claim7.holds Tryz.pinned (.plain (OpenSpec.ofChange fnFloat64ValSpec)) fnFloat64ValCard

/-- THE TIED CARD OF 'laws.FnFloat32Val'. -/
def fnFloat32ValCard : Claim7 := { stood := { row := fnFloat32ValRow, standIns := [], harness := (true, "6cef3cccf655c09a110e3a0d15352e237f641316496d9a41ec63f0b4932e7e90"), looks := true }, kinds := [], alts := [], laidByText := true, laidKinds := [.data, .data, .data, .data], laidTests := true, laidLooks := .later }
def FnFloat32ValCardSaid : Prop := Claim7.holds Tryz.pinned (.plain (OpenSpec.ofChange fnFloat32ValSpec)) fnFloat32ValCard

/-- THE TIED CARD OF 'laws.FnFloat64Float'. -/
def fnFloat64FloatCard : Claim7 := { stood := { row := fnFloat64FloatRow, standIns := [], harness := (true, "6cef3cccf655c09a110e3a0d15352e237f641316496d9a41ec63f0b4932e7e90"), looks := true }, kinds := [], alts := [], laidByText := true, laidKinds := [.data, .data, .data, .data], laidTests := true, laidLooks := .later }
def FnFloat64FloatCardSaid : Prop := Claim7.holds Tryz.pinned (.plain (OpenSpec.ofChange fnFloat64FloatSpec)) fnFloat64FloatCard

/-- THE TIED CARD OF 'laws.FnFloat32Float'. -/
def fnFloat32FloatCard : Claim7 := { stood := { row := fnFloat32FloatRow, standIns := [], harness := (true, "6cef3cccf655c09a110e3a0d15352e237f641316496d9a41ec63f0b4932e7e90"), looks := true }, kinds := [], alts := [], laidByText := true, laidKinds := [.data, .data, .data, .data], laidTests := true, laidLooks := .later }
def FnFloat32FloatCardSaid : Prop := Claim7.holds Tryz.pinned (.plain (OpenSpec.ofChange fnFloat32FloatSpec)) fnFloat32FloatCard

/-- THE TIED CARD OF 'laws.FnFromFloat64'. -/
def fnFromFloat64Card : Claim7 := { stood := { row := fnFromFloat64Row, standIns := [], harness := (true, "6cef3cccf655c09a110e3a0d15352e237f641316496d9a41ec63f0b4932e7e90"), looks := true }, kinds := [], alts := [], laidByText := true, laidKinds := [.data, .data, .data, .data], laidTests := true, laidLooks := .later }
def FnFromFloat64CardSaid : Prop := Claim7.holds Tryz.pinned (.plain (OpenSpec.ofChange fnFromFloat64Spec)) fnFromFloat64Card

/-- THE TIED CARD OF 'laws.FnBytesBack'. -/
def fnBytesBackCard : Claim7 := { stood := { row := fnBytesBackRow, standIns := [], harness := (true, "6cef3cccf655c09a110e3a0d15352e237f641316496d9a41ec63f0b4932e7e90"), looks := true }, kinds := [], alts := [], laidByText := true, laidKinds := [.data, .data, .data, .data], laidTests := true, laidLooks := .later }
def FnBytesBackCardSaid : Prop := Claim7.holds Tryz.pinned (.plain (OpenSpec.ofChange fnBytesBackSpec)) fnBytesBackCard

/-- THE TIED CARD OF 'laws.FnFloatBack'. -/
def fnFloatBackCard : Claim7 := { stood := { row := fnFloatBackRow, standIns := [], harness := (true, "6cef3cccf655c09a110e3a0d15352e237f641316496d9a41ec63f0b4932e7e90"), looks := true }, kinds := [], alts := [], laidByText := true, laidKinds := [.data, .data, .data, .data], laidTests := true, laidLooks := .later }
def FnFloatBackCardSaid : Prop := Claim7.holds Tryz.pinned (.plain (OpenSpec.ofChange fnFloatBackSpec)) fnFloatBackCard

/-- THE TIED CARD OF 'laws.FnTruth'. -/
def fnTruthCard : Claim7 := { stood := { row := fnTruthRow, standIns := [], harness := (true, "6cef3cccf655c09a110e3a0d15352e237f641316496d9a41ec63f0b4932e7e90"), looks := true }, kinds := [], alts := [], laidByText := true, laidKinds := [.data, .data, .data, .data], laidTests := true, laidLooks := .later }
def FnTruthCardSaid : Prop := Claim7.holds Tryz.pinned (.plain (OpenSpec.ofChange fnTruthSpec)) fnTruthCard

/-- THE TIED CARD OF 'laws.FnSmallBits'. -/
def fnSmallBitsCard : Claim7 := { stood := { row := fnSmallBitsRow, standIns := [], harness := (true, "6cef3cccf655c09a110e3a0d15352e237f641316496d9a41ec63f0b4932e7e90"), looks := true }, kinds := [], alts := [], laidByText := true, laidKinds := [.data, .data, .data, .data], laidTests := true, laidLooks := .later }
def FnSmallBitsCardSaid : Prop := Claim7.holds Tryz.pinned (.plain (OpenSpec.ofChange fnSmallBitsSpec)) fnSmallBitsCard

/-- THE TIED CARD OF 'laws.FnSmallDifference'. -/
def fnSmallDifferenceCard : Claim7 := { stood := { row := fnSmallDifferenceRow, standIns := [], harness := (true, "6cef3cccf655c09a110e3a0d15352e237f641316496d9a41ec63f0b4932e7e90"), looks := true }, kinds := [], alts := [], laidByText := true, laidKinds := [.data, .data, .data, .data], laidTests := true, laidLooks := .later }
def FnSmallDifferenceCardSaid : Prop := Claim7.holds Tryz.pinned (.plain (OpenSpec.ofChange fnSmallDifferenceSpec)) fnSmallDifferenceCard

/-- THE TIED CARD OF 'laws.FnSmallProduct'. -/
def fnSmallProductCard : Claim7 := { stood := { row := fnSmallProductRow, standIns := [], harness := (true, "6cef3cccf655c09a110e3a0d15352e237f641316496d9a41ec63f0b4932e7e90"), looks := true }, kinds := [], alts := [], laidByText := true, laidKinds := [.data, .data, .data, .data], laidTests := true, laidLooks := .later }
def FnSmallProductCardSaid : Prop := Claim7.holds Tryz.pinned (.plain (OpenSpec.ofChange fnSmallProductSpec)) fnSmallProductCard

/-- THE TIED CARD OF 'laws.FnSmallQuotient'. -/
def fnSmallQuotientCard : Claim7 := { stood := { row := fnSmallQuotientRow, standIns := [], harness := (true, "6cef3cccf655c09a110e3a0d15352e237f641316496d9a41ec63f0b4932e7e90"), looks := true }, kinds := [], alts := [], laidByText := true, laidKinds := [.data, .data, .data, .data], laidTests := true, laidLooks := .later }
def FnSmallQuotientCardSaid : Prop := Claim7.holds Tryz.pinned (.plain (OpenSpec.ofChange fnSmallQuotientSpec)) fnSmallQuotientCard

/-- THE TIED CARD OF 'laws.FnSmallSum'. -/
def fnSmallSumCard : Claim7 := { stood := { row := fnSmallSumRow, standIns := [], harness := (true, "6cef3cccf655c09a110e3a0d15352e237f641316496d9a41ec63f0b4932e7e90"), looks := true }, kinds := [], alts := [], laidByText := true, laidKinds := [.data, .data, .data, .data], laidTests := true, laidLooks := .later }
def FnSmallSumCardSaid : Prop := Claim7.holds Tryz.pinned (.plain (OpenSpec.ofChange fnSmallSumSpec)) fnSmallSumCard

/-- THE TIED CARD OF 'laws.FnTextAdd'. -/
def fnTextAddCard : Claim7 := { stood := { row := fnTextAddRow, standIns := [], harness := (true, "6cef3cccf655c09a110e3a0d15352e237f641316496d9a41ec63f0b4932e7e90"), looks := true }, kinds := [], alts := [], laidByText := true, laidKinds := [.data, .data, .data, .data], laidTests := true, laidLooks := .later }
def FnTextAddCardSaid : Prop := Claim7.holds Tryz.pinned (.plain (OpenSpec.ofChange fnTextAddSpec)) fnTextAddCard

/-- THE TIED CARD OF 'laws.FnUnknownVals'. -/
def fnUnknownValsCard : Claim7 := { stood := { row := fnUnknownValsRow, standIns := [], harness := (true, "6cef3cccf655c09a110e3a0d15352e237f641316496d9a41ec63f0b4932e7e90"), looks := true }, kinds := [], alts := [], laidByText := true, laidKinds := [.data, .data, .data, .data], laidTests := true, laidLooks := .later }
def FnUnknownValsCardSaid : Prop := Claim7.holds Tryz.pinned (.plain (OpenSpec.ofChange fnUnknownValsSpec)) fnUnknownValsCard

/-- THE TIED CARD OF 'laws.FnSameText'. -/
def fnSameTextCard : Claim7 := { stood := { row := fnSameTextRow, standIns := [], harness := (true, "6cef3cccf655c09a110e3a0d15352e237f641316496d9a41ec63f0b4932e7e90"), looks := true }, kinds := [], alts := [], laidByText := true, laidKinds := [.data, .data, .data, .data], laidTests := true, laidLooks := .later }
def FnSameTextCardSaid : Prop := Claim7.holds Tryz.pinned (.plain (OpenSpec.ofChange fnSameTextSpec)) fnSameTextCard

/-- THE SECOND FORM's CARD OF 'laws.FnFloat64Val'. -/
def fnFloat64ValUptoCard : Claim7 := { stood := { row := fnFloat64ValUptoRow, standIns := [], harness := (true, "6cef3cccf655c09a110e3a0d15352e237f641316496d9a41ec63f0b4932e7e90"), looks := true }, kinds := [], alts := [], laidByText := true, laidKinds := [.data, .data, .data, .data], laidTests := true, laidLooks := .later }
def FnFloat64ValUptoCardSaid : Prop := Claim7.holds Tryz.pinned (.plain (OpenSpec.upto fnFloat64ValSpec)) fnFloat64ValUptoCard

/-- THE SECOND FORM's CARD OF 'laws.FnFloat32Val'. -/
def fnFloat32ValUptoCard : Claim7 := { stood := { row := fnFloat32ValUptoRow, standIns := [], harness := (true, "6cef3cccf655c09a110e3a0d15352e237f641316496d9a41ec63f0b4932e7e90"), looks := true }, kinds := [], alts := [], laidByText := true, laidKinds := [.data, .data, .data, .data], laidTests := true, laidLooks := .later }
def FnFloat32ValUptoCardSaid : Prop := Claim7.holds Tryz.pinned (.plain (OpenSpec.upto fnFloat32ValSpec)) fnFloat32ValUptoCard

/-- THE SECOND FORM's CARD OF 'laws.FnFloat64Float'. -/
def fnFloat64FloatUptoCard : Claim7 := { stood := { row := fnFloat64FloatUptoRow, standIns := [], harness := (true, "6cef3cccf655c09a110e3a0d15352e237f641316496d9a41ec63f0b4932e7e90"), looks := true }, kinds := [], alts := [], laidByText := true, laidKinds := [.data, .data, .data, .data], laidTests := true, laidLooks := .later }
def FnFloat64FloatUptoCardSaid : Prop := Claim7.holds Tryz.pinned (.plain (OpenSpec.upto fnFloat64FloatSpec)) fnFloat64FloatUptoCard

/-- THE SECOND FORM's CARD OF 'laws.FnFloat32Float'. -/
def fnFloat32FloatUptoCard : Claim7 := { stood := { row := fnFloat32FloatUptoRow, standIns := [], harness := (true, "6cef3cccf655c09a110e3a0d15352e237f641316496d9a41ec63f0b4932e7e90"), looks := true }, kinds := [], alts := [], laidByText := true, laidKinds := [.data, .data, .data, .data], laidTests := true, laidLooks := .later }
def FnFloat32FloatUptoCardSaid : Prop := Claim7.holds Tryz.pinned (.plain (OpenSpec.upto fnFloat32FloatSpec)) fnFloat32FloatUptoCard

/-- THE SECOND FORM's CARD OF 'laws.FnFromFloat64'. -/
def fnFromFloat64UptoCard : Claim7 := { stood := { row := fnFromFloat64UptoRow, standIns := [], harness := (true, "6cef3cccf655c09a110e3a0d15352e237f641316496d9a41ec63f0b4932e7e90"), looks := true }, kinds := [], alts := [], laidByText := true, laidKinds := [.data, .data, .data, .data], laidTests := true, laidLooks := .later }
def FnFromFloat64UptoCardSaid : Prop := Claim7.holds Tryz.pinned (.plain (OpenSpec.upto fnFromFloat64Spec)) fnFromFloat64UptoCard

/-- THE SECOND FORM's CARD OF 'laws.FnBytesBack'. -/
def fnBytesBackUptoCard : Claim7 := { stood := { row := fnBytesBackUptoRow, standIns := [], harness := (true, "6cef3cccf655c09a110e3a0d15352e237f641316496d9a41ec63f0b4932e7e90"), looks := true }, kinds := [], alts := [], laidByText := true, laidKinds := [.data, .data, .data, .data], laidTests := true, laidLooks := .later }
def FnBytesBackUptoCardSaid : Prop := Claim7.holds Tryz.pinned (.plain (OpenSpec.upto fnBytesBackSpec)) fnBytesBackUptoCard

/-- THE SECOND FORM's CARD OF 'laws.FnFloatBack'. -/
def fnFloatBackUptoCard : Claim7 := { stood := { row := fnFloatBackUptoRow, standIns := [], harness := (true, "6cef3cccf655c09a110e3a0d15352e237f641316496d9a41ec63f0b4932e7e90"), looks := true }, kinds := [], alts := [], laidByText := true, laidKinds := [.data, .data, .data, .data], laidTests := true, laidLooks := .later }
def FnFloatBackUptoCardSaid : Prop := Claim7.holds Tryz.pinned (.plain (OpenSpec.upto fnFloatBackSpec)) fnFloatBackUptoCard

/-- THE SECOND FORM's CARD OF 'laws.FnTruth'. -/
def fnTruthUptoCard : Claim7 := { stood := { row := fnTruthUptoRow, standIns := [], harness := (true, "6cef3cccf655c09a110e3a0d15352e237f641316496d9a41ec63f0b4932e7e90"), looks := true }, kinds := [], alts := [], laidByText := true, laidKinds := [.data, .data, .data, .data], laidTests := true, laidLooks := .later }
def FnTruthUptoCardSaid : Prop := Claim7.holds Tryz.pinned (.plain (OpenSpec.upto fnTruthSpec)) fnTruthUptoCard

/-- THE SECOND FORM's CARD OF 'laws.FnSmallBits'. -/
def fnSmallBitsUptoCard : Claim7 := { stood := { row := fnSmallBitsUptoRow, standIns := [], harness := (true, "6cef3cccf655c09a110e3a0d15352e237f641316496d9a41ec63f0b4932e7e90"), looks := true }, kinds := [], alts := [], laidByText := true, laidKinds := [.data, .data, .data, .data], laidTests := true, laidLooks := .later }
def FnSmallBitsUptoCardSaid : Prop := Claim7.holds Tryz.pinned (.plain (OpenSpec.upto fnSmallBitsSpec)) fnSmallBitsUptoCard

/-- THE SECOND FORM's CARD OF 'laws.FnSmallDifference'. -/
def fnSmallDifferenceUptoCard : Claim7 := { stood := { row := fnSmallDifferenceUptoRow, standIns := [], harness := (true, "6cef3cccf655c09a110e3a0d15352e237f641316496d9a41ec63f0b4932e7e90"), looks := true }, kinds := [], alts := [], laidByText := true, laidKinds := [.data, .data, .data, .data], laidTests := true, laidLooks := .later }
def FnSmallDifferenceUptoCardSaid : Prop := Claim7.holds Tryz.pinned (.plain (OpenSpec.upto fnSmallDifferenceSpec)) fnSmallDifferenceUptoCard

/-- THE SECOND FORM's CARD OF 'laws.FnSmallProduct'. -/
def fnSmallProductUptoCard : Claim7 := { stood := { row := fnSmallProductUptoRow, standIns := [], harness := (true, "6cef3cccf655c09a110e3a0d15352e237f641316496d9a41ec63f0b4932e7e90"), looks := true }, kinds := [], alts := [], laidByText := true, laidKinds := [.data, .data, .data, .data], laidTests := true, laidLooks := .later }
def FnSmallProductUptoCardSaid : Prop := Claim7.holds Tryz.pinned (.plain (OpenSpec.upto fnSmallProductSpec)) fnSmallProductUptoCard

/-- THE SECOND FORM's CARD OF 'laws.FnSmallQuotient'. -/
def fnSmallQuotientUptoCard : Claim7 := { stood := { row := fnSmallQuotientUptoRow, standIns := [], harness := (true, "6cef3cccf655c09a110e3a0d15352e237f641316496d9a41ec63f0b4932e7e90"), looks := true }, kinds := [], alts := [], laidByText := true, laidKinds := [.data, .data, .data, .data], laidTests := true, laidLooks := .later }
def FnSmallQuotientUptoCardSaid : Prop := Claim7.holds Tryz.pinned (.plain (OpenSpec.upto fnSmallQuotientSpec)) fnSmallQuotientUptoCard

/-- THE SECOND FORM's CARD OF 'laws.FnSmallSum'. -/
def fnSmallSumUptoCard : Claim7 := { stood := { row := fnSmallSumUptoRow, standIns := [], harness := (true, "6cef3cccf655c09a110e3a0d15352e237f641316496d9a41ec63f0b4932e7e90"), looks := true }, kinds := [], alts := [], laidByText := true, laidKinds := [.data, .data, .data, .data], laidTests := true, laidLooks := .later }
def FnSmallSumUptoCardSaid : Prop := Claim7.holds Tryz.pinned (.plain (OpenSpec.upto fnSmallSumSpec)) fnSmallSumUptoCard

/-- THE SECOND FORM's CARD OF 'laws.FnTextAdd'. -/
def fnTextAddUptoCard : Claim7 := { stood := { row := fnTextAddUptoRow, standIns := [], harness := (true, "6cef3cccf655c09a110e3a0d15352e237f641316496d9a41ec63f0b4932e7e90"), looks := true }, kinds := [], alts := [], laidByText := true, laidKinds := [.data, .data, .data, .data], laidTests := true, laidLooks := .later }
def FnTextAddUptoCardSaid : Prop := Claim7.holds Tryz.pinned (.plain (OpenSpec.upto fnTextAddSpec)) fnTextAddUptoCard

/-- THE SECOND FORM's CARD OF 'laws.FnUnknownVals'. -/
def fnUnknownValsUptoCard : Claim7 := { stood := { row := fnUnknownValsUptoRow, standIns := [], harness := (true, "6cef3cccf655c09a110e3a0d15352e237f641316496d9a41ec63f0b4932e7e90"), looks := true }, kinds := [], alts := [], laidByText := true, laidKinds := [.data, .data, .data, .data], laidTests := true, laidLooks := .later }
def FnUnknownValsUptoCardSaid : Prop := Claim7.holds Tryz.pinned (.plain (OpenSpec.upto fnUnknownValsSpec)) fnUnknownValsUptoCard

/-- THE SECOND FORM's CARD OF 'laws.FnSameText'. -/
def fnSameTextUptoCard : Claim7 := { stood := { row := fnSameTextUptoRow, standIns := [], harness := (true, "6cef3cccf655c09a110e3a0d15352e237f641316496d9a41ec63f0b4932e7e90"), looks := true }, kinds := [], alts := [], laidByText := true, laidKinds := [.data, .data, .data, .data], laidTests := true, laidLooks := .later }
def FnSameTextUptoCardSaid : Prop := Claim7.holds Tryz.pinned (.plain (OpenSpec.upto fnSameTextSpec)) fnSameTextUptoCard
end Rows
end Go.Proofs.YtocahcammjoffaaGreatDoor
