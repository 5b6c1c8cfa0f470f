/-
  DERIVED. GIVEN WITH THE SEED: THE CARDS: each row of YtacbllkmcldniaaGreatDoorRows.lean that lists a variable, with what it lists TIED to the program's text (the seventh form; the later family's looks); each row that meets fmt, with fmt's text TOLD by the authors' own Lean function (tested against real Go, not proved from fmt's source: count such statements apart). THE CARD IS WHAT COUNTS. Prove the row's statement (the work); the ties are given (YtacbllkmcldniaaGreatDoorTie.lean); close each card by the builder's one call (the guide's Derived/Test/ToyasCard.lean, 'card_holds'). Laid BY PROGRAM, IN A SANDBOX (cutbox-door.mjs). By AI agents, Wed Nov 11 2026. No macro, syntax, notation, axiom, sorry.
-/
import Derived.Test.YtacbllkmcldniaaGreatDoorRows
import GoSem.ClaimSeven
namespace Go.Proofs.YtacbllkmcldniaaGreatDoor
namespace Rows

/-- THE TIED CARD OF 'laws.FnBigDo'. -/
def fnBigDoCard : Claim7 := { stood := { row := fnBigDoRow, standIns := [], harness := (true, "71d9d33acf8f25ae85008959926334cc9b95db1af76cb41861a174f407db859f"), looks := true }, kinds := [], alts := [], laidByText := true, laidKinds := [.data, .data, .sentinel, .sentinel, .sentinel, .data, .data, .data, .data, .data], laidTests := true, laidLooks := .later }
def FnBigDoCardSaid : Prop := Claim7.holds Tryz.pinned (.plain (OpenSpec.ofChange fnBigDoSpec)) fnBigDoCard

/-- THE TIED CARD OF 'laws.FnBigBezout'. -/
def fnBigBezoutCard : Claim7 := { stood := { row := fnBigBezoutRow, standIns := [], harness := (true, "71d9d33acf8f25ae85008959926334cc9b95db1af76cb41861a174f407db859f"), looks := true }, kinds := [], alts := [], laidByText := true, laidKinds := [.data, .data, .sentinel, .sentinel, .sentinel, .data, .data, .data, .data, .data], laidTests := true, laidLooks := .later }
def FnBigBezoutCardSaid : Prop := Claim7.holds Tryz.pinned (.plain (OpenSpec.ofChange fnBigBezoutSpec)) fnBigBezoutCard

/-- THE TIED CARD OF 'laws.FnBigCompare'. -/
def fnBigCompareCard : Claim7 := { stood := { row := fnBigCompareRow, standIns := [], harness := (true, "71d9d33acf8f25ae85008959926334cc9b95db1af76cb41861a174f407db859f"), looks := true }, kinds := [], alts := [], laidByText := true, laidKinds := [.data, .data, .sentinel, .sentinel, .sentinel, .data, .data, .data, .data, .data], laidTests := true, laidLooks := .later }
def FnBigCompareCardSaid : Prop := Claim7.holds Tryz.pinned (.plain (OpenSpec.ofChange fnBigCompareSpec)) fnBigCompareCard

/-- THE TIED CARD OF 'laws.FnBigKept'. -/
def fnBigKeptCard : Claim7 := { stood := { row := fnBigKeptRow, standIns := [], harness := (true, "71d9d33acf8f25ae85008959926334cc9b95db1af76cb41861a174f407db859f"), looks := true }, kinds := [], alts := [], laidByText := true, laidKinds := [.data, .data, .sentinel, .sentinel, .sentinel, .data, .data, .data, .data, .data], laidTests := true, laidLooks := .later }
def FnBigKeptCardSaid : Prop := Claim7.holds Tryz.pinned (.plain (OpenSpec.ofChange fnBigKeptSpec)) fnBigKeptCard

/-- THE TIED CARD OF 'laws.FnBigInverse'. -/
def fnBigInverseCard : Claim7 := { stood := { row := fnBigInverseRow, standIns := [], harness := (true, "71d9d33acf8f25ae85008959926334cc9b95db1af76cb41861a174f407db859f"), looks := true }, kinds := [], alts := [], laidByText := true, laidKinds := [.data, .data, .sentinel, .sentinel, .sentinel, .data, .data, .data, .data, .data], laidTests := true, laidLooks := .later }
def FnBigInverseCardSaid : Prop := Claim7.holds Tryz.pinned (.plain (OpenSpec.ofChange fnBigInverseSpec)) fnBigInverseCard

/-- THE TIED CARD OF 'laws.FnBigMade'. -/
def fnBigMadeCard : Claim7 := { stood := { row := fnBigMadeRow, standIns := [], harness := (true, "71d9d33acf8f25ae85008959926334cc9b95db1af76cb41861a174f407db859f"), looks := true }, kinds := [], alts := [], laidByText := true, laidKinds := [.data, .data, .sentinel, .sentinel, .sentinel, .data, .data, .data, .data, .data], laidTests := true, laidLooks := .later }
def FnBigMadeCardSaid : Prop := Claim7.holds Tryz.pinned (.plain (OpenSpec.ofChange fnBigMadeSpec)) fnBigMadeCard

/-- THE TIED CARD OF 'laws.FnBigBoth'. -/
def fnBigBothCard : Claim7 := { stood := { row := fnBigBothRow, standIns := [], harness := (true, "71d9d33acf8f25ae85008959926334cc9b95db1af76cb41861a174f407db859f"), looks := true }, kinds := [], alts := [], laidByText := true, laidKinds := [.data, .data, .sentinel, .sentinel, .sentinel, .data, .data, .data, .data, .data], laidTests := true, laidLooks := .later }
def FnBigBothCardSaid : Prop := Claim7.holds Tryz.pinned (.plain (OpenSpec.ofChange fnBigBothSpec)) fnBigBothCard

/-- THE TIED CARD OF 'laws.FnBigShift'. -/
def fnBigShiftCard : Claim7 := { stood := { row := fnBigShiftRow, standIns := [], harness := (true, "71d9d33acf8f25ae85008959926334cc9b95db1af76cb41861a174f407db859f"), looks := true }, kinds := [], alts := [], laidByText := true, laidKinds := [.data, .data, .sentinel, .sentinel, .sentinel, .data, .data, .data, .data, .data], laidTests := true, laidLooks := .later }
def FnBigShiftCardSaid : Prop := Claim7.holds Tryz.pinned (.plain (OpenSpec.ofChange fnBigShiftSpec)) fnBigShiftCard

/-- THE TIED CARD OF 'laws.FnBigText'. -/
def fnBigTextCard : Claim7 := { stood := { row := fnBigTextRow, standIns := [], harness := (true, "71d9d33acf8f25ae85008959926334cc9b95db1af76cb41861a174f407db859f"), looks := true }, kinds := [], alts := [], laidByText := true, laidKinds := [.data, .data, .sentinel, .sentinel, .sentinel, .data, .data, .data, .data, .data], laidTests := true, laidLooks := .later }
def FnBigTextCardSaid : Prop := Claim7.holds Tryz.pinned (.plain (OpenSpec.ofChange fnBigTextSpec)) fnBigTextCard

/-- THE TIED CARD OF 'laws.FnBigPower'. -/
def fnBigPowerCard : Claim7 := { stood := { row := fnBigPowerRow, standIns := [], harness := (true, "71d9d33acf8f25ae85008959926334cc9b95db1af76cb41861a174f407db859f"), looks := true }, kinds := [], alts := [], laidByText := true, laidKinds := [.data, .data, .sentinel, .sentinel, .sentinel, .data, .data, .data, .data, .data], laidTests := true, laidLooks := .later }
def FnBigPowerCardSaid : Prop := Claim7.holds Tryz.pinned (.plain (OpenSpec.ofChange fnBigPowerSpec)) fnBigPowerCard

/-- THE TIED CARD OF 'laws.FnBigBit'. -/
def fnBigBitCard : Claim7 := { stood := { row := fnBigBitRow, standIns := [], harness := (true, "71d9d33acf8f25ae85008959926334cc9b95db1af76cb41861a174f407db859f"), looks := true }, kinds := [], alts := [], laidByText := true, laidKinds := [.data, .data, .sentinel, .sentinel, .sentinel, .data, .data, .data, .data, .data], laidTests := true, laidLooks := .later }
def FnBigBitCardSaid : Prop := Claim7.holds Tryz.pinned (.plain (OpenSpec.ofChange fnBigBitSpec)) fnBigBitCard

/-- THE TIED CARD OF 'laws.FnBigBytes'. -/
def fnBigBytesCard : Claim7 := { stood := { row := fnBigBytesRow, standIns := [], harness := (true, "71d9d33acf8f25ae85008959926334cc9b95db1af76cb41861a174f407db859f"), looks := true }, kinds := [], alts := [], laidByText := true, laidKinds := [.data, .data, .sentinel, .sentinel, .sentinel, .data, .data, .data, .data, .data], laidTests := true, laidLooks := .later }
def FnBigBytesCardSaid : Prop := Claim7.holds Tryz.pinned (.plain (OpenSpec.ofChange fnBigBytesSpec)) fnBigBytesCard

/-- THE TIED CARD OF 'laws.FnBigRange'. -/
def fnBigRangeCard : Claim7 := { stood := { row := fnBigRangeRow, standIns := [], harness := (true, "71d9d33acf8f25ae85008959926334cc9b95db1af76cb41861a174f407db859f"), looks := true }, kinds := [], alts := [], laidByText := true, laidKinds := [.data, .data, .sentinel, .sentinel, .sentinel, .data, .data, .data, .data, .data], laidTests := true, laidLooks := .later }
def FnBigRangeCardSaid : Prop := Claim7.holds Tryz.pinned (.plain (OpenSpec.ofChange fnBigRangeSpec)) fnBigRangeCard

/-- THE TIED CARD OF 'laws.FnBigOne'. -/
def fnBigOneCard : Claim7 := { stood := { row := fnBigOneRow, standIns := [], harness := (true, "71d9d33acf8f25ae85008959926334cc9b95db1af76cb41861a174f407db859f"), looks := true }, kinds := [], alts := [], laidByText := true, laidKinds := [.data, .data, .sentinel, .sentinel, .sentinel, .data, .data, .data, .data, .data], laidTests := true, laidLooks := .later }
def FnBigOneCardSaid : Prop := Claim7.holds Tryz.pinned (.plain (OpenSpec.ofChange fnBigOneSpec)) fnBigOneCard

/-- THE TIED CARD OF 'laws.FnBigTell'. -/
def fnBigTellCard : Claim7 := { stood := { row := fnBigTellRow, standIns := [], harness := (true, "71d9d33acf8f25ae85008959926334cc9b95db1af76cb41861a174f407db859f"), looks := true }, kinds := [], alts := [], laidByText := true, laidKinds := [.data, .data, .sentinel, .sentinel, .sentinel, .data, .data, .data, .data, .data], laidTests := true, laidLooks := .later }
def FnBigTellCardSaid : Prop := Claim7.holds Tryz.pinned (.plain (OpenSpec.ofChange fnBigTellSpec)) fnBigTellCard

/-- THE SECOND FORM's CARD OF 'laws.FnBigDo'. -/
def fnBigDoUptoCard : Claim7 := { stood := { row := fnBigDoUptoRow, standIns := [], harness := (true, "71d9d33acf8f25ae85008959926334cc9b95db1af76cb41861a174f407db859f"), looks := true }, kinds := [], alts := [], laidByText := true, laidKinds := [.data, .data, .sentinel, .sentinel, .sentinel, .data, .data, .data, .data, .data], laidTests := true, laidLooks := .later }
def FnBigDoUptoCardSaid : Prop := Claim7.holds Tryz.pinned (.plain (OpenSpec.upto fnBigDoSpec)) fnBigDoUptoCard

/-- THE SECOND FORM's CARD OF 'laws.FnBigBezout'. -/
def fnBigBezoutUptoCard : Claim7 := { stood := { row := fnBigBezoutUptoRow, standIns := [], harness := (true, "71d9d33acf8f25ae85008959926334cc9b95db1af76cb41861a174f407db859f"), looks := true }, kinds := [], alts := [], laidByText := true, laidKinds := [.data, .data, .sentinel, .sentinel, .sentinel, .data, .data, .data, .data, .data], laidTests := true, laidLooks := .later }
def FnBigBezoutUptoCardSaid : Prop := Claim7.holds Tryz.pinned (.plain (OpenSpec.upto fnBigBezoutSpec)) fnBigBezoutUptoCard

/-- THE SECOND FORM's CARD OF 'laws.FnBigCompare'. -/
def fnBigCompareUptoCard : Claim7 := { stood := { row := fnBigCompareUptoRow, standIns := [], harness := (true, "71d9d33acf8f25ae85008959926334cc9b95db1af76cb41861a174f407db859f"), looks := true }, kinds := [], alts := [], laidByText := true, laidKinds := [.data, .data, .sentinel, .sentinel, .sentinel, .data, .data, .data, .data, .data], laidTests := true, laidLooks := .later }
def FnBigCompareUptoCardSaid : Prop := Claim7.holds Tryz.pinned (.plain (OpenSpec.upto fnBigCompareSpec)) fnBigCompareUptoCard

/-- THE SECOND FORM's CARD OF 'laws.FnBigKept'. -/
def fnBigKeptUptoCard : Claim7 := { stood := { row := fnBigKeptUptoRow, standIns := [], harness := (true, "71d9d33acf8f25ae85008959926334cc9b95db1af76cb41861a174f407db859f"), looks := true }, kinds := [], alts := [], laidByText := true, laidKinds := [.data, .data, .sentinel, .sentinel, .sentinel, .data, .data, .data, .data, .data], laidTests := true, laidLooks := .later }
def FnBigKeptUptoCardSaid : Prop := Claim7.holds Tryz.pinned (.plain (OpenSpec.upto fnBigKeptSpec)) fnBigKeptUptoCard

/-- THE SECOND FORM's CARD OF 'laws.FnBigInverse'. -/
def fnBigInverseUptoCard : Claim7 := { stood := { row := fnBigInverseUptoRow, standIns := [], harness := (true, "71d9d33acf8f25ae85008959926334cc9b95db1af76cb41861a174f407db859f"), looks := true }, kinds := [], alts := [], laidByText := true, laidKinds := [.data, .data, .sentinel, .sentinel, .sentinel, .data, .data, .data, .data, .data], laidTests := true, laidLooks := .later }
def FnBigInverseUptoCardSaid : Prop := Claim7.holds Tryz.pinned (.plain (OpenSpec.upto fnBigInverseSpec)) fnBigInverseUptoCard

/-- THE SECOND FORM's CARD OF 'laws.FnBigMade'. -/
def fnBigMadeUptoCard : Claim7 := { stood := { row := fnBigMadeUptoRow, standIns := [], harness := (true, "71d9d33acf8f25ae85008959926334cc9b95db1af76cb41861a174f407db859f"), looks := true }, kinds := [], alts := [], laidByText := true, laidKinds := [.data, .data, .sentinel, .sentinel, .sentinel, .data, .data, .data, .data, .data], laidTests := true, laidLooks := .later }
def FnBigMadeUptoCardSaid : Prop := Claim7.holds Tryz.pinned (.plain (OpenSpec.upto fnBigMadeSpec)) fnBigMadeUptoCard

/-- THE SECOND FORM's CARD OF 'laws.FnBigBoth'. -/
def fnBigBothUptoCard : Claim7 := { stood := { row := fnBigBothUptoRow, standIns := [], harness := (true, "71d9d33acf8f25ae85008959926334cc9b95db1af76cb41861a174f407db859f"), looks := true }, kinds := [], alts := [], laidByText := true, laidKinds := [.data, .data, .sentinel, .sentinel, .sentinel, .data, .data, .data, .data, .data], laidTests := true, laidLooks := .later }
def FnBigBothUptoCardSaid : Prop := Claim7.holds Tryz.pinned (.plain (OpenSpec.upto fnBigBothSpec)) fnBigBothUptoCard

/-- THE SECOND FORM's CARD OF 'laws.FnBigShift'. -/
def fnBigShiftUptoCard : Claim7 := { stood := { row := fnBigShiftUptoRow, standIns := [], harness := (true, "71d9d33acf8f25ae85008959926334cc9b95db1af76cb41861a174f407db859f"), looks := true }, kinds := [], alts := [], laidByText := true, laidKinds := [.data, .data, .sentinel, .sentinel, .sentinel, .data, .data, .data, .data, .data], laidTests := true, laidLooks := .later }
def FnBigShiftUptoCardSaid : Prop := Claim7.holds Tryz.pinned (.plain (OpenSpec.upto fnBigShiftSpec)) fnBigShiftUptoCard

/-- THE SECOND FORM's CARD OF 'laws.FnBigText'. -/
def fnBigTextUptoCard : Claim7 := { stood := { row := fnBigTextUptoRow, standIns := [], harness := (true, "71d9d33acf8f25ae85008959926334cc9b95db1af76cb41861a174f407db859f"), looks := true }, kinds := [], alts := [], laidByText := true, laidKinds := [.data, .data, .sentinel, .sentinel, .sentinel, .data, .data, .data, .data, .data], laidTests := true, laidLooks := .later }
def FnBigTextUptoCardSaid : Prop := Claim7.holds Tryz.pinned (.plain (OpenSpec.upto fnBigTextSpec)) fnBigTextUptoCard

/-- THE SECOND FORM's CARD OF 'laws.FnBigPower'. -/
def fnBigPowerUptoCard : Claim7 := { stood := { row := fnBigPowerUptoRow, standIns := [], harness := (true, "71d9d33acf8f25ae85008959926334cc9b95db1af76cb41861a174f407db859f"), looks := true }, kinds := [], alts := [], laidByText := true, laidKinds := [.data, .data, .sentinel, .sentinel, .sentinel, .data, .data, .data, .data, .data], laidTests := true, laidLooks := .later }
def FnBigPowerUptoCardSaid : Prop := Claim7.holds Tryz.pinned (.plain (OpenSpec.upto fnBigPowerSpec)) fnBigPowerUptoCard

/-- THE SECOND FORM's CARD OF 'laws.FnBigBit'. -/
def fnBigBitUptoCard : Claim7 := { stood := { row := fnBigBitUptoRow, standIns := [], harness := (true, "71d9d33acf8f25ae85008959926334cc9b95db1af76cb41861a174f407db859f"), looks := true }, kinds := [], alts := [], laidByText := true, laidKinds := [.data, .data, .sentinel, .sentinel, .sentinel, .data, .data, .data, .data, .data], laidTests := true, laidLooks := .later }
def FnBigBitUptoCardSaid : Prop := Claim7.holds Tryz.pinned (.plain (OpenSpec.upto fnBigBitSpec)) fnBigBitUptoCard

/-- THE SECOND FORM's CARD OF 'laws.FnBigBytes'. -/
def fnBigBytesUptoCard : Claim7 := { stood := { row := fnBigBytesUptoRow, standIns := [], harness := (true, "71d9d33acf8f25ae85008959926334cc9b95db1af76cb41861a174f407db859f"), looks := true }, kinds := [], alts := [], laidByText := true, laidKinds := [.data, .data, .sentinel, .sentinel, .sentinel, .data, .data, .data, .data, .data], laidTests := true, laidLooks := .later }
def FnBigBytesUptoCardSaid : Prop := Claim7.holds Tryz.pinned (.plain (OpenSpec.upto fnBigBytesSpec)) fnBigBytesUptoCard

/-- THE SECOND FORM's CARD OF 'laws.FnBigRange'. -/
def fnBigRangeUptoCard : Claim7 := { stood := { row := fnBigRangeUptoRow, standIns := [], harness := (true, "71d9d33acf8f25ae85008959926334cc9b95db1af76cb41861a174f407db859f"), looks := true }, kinds := [], alts := [], laidByText := true, laidKinds := [.data, .data, .sentinel, .sentinel, .sentinel, .data, .data, .data, .data, .data], laidTests := true, laidLooks := .later }
def FnBigRangeUptoCardSaid : Prop := Claim7.holds Tryz.pinned (.plain (OpenSpec.upto fnBigRangeSpec)) fnBigRangeUptoCard

/-- THE SECOND FORM's CARD OF 'laws.FnBigOne'. -/
def fnBigOneUptoCard : Claim7 := { stood := { row := fnBigOneUptoRow, standIns := [], harness := (true, "71d9d33acf8f25ae85008959926334cc9b95db1af76cb41861a174f407db859f"), looks := true }, kinds := [], alts := [], laidByText := true, laidKinds := [.data, .data, .sentinel, .sentinel, .sentinel, .data, .data, .data, .data, .data], laidTests := true, laidLooks := .later }
def FnBigOneUptoCardSaid : Prop := Claim7.holds Tryz.pinned (.plain (OpenSpec.upto fnBigOneSpec)) fnBigOneUptoCard

/-- THE SECOND FORM's CARD OF 'laws.FnBigTell'. -/
def fnBigTellUptoCard : Claim7 := { stood := { row := fnBigTellUptoRow, standIns := [], harness := (true, "71d9d33acf8f25ae85008959926334cc9b95db1af76cb41861a174f407db859f"), looks := true }, kinds := [], alts := [], laidByText := true, laidKinds := [.data, .data, .sentinel, .sentinel, .sentinel, .data, .data, .data, .data, .data], laidTests := true, laidLooks := .later }
def FnBigTellUptoCardSaid : Prop := Claim7.holds Tryz.pinned (.plain (OpenSpec.upto fnBigTellSpec)) fnBigTellUptoCard
end Rows
end Go.Proofs.YtacbllkmcldniaaGreatDoor
