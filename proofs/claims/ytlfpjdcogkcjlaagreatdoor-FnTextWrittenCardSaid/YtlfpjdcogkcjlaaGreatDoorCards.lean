/-
  DERIVED. GIVEN WITH THE SEED: THE CARDS: each row of YtlfpjdcogkcjlaaGreatDoorRows.lean that lists a variable, with what it lists TIED to the program's text (the seventh form; the later family's looks); each row that meets fmt, with fmt's text TOLD by the authors' own Lean function (tested against real Go, not proved from fmt's source: count such statements apart). THE CARD IS WHAT COUNTS. Prove the row's statement (the work); the ties are given (YtlfpjdcogkcjlaaGreatDoorTie.lean); close each card by the builder's one call (the guide's Derived/Test/ToyasCard.lean, 'card_holds'). Laid BY PROGRAM, IN A SANDBOX (cutbox-door.mjs). By AI agents, Wed Nov 11 2026. No macro, syntax, notation, axiom, sorry.
-/
import Derived.Test.YtlfpjdcogkcjlaaGreatDoorRows
import GoSem.ClaimSeven
namespace Go.Proofs.YtlfpjdcogkcjlaaGreatDoor
namespace Rows

/-- THE TIED CARD OF 'laws.FnTextBad'. -/
def fnTextBadCard : Claim7 := { stood := { row := fnTextBadRow, standIns := [], harness := (true, "e05b584225b91a38bddd89eed37816bb851855c99743a1c5f8e262895d09c1d3"), looks := true }, kinds := [], alts := [], laidByText := true, laidKinds := [.data, .data, .data, .data, .sentinel, .sentinel, .listed, .data, .data, .data, .data, .data, .data, .data, .data, .pinned, .pinned], laidTests := true, laidLooks := .later }
def FnTextBadCardSaid : Prop := Claim7.holds Tryz.pinned (.plain (OpenSpec.ofChange fnTextBadSpec)) fnTextBadCard

/-- THE TIED CARD OF 'laws.FnTextOrder'. -/
def fnTextOrderCard : Claim7 := { stood := { row := fnTextOrderRow, standIns := [], harness := (true, "e05b584225b91a38bddd89eed37816bb851855c99743a1c5f8e262895d09c1d3"), looks := true }, kinds := [], alts := [], laidByText := true, laidKinds := [.data, .data, .data, .data, .sentinel, .sentinel, .listed, .data, .data, .data, .data, .data, .data, .data, .data, .pinned, .pinned], laidTests := true, laidLooks := .later }
def FnTextOrderCardSaid : Prop := Claim7.holds Tryz.pinned (.plain (OpenSpec.ofChange fnTextOrderSpec)) fnTextOrderCard

/-- THE TIED CARD OF 'laws.FnTextParts'. -/
def fnTextPartsCard : Claim7 := { stood := { row := fnTextPartsRow, standIns := [], harness := (true, "e05b584225b91a38bddd89eed37816bb851855c99743a1c5f8e262895d09c1d3"), looks := true }, kinds := [], alts := [], laidByText := true, laidKinds := [.data, .data, .data, .data, .sentinel, .sentinel, .listed, .data, .data, .data, .data, .data, .data, .data, .data, .pinned, .pinned], laidTests := true, laidLooks := .later }
def FnTextPartsCardSaid : Prop := Claim7.holds Tryz.pinned (.plain (OpenSpec.ofChange fnTextPartsSpec)) fnTextPartsCard

/-- THE TIED CARD OF 'laws.FnTextRead'. -/
def fnTextReadCard : Claim7 := { stood := { row := fnTextReadRow, standIns := [], harness := (true, "e05b584225b91a38bddd89eed37816bb851855c99743a1c5f8e262895d09c1d3"), looks := true }, kinds := [], alts := [], laidByText := true, laidKinds := [.data, .data, .data, .data, .sentinel, .sentinel, .listed, .data, .data, .data, .data, .data, .data, .data, .data, .pinned, .pinned], laidTests := true, laidLooks := .later }
def FnTextReadCardSaid : Prop := Claim7.holds Tryz.pinned (.plain (OpenSpec.ofChange fnTextReadSpec)) fnTextReadCard

/-- THE TIED CARD OF 'laws.FnTextNames'. -/
def fnTextNamesCard : Claim7 := { stood := { row := fnTextNamesRow, standIns := [], harness := (true, "e05b584225b91a38bddd89eed37816bb851855c99743a1c5f8e262895d09c1d3"), looks := true }, kinds := [], alts := [], laidByText := true, laidKinds := [.data, .data, .data, .data, .sentinel, .sentinel, .listed, .data, .data, .data, .data, .data, .data, .data, .data, .pinned, .pinned], laidTests := true, laidLooks := .later }
def FnTextNamesCardSaid : Prop := Claim7.holds Tryz.pinned (.plain (OpenSpec.ofChange fnTextNamesSpec)) fnTextNamesCard

/-- THE TIED CARD OF 'laws.FnTextDates'. -/
def fnTextDatesCard : Claim7 := { stood := { row := fnTextDatesRow, standIns := [], harness := (true, "e05b584225b91a38bddd89eed37816bb851855c99743a1c5f8e262895d09c1d3"), looks := true }, kinds := [], alts := [], laidByText := true, laidKinds := [.data, .data, .data, .data, .sentinel, .sentinel, .listed, .data, .data, .data, .data, .data, .data, .data, .data, .pinned, .pinned], laidTests := true, laidLooks := .later }
def FnTextDatesCardSaid : Prop := Claim7.holds Tryz.pinned (.plain (OpenSpec.ofChange fnTextDatesSpec)) fnTextDatesCard

/-- THE TIED CARD OF 'laws.FnTextBack'. -/
def fnTextBackCard : Claim7 := { stood := { row := fnTextBackRow, standIns := [], harness := (true, "e05b584225b91a38bddd89eed37816bb851855c99743a1c5f8e262895d09c1d3"), looks := true }, kinds := [], alts := [], laidByText := true, laidKinds := [.data, .data, .data, .data, .sentinel, .sentinel, .listed, .data, .data, .data, .data, .data, .data, .data, .data, .pinned, .pinned], laidTests := true, laidLooks := .later }
def FnTextBackCardSaid : Prop := Claim7.holds Tryz.pinned (.plain (OpenSpec.ofChange fnTextBackSpec)) fnTextBackCard

/-- THE TIED CARD OF 'laws.FnTextWritten'. -/
def fnTextWrittenCard : Claim7 := { stood := { row := fnTextWrittenRow, standIns := [], harness := (true, "e05b584225b91a38bddd89eed37816bb851855c99743a1c5f8e262895d09c1d3"), looks := true }, kinds := [], alts := [], laidByText := true, laidKinds := [.data, .data, .data, .data, .sentinel, .sentinel, .listed, .data, .data, .data, .data, .data, .data, .data, .data, .pinned, .pinned], laidTests := true, laidLooks := .later }
def FnTextWrittenCardSaid : Prop := Claim7.holds Tryz.pinned (.plain (OpenSpec.ofChange fnTextWrittenSpec)) fnTextWrittenCard

/-- THE SECOND FORM's CARD OF 'laws.FnTextBad'. -/
def fnTextBadUptoCard : Claim7 := { stood := { row := fnTextBadUptoRow, standIns := [], harness := (true, "e05b584225b91a38bddd89eed37816bb851855c99743a1c5f8e262895d09c1d3"), looks := true }, kinds := [], alts := [], laidByText := true, laidKinds := [.data, .data, .data, .data, .sentinel, .sentinel, .listed, .data, .data, .data, .data, .data, .data, .data, .data, .pinned, .pinned], laidTests := true, laidLooks := .later }
def FnTextBadUptoCardSaid : Prop := Claim7.holds Tryz.pinned (.plain (OpenSpec.upto fnTextBadSpec)) fnTextBadUptoCard

/-- THE SECOND FORM's CARD OF 'laws.FnTextOrder'. -/
def fnTextOrderUptoCard : Claim7 := { stood := { row := fnTextOrderUptoRow, standIns := [], harness := (true, "e05b584225b91a38bddd89eed37816bb851855c99743a1c5f8e262895d09c1d3"), looks := true }, kinds := [], alts := [], laidByText := true, laidKinds := [.data, .data, .data, .data, .sentinel, .sentinel, .listed, .data, .data, .data, .data, .data, .data, .data, .data, .pinned, .pinned], laidTests := true, laidLooks := .later }
def FnTextOrderUptoCardSaid : Prop := Claim7.holds Tryz.pinned (.plain (OpenSpec.upto fnTextOrderSpec)) fnTextOrderUptoCard

/-- THE SECOND FORM's CARD OF 'laws.FnTextParts'. -/
def fnTextPartsUptoCard : Claim7 := { stood := { row := fnTextPartsUptoRow, standIns := [], harness := (true, "e05b584225b91a38bddd89eed37816bb851855c99743a1c5f8e262895d09c1d3"), looks := true }, kinds := [], alts := [], laidByText := true, laidKinds := [.data, .data, .data, .data, .sentinel, .sentinel, .listed, .data, .data, .data, .data, .data, .data, .data, .data, .pinned, .pinned], laidTests := true, laidLooks := .later }
def FnTextPartsUptoCardSaid : Prop := Claim7.holds Tryz.pinned (.plain (OpenSpec.upto fnTextPartsSpec)) fnTextPartsUptoCard

/-- THE SECOND FORM's CARD OF 'laws.FnTextRead'. -/
def fnTextReadUptoCard : Claim7 := { stood := { row := fnTextReadUptoRow, standIns := [], harness := (true, "e05b584225b91a38bddd89eed37816bb851855c99743a1c5f8e262895d09c1d3"), looks := true }, kinds := [], alts := [], laidByText := true, laidKinds := [.data, .data, .data, .data, .sentinel, .sentinel, .listed, .data, .data, .data, .data, .data, .data, .data, .data, .pinned, .pinned], laidTests := true, laidLooks := .later }
def FnTextReadUptoCardSaid : Prop := Claim7.holds Tryz.pinned (.plain (OpenSpec.upto fnTextReadSpec)) fnTextReadUptoCard

/-- THE SECOND FORM's CARD OF 'laws.FnTextNames'. -/
def fnTextNamesUptoCard : Claim7 := { stood := { row := fnTextNamesUptoRow, standIns := [], harness := (true, "e05b584225b91a38bddd89eed37816bb851855c99743a1c5f8e262895d09c1d3"), looks := true }, kinds := [], alts := [], laidByText := true, laidKinds := [.data, .data, .data, .data, .sentinel, .sentinel, .listed, .data, .data, .data, .data, .data, .data, .data, .data, .pinned, .pinned], laidTests := true, laidLooks := .later }
def FnTextNamesUptoCardSaid : Prop := Claim7.holds Tryz.pinned (.plain (OpenSpec.upto fnTextNamesSpec)) fnTextNamesUptoCard

/-- THE SECOND FORM's CARD OF 'laws.FnTextDates'. -/
def fnTextDatesUptoCard : Claim7 := { stood := { row := fnTextDatesUptoRow, standIns := [], harness := (true, "e05b584225b91a38bddd89eed37816bb851855c99743a1c5f8e262895d09c1d3"), looks := true }, kinds := [], alts := [], laidByText := true, laidKinds := [.data, .data, .data, .data, .sentinel, .sentinel, .listed, .data, .data, .data, .data, .data, .data, .data, .data, .pinned, .pinned], laidTests := true, laidLooks := .later }
def FnTextDatesUptoCardSaid : Prop := Claim7.holds Tryz.pinned (.plain (OpenSpec.upto fnTextDatesSpec)) fnTextDatesUptoCard

/-- THE SECOND FORM's CARD OF 'laws.FnTextBack'. -/
def fnTextBackUptoCard : Claim7 := { stood := { row := fnTextBackUptoRow, standIns := [], harness := (true, "e05b584225b91a38bddd89eed37816bb851855c99743a1c5f8e262895d09c1d3"), looks := true }, kinds := [], alts := [], laidByText := true, laidKinds := [.data, .data, .data, .data, .sentinel, .sentinel, .listed, .data, .data, .data, .data, .data, .data, .data, .data, .pinned, .pinned], laidTests := true, laidLooks := .later }
def FnTextBackUptoCardSaid : Prop := Claim7.holds Tryz.pinned (.plain (OpenSpec.upto fnTextBackSpec)) fnTextBackUptoCard

/-- THE SECOND FORM's CARD OF 'laws.FnTextWritten'. -/
def fnTextWrittenUptoCard : Claim7 := { stood := { row := fnTextWrittenUptoRow, standIns := [], harness := (true, "e05b584225b91a38bddd89eed37816bb851855c99743a1c5f8e262895d09c1d3"), looks := true }, kinds := [], alts := [], laidByText := true, laidKinds := [.data, .data, .data, .data, .sentinel, .sentinel, .listed, .data, .data, .data, .data, .data, .data, .data, .data, .pinned, .pinned], laidTests := true, laidLooks := .later }
def FnTextWrittenUptoCardSaid : Prop := Claim7.holds Tryz.pinned (.plain (OpenSpec.upto fnTextWrittenSpec)) fnTextWrittenUptoCard
end Rows
end Go.Proofs.YtlfpjdcogkcjlaaGreatDoor
