/-
  DERIVED. GIVEN WITH THE SEED: THE CARDS: each row of YtacfhndledcmgaaGreatDoorRows.lean that lists a variable, with what it lists TIED to the program's text (the seventh form; the later family's looks); each row that meets fmt, with fmt's text TOLD by the authors' own Lean function (tested against real Go, not proved from fmt's source: count such statements apart). THE CARD IS WHAT COUNTS. Prove the row's statement (the work); the ties are given (YtacfhndledcmgaaGreatDoorTie.lean); close each card by the builder's one call (the guide's Derived/Test/ToyasCard.lean, 'card_holds'). Laid BY PROGRAM, IN A SANDBOX (cutbox-door.mjs). By AI agents, Wed Nov 11 2026. No macro, syntax, notation, axiom, sorry.
-/
import Derived.Test.YtacfhndledcmgaaGreatDoorRows
import GoSem.ClaimSeven
namespace Go.Proofs.YtacfhndledcmgaaGreatDoor
namespace Rows

/-- THE TIED CARD OF 'laws.FnRatBack'. -/
def fnRatBackCard : Claim7 := { stood := { row := fnRatBackRow, standIns := [], harness := (true, "7004332eaad55ccca43823dade336af8d419d72b59d3cde93fbff78c7539fdcd"), looks := true }, kinds := [], alts := [], laidByText := true, laidKinds := [.data, .data, .data, .sentinel, .sentinel, .sentinel, .sentinel, .sentinel, .data, .data, .data, .data, .data], laidTests := true, laidLooks := .later }
def FnRatBackCardSaid : Prop := Claim7.holds Tryz.pinned (.plain (OpenSpec.ofChange fnRatBackSpec)) fnRatBackCard

/-- THE TIED CARD OF 'laws.FnFixed'. -/
def fnFixedCard : Claim7 := { stood := { row := fnFixedRow, standIns := [], harness := (true, "7004332eaad55ccca43823dade336af8d419d72b59d3cde93fbff78c7539fdcd"), looks := true }, kinds := [], alts := [], laidByText := true, laidKinds := [.data, .data, .data, .data, .data, .data, .data, .data, .data, .pinned], laidTests := true, laidLooks := .later }
def FnFixedCardSaid : Prop := Claim7.holds Tryz.pinned (.plain (OpenSpec.ofChange fnFixedSpec)) fnFixedCard

/-- THE TIED CARD OF 'laws.FnOtherFormat'. -/
def fnOtherFormatCard : Claim7 := { stood := { row := fnOtherFormatRow, standIns := [], harness := (true, "7004332eaad55ccca43823dade336af8d419d72b59d3cde93fbff78c7539fdcd"), looks := true }, kinds := [], alts := [], laidByText := true, laidKinds := [.data, .data, .data, .data, .data, .data, .data, .data, .data, .pinned], laidTests := true, laidLooks := .later }
def FnOtherFormatCardSaid : Prop := Claim7.holds Tryz.pinned (.plain (OpenSpec.ofChange fnOtherFormatSpec)) fnOtherFormatCard

/-- THE TIED CARD OF 'laws.FnScientific'. -/
def fnScientificCard : Claim7 := { stood := { row := fnScientificRow, standIns := [], harness := (true, "7004332eaad55ccca43823dade336af8d419d72b59d3cde93fbff78c7539fdcd"), looks := true }, kinds := [], alts := [], laidByText := true, laidKinds := [.data, .data, .data, .data, .data, .data, .data, .data, .data, .pinned], laidTests := true, laidLooks := .later }
def FnScientificCardSaid : Prop := Claim7.holds Tryz.pinned (.plain (OpenSpec.ofChange fnScientificSpec)) fnScientificCard

/-- THE TIED CARD OF 'laws.FnShortest'. -/
def fnShortestCard : Claim7 := { stood := { row := fnShortestRow, standIns := [], harness := (true, "7004332eaad55ccca43823dade336af8d419d72b59d3cde93fbff78c7539fdcd"), looks := true }, kinds := [], alts := [], laidByText := true, laidKinds := [.data, .data, .data, .data, .data, .data, .data, .data, .data, .pinned], laidTests := true, laidLooks := .later }
def FnShortestCardSaid : Prop := Claim7.holds Tryz.pinned (.plain (OpenSpec.ofChange fnShortestSpec)) fnShortestCard

/-- THE TIED CARD OF 'laws.FnBack'. -/
def fnBackCard : Claim7 := { stood := { row := fnBackRow, standIns := [], harness := (true, "7004332eaad55ccca43823dade336af8d419d72b59d3cde93fbff78c7539fdcd"), looks := true }, kinds := [], alts := [], laidByText := true, laidKinds := [.data, .data, .data, .data, .sentinel, .sentinel, .sentinel, .data, .sentinel, .sentinel, .data, .data, .data, .data, .data, .pinned], laidTests := true, laidLooks := .later }
def FnBackCardSaid : Prop := Claim7.holds Tryz.pinned (.plain (OpenSpec.ofChange fnBackSpec)) fnBackCard

/-- THE TIED CARD OF 'laws.FnBackDecimal'. -/
def fnBackDecimalCard : Claim7 := { stood := { row := fnBackDecimalRow, standIns := [], harness := (true, "7004332eaad55ccca43823dade336af8d419d72b59d3cde93fbff78c7539fdcd"), looks := true }, kinds := [], alts := [], laidByText := true, laidKinds := [.data, .data, .data, .data, .sentinel, .sentinel, .sentinel, .data, .sentinel, .sentinel, .data, .data, .data, .data, .data, .pinned], laidTests := true, laidLooks := .later }
def FnBackDecimalCardSaid : Prop := Claim7.holds Tryz.pinned (.plain (OpenSpec.ofChange fnBackDecimalSpec)) fnBackDecimalCard

/-- THE SECOND FORM's CARD OF 'laws.FnRatBack'. -/
def fnRatBackUptoCard : Claim7 := { stood := { row := fnRatBackUptoRow, standIns := [], harness := (true, "7004332eaad55ccca43823dade336af8d419d72b59d3cde93fbff78c7539fdcd"), looks := true }, kinds := [], alts := [], laidByText := true, laidKinds := [.data, .data, .data, .sentinel, .sentinel, .sentinel, .sentinel, .sentinel, .data, .data, .data, .data, .data], laidTests := true, laidLooks := .later }
def FnRatBackUptoCardSaid : Prop := Claim7.holds Tryz.pinned (.plain (OpenSpec.upto fnRatBackSpec)) fnRatBackUptoCard

/-- THE SECOND FORM's CARD OF 'laws.FnFixed'. -/
def fnFixedUptoCard : Claim7 := { stood := { row := fnFixedUptoRow, standIns := [], harness := (true, "7004332eaad55ccca43823dade336af8d419d72b59d3cde93fbff78c7539fdcd"), looks := true }, kinds := [], alts := [], laidByText := true, laidKinds := [.data, .data, .data, .data, .data, .data, .data, .data, .data, .pinned], laidTests := true, laidLooks := .later }
def FnFixedUptoCardSaid : Prop := Claim7.holds Tryz.pinned (.plain (OpenSpec.upto fnFixedSpec)) fnFixedUptoCard

/-- THE SECOND FORM's CARD OF 'laws.FnOtherFormat'. -/
def fnOtherFormatUptoCard : Claim7 := { stood := { row := fnOtherFormatUptoRow, standIns := [], harness := (true, "7004332eaad55ccca43823dade336af8d419d72b59d3cde93fbff78c7539fdcd"), looks := true }, kinds := [], alts := [], laidByText := true, laidKinds := [.data, .data, .data, .data, .data, .data, .data, .data, .data, .pinned], laidTests := true, laidLooks := .later }
def FnOtherFormatUptoCardSaid : Prop := Claim7.holds Tryz.pinned (.plain (OpenSpec.upto fnOtherFormatSpec)) fnOtherFormatUptoCard

/-- THE SECOND FORM's CARD OF 'laws.FnScientific'. -/
def fnScientificUptoCard : Claim7 := { stood := { row := fnScientificUptoRow, standIns := [], harness := (true, "7004332eaad55ccca43823dade336af8d419d72b59d3cde93fbff78c7539fdcd"), looks := true }, kinds := [], alts := [], laidByText := true, laidKinds := [.data, .data, .data, .data, .data, .data, .data, .data, .data, .pinned], laidTests := true, laidLooks := .later }
def FnScientificUptoCardSaid : Prop := Claim7.holds Tryz.pinned (.plain (OpenSpec.upto fnScientificSpec)) fnScientificUptoCard

/-- THE SECOND FORM's CARD OF 'laws.FnShortest'. -/
def fnShortestUptoCard : Claim7 := { stood := { row := fnShortestUptoRow, standIns := [], harness := (true, "7004332eaad55ccca43823dade336af8d419d72b59d3cde93fbff78c7539fdcd"), looks := true }, kinds := [], alts := [], laidByText := true, laidKinds := [.data, .data, .data, .data, .data, .data, .data, .data, .data, .pinned], laidTests := true, laidLooks := .later }
def FnShortestUptoCardSaid : Prop := Claim7.holds Tryz.pinned (.plain (OpenSpec.upto fnShortestSpec)) fnShortestUptoCard

/-- THE SECOND FORM's CARD OF 'laws.FnBack'. -/
def fnBackUptoCard : Claim7 := { stood := { row := fnBackUptoRow, standIns := [], harness := (true, "7004332eaad55ccca43823dade336af8d419d72b59d3cde93fbff78c7539fdcd"), looks := true }, kinds := [], alts := [], laidByText := true, laidKinds := [.data, .data, .data, .data, .sentinel, .sentinel, .sentinel, .data, .sentinel, .sentinel, .data, .data, .data, .data, .data, .pinned], laidTests := true, laidLooks := .later }
def FnBackUptoCardSaid : Prop := Claim7.holds Tryz.pinned (.plain (OpenSpec.upto fnBackSpec)) fnBackUptoCard

/-- THE SECOND FORM's CARD OF 'laws.FnBackDecimal'. -/
def fnBackDecimalUptoCard : Claim7 := { stood := { row := fnBackDecimalUptoRow, standIns := [], harness := (true, "7004332eaad55ccca43823dade336af8d419d72b59d3cde93fbff78c7539fdcd"), looks := true }, kinds := [], alts := [], laidByText := true, laidKinds := [.data, .data, .data, .data, .sentinel, .sentinel, .sentinel, .data, .sentinel, .sentinel, .data, .data, .data, .data, .data, .pinned], laidTests := true, laidLooks := .later }
def FnBackDecimalUptoCardSaid : Prop := Claim7.holds Tryz.pinned (.plain (OpenSpec.upto fnBackDecimalSpec)) fnBackDecimalUptoCard
end Rows
end Go.Proofs.YtacfhndledcmgaaGreatDoor
