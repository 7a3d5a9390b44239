/-
  DERIVED. GIVEN WITH THE SEED: THE CARDS: each row of YtcjebcenbimcgaaGreatDoorRows.lean that lists a variable, with what it lists TIED to the program's text (the seventh form; the later family's looks); each row that meets fmt, with fmt's text TOLD by the authors' own Lean function (tested against real Go, not proved from fmt's source: count such statements apart). THE CARD IS WHAT COUNTS. Prove the row's statement (the work); the ties are given (YtcjebcenbimcgaaGreatDoorTie.lean); close each card by the builder's one call (the guide's Derived/Test/ToyasCard.lean, 'card_holds'). Laid BY PROGRAM, IN A SANDBOX (cutbox-door.mjs). By AI agents, Wed Nov 11 2026. No macro, syntax, notation, axiom, sorry.
-/
import Derived.Test.YtcjebcenbimcgaaGreatDoorRows
import GoSem.ClaimSeven
namespace Go.Proofs.YtcjebcenbimcgaaGreatDoor
namespace Rows

/-- THE TIED CARD OF 'laws.FnSchedstatRead'. -/
def fnSchedstatReadCard : Claim7 := { stood := { row := fnSchedstatReadRow, standIns := [], harness := (true, "104dfce9ee0180891e0ca8a59891a5d69823af51b071f2e08d00d69aeefbb74f"), looks := true }, kinds := [], alts := [], laidByText := true, laidKinds := [.data, .data, .widerDeep, .widerDeep, .data, .data, .data, .data, .data, .sentinel, .sentinel, .listed, .data, .pinned, .pinned], laidTests := true, laidLooks := .later }
def FnSchedstatReadCardSaid : Prop := Claim7.holds Tryz.pinned (.plain (OpenSpec.ofChange fnSchedstatReadSpec)) fnSchedstatReadCard

/-- THE TIED CARD OF 'laws.FnSoftirqsNormal'. -/
def fnSoftirqsNormalCard : Claim7 := { stood := { row := fnSoftirqsNormalRow, standIns := [], harness := (true, "104dfce9ee0180891e0ca8a59891a5d69823af51b071f2e08d00d69aeefbb74f"), looks := true }, kinds := [], alts := [], laidByText := true, laidKinds := [.data, .data, .widerDeep, .widerDeep, .data, .data, .data, .data, .data, .sentinel, .sentinel, .listed, .data, .pinned, .pinned], laidTests := true, laidLooks := .later }
def FnSoftirqsNormalCardSaid : Prop := Claim7.holds Tryz.pinned (.plain (OpenSpec.ofChange fnSoftirqsNormalSpec)) fnSoftirqsNormalCard

/-- THE TIED CARD OF 'laws.FnSoftirqsRead'. -/
def fnSoftirqsReadCard : Claim7 := { stood := { row := fnSoftirqsReadRow, standIns := [], harness := (true, "104dfce9ee0180891e0ca8a59891a5d69823af51b071f2e08d00d69aeefbb74f"), looks := true }, kinds := [], alts := [], laidByText := true, laidKinds := [.data, .data, .widerDeep, .widerDeep, .data, .data, .data, .data, .data, .sentinel, .sentinel, .listed, .data, .pinned, .pinned], laidTests := true, laidLooks := .later }
def FnSoftirqsReadCardSaid : Prop := Claim7.holds Tryz.pinned (.plain (OpenSpec.ofChange fnSoftirqsReadSpec)) fnSoftirqsReadCard

/-- THE TIED CARD OF 'laws.FnWirelessBack'. -/
def fnWirelessBackCard : Claim7 := { stood := { row := fnWirelessBackRow, standIns := [], harness := (true, "104dfce9ee0180891e0ca8a59891a5d69823af51b071f2e08d00d69aeefbb74f"), looks := true }, kinds := [], alts := [], laidByText := true, laidKinds := [.data, .data, .widerDeep, .widerDeep, .data, .data, .data, .data, .data, .data, .sentinel, .sentinel, .listed, .data, .pinned, .pinned, .pinned], laidTests := true, laidLooks := .later }
def FnWirelessBackCardSaid : Prop := Claim7.holds Tryz.pinned (.plain (OpenSpec.ofChange fnWirelessBackSpec)) fnWirelessBackCard

/-- THE TIED CARD OF 'laws.FnWirelessNormal'. -/
def fnWirelessNormalCard : Claim7 := { stood := { row := fnWirelessNormalRow, standIns := [], harness := (true, "104dfce9ee0180891e0ca8a59891a5d69823af51b071f2e08d00d69aeefbb74f"), looks := true }, kinds := [], alts := [], laidByText := true, laidKinds := [.data, .data, .widerDeep, .widerDeep, .data, .data, .data, .data, .data, .data, .sentinel, .sentinel, .listed, .data, .pinned, .pinned, .pinned], laidTests := true, laidLooks := .later }
def FnWirelessNormalCardSaid : Prop := Claim7.holds Tryz.pinned (.plain (OpenSpec.ofChange fnWirelessNormalSpec)) fnWirelessNormalCard

/-- THE TIED CARD OF 'laws.FnWirelessRead'. -/
def fnWirelessReadCard : Claim7 := { stood := { row := fnWirelessReadRow, standIns := [], harness := (true, "104dfce9ee0180891e0ca8a59891a5d69823af51b071f2e08d00d69aeefbb74f"), looks := true }, kinds := [], alts := [], laidByText := true, laidKinds := [.data, .data, .widerDeep, .widerDeep, .data, .data, .data, .data, .data, .data, .sentinel, .sentinel, .listed, .data, .pinned, .pinned, .pinned], laidTests := true, laidLooks := .later }
def FnWirelessReadCardSaid : Prop := Claim7.holds Tryz.pinned (.plain (OpenSpec.ofChange fnWirelessReadSpec)) fnWirelessReadCard

/-- THE TIED CARD OF 'laws.FnNfsClientBack'. -/
def fnNfsClientBackCard : Claim7 := { stood := { row := fnNfsClientBackRow, standIns := [], harness := (true, "104dfce9ee0180891e0ca8a59891a5d69823af51b071f2e08d00d69aeefbb74f"), looks := true }, kinds := [], alts := [], laidByText := true, laidKinds := [.data, .data, .widerDeep, .widerDeep, .data, .data, .data, .data, .data, .sentinel, .sentinel, .listed, .data, .pinned, .pinned], laidTests := true, laidLooks := .later }
def FnNfsClientBackCardSaid : Prop := Claim7.holds Tryz.pinned (.plain (OpenSpec.ofChange fnNfsClientBackSpec)) fnNfsClientBackCard

/-- THE TIED CARD OF 'laws.FnNfsClientNormal'. -/
def fnNfsClientNormalCard : Claim7 := { stood := { row := fnNfsClientNormalRow, standIns := [], harness := (true, "104dfce9ee0180891e0ca8a59891a5d69823af51b071f2e08d00d69aeefbb74f"), looks := true }, kinds := [], alts := [], laidByText := true, laidKinds := [.data, .data, .widerDeep, .widerDeep, .data, .data, .data, .data, .data, .sentinel, .sentinel, .listed, .data, .pinned, .pinned], laidTests := true, laidLooks := .later }
def FnNfsClientNormalCardSaid : Prop := Claim7.holds Tryz.pinned (.plain (OpenSpec.ofChange fnNfsClientNormalSpec)) fnNfsClientNormalCard

/-- THE TIED CARD OF 'laws.FnNfsClientRead'. -/
def fnNfsClientReadCard : Claim7 := { stood := { row := fnNfsClientReadRow, standIns := [], harness := (true, "104dfce9ee0180891e0ca8a59891a5d69823af51b071f2e08d00d69aeefbb74f"), looks := true }, kinds := [], alts := [], laidByText := true, laidKinds := [.data, .data, .widerDeep, .widerDeep, .data, .data, .data, .data, .data, .sentinel, .sentinel, .listed, .data, .pinned, .pinned], laidTests := true, laidLooks := .later }
def FnNfsClientReadCardSaid : Prop := Claim7.holds Tryz.pinned (.plain (OpenSpec.ofChange fnNfsClientReadSpec)) fnNfsClientReadCard

/-- THE TIED CARD OF 'laws.FnNfsServerBack'. -/
def fnNfsServerBackCard : Claim7 := { stood := { row := fnNfsServerBackRow, standIns := [], harness := (true, "104dfce9ee0180891e0ca8a59891a5d69823af51b071f2e08d00d69aeefbb74f"), looks := true }, kinds := [], alts := [], laidByText := true, laidKinds := [.data, .data, .widerDeep, .widerDeep, .data, .data, .data, .data, .data, .sentinel, .sentinel, .listed, .data, .pinned, .pinned], laidTests := true, laidLooks := .later }
def FnNfsServerBackCardSaid : Prop := Claim7.holds Tryz.pinned (.plain (OpenSpec.ofChange fnNfsServerBackSpec)) fnNfsServerBackCard

/-- THE TIED CARD OF 'laws.FnNfsServerNormal'. -/
def fnNfsServerNormalCard : Claim7 := { stood := { row := fnNfsServerNormalRow, standIns := [], harness := (true, "104dfce9ee0180891e0ca8a59891a5d69823af51b071f2e08d00d69aeefbb74f"), looks := true }, kinds := [], alts := [], laidByText := true, laidKinds := [.data, .data, .widerDeep, .widerDeep, .data, .data, .data, .data, .data, .sentinel, .sentinel, .listed, .data, .pinned, .pinned], laidTests := true, laidLooks := .later }
def FnNfsServerNormalCardSaid : Prop := Claim7.holds Tryz.pinned (.plain (OpenSpec.ofChange fnNfsServerNormalSpec)) fnNfsServerNormalCard

/-- THE TIED CARD OF 'laws.FnNfsServerRead'. -/
def fnNfsServerReadCard : Claim7 := { stood := { row := fnNfsServerReadRow, standIns := [], harness := (true, "104dfce9ee0180891e0ca8a59891a5d69823af51b071f2e08d00d69aeefbb74f"), looks := true }, kinds := [], alts := [], laidByText := true, laidKinds := [.data, .data, .widerDeep, .widerDeep, .data, .data, .data, .data, .data, .sentinel, .sentinel, .listed, .data, .pinned, .pinned], laidTests := true, laidLooks := .later }
def FnNfsServerReadCardSaid : Prop := Claim7.holds Tryz.pinned (.plain (OpenSpec.ofChange fnNfsServerReadSpec)) fnNfsServerReadCard

/-- THE SECOND FORM's CARD OF 'laws.FnSchedstatRead'. -/
def fnSchedstatReadUptoCard : Claim7 := { stood := { row := fnSchedstatReadUptoRow, standIns := [], harness := (true, "104dfce9ee0180891e0ca8a59891a5d69823af51b071f2e08d00d69aeefbb74f"), looks := true }, kinds := [], alts := [], laidByText := true, laidKinds := [.data, .data, .widerDeep, .widerDeep, .data, .data, .data, .data, .data, .sentinel, .sentinel, .listed, .data, .pinned, .pinned], laidTests := true, laidLooks := .later }
def FnSchedstatReadUptoCardSaid : Prop := Claim7.holds Tryz.pinned (.plain (OpenSpec.upto fnSchedstatReadSpec)) fnSchedstatReadUptoCard

/-- THE SECOND FORM's CARD OF 'laws.FnSoftirqsNormal'. -/
def fnSoftirqsNormalUptoCard : Claim7 := { stood := { row := fnSoftirqsNormalUptoRow, standIns := [], harness := (true, "104dfce9ee0180891e0ca8a59891a5d69823af51b071f2e08d00d69aeefbb74f"), looks := true }, kinds := [], alts := [], laidByText := true, laidKinds := [.data, .data, .widerDeep, .widerDeep, .data, .data, .data, .data, .data, .sentinel, .sentinel, .listed, .data, .pinned, .pinned], laidTests := true, laidLooks := .later }
def FnSoftirqsNormalUptoCardSaid : Prop := Claim7.holds Tryz.pinned (.plain (OpenSpec.upto fnSoftirqsNormalSpec)) fnSoftirqsNormalUptoCard

/-- THE SECOND FORM's CARD OF 'laws.FnSoftirqsRead'. -/
def fnSoftirqsReadUptoCard : Claim7 := { stood := { row := fnSoftirqsReadUptoRow, standIns := [], harness := (true, "104dfce9ee0180891e0ca8a59891a5d69823af51b071f2e08d00d69aeefbb74f"), looks := true }, kinds := [], alts := [], laidByText := true, laidKinds := [.data, .data, .widerDeep, .widerDeep, .data, .data, .data, .data, .data, .sentinel, .sentinel, .listed, .data, .pinned, .pinned], laidTests := true, laidLooks := .later }
def FnSoftirqsReadUptoCardSaid : Prop := Claim7.holds Tryz.pinned (.plain (OpenSpec.upto fnSoftirqsReadSpec)) fnSoftirqsReadUptoCard

/-- THE SECOND FORM's CARD OF 'laws.FnWirelessBack'. -/
def fnWirelessBackUptoCard : Claim7 := { stood := { row := fnWirelessBackUptoRow, standIns := [], harness := (true, "104dfce9ee0180891e0ca8a59891a5d69823af51b071f2e08d00d69aeefbb74f"), looks := true }, kinds := [], alts := [], laidByText := true, laidKinds := [.data, .data, .widerDeep, .widerDeep, .data, .data, .data, .data, .data, .data, .sentinel, .sentinel, .listed, .data, .pinned, .pinned, .pinned], laidTests := true, laidLooks := .later }
def FnWirelessBackUptoCardSaid : Prop := Claim7.holds Tryz.pinned (.plain (OpenSpec.upto fnWirelessBackSpec)) fnWirelessBackUptoCard

/-- THE SECOND FORM's CARD OF 'laws.FnWirelessNormal'. -/
def fnWirelessNormalUptoCard : Claim7 := { stood := { row := fnWirelessNormalUptoRow, standIns := [], harness := (true, "104dfce9ee0180891e0ca8a59891a5d69823af51b071f2e08d00d69aeefbb74f"), looks := true }, kinds := [], alts := [], laidByText := true, laidKinds := [.data, .data, .widerDeep, .widerDeep, .data, .data, .data, .data, .data, .data, .sentinel, .sentinel, .listed, .data, .pinned, .pinned, .pinned], laidTests := true, laidLooks := .later }
def FnWirelessNormalUptoCardSaid : Prop := Claim7.holds Tryz.pinned (.plain (OpenSpec.upto fnWirelessNormalSpec)) fnWirelessNormalUptoCard

/-- THE SECOND FORM's CARD OF 'laws.FnWirelessRead'. -/
def fnWirelessReadUptoCard : Claim7 := { stood := { row := fnWirelessReadUptoRow, standIns := [], harness := (true, "104dfce9ee0180891e0ca8a59891a5d69823af51b071f2e08d00d69aeefbb74f"), looks := true }, kinds := [], alts := [], laidByText := true, laidKinds := [.data, .data, .widerDeep, .widerDeep, .data, .data, .data, .data, .data, .data, .sentinel, .sentinel, .listed, .data, .pinned, .pinned, .pinned], laidTests := true, laidLooks := .later }
def FnWirelessReadUptoCardSaid : Prop := Claim7.holds Tryz.pinned (.plain (OpenSpec.upto fnWirelessReadSpec)) fnWirelessReadUptoCard

/-- THE SECOND FORM's CARD OF 'laws.FnNfsClientBack'. -/
def fnNfsClientBackUptoCard : Claim7 := { stood := { row := fnNfsClientBackUptoRow, standIns := [], harness := (true, "104dfce9ee0180891e0ca8a59891a5d69823af51b071f2e08d00d69aeefbb74f"), looks := true }, kinds := [], alts := [], laidByText := true, laidKinds := [.data, .data, .widerDeep, .widerDeep, .data, .data, .data, .data, .data, .sentinel, .sentinel, .listed, .data, .pinned, .pinned], laidTests := true, laidLooks := .later }
def FnNfsClientBackUptoCardSaid : Prop := Claim7.holds Tryz.pinned (.plain (OpenSpec.upto fnNfsClientBackSpec)) fnNfsClientBackUptoCard

/-- THE SECOND FORM's CARD OF 'laws.FnNfsClientNormal'. -/
def fnNfsClientNormalUptoCard : Claim7 := { stood := { row := fnNfsClientNormalUptoRow, standIns := [], harness := (true, "104dfce9ee0180891e0ca8a59891a5d69823af51b071f2e08d00d69aeefbb74f"), looks := true }, kinds := [], alts := [], laidByText := true, laidKinds := [.data, .data, .widerDeep, .widerDeep, .data, .data, .data, .data, .data, .sentinel, .sentinel, .listed, .data, .pinned, .pinned], laidTests := true, laidLooks := .later }
def FnNfsClientNormalUptoCardSaid : Prop := Claim7.holds Tryz.pinned (.plain (OpenSpec.upto fnNfsClientNormalSpec)) fnNfsClientNormalUptoCard

/-- THE SECOND FORM's CARD OF 'laws.FnNfsClientRead'. -/
def fnNfsClientReadUptoCard : Claim7 := { stood := { row := fnNfsClientReadUptoRow, standIns := [], harness := (true, "104dfce9ee0180891e0ca8a59891a5d69823af51b071f2e08d00d69aeefbb74f"), looks := true }, kinds := [], alts := [], laidByText := true, laidKinds := [.data, .data, .widerDeep, .widerDeep, .data, .data, .data, .data, .data, .sentinel, .sentinel, .listed, .data, .pinned, .pinned], laidTests := true, laidLooks := .later }
def FnNfsClientReadUptoCardSaid : Prop := Claim7.holds Tryz.pinned (.plain (OpenSpec.upto fnNfsClientReadSpec)) fnNfsClientReadUptoCard

/-- THE SECOND FORM's CARD OF 'laws.FnNfsServerBack'. -/
def fnNfsServerBackUptoCard : Claim7 := { stood := { row := fnNfsServerBackUptoRow, standIns := [], harness := (true, "104dfce9ee0180891e0ca8a59891a5d69823af51b071f2e08d00d69aeefbb74f"), looks := true }, kinds := [], alts := [], laidByText := true, laidKinds := [.data, .data, .widerDeep, .widerDeep, .data, .data, .data, .data, .data, .sentinel, .sentinel, .listed, .data, .pinned, .pinned], laidTests := true, laidLooks := .later }
def FnNfsServerBackUptoCardSaid : Prop := Claim7.holds Tryz.pinned (.plain (OpenSpec.upto fnNfsServerBackSpec)) fnNfsServerBackUptoCard

/-- THE SECOND FORM's CARD OF 'laws.FnNfsServerNormal'. -/
def fnNfsServerNormalUptoCard : Claim7 := { stood := { row := fnNfsServerNormalUptoRow, standIns := [], harness := (true, "104dfce9ee0180891e0ca8a59891a5d69823af51b071f2e08d00d69aeefbb74f"), looks := true }, kinds := [], alts := [], laidByText := true, laidKinds := [.data, .data, .widerDeep, .widerDeep, .data, .data, .data, .data, .data, .sentinel, .sentinel, .listed, .data, .pinned, .pinned], laidTests := true, laidLooks := .later }
def FnNfsServerNormalUptoCardSaid : Prop := Claim7.holds Tryz.pinned (.plain (OpenSpec.upto fnNfsServerNormalSpec)) fnNfsServerNormalUptoCard

/-- THE SECOND FORM's CARD OF 'laws.FnNfsServerRead'. -/
def fnNfsServerReadUptoCard : Claim7 := { stood := { row := fnNfsServerReadUptoRow, standIns := [], harness := (true, "104dfce9ee0180891e0ca8a59891a5d69823af51b071f2e08d00d69aeefbb74f"), looks := true }, kinds := [], alts := [], laidByText := true, laidKinds := [.data, .data, .widerDeep, .widerDeep, .data, .data, .data, .data, .data, .sentinel, .sentinel, .listed, .data, .pinned, .pinned], laidTests := true, laidLooks := .later }
def FnNfsServerReadUptoCardSaid : Prop := Claim7.holds Tryz.pinned (.plain (OpenSpec.upto fnNfsServerReadSpec)) fnNfsServerReadUptoCard
end Rows
end Go.Proofs.YtcjebcenbimcgaaGreatDoor
