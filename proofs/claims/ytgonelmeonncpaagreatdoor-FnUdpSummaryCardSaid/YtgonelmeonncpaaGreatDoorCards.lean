/-
  DERIVED. GIVEN WITH THE SEED: THE CARDS: each row of YtgonelmeonncpaaGreatDoorRows.lean that lists a variable, with what it lists TIED to the program's text (the seventh form; the later family's looks); each row that meets fmt, with fmt's text TOLD by the authors' own Lean function (tested against real Go, not proved from fmt's source: count such statements apart). THE CARD IS WHAT COUNTS. Prove the row's statement (the work); the ties are given (YtgonelmeonncpaaGreatDoorTie.lean); close each card by the builder's one call (the guide's Derived/Test/ToyasCard.lean, 'card_holds'). Laid BY PROGRAM, IN A SANDBOX (cutbox-door.mjs). By AI agents, Wed Nov 11 2026. No macro, syntax, notation, axiom, sorry.
-/
import Derived.Test.YtgonelmeonncpaaGreatDoorRows
import GoSem.ClaimSeven
namespace Go.Proofs.YtgonelmeonncpaaGreatDoor
namespace Rows

/-- THE TIED CARD OF 'laws.FnSchedstatRead'. -/
def fnSchedstatReadCard : Claim7 := { stood := { row := fnSchedstatReadRow, standIns := [], harness := (true, "df16db828897a5cc841eb83999c7773a538ef1986ddd6e30e9fbefbee1de7a02"), looks := true }, kinds := [], alts := [], laidByText := true, laidKinds := [.data, .data, .widerDeep, .widerDeep, .data, .data, .data, .data, .data, .sentinel, .sentinel, .listed, .data, .pinned, .pinned], laidTests := true, laidLooks := .later }
def FnSchedstatReadCardSaid : Prop := Claim7.holds Tryz.pinned (.plain (OpenSpec.ofChange fnSchedstatReadSpec)) fnSchedstatReadCard

/-- THE TIED CARD OF 'laws.FnSoftirqsNormal'. -/
def fnSoftirqsNormalCard : Claim7 := { stood := { row := fnSoftirqsNormalRow, standIns := [], harness := (true, "df16db828897a5cc841eb83999c7773a538ef1986ddd6e30e9fbefbee1de7a02"), looks := true }, kinds := [], alts := [], laidByText := true, laidKinds := [.data, .data, .widerDeep, .widerDeep, .data, .data, .data, .data, .data, .sentinel, .sentinel, .listed, .data, .pinned, .pinned], laidTests := true, laidLooks := .later }
def FnSoftirqsNormalCardSaid : Prop := Claim7.holds Tryz.pinned (.plain (OpenSpec.ofChange fnSoftirqsNormalSpec)) fnSoftirqsNormalCard

/-- THE TIED CARD OF 'laws.FnSoftirqsRead'. -/
def fnSoftirqsReadCard : Claim7 := { stood := { row := fnSoftirqsReadRow, standIns := [], harness := (true, "df16db828897a5cc841eb83999c7773a538ef1986ddd6e30e9fbefbee1de7a02"), looks := true }, kinds := [], alts := [], laidByText := true, laidKinds := [.data, .data, .widerDeep, .widerDeep, .data, .data, .data, .data, .data, .sentinel, .sentinel, .listed, .data, .pinned, .pinned], laidTests := true, laidLooks := .later }
def FnSoftirqsReadCardSaid : Prop := Claim7.holds Tryz.pinned (.plain (OpenSpec.ofChange fnSoftirqsReadSpec)) fnSoftirqsReadCard

/-- THE TIED CARD OF 'laws.FnTcpUdp'. -/
def fnTcpUdpCard : Claim7 := { stood := { row := fnTcpUdpRow, standIns := [], harness := (true, "df16db828897a5cc841eb83999c7773a538ef1986ddd6e30e9fbefbee1de7a02"), looks := true }, kinds := [], alts := [], laidByText := true, laidKinds := [.data, .data, .widerDeep, .widerDeep, .data, .data, .data, .data, .data, .sentinel, .sentinel, .listed, .data, .pinned, .pinned], laidTests := true, laidLooks := .later }
def FnTcpUdpCardSaid : Prop := Claim7.holds Tryz.pinned (.plain (OpenSpec.ofChange fnTcpUdpSpec)) fnTcpUdpCard

/-- THE TIED CARD OF 'laws.FnUnixBack'. -/
def fnUnixBackCard : Claim7 := { stood := { row := fnUnixBackRow, standIns := [], harness := (true, "df16db828897a5cc841eb83999c7773a538ef1986ddd6e30e9fbefbee1de7a02"), looks := true }, kinds := [], alts := [], laidByText := true, laidKinds := [.data, .data, .widerDeep, .widerDeep, .data, .data, .data, .data, .data, .sentinel, .sentinel, .listed, .data, .pinned, .pinned], laidTests := true, laidLooks := .later }
def FnUnixBackCardSaid : Prop := Claim7.holds Tryz.pinned (.plain (OpenSpec.ofChange fnUnixBackSpec)) fnUnixBackCard

/-- THE TIED CARD OF 'laws.FnUnixNormal'. -/
def fnUnixNormalCard : Claim7 := { stood := { row := fnUnixNormalRow, standIns := [], harness := (true, "df16db828897a5cc841eb83999c7773a538ef1986ddd6e30e9fbefbee1de7a02"), looks := true }, kinds := [], alts := [], laidByText := true, laidKinds := [.data, .data, .widerDeep, .widerDeep, .data, .data, .data, .data, .data, .sentinel, .sentinel, .listed, .data, .pinned, .pinned], laidTests := true, laidLooks := .later }
def FnUnixNormalCardSaid : Prop := Claim7.holds Tryz.pinned (.plain (OpenSpec.ofChange fnUnixNormalSpec)) fnUnixNormalCard

/-- THE TIED CARD OF 'laws.FnUnixRead'. -/
def fnUnixReadCard : Claim7 := { stood := { row := fnUnixReadRow, standIns := [], harness := (true, "df16db828897a5cc841eb83999c7773a538ef1986ddd6e30e9fbefbee1de7a02"), looks := true }, kinds := [], alts := [], laidByText := true, laidKinds := [.data, .data, .widerDeep, .widerDeep, .data, .data, .data, .data, .data, .sentinel, .sentinel, .listed, .data, .pinned, .pinned], laidTests := true, laidLooks := .later }
def FnUnixReadCardSaid : Prop := Claim7.holds Tryz.pinned (.plain (OpenSpec.ofChange fnUnixReadSpec)) fnUnixReadCard

/-- THE TIED CARD OF 'laws.FnTcpSummary'. -/
def fnTcpSummaryCard : Claim7 := { stood := { row := fnTcpSummaryRow, standIns := [], harness := (true, "df16db828897a5cc841eb83999c7773a538ef1986ddd6e30e9fbefbee1de7a02"), looks := true }, kinds := [], alts := [], laidByText := true, laidKinds := [.data, .data, .widerDeep, .widerDeep, .data, .data, .data, .data, .data, .sentinel, .sentinel, .listed, .data, .pinned, .pinned], laidTests := true, laidLooks := .later }
def FnTcpSummaryCardSaid : Prop := Claim7.holds Tryz.pinned (.plain (OpenSpec.ofChange fnTcpSummarySpec)) fnTcpSummaryCard

/-- THE TIED CARD OF 'laws.FnUdpSummary'. -/
def fnUdpSummaryCard : Claim7 := { stood := { row := fnUdpSummaryRow, standIns := [], harness := (true, "df16db828897a5cc841eb83999c7773a538ef1986ddd6e30e9fbefbee1de7a02"), looks := true }, kinds := [], alts := [], laidByText := true, laidKinds := [.data, .data, .widerDeep, .widerDeep, .data, .data, .data, .data, .data, .sentinel, .sentinel, .listed, .data, .pinned, .pinned], laidTests := true, laidLooks := .later }
def FnUdpSummaryCardSaid : Prop := Claim7.holds Tryz.pinned (.plain (OpenSpec.ofChange fnUdpSummarySpec)) fnUdpSummaryCard

/-- THE TIED CARD OF 'laws.FnMapsBack'. -/
def fnMapsBackCard : Claim7 := { stood := { row := fnMapsBackRow, standIns := [], harness := (true, "df16db828897a5cc841eb83999c7773a538ef1986ddd6e30e9fbefbee1de7a02"), looks := true }, kinds := [], alts := [], laidByText := true, laidKinds := [.data, .data, .widerDeep, .widerDeep, .data, .data, .data, .data, .data, .sentinel, .sentinel, .listed, .data, .pinned, .pinned], laidTests := true, laidLooks := .later }
def FnMapsBackCardSaid : Prop := Claim7.holds Tryz.pinned (.plain (OpenSpec.ofChange fnMapsBackSpec)) fnMapsBackCard

/-- THE TIED CARD OF 'laws.FnMapsNormal'. -/
def fnMapsNormalCard : Claim7 := { stood := { row := fnMapsNormalRow, standIns := [], harness := (true, "df16db828897a5cc841eb83999c7773a538ef1986ddd6e30e9fbefbee1de7a02"), looks := true }, kinds := [], alts := [], laidByText := true, laidKinds := [.data, .data, .widerDeep, .widerDeep, .data, .data, .data, .data, .data, .sentinel, .sentinel, .listed, .data, .pinned, .pinned], laidTests := true, laidLooks := .later }
def FnMapsNormalCardSaid : Prop := Claim7.holds Tryz.pinned (.plain (OpenSpec.ofChange fnMapsNormalSpec)) fnMapsNormalCard

/-- THE TIED CARD OF 'laws.FnMapsRead'. -/
def fnMapsReadCard : Claim7 := { stood := { row := fnMapsReadRow, standIns := [], harness := (true, "df16db828897a5cc841eb83999c7773a538ef1986ddd6e30e9fbefbee1de7a02"), looks := true }, kinds := [], alts := [], laidByText := true, laidKinds := [.data, .data, .widerDeep, .widerDeep, .data, .data, .data, .data, .data, .sentinel, .sentinel, .listed, .data, .pinned, .pinned], laidTests := true, laidLooks := .later }
def FnMapsReadCardSaid : Prop := Claim7.holds Tryz.pinned (.plain (OpenSpec.ofChange fnMapsReadSpec)) fnMapsReadCard

/-- THE SECOND FORM's CARD OF 'laws.FnSchedstatRead'. -/
def fnSchedstatReadUptoCard : Claim7 := { stood := { row := fnSchedstatReadUptoRow, standIns := [], harness := (true, "df16db828897a5cc841eb83999c7773a538ef1986ddd6e30e9fbefbee1de7a02"), looks := true }, kinds := [], alts := [], laidByText := true, laidKinds := [.data, .data, .widerDeep, .widerDeep, .data, .data, .data, .data, .data, .sentinel, .sentinel, .listed, .data, .pinned, .pinned], laidTests := true, laidLooks := .later }
def FnSchedstatReadUptoCardSaid : Prop := Claim7.holds Tryz.pinned (.plain (OpenSpec.upto fnSchedstatReadSpec)) fnSchedstatReadUptoCard

/-- THE SECOND FORM's CARD OF 'laws.FnSoftirqsNormal'. -/
def fnSoftirqsNormalUptoCard : Claim7 := { stood := { row := fnSoftirqsNormalUptoRow, standIns := [], harness := (true, "df16db828897a5cc841eb83999c7773a538ef1986ddd6e30e9fbefbee1de7a02"), looks := true }, kinds := [], alts := [], laidByText := true, laidKinds := [.data, .data, .widerDeep, .widerDeep, .data, .data, .data, .data, .data, .sentinel, .sentinel, .listed, .data, .pinned, .pinned], laidTests := true, laidLooks := .later }
def FnSoftirqsNormalUptoCardSaid : Prop := Claim7.holds Tryz.pinned (.plain (OpenSpec.upto fnSoftirqsNormalSpec)) fnSoftirqsNormalUptoCard

/-- THE SECOND FORM's CARD OF 'laws.FnSoftirqsRead'. -/
def fnSoftirqsReadUptoCard : Claim7 := { stood := { row := fnSoftirqsReadUptoRow, standIns := [], harness := (true, "df16db828897a5cc841eb83999c7773a538ef1986ddd6e30e9fbefbee1de7a02"), looks := true }, kinds := [], alts := [], laidByText := true, laidKinds := [.data, .data, .widerDeep, .widerDeep, .data, .data, .data, .data, .data, .sentinel, .sentinel, .listed, .data, .pinned, .pinned], laidTests := true, laidLooks := .later }
def FnSoftirqsReadUptoCardSaid : Prop := Claim7.holds Tryz.pinned (.plain (OpenSpec.upto fnSoftirqsReadSpec)) fnSoftirqsReadUptoCard

/-- THE SECOND FORM's CARD OF 'laws.FnTcpUdp'. -/
def fnTcpUdpUptoCard : Claim7 := { stood := { row := fnTcpUdpUptoRow, standIns := [], harness := (true, "df16db828897a5cc841eb83999c7773a538ef1986ddd6e30e9fbefbee1de7a02"), looks := true }, kinds := [], alts := [], laidByText := true, laidKinds := [.data, .data, .widerDeep, .widerDeep, .data, .data, .data, .data, .data, .sentinel, .sentinel, .listed, .data, .pinned, .pinned], laidTests := true, laidLooks := .later }
def FnTcpUdpUptoCardSaid : Prop := Claim7.holds Tryz.pinned (.plain (OpenSpec.upto fnTcpUdpSpec)) fnTcpUdpUptoCard

/-- THE SECOND FORM's CARD OF 'laws.FnUnixBack'. -/
def fnUnixBackUptoCard : Claim7 := { stood := { row := fnUnixBackUptoRow, standIns := [], harness := (true, "df16db828897a5cc841eb83999c7773a538ef1986ddd6e30e9fbefbee1de7a02"), looks := true }, kinds := [], alts := [], laidByText := true, laidKinds := [.data, .data, .widerDeep, .widerDeep, .data, .data, .data, .data, .data, .sentinel, .sentinel, .listed, .data, .pinned, .pinned], laidTests := true, laidLooks := .later }
def FnUnixBackUptoCardSaid : Prop := Claim7.holds Tryz.pinned (.plain (OpenSpec.upto fnUnixBackSpec)) fnUnixBackUptoCard

/-- THE SECOND FORM's CARD OF 'laws.FnUnixNormal'. -/
def fnUnixNormalUptoCard : Claim7 := { stood := { row := fnUnixNormalUptoRow, standIns := [], harness := (true, "df16db828897a5cc841eb83999c7773a538ef1986ddd6e30e9fbefbee1de7a02"), looks := true }, kinds := [], alts := [], laidByText := true, laidKinds := [.data, .data, .widerDeep, .widerDeep, .data, .data, .data, .data, .data, .sentinel, .sentinel, .listed, .data, .pinned, .pinned], laidTests := true, laidLooks := .later }
def FnUnixNormalUptoCardSaid : Prop := Claim7.holds Tryz.pinned (.plain (OpenSpec.upto fnUnixNormalSpec)) fnUnixNormalUptoCard

/-- THE SECOND FORM's CARD OF 'laws.FnUnixRead'. -/
def fnUnixReadUptoCard : Claim7 := { stood := { row := fnUnixReadUptoRow, standIns := [], harness := (true, "df16db828897a5cc841eb83999c7773a538ef1986ddd6e30e9fbefbee1de7a02"), looks := true }, kinds := [], alts := [], laidByText := true, laidKinds := [.data, .data, .widerDeep, .widerDeep, .data, .data, .data, .data, .data, .sentinel, .sentinel, .listed, .data, .pinned, .pinned], laidTests := true, laidLooks := .later }
def FnUnixReadUptoCardSaid : Prop := Claim7.holds Tryz.pinned (.plain (OpenSpec.upto fnUnixReadSpec)) fnUnixReadUptoCard

/-- THE SECOND FORM's CARD OF 'laws.FnTcpSummary'. -/
def fnTcpSummaryUptoCard : Claim7 := { stood := { row := fnTcpSummaryUptoRow, standIns := [], harness := (true, "df16db828897a5cc841eb83999c7773a538ef1986ddd6e30e9fbefbee1de7a02"), looks := true }, kinds := [], alts := [], laidByText := true, laidKinds := [.data, .data, .widerDeep, .widerDeep, .data, .data, .data, .data, .data, .sentinel, .sentinel, .listed, .data, .pinned, .pinned], laidTests := true, laidLooks := .later }
def FnTcpSummaryUptoCardSaid : Prop := Claim7.holds Tryz.pinned (.plain (OpenSpec.upto fnTcpSummarySpec)) fnTcpSummaryUptoCard

/-- THE SECOND FORM's CARD OF 'laws.FnUdpSummary'. -/
def fnUdpSummaryUptoCard : Claim7 := { stood := { row := fnUdpSummaryUptoRow, standIns := [], harness := (true, "df16db828897a5cc841eb83999c7773a538ef1986ddd6e30e9fbefbee1de7a02"), looks := true }, kinds := [], alts := [], laidByText := true, laidKinds := [.data, .data, .widerDeep, .widerDeep, .data, .data, .data, .data, .data, .sentinel, .sentinel, .listed, .data, .pinned, .pinned], laidTests := true, laidLooks := .later }
def FnUdpSummaryUptoCardSaid : Prop := Claim7.holds Tryz.pinned (.plain (OpenSpec.upto fnUdpSummarySpec)) fnUdpSummaryUptoCard

/-- THE SECOND FORM's CARD OF 'laws.FnMapsBack'. -/
def fnMapsBackUptoCard : Claim7 := { stood := { row := fnMapsBackUptoRow, standIns := [], harness := (true, "df16db828897a5cc841eb83999c7773a538ef1986ddd6e30e9fbefbee1de7a02"), looks := true }, kinds := [], alts := [], laidByText := true, laidKinds := [.data, .data, .widerDeep, .widerDeep, .data, .data, .data, .data, .data, .sentinel, .sentinel, .listed, .data, .pinned, .pinned], laidTests := true, laidLooks := .later }
def FnMapsBackUptoCardSaid : Prop := Claim7.holds Tryz.pinned (.plain (OpenSpec.upto fnMapsBackSpec)) fnMapsBackUptoCard

/-- THE SECOND FORM's CARD OF 'laws.FnMapsNormal'. -/
def fnMapsNormalUptoCard : Claim7 := { stood := { row := fnMapsNormalUptoRow, standIns := [], harness := (true, "df16db828897a5cc841eb83999c7773a538ef1986ddd6e30e9fbefbee1de7a02"), looks := true }, kinds := [], alts := [], laidByText := true, laidKinds := [.data, .data, .widerDeep, .widerDeep, .data, .data, .data, .data, .data, .sentinel, .sentinel, .listed, .data, .pinned, .pinned], laidTests := true, laidLooks := .later }
def FnMapsNormalUptoCardSaid : Prop := Claim7.holds Tryz.pinned (.plain (OpenSpec.upto fnMapsNormalSpec)) fnMapsNormalUptoCard

/-- THE SECOND FORM's CARD OF 'laws.FnMapsRead'. -/
def fnMapsReadUptoCard : Claim7 := { stood := { row := fnMapsReadUptoRow, standIns := [], harness := (true, "df16db828897a5cc841eb83999c7773a538ef1986ddd6e30e9fbefbee1de7a02"), looks := true }, kinds := [], alts := [], laidByText := true, laidKinds := [.data, .data, .widerDeep, .widerDeep, .data, .data, .data, .data, .data, .sentinel, .sentinel, .listed, .data, .pinned, .pinned], laidTests := true, laidLooks := .later }
def FnMapsReadUptoCardSaid : Prop := Claim7.holds Tryz.pinned (.plain (OpenSpec.upto fnMapsReadSpec)) fnMapsReadUptoCard
end Rows
end Go.Proofs.YtgonelmeonncpaaGreatDoor
