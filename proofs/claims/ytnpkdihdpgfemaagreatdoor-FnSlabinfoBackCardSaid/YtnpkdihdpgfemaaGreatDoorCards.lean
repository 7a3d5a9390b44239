/-
  DERIVED. GIVEN WITH THE SEED: THE CARDS: each row of YtnpkdihdpgfemaaGreatDoorRows.lean that lists a variable, with what it lists TIED to the program's text (the seventh form; the later family's looks); each row that meets fmt, with fmt's text TOLD by the authors' own Lean function (tested against real Go, not proved from fmt's source: count such statements apart). THE CARD IS WHAT COUNTS. Prove the row's statement (the work); the ties are given (YtnpkdihdpgfemaaGreatDoorTie.lean); close each card by the builder's one call (the guide's Derived/Test/ToyasCard.lean, 'card_holds'). Laid BY PROGRAM, IN A SANDBOX (cutbox-door.mjs). By AI agents, Wed Nov 11 2026. No macro, syntax, notation, axiom, sorry.
-/
import Derived.Test.YtnpkdihdpgfemaaGreatDoorRows
import GoSem.ClaimSeven
namespace Go.Proofs.YtnpkdihdpgfemaaGreatDoor
namespace Rows

/-- THE TIED CARD OF 'laws.FnXfrmBack'. -/
def fnXfrmBackCard : Claim7 := { stood := { row := fnXfrmBackRow, standIns := [], harness := (true, "6a50022d7bda1513e85a07f2cb084fa83c252956cfc2a2271bb2aafc74a5b379"), looks := true }, kinds := [], alts := [], laidByText := true, laidKinds := [.data, .data, .widerDeep, .widerDeep, .data, .data, .data, .data, .data, .sentinel, .sentinel, .listed, .data, .pinned, .pinned], laidTests := true, laidLooks := .later }
def FnXfrmBackCardSaid : Prop := Claim7.holds Tryz.pinned (.plain (OpenSpec.ofChange fnXfrmBackSpec)) fnXfrmBackCard

/-- THE TIED CARD OF 'laws.FnXfrmNormal'. -/
def fnXfrmNormalCard : Claim7 := { stood := { row := fnXfrmNormalRow, standIns := [], harness := (true, "6a50022d7bda1513e85a07f2cb084fa83c252956cfc2a2271bb2aafc74a5b379"), looks := true }, kinds := [], alts := [], laidByText := true, laidKinds := [.data, .data, .widerDeep, .widerDeep, .data, .data, .data, .data, .data, .sentinel, .sentinel, .listed, .data, .pinned, .pinned], laidTests := true, laidLooks := .later }
def FnXfrmNormalCardSaid : Prop := Claim7.holds Tryz.pinned (.plain (OpenSpec.ofChange fnXfrmNormalSpec)) fnXfrmNormalCard

/-- THE TIED CARD OF 'laws.FnXfrmRead'. -/
def fnXfrmReadCard : Claim7 := { stood := { row := fnXfrmReadRow, standIns := [], harness := (true, "6a50022d7bda1513e85a07f2cb084fa83c252956cfc2a2271bb2aafc74a5b379"), looks := true }, kinds := [], alts := [], laidByText := true, laidKinds := [.data, .data, .widerDeep, .widerDeep, .data, .data, .data, .data, .data, .sentinel, .sentinel, .listed, .data, .pinned, .pinned], laidTests := true, laidLooks := .later }
def FnXfrmReadCardSaid : Prop := Claim7.holds Tryz.pinned (.plain (OpenSpec.ofChange fnXfrmReadSpec)) fnXfrmReadCard

/-- THE TIED CARD OF 'laws.FnSlabinfoBack'. -/
def fnSlabinfoBackCard : Claim7 := { stood := { row := fnSlabinfoBackRow, standIns := [], harness := (true, "6a50022d7bda1513e85a07f2cb084fa83c252956cfc2a2271bb2aafc74a5b379"), looks := true }, kinds := [], alts := [], laidByText := true, laidKinds := [.data, .data, .widerDeep, .widerDeep, .data, .data, .data, .data, .data, .sentinel, .sentinel, .listed, .data, .pinned, .pinned], laidTests := true, laidLooks := .later }
def FnSlabinfoBackCardSaid : Prop := Claim7.holds Tryz.pinned (.plain (OpenSpec.ofChange fnSlabinfoBackSpec)) fnSlabinfoBackCard

/-- THE TIED CARD OF 'laws.FnSlabinfoNormal'. -/
def fnSlabinfoNormalCard : Claim7 := { stood := { row := fnSlabinfoNormalRow, standIns := [], harness := (true, "6a50022d7bda1513e85a07f2cb084fa83c252956cfc2a2271bb2aafc74a5b379"), looks := true }, kinds := [], alts := [], laidByText := true, laidKinds := [.data, .data, .widerDeep, .widerDeep, .data, .data, .data, .data, .data, .sentinel, .sentinel, .listed, .data, .pinned, .pinned], laidTests := true, laidLooks := .later }
def FnSlabinfoNormalCardSaid : Prop := Claim7.holds Tryz.pinned (.plain (OpenSpec.ofChange fnSlabinfoNormalSpec)) fnSlabinfoNormalCard

/-- THE TIED CARD OF 'laws.FnSlabinfoRead'. -/
def fnSlabinfoReadCard : Claim7 := { stood := { row := fnSlabinfoReadRow, standIns := [], harness := (true, "6a50022d7bda1513e85a07f2cb084fa83c252956cfc2a2271bb2aafc74a5b379"), looks := true }, kinds := [], alts := [], laidByText := true, laidKinds := [.data, .data, .widerDeep, .widerDeep, .data, .data, .data, .data, .data, .sentinel, .sentinel, .listed, .data, .pinned, .pinned], laidTests := true, laidLooks := .later }
def FnSlabinfoReadCardSaid : Prop := Claim7.holds Tryz.pinned (.plain (OpenSpec.ofChange fnSlabinfoReadSpec)) fnSlabinfoReadCard

/-- THE TIED CARD OF 'laws.FnTcpBack'. -/
def fnTcpBackCard : Claim7 := { stood := { row := fnTcpBackRow, standIns := [], harness := (true, "6a50022d7bda1513e85a07f2cb084fa83c252956cfc2a2271bb2aafc74a5b379"), looks := true }, kinds := [], alts := [], laidByText := true, laidKinds := [.data, .data, .widerDeep, .widerDeep, .data, .data, .data, .data, .data, .sentinel, .sentinel, .listed, .data, .pinned, .pinned], laidTests := true, laidLooks := .later }
def FnTcpBackCardSaid : Prop := Claim7.holds Tryz.pinned (.plain (OpenSpec.ofChange fnTcpBackSpec)) fnTcpBackCard

/-- THE TIED CARD OF 'laws.FnTcpNormal'. -/
def fnTcpNormalCard : Claim7 := { stood := { row := fnTcpNormalRow, standIns := [], harness := (true, "6a50022d7bda1513e85a07f2cb084fa83c252956cfc2a2271bb2aafc74a5b379"), looks := true }, kinds := [], alts := [], laidByText := true, laidKinds := [.data, .data, .widerDeep, .widerDeep, .data, .data, .data, .data, .data, .sentinel, .sentinel, .listed, .data, .pinned, .pinned], laidTests := true, laidLooks := .later }
def FnTcpNormalCardSaid : Prop := Claim7.holds Tryz.pinned (.plain (OpenSpec.ofChange fnTcpNormalSpec)) fnTcpNormalCard

/-- THE TIED CARD OF 'laws.FnTcpRead'. -/
def fnTcpReadCard : Claim7 := { stood := { row := fnTcpReadRow, standIns := [], harness := (true, "6a50022d7bda1513e85a07f2cb084fa83c252956cfc2a2271bb2aafc74a5b379"), looks := true }, kinds := [], alts := [], laidByText := true, laidKinds := [.data, .data, .widerDeep, .widerDeep, .data, .data, .data, .data, .data, .sentinel, .sentinel, .listed, .data, .pinned, .pinned], laidTests := true, laidLooks := .later }
def FnTcpReadCardSaid : Prop := Claim7.holds Tryz.pinned (.plain (OpenSpec.ofChange fnTcpReadSpec)) fnTcpReadCard

/-- THE TIED CARD OF 'laws.FnUdpBack'. -/
def fnUdpBackCard : Claim7 := { stood := { row := fnUdpBackRow, standIns := [], harness := (true, "6a50022d7bda1513e85a07f2cb084fa83c252956cfc2a2271bb2aafc74a5b379"), looks := true }, kinds := [], alts := [], laidByText := true, laidKinds := [.data, .data, .widerDeep, .widerDeep, .data, .data, .data, .data, .data, .sentinel, .sentinel, .listed, .data, .pinned, .pinned], laidTests := true, laidLooks := .later }
def FnUdpBackCardSaid : Prop := Claim7.holds Tryz.pinned (.plain (OpenSpec.ofChange fnUdpBackSpec)) fnUdpBackCard

/-- THE TIED CARD OF 'laws.FnUdpNormal'. -/
def fnUdpNormalCard : Claim7 := { stood := { row := fnUdpNormalRow, standIns := [], harness := (true, "6a50022d7bda1513e85a07f2cb084fa83c252956cfc2a2271bb2aafc74a5b379"), looks := true }, kinds := [], alts := [], laidByText := true, laidKinds := [.data, .data, .widerDeep, .widerDeep, .data, .data, .data, .data, .data, .sentinel, .sentinel, .listed, .data, .pinned, .pinned], laidTests := true, laidLooks := .later }
def FnUdpNormalCardSaid : Prop := Claim7.holds Tryz.pinned (.plain (OpenSpec.ofChange fnUdpNormalSpec)) fnUdpNormalCard

/-- THE TIED CARD OF 'laws.FnUdpRead'. -/
def fnUdpReadCard : Claim7 := { stood := { row := fnUdpReadRow, standIns := [], harness := (true, "6a50022d7bda1513e85a07f2cb084fa83c252956cfc2a2271bb2aafc74a5b379"), looks := true }, kinds := [], alts := [], laidByText := true, laidKinds := [.data, .data, .widerDeep, .widerDeep, .data, .data, .data, .data, .data, .sentinel, .sentinel, .listed, .data, .pinned, .pinned], laidTests := true, laidLooks := .later }
def FnUdpReadCardSaid : Prop := Claim7.holds Tryz.pinned (.plain (OpenSpec.ofChange fnUdpReadSpec)) fnUdpReadCard

/-- THE SECOND FORM's CARD OF 'laws.FnXfrmBack'. -/
def fnXfrmBackUptoCard : Claim7 := { stood := { row := fnXfrmBackUptoRow, standIns := [], harness := (true, "6a50022d7bda1513e85a07f2cb084fa83c252956cfc2a2271bb2aafc74a5b379"), looks := true }, kinds := [], alts := [], laidByText := true, laidKinds := [.data, .data, .widerDeep, .widerDeep, .data, .data, .data, .data, .data, .sentinel, .sentinel, .listed, .data, .pinned, .pinned], laidTests := true, laidLooks := .later }
def FnXfrmBackUptoCardSaid : Prop := Claim7.holds Tryz.pinned (.plain (OpenSpec.upto fnXfrmBackSpec)) fnXfrmBackUptoCard

/-- THE SECOND FORM's CARD OF 'laws.FnXfrmNormal'. -/
def fnXfrmNormalUptoCard : Claim7 := { stood := { row := fnXfrmNormalUptoRow, standIns := [], harness := (true, "6a50022d7bda1513e85a07f2cb084fa83c252956cfc2a2271bb2aafc74a5b379"), looks := true }, kinds := [], alts := [], laidByText := true, laidKinds := [.data, .data, .widerDeep, .widerDeep, .data, .data, .data, .data, .data, .sentinel, .sentinel, .listed, .data, .pinned, .pinned], laidTests := true, laidLooks := .later }
def FnXfrmNormalUptoCardSaid : Prop := Claim7.holds Tryz.pinned (.plain (OpenSpec.upto fnXfrmNormalSpec)) fnXfrmNormalUptoCard

/-- THE SECOND FORM's CARD OF 'laws.FnXfrmRead'. -/
def fnXfrmReadUptoCard : Claim7 := { stood := { row := fnXfrmReadUptoRow, standIns := [], harness := (true, "6a50022d7bda1513e85a07f2cb084fa83c252956cfc2a2271bb2aafc74a5b379"), looks := true }, kinds := [], alts := [], laidByText := true, laidKinds := [.data, .data, .widerDeep, .widerDeep, .data, .data, .data, .data, .data, .sentinel, .sentinel, .listed, .data, .pinned, .pinned], laidTests := true, laidLooks := .later }
def FnXfrmReadUptoCardSaid : Prop := Claim7.holds Tryz.pinned (.plain (OpenSpec.upto fnXfrmReadSpec)) fnXfrmReadUptoCard

/-- THE SECOND FORM's CARD OF 'laws.FnSlabinfoBack'. -/
def fnSlabinfoBackUptoCard : Claim7 := { stood := { row := fnSlabinfoBackUptoRow, standIns := [], harness := (true, "6a50022d7bda1513e85a07f2cb084fa83c252956cfc2a2271bb2aafc74a5b379"), looks := true }, kinds := [], alts := [], laidByText := true, laidKinds := [.data, .data, .widerDeep, .widerDeep, .data, .data, .data, .data, .data, .sentinel, .sentinel, .listed, .data, .pinned, .pinned], laidTests := true, laidLooks := .later }
def FnSlabinfoBackUptoCardSaid : Prop := Claim7.holds Tryz.pinned (.plain (OpenSpec.upto fnSlabinfoBackSpec)) fnSlabinfoBackUptoCard

/-- THE SECOND FORM's CARD OF 'laws.FnSlabinfoNormal'. -/
def fnSlabinfoNormalUptoCard : Claim7 := { stood := { row := fnSlabinfoNormalUptoRow, standIns := [], harness := (true, "6a50022d7bda1513e85a07f2cb084fa83c252956cfc2a2271bb2aafc74a5b379"), looks := true }, kinds := [], alts := [], laidByText := true, laidKinds := [.data, .data, .widerDeep, .widerDeep, .data, .data, .data, .data, .data, .sentinel, .sentinel, .listed, .data, .pinned, .pinned], laidTests := true, laidLooks := .later }
def FnSlabinfoNormalUptoCardSaid : Prop := Claim7.holds Tryz.pinned (.plain (OpenSpec.upto fnSlabinfoNormalSpec)) fnSlabinfoNormalUptoCard

/-- THE SECOND FORM's CARD OF 'laws.FnSlabinfoRead'. -/
def fnSlabinfoReadUptoCard : Claim7 := { stood := { row := fnSlabinfoReadUptoRow, standIns := [], harness := (true, "6a50022d7bda1513e85a07f2cb084fa83c252956cfc2a2271bb2aafc74a5b379"), looks := true }, kinds := [], alts := [], laidByText := true, laidKinds := [.data, .data, .widerDeep, .widerDeep, .data, .data, .data, .data, .data, .sentinel, .sentinel, .listed, .data, .pinned, .pinned], laidTests := true, laidLooks := .later }
def FnSlabinfoReadUptoCardSaid : Prop := Claim7.holds Tryz.pinned (.plain (OpenSpec.upto fnSlabinfoReadSpec)) fnSlabinfoReadUptoCard

/-- THE SECOND FORM's CARD OF 'laws.FnTcpBack'. -/
def fnTcpBackUptoCard : Claim7 := { stood := { row := fnTcpBackUptoRow, standIns := [], harness := (true, "6a50022d7bda1513e85a07f2cb084fa83c252956cfc2a2271bb2aafc74a5b379"), looks := true }, kinds := [], alts := [], laidByText := true, laidKinds := [.data, .data, .widerDeep, .widerDeep, .data, .data, .data, .data, .data, .sentinel, .sentinel, .listed, .data, .pinned, .pinned], laidTests := true, laidLooks := .later }
def FnTcpBackUptoCardSaid : Prop := Claim7.holds Tryz.pinned (.plain (OpenSpec.upto fnTcpBackSpec)) fnTcpBackUptoCard

/-- THE SECOND FORM's CARD OF 'laws.FnTcpNormal'. -/
def fnTcpNormalUptoCard : Claim7 := { stood := { row := fnTcpNormalUptoRow, standIns := [], harness := (true, "6a50022d7bda1513e85a07f2cb084fa83c252956cfc2a2271bb2aafc74a5b379"), looks := true }, kinds := [], alts := [], laidByText := true, laidKinds := [.data, .data, .widerDeep, .widerDeep, .data, .data, .data, .data, .data, .sentinel, .sentinel, .listed, .data, .pinned, .pinned], laidTests := true, laidLooks := .later }
def FnTcpNormalUptoCardSaid : Prop := Claim7.holds Tryz.pinned (.plain (OpenSpec.upto fnTcpNormalSpec)) fnTcpNormalUptoCard

/-- THE SECOND FORM's CARD OF 'laws.FnTcpRead'. -/
def fnTcpReadUptoCard : Claim7 := { stood := { row := fnTcpReadUptoRow, standIns := [], harness := (true, "6a50022d7bda1513e85a07f2cb084fa83c252956cfc2a2271bb2aafc74a5b379"), looks := true }, kinds := [], alts := [], laidByText := true, laidKinds := [.data, .data, .widerDeep, .widerDeep, .data, .data, .data, .data, .data, .sentinel, .sentinel, .listed, .data, .pinned, .pinned], laidTests := true, laidLooks := .later }
def FnTcpReadUptoCardSaid : Prop := Claim7.holds Tryz.pinned (.plain (OpenSpec.upto fnTcpReadSpec)) fnTcpReadUptoCard

/-- THE SECOND FORM's CARD OF 'laws.FnUdpBack'. -/
def fnUdpBackUptoCard : Claim7 := { stood := { row := fnUdpBackUptoRow, standIns := [], harness := (true, "6a50022d7bda1513e85a07f2cb084fa83c252956cfc2a2271bb2aafc74a5b379"), looks := true }, kinds := [], alts := [], laidByText := true, laidKinds := [.data, .data, .widerDeep, .widerDeep, .data, .data, .data, .data, .data, .sentinel, .sentinel, .listed, .data, .pinned, .pinned], laidTests := true, laidLooks := .later }
def FnUdpBackUptoCardSaid : Prop := Claim7.holds Tryz.pinned (.plain (OpenSpec.upto fnUdpBackSpec)) fnUdpBackUptoCard

/-- THE SECOND FORM's CARD OF 'laws.FnUdpNormal'. -/
def fnUdpNormalUptoCard : Claim7 := { stood := { row := fnUdpNormalUptoRow, standIns := [], harness := (true, "6a50022d7bda1513e85a07f2cb084fa83c252956cfc2a2271bb2aafc74a5b379"), looks := true }, kinds := [], alts := [], laidByText := true, laidKinds := [.data, .data, .widerDeep, .widerDeep, .data, .data, .data, .data, .data, .sentinel, .sentinel, .listed, .data, .pinned, .pinned], laidTests := true, laidLooks := .later }
def FnUdpNormalUptoCardSaid : Prop := Claim7.holds Tryz.pinned (.plain (OpenSpec.upto fnUdpNormalSpec)) fnUdpNormalUptoCard

/-- THE SECOND FORM's CARD OF 'laws.FnUdpRead'. -/
def fnUdpReadUptoCard : Claim7 := { stood := { row := fnUdpReadUptoRow, standIns := [], harness := (true, "6a50022d7bda1513e85a07f2cb084fa83c252956cfc2a2271bb2aafc74a5b379"), looks := true }, kinds := [], alts := [], laidByText := true, laidKinds := [.data, .data, .widerDeep, .widerDeep, .data, .data, .data, .data, .data, .sentinel, .sentinel, .listed, .data, .pinned, .pinned], laidTests := true, laidLooks := .later }
def FnUdpReadUptoCardSaid : Prop := Claim7.holds Tryz.pinned (.plain (OpenSpec.upto fnUdpReadSpec)) fnUdpReadUptoCard
end Rows
end Go.Proofs.YtnpkdihdpgfemaaGreatDoor
