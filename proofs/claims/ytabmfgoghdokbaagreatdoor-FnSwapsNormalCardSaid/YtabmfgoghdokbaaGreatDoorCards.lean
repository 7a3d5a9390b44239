/-
  DERIVED. GIVEN WITH THE SEED: THE CARDS: each row of YtabmfgoghdokbaaGreatDoorRows.lean that lists a variable, with what it lists TIED to the program's text (the seventh form; the later family's looks); each row that meets fmt, with fmt's text TOLD by the authors' own Lean function (tested against real Go, not proved from fmt's source: count such statements apart). THE CARD IS WHAT COUNTS. Prove the row's statement (the work); the ties are given (YtabmfgoghdokbaaGreatDoorTie.lean); close each card by the builder's one call (the guide's Derived/Test/ToyasCard.lean, 'card_holds'). Laid BY PROGRAM, IN A SANDBOX (cutbox-door.mjs). By AI agents, Wed Nov 11 2026. No macro, syntax, notation, axiom, sorry.
-/
import Derived.Test.YtabmfgoghdokbaaGreatDoorRows
import GoSem.ClaimSeven
namespace Go.Proofs.YtabmfgoghdokbaaGreatDoor
namespace Rows

/-- THE TIED CARD OF 'laws.FnSchedstatRead'. -/
def fnSchedstatReadCard : Claim7 := { stood := { row := fnSchedstatReadRow, standIns := [], harness := (true, "5d0549dee00148c1b4933263a555ef9616dacedf0ff6c9027631964ad9e76249"), looks := true }, kinds := [], alts := [], laidByText := true, laidKinds := [.data, .data, .widerDeep, .widerDeep, .data, .data, .data, .data, .data, .sentinel, .sentinel, .listed, .data, .pinned, .pinned], laidTests := true, laidLooks := .later }
def FnSchedstatReadCardSaid : Prop := Claim7.holds Tryz.pinned (.plain (OpenSpec.ofChange fnSchedstatReadSpec)) fnSchedstatReadCard

/-- THE TIED CARD OF 'laws.FnSoftirqsNormal'. -/
def fnSoftirqsNormalCard : Claim7 := { stood := { row := fnSoftirqsNormalRow, standIns := [], harness := (true, "5d0549dee00148c1b4933263a555ef9616dacedf0ff6c9027631964ad9e76249"), looks := true }, kinds := [], alts := [], laidByText := true, laidKinds := [.data, .data, .widerDeep, .widerDeep, .data, .data, .data, .data, .data, .sentinel, .sentinel, .listed, .data, .pinned, .pinned], laidTests := true, laidLooks := .later }
def FnSoftirqsNormalCardSaid : Prop := Claim7.holds Tryz.pinned (.plain (OpenSpec.ofChange fnSoftirqsNormalSpec)) fnSoftirqsNormalCard

/-- THE TIED CARD OF 'laws.FnSoftirqsRead'. -/
def fnSoftirqsReadCard : Claim7 := { stood := { row := fnSoftirqsReadRow, standIns := [], harness := (true, "5d0549dee00148c1b4933263a555ef9616dacedf0ff6c9027631964ad9e76249"), looks := true }, kinds := [], alts := [], laidByText := true, laidKinds := [.data, .data, .widerDeep, .widerDeep, .data, .data, .data, .data, .data, .sentinel, .sentinel, .listed, .data, .pinned, .pinned], laidTests := true, laidLooks := .later }
def FnSoftirqsReadCardSaid : Prop := Claim7.holds Tryz.pinned (.plain (OpenSpec.ofChange fnSoftirqsReadSpec)) fnSoftirqsReadCard

/-- THE TIED CARD OF 'laws.FnSwapsNormal'. -/
def fnSwapsNormalCard : Claim7 := { stood := { row := fnSwapsNormalRow, standIns := [], harness := (true, "5d0549dee00148c1b4933263a555ef9616dacedf0ff6c9027631964ad9e76249"), looks := true }, kinds := [], alts := [], laidByText := true, laidKinds := [.data, .data, .widerDeep, .widerDeep, .data, .data, .data, .data, .data, .sentinel, .sentinel, .listed, .data, .pinned, .pinned], laidTests := true, laidLooks := .later }
def FnSwapsNormalCardSaid : Prop := Claim7.holds Tryz.pinned (.plain (OpenSpec.ofChange fnSwapsNormalSpec)) fnSwapsNormalCard

/-- THE TIED CARD OF 'laws.FnSwapsRead'. -/
def fnSwapsReadCard : Claim7 := { stood := { row := fnSwapsReadRow, standIns := [], harness := (true, "5d0549dee00148c1b4933263a555ef9616dacedf0ff6c9027631964ad9e76249"), looks := true }, kinds := [], alts := [], laidByText := true, laidKinds := [.data, .data, .widerDeep, .widerDeep, .data, .data, .data, .data, .data, .sentinel, .sentinel, .listed, .data, .pinned, .pinned], laidTests := true, laidLooks := .later }
def FnSwapsReadCardSaid : Prop := Claim7.holds Tryz.pinned (.plain (OpenSpec.ofChange fnSwapsReadSpec)) fnSwapsReadCard

/-- THE TIED CARD OF 'laws.FnCgroupSummaryRead'. -/
def fnCgroupSummaryReadCard : Claim7 := { stood := { row := fnCgroupSummaryReadRow, standIns := [], harness := (true, "5d0549dee00148c1b4933263a555ef9616dacedf0ff6c9027631964ad9e76249"), looks := true }, kinds := [], alts := [], laidByText := true, laidKinds := [.data, .data, .widerDeep, .widerDeep, .data, .data, .data, .data, .data, .sentinel, .sentinel, .listed, .data, .pinned, .pinned], laidTests := true, laidLooks := .later }
def FnCgroupSummaryReadCardSaid : Prop := Claim7.holds Tryz.pinned (.plain (OpenSpec.ofChange fnCgroupSummaryReadSpec)) fnCgroupSummaryReadCard

/-- THE SECOND FORM's CARD OF 'laws.FnSchedstatRead'. -/
def fnSchedstatReadUptoCard : Claim7 := { stood := { row := fnSchedstatReadUptoRow, standIns := [], harness := (true, "5d0549dee00148c1b4933263a555ef9616dacedf0ff6c9027631964ad9e76249"), looks := true }, kinds := [], alts := [], laidByText := true, laidKinds := [.data, .data, .widerDeep, .widerDeep, .data, .data, .data, .data, .data, .sentinel, .sentinel, .listed, .data, .pinned, .pinned], laidTests := true, laidLooks := .later }
def FnSchedstatReadUptoCardSaid : Prop := Claim7.holds Tryz.pinned (.plain (OpenSpec.upto fnSchedstatReadSpec)) fnSchedstatReadUptoCard

/-- THE SECOND FORM's CARD OF 'laws.FnSoftirqsNormal'. -/
def fnSoftirqsNormalUptoCard : Claim7 := { stood := { row := fnSoftirqsNormalUptoRow, standIns := [], harness := (true, "5d0549dee00148c1b4933263a555ef9616dacedf0ff6c9027631964ad9e76249"), looks := true }, kinds := [], alts := [], laidByText := true, laidKinds := [.data, .data, .widerDeep, .widerDeep, .data, .data, .data, .data, .data, .sentinel, .sentinel, .listed, .data, .pinned, .pinned], laidTests := true, laidLooks := .later }
def FnSoftirqsNormalUptoCardSaid : Prop := Claim7.holds Tryz.pinned (.plain (OpenSpec.upto fnSoftirqsNormalSpec)) fnSoftirqsNormalUptoCard

/-- THE SECOND FORM's CARD OF 'laws.FnSoftirqsRead'. -/
def fnSoftirqsReadUptoCard : Claim7 := { stood := { row := fnSoftirqsReadUptoRow, standIns := [], harness := (true, "5d0549dee00148c1b4933263a555ef9616dacedf0ff6c9027631964ad9e76249"), looks := true }, kinds := [], alts := [], laidByText := true, laidKinds := [.data, .data, .widerDeep, .widerDeep, .data, .data, .data, .data, .data, .sentinel, .sentinel, .listed, .data, .pinned, .pinned], laidTests := true, laidLooks := .later }
def FnSoftirqsReadUptoCardSaid : Prop := Claim7.holds Tryz.pinned (.plain (OpenSpec.upto fnSoftirqsReadSpec)) fnSoftirqsReadUptoCard

/-- THE SECOND FORM's CARD OF 'laws.FnSwapsNormal'. -/
def fnSwapsNormalUptoCard : Claim7 := { stood := { row := fnSwapsNormalUptoRow, standIns := [], harness := (true, "5d0549dee00148c1b4933263a555ef9616dacedf0ff6c9027631964ad9e76249"), looks := true }, kinds := [], alts := [], laidByText := true, laidKinds := [.data, .data, .widerDeep, .widerDeep, .data, .data, .data, .data, .data, .sentinel, .sentinel, .listed, .data, .pinned, .pinned], laidTests := true, laidLooks := .later }
def FnSwapsNormalUptoCardSaid : Prop := Claim7.holds Tryz.pinned (.plain (OpenSpec.upto fnSwapsNormalSpec)) fnSwapsNormalUptoCard

/-- THE SECOND FORM's CARD OF 'laws.FnSwapsRead'. -/
def fnSwapsReadUptoCard : Claim7 := { stood := { row := fnSwapsReadUptoRow, standIns := [], harness := (true, "5d0549dee00148c1b4933263a555ef9616dacedf0ff6c9027631964ad9e76249"), looks := true }, kinds := [], alts := [], laidByText := true, laidKinds := [.data, .data, .widerDeep, .widerDeep, .data, .data, .data, .data, .data, .sentinel, .sentinel, .listed, .data, .pinned, .pinned], laidTests := true, laidLooks := .later }
def FnSwapsReadUptoCardSaid : Prop := Claim7.holds Tryz.pinned (.plain (OpenSpec.upto fnSwapsReadSpec)) fnSwapsReadUptoCard

/-- THE SECOND FORM's CARD OF 'laws.FnCgroupSummaryRead'. -/
def fnCgroupSummaryReadUptoCard : Claim7 := { stood := { row := fnCgroupSummaryReadUptoRow, standIns := [], harness := (true, "5d0549dee00148c1b4933263a555ef9616dacedf0ff6c9027631964ad9e76249"), looks := true }, kinds := [], alts := [], laidByText := true, laidKinds := [.data, .data, .widerDeep, .widerDeep, .data, .data, .data, .data, .data, .sentinel, .sentinel, .listed, .data, .pinned, .pinned], laidTests := true, laidLooks := .later }
def FnCgroupSummaryReadUptoCardSaid : Prop := Claim7.holds Tryz.pinned (.plain (OpenSpec.upto fnCgroupSummaryReadSpec)) fnCgroupSummaryReadUptoCard
end Rows
end Go.Proofs.YtabmfgoghdokbaaGreatDoor
