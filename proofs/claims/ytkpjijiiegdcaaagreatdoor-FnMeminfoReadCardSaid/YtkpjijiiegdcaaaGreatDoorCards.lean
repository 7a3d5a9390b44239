/-
  DERIVED. GIVEN WITH THE SEED: THE CARDS: each row of YtkpjijiiegdcaaaGreatDoorRows.lean that lists a variable, with what it lists TIED to the program's text (the seventh form; the later family's looks); each row that meets fmt, with fmt's text TOLD by the authors' own Lean function (tested against real Go, not proved from fmt's source: count such statements apart). THE CARD IS WHAT COUNTS. Prove the row's statement (the work); the ties are given (YtkpjijiiegdcaaaGreatDoorTie.lean); close each card by the builder's one call (the guide's Derived/Test/ToyasCard.lean, 'card_holds'). Laid BY PROGRAM, IN A SANDBOX (cutbox-door.mjs). By AI agents, Wed Nov 11 2026. No macro, syntax, notation, axiom, sorry.
-/
import Derived.Test.YtkpjijiiegdcaaaGreatDoorRows
import GoSem.ClaimSeven
namespace Go.Proofs.YtkpjijiiegdcaaaGreatDoor
namespace Rows

/-- THE TIED CARD OF 'laws.FnMeminfoBack'. -/
def fnMeminfoBackCard : Claim7 := { stood := { row := fnMeminfoBackRow, standIns := [], harness := (true, "e521b80e7f76118d53b6c5a6107d5575c89c6271299c253a78d90f13f13f3a72"), looks := true }, kinds := [], alts := [], laidByText := true, laidKinds := [.data, .data, .widerDeep, .widerDeep, .data, .data, .data, .data, .data, .sentinel, .sentinel, .listed, .data, .pinned, .pinned], laidTests := true, laidLooks := .later }
def FnMeminfoBackCardSaid : Prop := Claim7.holds Tryz.pinned (.plain (OpenSpec.ofChange fnMeminfoBackSpec)) fnMeminfoBackCard

/-- THE TIED CARD OF 'laws.FnMeminfoNormal'. -/
def fnMeminfoNormalCard : Claim7 := { stood := { row := fnMeminfoNormalRow, standIns := [], harness := (true, "e521b80e7f76118d53b6c5a6107d5575c89c6271299c253a78d90f13f13f3a72"), looks := true }, kinds := [], alts := [], laidByText := true, laidKinds := [.data, .data, .widerDeep, .widerDeep, .data, .data, .data, .data, .data, .sentinel, .sentinel, .listed, .data, .pinned, .pinned], laidTests := true, laidLooks := .later }
def FnMeminfoNormalCardSaid : Prop := Claim7.holds Tryz.pinned (.plain (OpenSpec.ofChange fnMeminfoNormalSpec)) fnMeminfoNormalCard

/-- THE TIED CARD OF 'laws.FnMeminfoRead'. -/
def fnMeminfoReadCard : Claim7 := { stood := { row := fnMeminfoReadRow, standIns := [], harness := (true, "e521b80e7f76118d53b6c5a6107d5575c89c6271299c253a78d90f13f13f3a72"), looks := true }, kinds := [], alts := [], laidByText := true, laidKinds := [.data, .data, .widerDeep, .widerDeep, .data, .data, .data, .data, .data, .sentinel, .sentinel, .listed, .data, .pinned, .pinned], laidTests := true, laidLooks := .later }
def FnMeminfoReadCardSaid : Prop := Claim7.holds Tryz.pinned (.plain (OpenSpec.ofChange fnMeminfoReadSpec)) fnMeminfoReadCard

/-- THE TIED CARD OF 'laws.FnLimitsBack'. -/
def fnLimitsBackCard : Claim7 := { stood := { row := fnLimitsBackRow, standIns := [], harness := (true, "e521b80e7f76118d53b6c5a6107d5575c89c6271299c253a78d90f13f13f3a72"), looks := true }, kinds := [], alts := [], laidByText := true, laidKinds := [.data, .data, .widerDeep, .widerDeep, .data, .data, .data, .data, .data, .data, .sentinel, .sentinel, .listed, .data, .pinned, .pinned, .pinned], laidTests := true, laidLooks := .later }
def FnLimitsBackCardSaid : Prop := Claim7.holds Tryz.pinned (.plain (OpenSpec.ofChange fnLimitsBackSpec)) fnLimitsBackCard

/-- THE TIED CARD OF 'laws.FnLimitsNormal'. -/
def fnLimitsNormalCard : Claim7 := { stood := { row := fnLimitsNormalRow, standIns := [], harness := (true, "e521b80e7f76118d53b6c5a6107d5575c89c6271299c253a78d90f13f13f3a72"), looks := true }, kinds := [], alts := [], laidByText := true, laidKinds := [.data, .data, .widerDeep, .widerDeep, .data, .data, .data, .data, .data, .data, .sentinel, .sentinel, .listed, .data, .pinned, .pinned, .pinned], laidTests := true, laidLooks := .later }
def FnLimitsNormalCardSaid : Prop := Claim7.holds Tryz.pinned (.plain (OpenSpec.ofChange fnLimitsNormalSpec)) fnLimitsNormalCard

/-- THE TIED CARD OF 'laws.FnLimitsRead'. -/
def fnLimitsReadCard : Claim7 := { stood := { row := fnLimitsReadRow, standIns := [], harness := (true, "e521b80e7f76118d53b6c5a6107d5575c89c6271299c253a78d90f13f13f3a72"), looks := true }, kinds := [], alts := [], laidByText := true, laidKinds := [.data, .data, .widerDeep, .widerDeep, .data, .data, .data, .data, .data, .data, .sentinel, .sentinel, .listed, .data, .pinned, .pinned, .pinned], laidTests := true, laidLooks := .later }
def FnLimitsReadCardSaid : Prop := Claim7.holds Tryz.pinned (.plain (OpenSpec.ofChange fnLimitsReadSpec)) fnLimitsReadCard

/-- THE SECOND FORM's CARD OF 'laws.FnMeminfoBack'. -/
def fnMeminfoBackUptoCard : Claim7 := { stood := { row := fnMeminfoBackUptoRow, standIns := [], harness := (true, "e521b80e7f76118d53b6c5a6107d5575c89c6271299c253a78d90f13f13f3a72"), looks := true }, kinds := [], alts := [], laidByText := true, laidKinds := [.data, .data, .widerDeep, .widerDeep, .data, .data, .data, .data, .data, .sentinel, .sentinel, .listed, .data, .pinned, .pinned], laidTests := true, laidLooks := .later }
def FnMeminfoBackUptoCardSaid : Prop := Claim7.holds Tryz.pinned (.plain (OpenSpec.upto fnMeminfoBackSpec)) fnMeminfoBackUptoCard

/-- THE SECOND FORM's CARD OF 'laws.FnMeminfoNormal'. -/
def fnMeminfoNormalUptoCard : Claim7 := { stood := { row := fnMeminfoNormalUptoRow, standIns := [], harness := (true, "e521b80e7f76118d53b6c5a6107d5575c89c6271299c253a78d90f13f13f3a72"), looks := true }, kinds := [], alts := [], laidByText := true, laidKinds := [.data, .data, .widerDeep, .widerDeep, .data, .data, .data, .data, .data, .sentinel, .sentinel, .listed, .data, .pinned, .pinned], laidTests := true, laidLooks := .later }
def FnMeminfoNormalUptoCardSaid : Prop := Claim7.holds Tryz.pinned (.plain (OpenSpec.upto fnMeminfoNormalSpec)) fnMeminfoNormalUptoCard

/-- THE SECOND FORM's CARD OF 'laws.FnMeminfoRead'. -/
def fnMeminfoReadUptoCard : Claim7 := { stood := { row := fnMeminfoReadUptoRow, standIns := [], harness := (true, "e521b80e7f76118d53b6c5a6107d5575c89c6271299c253a78d90f13f13f3a72"), looks := true }, kinds := [], alts := [], laidByText := true, laidKinds := [.data, .data, .widerDeep, .widerDeep, .data, .data, .data, .data, .data, .sentinel, .sentinel, .listed, .data, .pinned, .pinned], laidTests := true, laidLooks := .later }
def FnMeminfoReadUptoCardSaid : Prop := Claim7.holds Tryz.pinned (.plain (OpenSpec.upto fnMeminfoReadSpec)) fnMeminfoReadUptoCard

/-- THE SECOND FORM's CARD OF 'laws.FnLimitsBack'. -/
def fnLimitsBackUptoCard : Claim7 := { stood := { row := fnLimitsBackUptoRow, standIns := [], harness := (true, "e521b80e7f76118d53b6c5a6107d5575c89c6271299c253a78d90f13f13f3a72"), looks := true }, kinds := [], alts := [], laidByText := true, laidKinds := [.data, .data, .widerDeep, .widerDeep, .data, .data, .data, .data, .data, .data, .sentinel, .sentinel, .listed, .data, .pinned, .pinned, .pinned], laidTests := true, laidLooks := .later }
def FnLimitsBackUptoCardSaid : Prop := Claim7.holds Tryz.pinned (.plain (OpenSpec.upto fnLimitsBackSpec)) fnLimitsBackUptoCard

/-- THE SECOND FORM's CARD OF 'laws.FnLimitsNormal'. -/
def fnLimitsNormalUptoCard : Claim7 := { stood := { row := fnLimitsNormalUptoRow, standIns := [], harness := (true, "e521b80e7f76118d53b6c5a6107d5575c89c6271299c253a78d90f13f13f3a72"), looks := true }, kinds := [], alts := [], laidByText := true, laidKinds := [.data, .data, .widerDeep, .widerDeep, .data, .data, .data, .data, .data, .data, .sentinel, .sentinel, .listed, .data, .pinned, .pinned, .pinned], laidTests := true, laidLooks := .later }
def FnLimitsNormalUptoCardSaid : Prop := Claim7.holds Tryz.pinned (.plain (OpenSpec.upto fnLimitsNormalSpec)) fnLimitsNormalUptoCard

/-- THE SECOND FORM's CARD OF 'laws.FnLimitsRead'. -/
def fnLimitsReadUptoCard : Claim7 := { stood := { row := fnLimitsReadUptoRow, standIns := [], harness := (true, "e521b80e7f76118d53b6c5a6107d5575c89c6271299c253a78d90f13f13f3a72"), looks := true }, kinds := [], alts := [], laidByText := true, laidKinds := [.data, .data, .widerDeep, .widerDeep, .data, .data, .data, .data, .data, .data, .sentinel, .sentinel, .listed, .data, .pinned, .pinned, .pinned], laidTests := true, laidLooks := .later }
def FnLimitsReadUptoCardSaid : Prop := Claim7.holds Tryz.pinned (.plain (OpenSpec.upto fnLimitsReadSpec)) fnLimitsReadUptoCard
end Rows
end Go.Proofs.YtkpjijiiegdcaaaGreatDoor
