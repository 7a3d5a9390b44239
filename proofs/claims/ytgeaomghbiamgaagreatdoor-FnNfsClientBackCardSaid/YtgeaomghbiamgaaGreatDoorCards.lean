/-
  DERIVED. GIVEN WITH THE SEED: THE CARDS: each row of YtgeaomghbiamgaaGreatDoorRows.lean that lists a variable, with what it lists TIED to the program's text (the seventh form; the later family's looks); each row that meets fmt, with fmt's text TOLD by the authors' own Lean function (tested against real Go, not proved from fmt's source: count such statements apart). THE CARD IS WHAT COUNTS. Prove the row's statement (the work); the ties are given (YtgeaomghbiamgaaGreatDoorTie.lean); close each card by the builder's one call (the guide's Derived/Test/ToyasCard.lean, 'card_holds'). Laid BY PROGRAM, IN A SANDBOX (cutbox-door.mjs). By AI agents, Wed Nov 11 2026. No macro, syntax, notation, axiom, sorry.
-/
import Derived.Test.YtgeaomghbiamgaaGreatDoorRows
import GoSem.ClaimSeven
namespace Go.Proofs.YtgeaomghbiamgaaGreatDoor
namespace Rows

/-- THE TIED CARD OF 'laws.FnNfsClientBack'. -/
def fnNfsClientBackCard : Claim7 := { stood := { row := fnNfsClientBackRow, standIns := [], harness := (true, "598fd663377bbcc9bbd3c156683929ff4de35d9e175e3c2251638741dc1f262c"), looks := true }, kinds := [], alts := [], laidByText := true, laidKinds := [.data, .data, .widerDeep, .widerDeep, .data, .data, .data, .data, .data, .sentinel, .sentinel, .listed, .data, .pinned, .pinned], laidTests := true, laidLooks := .later }
def FnNfsClientBackCardSaid : Prop := Claim7.holds Tryz.pinned (.plain (OpenSpec.ofChange fnNfsClientBackSpec)) fnNfsClientBackCard

/-- THE TIED CARD OF 'laws.FnNfsClientNormal'. -/
def fnNfsClientNormalCard : Claim7 := { stood := { row := fnNfsClientNormalRow, standIns := [], harness := (true, "598fd663377bbcc9bbd3c156683929ff4de35d9e175e3c2251638741dc1f262c"), looks := true }, kinds := [], alts := [], laidByText := true, laidKinds := [.data, .data, .widerDeep, .widerDeep, .data, .data, .data, .data, .data, .sentinel, .sentinel, .listed, .data, .pinned, .pinned], laidTests := true, laidLooks := .later }
def FnNfsClientNormalCardSaid : Prop := Claim7.holds Tryz.pinned (.plain (OpenSpec.ofChange fnNfsClientNormalSpec)) fnNfsClientNormalCard

/-- THE TIED CARD OF 'laws.FnNfsClientRead'. -/
def fnNfsClientReadCard : Claim7 := { stood := { row := fnNfsClientReadRow, standIns := [], harness := (true, "598fd663377bbcc9bbd3c156683929ff4de35d9e175e3c2251638741dc1f262c"), looks := true }, kinds := [], alts := [], laidByText := true, laidKinds := [.data, .data, .widerDeep, .widerDeep, .data, .data, .data, .data, .data, .sentinel, .sentinel, .listed, .data, .pinned, .pinned], laidTests := true, laidLooks := .later }
def FnNfsClientReadCardSaid : Prop := Claim7.holds Tryz.pinned (.plain (OpenSpec.ofChange fnNfsClientReadSpec)) fnNfsClientReadCard

/-- THE TIED CARD OF 'laws.FnCryptoBack'. -/
def fnCryptoBackCard : Claim7 := { stood := { row := fnCryptoBackRow, standIns := [], harness := (true, "598fd663377bbcc9bbd3c156683929ff4de35d9e175e3c2251638741dc1f262c"), looks := true }, kinds := [], alts := [], laidByText := true, laidKinds := [.data, .data, .widerDeep, .widerDeep, .data, .data, .data, .data, .data, .data, .sentinel, .sentinel, .listed, .data, .pinned, .pinned, .pinned], laidTests := true, laidLooks := .later }
def FnCryptoBackCardSaid : Prop := Claim7.holds Tryz.pinned (.plain (OpenSpec.ofChange fnCryptoBackSpec)) fnCryptoBackCard

/-- THE TIED CARD OF 'laws.FnCryptoNormal'. -/
def fnCryptoNormalCard : Claim7 := { stood := { row := fnCryptoNormalRow, standIns := [], harness := (true, "598fd663377bbcc9bbd3c156683929ff4de35d9e175e3c2251638741dc1f262c"), looks := true }, kinds := [], alts := [], laidByText := true, laidKinds := [.data, .data, .widerDeep, .widerDeep, .data, .data, .data, .data, .data, .data, .sentinel, .sentinel, .listed, .data, .pinned, .pinned, .pinned], laidTests := true, laidLooks := .later }
def FnCryptoNormalCardSaid : Prop := Claim7.holds Tryz.pinned (.plain (OpenSpec.ofChange fnCryptoNormalSpec)) fnCryptoNormalCard

/-- THE TIED CARD OF 'laws.FnCryptoRead'. -/
def fnCryptoReadCard : Claim7 := { stood := { row := fnCryptoReadRow, standIns := [], harness := (true, "598fd663377bbcc9bbd3c156683929ff4de35d9e175e3c2251638741dc1f262c"), looks := true }, kinds := [], alts := [], laidByText := true, laidKinds := [.data, .data, .widerDeep, .widerDeep, .data, .data, .data, .data, .data, .data, .sentinel, .sentinel, .listed, .data, .pinned, .pinned, .pinned], laidTests := true, laidLooks := .later }
def FnCryptoReadCardSaid : Prop := Claim7.holds Tryz.pinned (.plain (OpenSpec.ofChange fnCryptoReadSpec)) fnCryptoReadCard

/-- THE SECOND FORM's CARD OF 'laws.FnNfsClientBack'. -/
def fnNfsClientBackUptoCard : Claim7 := { stood := { row := fnNfsClientBackUptoRow, standIns := [], harness := (true, "598fd663377bbcc9bbd3c156683929ff4de35d9e175e3c2251638741dc1f262c"), looks := true }, kinds := [], alts := [], laidByText := true, laidKinds := [.data, .data, .widerDeep, .widerDeep, .data, .data, .data, .data, .data, .sentinel, .sentinel, .listed, .data, .pinned, .pinned], laidTests := true, laidLooks := .later }
def FnNfsClientBackUptoCardSaid : Prop := Claim7.holds Tryz.pinned (.plain (OpenSpec.upto fnNfsClientBackSpec)) fnNfsClientBackUptoCard

/-- THE SECOND FORM's CARD OF 'laws.FnNfsClientNormal'. -/
def fnNfsClientNormalUptoCard : Claim7 := { stood := { row := fnNfsClientNormalUptoRow, standIns := [], harness := (true, "598fd663377bbcc9bbd3c156683929ff4de35d9e175e3c2251638741dc1f262c"), looks := true }, kinds := [], alts := [], laidByText := true, laidKinds := [.data, .data, .widerDeep, .widerDeep, .data, .data, .data, .data, .data, .sentinel, .sentinel, .listed, .data, .pinned, .pinned], laidTests := true, laidLooks := .later }
def FnNfsClientNormalUptoCardSaid : Prop := Claim7.holds Tryz.pinned (.plain (OpenSpec.upto fnNfsClientNormalSpec)) fnNfsClientNormalUptoCard

/-- THE SECOND FORM's CARD OF 'laws.FnNfsClientRead'. -/
def fnNfsClientReadUptoCard : Claim7 := { stood := { row := fnNfsClientReadUptoRow, standIns := [], harness := (true, "598fd663377bbcc9bbd3c156683929ff4de35d9e175e3c2251638741dc1f262c"), looks := true }, kinds := [], alts := [], laidByText := true, laidKinds := [.data, .data, .widerDeep, .widerDeep, .data, .data, .data, .data, .data, .sentinel, .sentinel, .listed, .data, .pinned, .pinned], laidTests := true, laidLooks := .later }
def FnNfsClientReadUptoCardSaid : Prop := Claim7.holds Tryz.pinned (.plain (OpenSpec.upto fnNfsClientReadSpec)) fnNfsClientReadUptoCard

/-- THE SECOND FORM's CARD OF 'laws.FnCryptoBack'. -/
def fnCryptoBackUptoCard : Claim7 := { stood := { row := fnCryptoBackUptoRow, standIns := [], harness := (true, "598fd663377bbcc9bbd3c156683929ff4de35d9e175e3c2251638741dc1f262c"), looks := true }, kinds := [], alts := [], laidByText := true, laidKinds := [.data, .data, .widerDeep, .widerDeep, .data, .data, .data, .data, .data, .data, .sentinel, .sentinel, .listed, .data, .pinned, .pinned, .pinned], laidTests := true, laidLooks := .later }
def FnCryptoBackUptoCardSaid : Prop := Claim7.holds Tryz.pinned (.plain (OpenSpec.upto fnCryptoBackSpec)) fnCryptoBackUptoCard

/-- THE SECOND FORM's CARD OF 'laws.FnCryptoNormal'. -/
def fnCryptoNormalUptoCard : Claim7 := { stood := { row := fnCryptoNormalUptoRow, standIns := [], harness := (true, "598fd663377bbcc9bbd3c156683929ff4de35d9e175e3c2251638741dc1f262c"), looks := true }, kinds := [], alts := [], laidByText := true, laidKinds := [.data, .data, .widerDeep, .widerDeep, .data, .data, .data, .data, .data, .data, .sentinel, .sentinel, .listed, .data, .pinned, .pinned, .pinned], laidTests := true, laidLooks := .later }
def FnCryptoNormalUptoCardSaid : Prop := Claim7.holds Tryz.pinned (.plain (OpenSpec.upto fnCryptoNormalSpec)) fnCryptoNormalUptoCard

/-- THE SECOND FORM's CARD OF 'laws.FnCryptoRead'. -/
def fnCryptoReadUptoCard : Claim7 := { stood := { row := fnCryptoReadUptoRow, standIns := [], harness := (true, "598fd663377bbcc9bbd3c156683929ff4de35d9e175e3c2251638741dc1f262c"), looks := true }, kinds := [], alts := [], laidByText := true, laidKinds := [.data, .data, .widerDeep, .widerDeep, .data, .data, .data, .data, .data, .data, .sentinel, .sentinel, .listed, .data, .pinned, .pinned, .pinned], laidTests := true, laidLooks := .later }
def FnCryptoReadUptoCardSaid : Prop := Claim7.holds Tryz.pinned (.plain (OpenSpec.upto fnCryptoReadSpec)) fnCryptoReadUptoCard
end Rows
end Go.Proofs.YtgeaomghbiamgaaGreatDoor
