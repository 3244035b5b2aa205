/-
  DERIVED. GIVEN WITH THE SEED: THE CARDS: each row of YtbjbmpcgiokdaaaGreatDoorRows.lean that lists a variable, with what it lists TIED to the program's text (the seventh form; the later family's looks); each row that meets fmt, with fmt's text TOLD by the authors' own Lean function (tested against real Go, not proved from fmt's source: count such statements apart). THE CARD IS WHAT COUNTS. Prove the row's statement (the work); the ties are given (YtbjbmpcgiokdaaaGreatDoorTie.lean); close each card by the builder's one call (the guide's Derived/Test/ToyasCard.lean, 'card_holds'). Laid BY PROGRAM, IN A SANDBOX (cutbox-door.mjs). By AI agents, Wed Nov 11 2026. No macro, syntax, notation, axiom, sorry.
-/
import Derived.Test.YtbjbmpcgiokdaaaGreatDoorRows
import GoSem.ClaimSeven
namespace Go.Proofs.YtbjbmpcgiokdaaaGreatDoor
namespace Rows

/-- THE TIED CARD OF 'laws.FnMadeIsRead'. -/
def fnMadeIsReadCard : Claim7 := { stood := { row := fnMadeIsReadRow, standIns := [], harness := (true, "a18dea71d9c0b299941f55880809d09d151b84ed18a389239759198274a1ad4f"), looks := true }, kinds := [], alts := [], laidByText := true, laidKinds := [.widerDeep, .data, .widerDeep, .data, .widerDeep, .sentinel, .sentinel, .sentinel, .data, .sentinel, .sentinel], laidTests := true, laidLooks := .later }
def FnMadeIsReadCardSaid : Prop := Claim7.holds Tryz.pinned (.plain (OpenSpec.ofChange fnMadeIsReadSpec)) fnMadeIsReadCard

/-- THE TIED CARD OF 'laws.FnReadAsTold'. -/
def fnReadAsToldCard : Claim7 := { stood := { row := fnReadAsToldRow, standIns := [], harness := (true, "a18dea71d9c0b299941f55880809d09d151b84ed18a389239759198274a1ad4f"), looks := true }, kinds := [], alts := [], laidByText := true, laidKinds := [.widerDeep, .data, .widerDeep, .data, .widerDeep, .sentinel, .sentinel, .sentinel, .data, .sentinel, .sentinel], laidTests := true, laidLooks := .later }
def FnReadAsToldCardSaid : Prop := Claim7.holds Tryz.pinned (.plain (OpenSpec.ofChange fnReadAsToldSpec)) fnReadAsToldCard

/-- THE TIED CARD OF 'laws.FnMadeOneByOne'. -/
def fnMadeOneByOneCard : Claim7 := { stood := { row := fnMadeOneByOneRow, standIns := [], harness := (true, "a18dea71d9c0b299941f55880809d09d151b84ed18a389239759198274a1ad4f"), looks := true }, kinds := [], alts := [], laidByText := true, laidKinds := [.widerDeep, .data, .widerDeep, .data, .widerDeep, .sentinel, .sentinel, .sentinel, .data, .sentinel, .sentinel], laidTests := true, laidLooks := .later }
def FnMadeOneByOneCardSaid : Prop := Claim7.holds Tryz.pinned (.plain (OpenSpec.ofChange fnMadeOneByOneSpec)) fnMadeOneByOneCard

/-- THE TIED CARD OF 'laws.FnOneByOneAsTold'. -/
def fnOneByOneAsToldCard : Claim7 := { stood := { row := fnOneByOneAsToldRow, standIns := [], harness := (true, "a18dea71d9c0b299941f55880809d09d151b84ed18a389239759198274a1ad4f"), looks := true }, kinds := [], alts := [], laidByText := true, laidKinds := [.widerDeep, .data, .widerDeep, .data, .widerDeep, .sentinel, .sentinel, .sentinel, .data, .sentinel, .sentinel], laidTests := true, laidLooks := .later }
def FnOneByOneAsToldCardSaid : Prop := Claim7.holds Tryz.pinned (.plain (OpenSpec.ofChange fnOneByOneAsToldSpec)) fnOneByOneAsToldCard

/-- THE SECOND FORM's CARD OF 'laws.FnMadeIsRead'. -/
def fnMadeIsReadUptoCard : Claim7 := { stood := { row := fnMadeIsReadUptoRow, standIns := [], harness := (true, "a18dea71d9c0b299941f55880809d09d151b84ed18a389239759198274a1ad4f"), looks := true }, kinds := [], alts := [], laidByText := true, laidKinds := [.widerDeep, .data, .widerDeep, .data, .widerDeep, .sentinel, .sentinel, .sentinel, .data, .sentinel, .sentinel], laidTests := true, laidLooks := .later }
def FnMadeIsReadUptoCardSaid : Prop := Claim7.holds Tryz.pinned (.plain (OpenSpec.upto fnMadeIsReadSpec)) fnMadeIsReadUptoCard

/-- THE SECOND FORM's CARD OF 'laws.FnReadAsTold'. -/
def fnReadAsToldUptoCard : Claim7 := { stood := { row := fnReadAsToldUptoRow, standIns := [], harness := (true, "a18dea71d9c0b299941f55880809d09d151b84ed18a389239759198274a1ad4f"), looks := true }, kinds := [], alts := [], laidByText := true, laidKinds := [.widerDeep, .data, .widerDeep, .data, .widerDeep, .sentinel, .sentinel, .sentinel, .data, .sentinel, .sentinel], laidTests := true, laidLooks := .later }
def FnReadAsToldUptoCardSaid : Prop := Claim7.holds Tryz.pinned (.plain (OpenSpec.upto fnReadAsToldSpec)) fnReadAsToldUptoCard

/-- THE SECOND FORM's CARD OF 'laws.FnMadeOneByOne'. -/
def fnMadeOneByOneUptoCard : Claim7 := { stood := { row := fnMadeOneByOneUptoRow, standIns := [], harness := (true, "a18dea71d9c0b299941f55880809d09d151b84ed18a389239759198274a1ad4f"), looks := true }, kinds := [], alts := [], laidByText := true, laidKinds := [.widerDeep, .data, .widerDeep, .data, .widerDeep, .sentinel, .sentinel, .sentinel, .data, .sentinel, .sentinel], laidTests := true, laidLooks := .later }
def FnMadeOneByOneUptoCardSaid : Prop := Claim7.holds Tryz.pinned (.plain (OpenSpec.upto fnMadeOneByOneSpec)) fnMadeOneByOneUptoCard

/-- THE SECOND FORM's CARD OF 'laws.FnOneByOneAsTold'. -/
def fnOneByOneAsToldUptoCard : Claim7 := { stood := { row := fnOneByOneAsToldUptoRow, standIns := [], harness := (true, "a18dea71d9c0b299941f55880809d09d151b84ed18a389239759198274a1ad4f"), looks := true }, kinds := [], alts := [], laidByText := true, laidKinds := [.widerDeep, .data, .widerDeep, .data, .widerDeep, .sentinel, .sentinel, .sentinel, .data, .sentinel, .sentinel], laidTests := true, laidLooks := .later }
def FnOneByOneAsToldUptoCardSaid : Prop := Claim7.holds Tryz.pinned (.plain (OpenSpec.upto fnOneByOneAsToldSpec)) fnOneByOneAsToldUptoCard
end Rows
end Go.Proofs.YtbjbmpcgiokdaaaGreatDoor
