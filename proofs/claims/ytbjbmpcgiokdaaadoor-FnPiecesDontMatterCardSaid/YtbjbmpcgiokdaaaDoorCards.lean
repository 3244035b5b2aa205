/-
  DERIVED. GIVEN WITH THE SEED: THE CARDS: each row of YtbjbmpcgiokdaaaDoorRows.lean that lists a variable, with what it lists TIED to the program's text (the seventh form; the later family's looks); each row that meets fmt, with fmt's text TOLD by the authors' own Lean function (tested against real Go, not proved from fmt's source: count such statements apart). THE CARD IS WHAT COUNTS. Prove the row's statement (the work); the ties are given (YtbjbmpcgiokdaaaDoorTie.lean); close each card by the builder's one call (the guide's Derived/Test/ToyasCard.lean, 'card_holds'). Laid BY PROGRAM, IN A SANDBOX (cutbox-door.mjs). By AI agents, Wed Nov 11 2026. No macro, syntax, notation, axiom, sorry.
-/
import Derived.Test.YtbjbmpcgiokdaaaDoorRows
import GoSem.ClaimSeven
namespace Go.Proofs.YtbjbmpcgiokdaaaDoor
namespace Rows

/-- THE TIED CARD OF 'laws.FnHeaderTakesItsBytes'. -/
def fnHeaderTakesItsBytesCard : Claim7 := { stood := { row := fnHeaderTakesItsBytesRow, standIns := [], harness := (true, "5fea5912569ca46113a6f2701403e6807488ee75ed7057251157459d7163dcbe"), looks := true }, kinds := [], alts := [], laidByText := true, laidKinds := [.sentinel, .sentinel, .sentinel, .data, .sentinel, .sentinel], laidTests := true, laidLooks := .later }
def FnHeaderTakesItsBytesCardSaid : Prop := Claim7.holds Tryd.pinned (.plain (OpenSpec.ofChange fnHeaderTakesItsBytesSpec)) fnHeaderTakesItsBytesCard

/-- THE TIED CARD OF 'laws.FnHeaderAsTold'. -/
def fnHeaderAsToldCard : Claim7 := { stood := { row := fnHeaderAsToldRow, standIns := [], harness := (true, "5fea5912569ca46113a6f2701403e6807488ee75ed7057251157459d7163dcbe"), looks := true }, kinds := [], alts := [], laidByText := true, laidKinds := [.sentinel, .sentinel, .sentinel, .data, .sentinel, .sentinel], laidTests := true, laidLooks := .later }
def FnHeaderAsToldCardSaid : Prop := Claim7.holds Tryd.pinned (.plain (OpenSpec.ofChange fnHeaderAsToldSpec)) fnHeaderAsToldCard

/-- THE TIED CARD OF 'laws.FnMadeHeaderIsRead'. -/
def fnMadeHeaderIsReadCard : Claim7 := { stood := { row := fnMadeHeaderIsReadRow, standIns := [], harness := (true, "5fea5912569ca46113a6f2701403e6807488ee75ed7057251157459d7163dcbe"), looks := true }, kinds := [], alts := [], laidByText := true, laidKinds := [.sentinel, .sentinel, .sentinel, .data, .sentinel, .sentinel], laidTests := true, laidLooks := .later }
def FnMadeHeaderIsReadCardSaid : Prop := Claim7.holds Tryd.pinned (.plain (OpenSpec.ofChange fnMadeHeaderIsReadSpec)) fnMadeHeaderIsReadCard

/-- THE TIED CARD OF 'laws.FnSizesDontMatter'. -/
def fnSizesDontMatterCard : Claim7 := { stood := { row := fnSizesDontMatterRow, standIns := [], harness := (true, "5fea5912569ca46113a6f2701403e6807488ee75ed7057251157459d7163dcbe"), looks := true }, kinds := [], alts := [], laidByText := true, laidKinds := [.sentinel, .sentinel, .sentinel, .data, .sentinel, .sentinel], laidTests := true, laidLooks := .later }
def FnSizesDontMatterCardSaid : Prop := Claim7.holds Tryd.pinned (.plain (OpenSpec.ofChange fnSizesDontMatterSpec)) fnSizesDontMatterCard

/-- THE TIED CARD OF 'laws.FnPiecesDontMatter'. -/
def fnPiecesDontMatterCard : Claim7 := { stood := { row := fnPiecesDontMatterRow, standIns := [], harness := (true, "5fea5912569ca46113a6f2701403e6807488ee75ed7057251157459d7163dcbe"), looks := true }, kinds := [], alts := [], laidByText := true, laidKinds := [.sentinel, .sentinel, .sentinel, .data, .sentinel, .sentinel], laidTests := true, laidLooks := .later }
def FnPiecesDontMatterCardSaid : Prop := Claim7.holds Tryd.pinned (.plain (OpenSpec.ofChange fnPiecesDontMatterSpec)) fnPiecesDontMatterCard

/-- THE TIED CARD OF 'laws.FnReaderResetIsNew'. -/
def fnReaderResetIsNewCard : Claim7 := { stood := { row := fnReaderResetIsNewRow, standIns := [], harness := (true, "5fea5912569ca46113a6f2701403e6807488ee75ed7057251157459d7163dcbe"), looks := true }, kinds := [], alts := [], laidByText := true, laidKinds := [.sentinel, .sentinel, .sentinel, .data, .sentinel, .sentinel], laidTests := true, laidLooks := .later }
def FnReaderResetIsNewCardSaid : Prop := Claim7.holds Tryd.pinned (.plain (OpenSpec.ofChange fnReaderResetIsNewSpec)) fnReaderResetIsNewCard

/-- THE SECOND FORM's CARD OF 'laws.FnHeaderTakesItsBytes'. -/
def fnHeaderTakesItsBytesUptoCard : Claim7 := { stood := { row := fnHeaderTakesItsBytesUptoRow, standIns := [], harness := (true, "5fea5912569ca46113a6f2701403e6807488ee75ed7057251157459d7163dcbe"), looks := true }, kinds := [], alts := [], laidByText := true, laidKinds := [.sentinel, .sentinel, .sentinel, .data, .sentinel, .sentinel], laidTests := true, laidLooks := .later }
def FnHeaderTakesItsBytesUptoCardSaid : Prop := Claim7.holds Tryd.pinned (.plain (OpenSpec.upto fnHeaderTakesItsBytesSpec)) fnHeaderTakesItsBytesUptoCard

/-- THE SECOND FORM's CARD OF 'laws.FnHeaderAsTold'. -/
def fnHeaderAsToldUptoCard : Claim7 := { stood := { row := fnHeaderAsToldUptoRow, standIns := [], harness := (true, "5fea5912569ca46113a6f2701403e6807488ee75ed7057251157459d7163dcbe"), looks := true }, kinds := [], alts := [], laidByText := true, laidKinds := [.sentinel, .sentinel, .sentinel, .data, .sentinel, .sentinel], laidTests := true, laidLooks := .later }
def FnHeaderAsToldUptoCardSaid : Prop := Claim7.holds Tryd.pinned (.plain (OpenSpec.upto fnHeaderAsToldSpec)) fnHeaderAsToldUptoCard

/-- THE SECOND FORM's CARD OF 'laws.FnMadeHeaderIsRead'. -/
def fnMadeHeaderIsReadUptoCard : Claim7 := { stood := { row := fnMadeHeaderIsReadUptoRow, standIns := [], harness := (true, "5fea5912569ca46113a6f2701403e6807488ee75ed7057251157459d7163dcbe"), looks := true }, kinds := [], alts := [], laidByText := true, laidKinds := [.sentinel, .sentinel, .sentinel, .data, .sentinel, .sentinel], laidTests := true, laidLooks := .later }
def FnMadeHeaderIsReadUptoCardSaid : Prop := Claim7.holds Tryd.pinned (.plain (OpenSpec.upto fnMadeHeaderIsReadSpec)) fnMadeHeaderIsReadUptoCard

/-- THE SECOND FORM's CARD OF 'laws.FnSizesDontMatter'. -/
def fnSizesDontMatterUptoCard : Claim7 := { stood := { row := fnSizesDontMatterUptoRow, standIns := [], harness := (true, "5fea5912569ca46113a6f2701403e6807488ee75ed7057251157459d7163dcbe"), looks := true }, kinds := [], alts := [], laidByText := true, laidKinds := [.sentinel, .sentinel, .sentinel, .data, .sentinel, .sentinel], laidTests := true, laidLooks := .later }
def FnSizesDontMatterUptoCardSaid : Prop := Claim7.holds Tryd.pinned (.plain (OpenSpec.upto fnSizesDontMatterSpec)) fnSizesDontMatterUptoCard

/-- THE SECOND FORM's CARD OF 'laws.FnPiecesDontMatter'. -/
def fnPiecesDontMatterUptoCard : Claim7 := { stood := { row := fnPiecesDontMatterUptoRow, standIns := [], harness := (true, "5fea5912569ca46113a6f2701403e6807488ee75ed7057251157459d7163dcbe"), looks := true }, kinds := [], alts := [], laidByText := true, laidKinds := [.sentinel, .sentinel, .sentinel, .data, .sentinel, .sentinel], laidTests := true, laidLooks := .later }
def FnPiecesDontMatterUptoCardSaid : Prop := Claim7.holds Tryd.pinned (.plain (OpenSpec.upto fnPiecesDontMatterSpec)) fnPiecesDontMatterUptoCard

/-- THE SECOND FORM's CARD OF 'laws.FnReaderResetIsNew'. -/
def fnReaderResetIsNewUptoCard : Claim7 := { stood := { row := fnReaderResetIsNewUptoRow, standIns := [], harness := (true, "5fea5912569ca46113a6f2701403e6807488ee75ed7057251157459d7163dcbe"), looks := true }, kinds := [], alts := [], laidByText := true, laidKinds := [.sentinel, .sentinel, .sentinel, .data, .sentinel, .sentinel], laidTests := true, laidLooks := .later }
def FnReaderResetIsNewUptoCardSaid : Prop := Claim7.holds Tryd.pinned (.plain (OpenSpec.upto fnReaderResetIsNewSpec)) fnReaderResetIsNewUptoCard
end Rows
end Go.Proofs.YtbjbmpcgiokdaaaDoor
