/-
  DERIVED. GIVEN WITH THE SEED: THE CARDS: each row of YbulkebqyDoorRows.lean that lists a variable, with what it lists TIED to the program's text (the seventh form; the later family's looks); each row that meets fmt, with fmt's text TOLD by the authors' own Lean function (tested against real Go, not proved from fmt's source: count such statements apart). THE CARD IS WHAT COUNTS. Prove the row's statement (the work); the ties are given (YbulkebqyDoorTie.lean); close each card by the builder's one call (the guide's Derived/Test/ToyasCard.lean, 'card_holds'). Laid BY PROGRAM, IN A SANDBOX (cutbox-door.mjs). By AI agents, Wed Nov 11 2026. No macro, syntax, notation, axiom, sorry.
-/
import Derived.Test.YbulkebqyDoorRows
import GoSem.ClaimSeven
namespace Go.Proofs.YbulkebqyDoor
namespace Rows

/-- THE TIED CARD OF 'schedule.LawS6407BPart'. -/
def lawS6407BPartCard : Claim7 := { stood := { row := lawS6407BPartRow, standIns := [], harness := (true, "b4838e737cf0c715b1e301fbc46949f229b72d3f1d988cdde7d782300ba76e21"), looks := false }, kinds := [], alts := [], laidByText := true, laidKinds := [.data], laidTests := true, laidLooks := .later }
def LawS6407BPartCardSaid : Prop := Claim7.holds Ybad.pinned (.plain (OpenSpec.ofChange lawS6407BPartSpec)) lawS6407BPartCard

/-- THE TIED CARD OF 'schedule.LawS6407BUndo'. -/
def lawS6407BUndoCard : Claim7 := { stood := { row := lawS6407BUndoRow, standIns := [], harness := (true, "b4838e737cf0c715b1e301fbc46949f229b72d3f1d988cdde7d782300ba76e21"), looks := false }, kinds := [], alts := [], laidByText := true, laidKinds := [.data], laidTests := true, laidLooks := .later }
def LawS6407BUndoCardSaid : Prop := Claim7.holds Ybad.pinned (.plain (OpenSpec.ofChange lawS6407BUndoSpec)) lawS6407BUndoCard
end Rows
end Go.Proofs.YbulkebqyDoor
