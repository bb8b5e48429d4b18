/-
  DERIVED. GIVEN WITH THE SEED: THE CARDS: each row of YbulkebvgDoorRows.lean that lists a variable, with what it lists TIED to the program's text (the seventh form; the later family's looks); each row that meets fmt, with fmt's text TOLD by the authors' own Lean function (tested against real Go, not proved from fmt's source: count such statements apart). THE CARD IS WHAT COUNTS. Prove the row's statement (the work); the ties are given (YbulkebvgDoorTie.lean); close each card by the builder's one call (the guide's Derived/Test/ToyasCard.lean, 'card_holds'). Laid BY PROGRAM, IN A SANDBOX (cutbox-door.mjs). By AI agents, Wed Nov 11 2026. No macro, syntax, notation, axiom, sorry.
-/
import Derived.Test.YbulkebvgDoorRows
import GoSem.ClaimSeven
namespace Go.Proofs.YbulkebvgDoor
namespace Rows

/-- THE TIED CARD OF 'ed25519.LawS6415AWhole'. -/
def lawS6415AWholeCard : Claim7 := { stood := { row := lawS6415AWholeRow, standIns := [], harness := (true, "dea06dee8a8de842aabc592e808e6b2455b9144aad6386da71999730d6e4609a"), looks := false }, kinds := [], alts := [], laidByText := true, laidKinds := [.data], laidTests := true, laidLooks := .later }
def LawS6415AWholeCardSaid : Prop := Claim7.holds Ybad.pinned (.plain (OpenSpec.ofChange lawS6415AWholeSpec)) lawS6415AWholeCard
end Rows
end Go.Proofs.YbulkebvgDoor
