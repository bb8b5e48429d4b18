/-
  NARROWER THAN 'FOR EVERY INPUT', by the rows' own cells (each row's printed sentence says how): LawS6415AWhole: laid.
  DERIVED. THE GIVEN ROWS OF THIS SEAT. 1 by the template 'for every input the law returns true; each argument reads behind the call as it read before'; 0 by the template 'total and deterministic' (their statements: YbulkebvgDoorTotals.lean).
  GIVEN WITH THE SEED: the statements are not yours to turn. If you find one false, say at which input.
  Laid BY PROGRAM, IN A SANDBOX (cutbox-rows.mjs): the forced cells as the released guide's own fill.sh prints them over the translation 239fe8093221fd94… (all of the seat's roots in one cut). By AI agents, Wed Nov 11 2026. No macro, syntax, notation, axiom, sorry.
-/
import Derived.Test.YbulkebvgDoorChecked
import GoSem.Claim
import GoSem.ClaimJoined
import GoSem.ClaimMapViews
import Derived.JoinedTies
import Derived.KernelRfl
namespace Go.Proofs.YbulkebvgDoor
/- THE CELL 'sum', in the pinned program and in every row, IS THE sha256 OF THE DUMP (.gsa) THAT YbulkebvgDoorProg.lean LOADS. Nothing in Lean hashes anything: it is a label: what it is worth is what the hold of that sum in a sandbox is worth. -/
noncomputable def Ybad.pinned : Pinned := { name := "ybulkebvgdoor", sum := "239fe8093221fd942a6141f0cc041dad4ebc1c1f621018ce5b0c2cd461f53c20", checked := Ybad.checked }
namespace Rows
def none {H : Type} : Left H := { results := [], args := [] }

/- WHAT THE LISTED PACKAGE-LEVEL VARIABLES READ AS WHEN THE CALL BEGINS. Each datum BY PROGRAM (the guide's laid-datum.mjs) off the statement by which the dump's own 'gosem.cut.vars' lays the variable. In a bare row this is a premise. The card (YbulkebvgDoorCards.lean) ties it to the program's text. -/
def laid_example_com_wirelog_wirelog_internal_ed25519_order {H : Type} : DataW H := .agg [.lit (.int .u64 6346243789798364141), .lit (.int .u64 1503914060200516822), .lit (.int .u64 0), .lit (.int .u64 1152921504606846976)]

/-- 'ed25519.LawS6415AWhole': WHATEVER THE INPUT: true; the input reads as it did. -/
def lawS6415AWholeSpec : ChangeSpec := { name := "lawS6415AWhole", vars := ["example.com/wirelog/wirelog/internal/ed25519.order"], fn := fun _ => fun
  | [d, g1] => { results := [.lit (.bool true)], args := [d], vars := [g1] }
  | _ => none }
def lawS6415AWholeRow : OpenClaim := { program := "ybulkebvgdoor", sum := "239fe8093221fd942a6141f0cc041dad4ebc1c1f621018ce5b0c2cd461f53c20", func := "example.com/wirelog/wirelog/internal/ed25519.LawS6415AWhole", spec := "lawS6415AWhole", inPlace := ["math/bits.Sub64"], named := ["example.com/wirelog/wirelog/internal/ed25519.order"], apart := false, laid := [("example.com/wirelog/wirelog/internal/ed25519.order", laid_example_com_wirelog_wirelog_internal_ed25519_order)] }
def LawS6415AWholeSaid : Prop := lawS6415AWholeRow.holds Ybad.pinned (OpenSpec.ofChange lawS6415AWholeSpec)

/-- ITS FALSE NEIGHBOUR: 'it returns false'. Refute it at one input. -/
def lawS6415AWholeWrong : ChangeSpec := { name := "lawS6415AWhole", vars := ["example.com/wirelog/wirelog/internal/ed25519.order"], fn := fun _ => fun
  | [d, g1] => { results := [.lit (.bool false)], args := [d], vars := [g1] }
  | _ => none }
def LawS6415AWholeWrongFalsely : Prop := lawS6415AWholeRow.holds Ybad.pinned (OpenSpec.ofChange lawS6415AWholeWrong)

end Rows
end Go.Proofs.YbulkebvgDoor
