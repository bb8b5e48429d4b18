/-
  No cell of these rows narrows 'for every input' (looked for: loops, veiled, ifaces, maps, wideKeys, modest, calm, conditions, laid).
  DERIVED. THE GIVEN ROWS OF THIS SEAT. 1 by the template 'for every input the law returns true; each argument reads behind the call as it read before'; 0 by the template 'total and deterministic' (their statements: YbulkebsaTotals.lean).
  GIVEN WITH THE SEED: the statements are not yours to turn. If you find one false, say at which input.
  Laid BY PROGRAM, IN A SANDBOX (cutbox-rows.mjs): the forced cells as the released guide's own fill.sh prints them over the translation b8967067978d199c… (all of the seat's roots in one cut). By AI agents, Wed Nov 11 2026. No macro, syntax, notation, axiom, sorry.
-/
import Derived.Test.YbulkebsaChecked
import GoSem.Claim
import GoSem.ClaimJoined
import GoSem.ClaimMapViews
import Derived.JoinedTies
import Derived.KernelRfl
namespace Go.Proofs.Ybulkebsa
/- THE CELL 'sum', in the pinned program and in every row, IS THE sha256 OF THE DUMP (.gsa) THAT YbulkebsaProg.lean LOADS. Nothing in Lean hashes anything: it is a label: what it is worth is what the hold of that sum in a sandbox is worth. -/
noncomputable def Yba.pinned : Pinned := { name := "ybulkebsa", sum := "b8967067978d199c52b958c010a97fc60f84654a194b7b0e7dd06ba55475f632", checked := Yba.checked }
namespace Rows
def none {H : Type} : Left H := { results := [], args := [] }

/-- 'lease-to-invoice.LawS6409BWhole': WHATEVER THE INPUT: true; the input reads as it did. -/
def lawS6409BWholeSpec : ChangeSpec := { name := "lawS6409BWhole", fn := fun _ => fun
  | [d1, d2] => { results := [.lit (.bool true)], args := [d1, d2] }
  | _ => none }
def lawS6409BWholeRow : OpenClaim := { program := "ybulkebsa", sum := "b8967067978d199c52b958c010a97fc60f84654a194b7b0e7dd06ba55475f632", func := "example.com/lease-to-invoice/lease-to-invoice.LawS6409BWhole", spec := "lawS6409BWhole", unfollowed := true, recurses := true, apart := false }
def LawS6409BWholeSaid : Prop := lawS6409BWholeRow.holds Yba.pinned (OpenSpec.ofChange lawS6409BWholeSpec)

/-- ITS FALSE NEIGHBOUR: 'it returns false'. Refute it at one input. -/
def lawS6409BWholeWrong : ChangeSpec := { name := "lawS6409BWhole", fn := fun _ => fun
  | [d1, d2] => { results := [.lit (.bool false)], args := [d1, d2] }
  | _ => none }
def LawS6409BWholeWrongFalsely : Prop := lawS6409BWholeRow.holds Yba.pinned (OpenSpec.ofChange lawS6409BWholeWrong)

end Rows
end Go.Proofs.Ybulkebsa
