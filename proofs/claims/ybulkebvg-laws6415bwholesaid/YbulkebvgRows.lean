/-
  No cell of these rows narrows 'for every input' (looked for: loops, veiled, ifaces, maps, wideKeys, modest, calm, conditions, laid).
  DERIVED. THE GIVEN ROWS OF THIS SEAT. 1 by the template 'for every input the law returns true; each argument reads behind the call as it read before'; 0 by the template 'total and deterministic' (their statements: YbulkebvgTotals.lean).
  GIVEN WITH THE SEED: the statements are not yours to turn. If you find one false, say at which input.
  Laid BY PROGRAM, IN A SANDBOX (cutbox-rows.mjs): the forced cells as the released guide's own fill.sh prints them over the translation de421ca1d0a8ba96… (all of the seat's roots in one cut). By AI agents, Wed Nov 11 2026. No macro, syntax, notation, axiom, sorry.
-/
import Derived.Test.YbulkebvgChecked
import GoSem.Claim
import GoSem.ClaimJoined
import GoSem.ClaimMapViews
import Derived.JoinedTies
import Derived.KernelRfl
namespace Go.Proofs.Ybulkebvg
/- THE CELL 'sum', in the pinned program and in every row, IS THE sha256 OF THE DUMP (.gsa) THAT YbulkebvgProg.lean LOADS. Nothing in Lean hashes anything: it is a label: what it is worth is what the hold of that sum in a sandbox is worth. -/
noncomputable def Yba.pinned : Pinned := { name := "ybulkebvg", sum := "de421ca1d0a8ba96591cf4f3fe35b701949668281d4a2ea9726b86e57633d22a", checked := Yba.checked }
namespace Rows
def none {H : Type} : Left H := { results := [], args := [] }

/-- 'wirelog.LawS6415BWhole': WHATEVER THE INPUT: true; the input reads as it did. -/
def lawS6415BWholeSpec : ChangeSpec := { name := "lawS6415BWhole", fn := fun _ => fun
  | [d1, d2, d3, d4, d5] => { results := [.lit (.bool true)], args := [d1, d2, d3, d4, d5] }
  | _ => none }
def lawS6415BWholeRow : OpenClaim := { program := "ybulkebvg", sum := "de421ca1d0a8ba96591cf4f3fe35b701949668281d4a2ea9726b86e57633d22a", func := "example.com/wirelog/wirelog.LawS6415BWhole", spec := "lawS6415BWhole", unfollowed := true, recurses := true, apart := false }
def LawS6415BWholeSaid : Prop := lawS6415BWholeRow.holds Yba.pinned (OpenSpec.ofChange lawS6415BWholeSpec)

/-- ITS FALSE NEIGHBOUR: 'it returns false'. Refute it at one input. -/
def lawS6415BWholeWrong : ChangeSpec := { name := "lawS6415BWhole", fn := fun _ => fun
  | [d1, d2, d3, d4, d5] => { results := [.lit (.bool false)], args := [d1, d2, d3, d4, d5] }
  | _ => none }
def LawS6415BWholeWrongFalsely : Prop := lawS6415BWholeRow.holds Yba.pinned (OpenSpec.ofChange lawS6415BWholeWrong)

end Rows
end Go.Proofs.Ybulkebvg
