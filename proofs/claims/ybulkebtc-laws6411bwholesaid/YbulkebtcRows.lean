/-
  No cell of these rows narrows 'for every input' (looked for: loops, veiled, ifaces, maps, wideKeys, modest, calm, conditions, laid).
  DERIVED. THE GIVEN ROWS OF THIS SEAT. 1 by the template 'for every input the law returns true; each argument reads behind the call as it read before'; 0 by the template 'total and deterministic' (their statements: YbulkebtcTotals.lean).
  GIVEN WITH THE SEED: the statements are not yours to turn. If you find one false, say at which input.
  Laid BY PROGRAM, IN A SANDBOX (cutbox-rows.mjs): the forced cells as the released guide's own fill.sh prints them over the translation e4022f5446a3646b… (all of the seat's roots in one cut). By AI agents, Wed Nov 11 2026. No macro, syntax, notation, axiom, sorry.
-/
import Derived.Test.YbulkebtcChecked
import GoSem.Claim
import GoSem.ClaimJoined
import GoSem.ClaimMapViews
import Derived.JoinedTies
import Derived.KernelRfl
namespace Go.Proofs.Ybulkebtc
/- THE CELL 'sum', in the pinned program and in every row, IS THE sha256 OF THE DUMP (.gsa) THAT YbulkebtcProg.lean LOADS. Nothing in Lean hashes anything: it is a label: what it is worth is what the hold of that sum in a sandbox is worth. -/
noncomputable def Yba.pinned : Pinned := { name := "ybulkebtc", sum := "e4022f5446a3646bd94096aab089f5f995c0eb81949447edf592839a632d56e7", checked := Yba.checked }
namespace Rows
def none {H : Type} : Left H := { results := [], args := [] }

/-- 'geom.LawS6411BWhole': WHATEVER THE INPUT: true; the input reads as it did. -/
def lawS6411BWholeSpec : ChangeSpec := { name := "lawS6411BWhole", fn := fun _ => fun
  | [d] => { results := [.lit (.bool true)], args := [d] }
  | _ => none }
def lawS6411BWholeRow : OpenClaim := { program := "ybulkebtc", sum := "e4022f5446a3646bd94096aab089f5f995c0eb81949447edf592839a632d56e7", func := "example.com/discwave/discwave/geom.LawS6411BWhole", spec := "lawS6411BWhole", apart := false }
def LawS6411BWholeSaid : Prop := lawS6411BWholeRow.holds Yba.pinned (OpenSpec.ofChange lawS6411BWholeSpec)

/-- ITS FALSE NEIGHBOUR: 'it returns false'. Refute it at one input. -/
def lawS6411BWholeWrong : ChangeSpec := { name := "lawS6411BWhole", fn := fun _ => fun
  | [d] => { results := [.lit (.bool false)], args := [d] }
  | _ => none }
def LawS6411BWholeWrongFalsely : Prop := lawS6411BWholeRow.holds Yba.pinned (OpenSpec.ofChange lawS6411BWholeWrong)

end Rows
end Go.Proofs.Ybulkebtc
