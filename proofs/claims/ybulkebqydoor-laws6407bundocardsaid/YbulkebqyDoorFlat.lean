import Derived.Test.YbulkebqyDoorPartL
namespace Go.Proofs.YbulkebqyDoor
open Go.RowKit Go.Deep

/-! ### A body, statement by statement -/
def flatten : Code → List Code
  | .seq a b => flatten a ++ flatten b
  | c => [c]
def stmtsFrom (f : Func) (i : Nat) : List Code := (flatten (f.body.getD .skip)).drop i

/-- What is asked of a list of statements, one behind the other. -/
def wpStmts (P : Program) : List Code → (Exit → Act → World → Prop) → Act → World → Prop
  | [], Q, a, w => Q .normal a w
  | s :: ss, Q, a, w => s.wp P (Exit.then (wpStmts P ss Q) Q) a w

section
variable {P : Program} {Q : Exit → Act → World → Prop} {a : Act} {w : World}
theorem wp_of_flat (c : Code) : ∀ (l : List Code) (Q : Exit → Act → World → Prop) (a : Act) (w : World), wpStmts P (flatten c ++ l) Q a w → c.wp P (Exit.then (wpStmts P l Q) Q) a w := by
  induction c with
  | seq x y ihx ihy =>
    intro l Q a w h
    simp only [flatten, List.append_assoc] at h
    have h1 := ihx (flatten y ++ l) Q a w h
    refine wp_seq (wp_mono h1 fun e a' w' hq => ?_)
    cases e <;> first | exact ihy l Q _ _ hq | exact hq
  | _ => intro l Q a w h; exact h

theorem wp_of_stmts {c : Code} (h : wpStmts P (flatten c) Q a w) : c.wp P Q a w := by
  have h1 := wp_of_flat (P := P) c [] Q a w (by simpa using h)
  refine wp_mono h1 fun e a' w' hq => ?_
  cases e <;> exact hq

theorem wpStmts_k {l ss : List Code} {s : Code} (e : l = s :: ss) (h : ∀ K : Act → World → Prop, (∀ a w, wpStmts P ss Q a w → K a w) → s.wp P (Exit.then K Q) a w) : wpStmts P l Q a w := by
  subst e
  exact h _ fun _ _ h => h
end

end Go.Proofs.YbulkebqyDoor
