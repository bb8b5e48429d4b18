import Derived.Test.YbulkebqyDoorBack
import Derived.OrdersHeld
namespace Go.Proofs.YbulkebqyDoor
open Go.RowKit Go.Deep Go.Shelf

/-- Operations that make no call and defer none. -/
def plainOp : Op → Bool
  | .load _ _ | .store _ _ _ | .nilCheck _ | .fieldAddr _ _ _ | .indexAddr _ _ _ | .move _ => true
  | _ => false
def callsNone : Result Next → Prop
  | .ok (.enter _ _) _ => False
  | .ok (.row _ _) _ => False
  | .ok (.round _ _ _ _ _) _ => False
  | _ => True
theorem callsNone_value (x : Sem Value) (P : Program) (w : World) : callsNone ((do let r ← x; pure (Next.value r) : Sem Next).run P w) := by
  simp only [Sem.run_bind, Sem.run_pure]
  cases x.run P w <;> simp [Result.andThen, callsNone]
theorem callsNone_bind {α : Type} {x : Sem α} {f : α → Sem Next} {P : Program} (h : ∀ r w, callsNone ((f r).run P w)) (w : World) : callsNone ((x >>= f).run P w) := by
  simp only [Sem.run_bind]
  cases x.run P w with
  | ok r w' => exact h r w'
  | halt e w' => exact trivial
theorem callsNone_pure (v : Value) (P : Program) (w : World) : callsNone ((pure (Next.value v) : Sem Next).run P w) := trivial
theorem callsNone_panic (P : Program) (w : World) : callsNone ((runtimePanic .nilDeref : Sem Next).run P w) := by
  simp [runtimePanic, goPanic, callsNone]
theorem callsNone_skip {α : Type} (x : Sem α) (P : Program) (w : World) : callsNone ((do let _ ← x; pure Next.skip : Sem Next).run P w) := by
  simp only [Sem.run_bind, Sem.run_pure]
  cases x.run P w <;> simp [Result.andThen, callsNone]
theorem callsNone_plain {o : Oper} (h : plainOp o.op = true) (ρ : Operand → Value) (P : Program) (w : World) : callsNone ((execOp ρ o).run P w) := by
  cases ho : o.op <;> rw [ho] at h <;> simp [plainOp] at h
  all_goals
    unfold execOp
    simp only [ho]
    first
      | exact callsNone_value _ P w
      | exact callsNone_pure _ P w
      | exact callsNone_skip _ P w
      | skip
  split
  · exact callsNone_panic P w
  · exact callsNone_panic P w
  · exact callsNone_panic P w
  · split
    · exact callsNone_panic P w
    · refine callsNone_bind (fun _ w => callsNone_bind (fun _ w => ?_) w) w
      split
      · exact callsNone_bind (fun _ w => callsNone_pure _ P w) w
      · exact callsNone_pure _ P w
    · exact callsNone_pure _ P w
  · exact callsNone_pure _ P w

theorem plain_noDefer {o : Oper} (h : plainOp o.op = true) : ∀ c, o.op ≠ .defer c := fun c e => by rw [e] at h; cases h

/-- Such an operation goes in a round as it goes anywhere. -/
theorem wpIn_of_plain {P : Program} {o : Oper} {a : Act} {w : World} {K : Act → World → Prop} {Q : Exit → Act → World → Prop} {l n : Nat} (hp : plainOp o.op = true) (h : o.wp P a w K Q) : o.wpIn (Fence.wide.inRound l) n P a w K Q := by
  refine ⟨fun _ _ => trivial, ?_⟩
  rw [Oper.semAt_eq _ _ _ (plain_noDefer hp)]
  have hc := callsNone_plain hp a.eval P w
  unfold Oper.wp at h
  generalize (execOp a.eval o).run P w = r at h hc
  cases r with
  | ok nx w' => cases nx <;> first | exact h | exact hc.elim | exact h.elim
  | halt e w' => cases e <;> first | exact h | exact h.elim

theorem wpAnyIn_of_plain {P : Program} {ops : Array Oper} {Q : Exit → Act → World → Prop} {md : Region.Mode} {l n : Nat} (hp : ∀ o ∈ ops.toList, plainOp o.op = true) (hQ : ¬ LetsOut Q) :
    ∀ (fuel : Nat) (listed : Array Bool) (a : Act) (w : World), wpAny P md ops Q fuel listed a w → wpAnyIn (Fence.wide.inRound l) n P md ops Q fuel listed a w
  | 0, _, _, _, h => h
  | fuel + 1, listed, a, w, h => ⟨h.1, fun i hi => by
      have hh := h.2 i hi
      unfold wpOp at hh
      unfold wpOpIn
      cases ho : ops[i]? with
      | none => rw [ho] at hh; exact wpAnyIn_of_plain hp hQ fuel _ _ _ hh
      | some o =>
        rw [ho] at hh
        have hpo := hp o (by rw [Array.mem_toList_iff]; exact Array.mem_of_getElem? ho)
        simp only at hh ⊢
        by_cases hw : Region.wanted o (yielded ops a.tmps) = true
        · rw [if_pos hw] at hh ⊢
          rcases hh with hh | ⟨_, hh⟩
          · exact Oper.wpIn_mono (fun a' w' h' => wpAnyIn_of_plain hp hQ fuel _ a' w' h') (wpIn_of_plain hpo hh)
          · exact absurd hh hQ
        · rw [if_neg hw] at hh ⊢
          exact ⟨fun _ _ => trivial, wpAnyIn_of_plain hp hQ fuel _ _ _ hh⟩⟩

/-- A region that draws, in a round. -/
theorem region_round {P : Program} {id : Nat} {ops : Array Oper} {Q : Exit → Act → World → Prop} {a : Act} {w : World} {l n : Nat} {S : World → Prop} (hm : P.follows .mixedOrders = true) (hp : ∀ o ∈ ops.toList, plainOp o.op = true) (hQ : ¬ LetsOut Q)
    (h : wpAnyH P .any ops Q S ops.size (Array.replicate ops.size false) a w.drew) : (Code.region id ops true).wpIn (Fence.wide.inRound l) n P Q a w :=
  wpIn_region_any hm (wpAnyIn_of_plain hp hQ _ _ _ _ (wpAny_of_held _ _ _ _ h))
end Go.Proofs.YbulkebqyDoor
