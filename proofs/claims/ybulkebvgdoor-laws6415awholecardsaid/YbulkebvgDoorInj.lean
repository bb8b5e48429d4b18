import Derived.Test.YbulkebvgDoorRed
namespace Go.Proofs.YbulkebvgDoor

theorem val_inj {A B : Nat → Int} : ∀ {n : Nat}, Limbs A n → Limbs B n → val A n = val B n → ∀ i, i < n → A i = B i
  | 0, _, _, _, i, hi => absurd hi (Nat.not_lt_zero _)
  | n + 1, hA, hB, h, i, hi => by
    obtain ⟨a1, a2⟩ := val_bounds (hA.less (Nat.le_succ n))
    obtain ⟨b1, b2⟩ := val_bounds (hB.less (Nat.le_succ n))
    have hp := pw_pos n
    have eA : val A (n + 1) = val A n + A n * pw n := rfl
    have eB : val B (n + 1) = val B n + B n * pw n := rfl
    have e : A n = B n := by
      rcases Int.lt_trichotomy (A n) (B n) with l | l | l
      · have := Int.mul_le_mul_of_nonneg_right (show A n + 1 ≤ B n by omega) (Int.le_of_lt hp)
        rw [Int.add_mul] at this
        omega
      · exact l
      · have := Int.mul_le_mul_of_nonneg_right (show B n + 1 ≤ A n by omega) (Int.le_of_lt hp)
        rw [Int.add_mul] at this
        omega
    by_cases hn : i = n
    · subst hn; exact e
    · refine val_inj (hA.less (Nat.le_succ n)) (hB.less (Nat.le_succ n)) ?_ i (by omega)
      rw [e] at eA
      omega
end Go.Proofs.YbulkebvgDoor
