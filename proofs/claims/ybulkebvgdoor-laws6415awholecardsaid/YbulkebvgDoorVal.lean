import Derived.Test.YbulkebvgDoorShl
namespace Go.Proofs.YbulkebvgDoor

/-- 2^64, as a power's base. -/
def pw (n : Nat) : Int := 18446744073709551616 ^ n
theorem pw_succ (n : Nat) : pw (n + 1) = pw n * 18446744073709551616 := by unfold pw; exact Int.pow_succ _ _
theorem pw_pos (n : Nat) : 0 < pw n := by unfold pw; exact Int.pow_pos (by decide)

/-- The number that the lowest n limbs say. -/
def val (A : Nat → Int) : Nat → Int
  | 0 => 0
  | n + 1 => val A n + A n * pw n

def Limbs (A : Nat → Int) (n : Nat) : Prop := ∀ i, i < n → 0 ≤ A i ∧ A i < 18446744073709551616
theorem Limbs.less {A : Nat → Int} {n m : Nat} (h : Limbs A n) (hm : m ≤ n) : Limbs A m := fun i hi => h i (by omega)

theorem val_bounds {A : Nat → Int} : ∀ {n : Nat}, Limbs A n → 0 ≤ val A n ∧ val A n < pw n
  | 0, _ => by simp [val, pw]
  | n + 1, h => by
    obtain ⟨h1, h2⟩ := val_bounds (h.less (Nat.le_succ n))
    obtain ⟨a1, a2⟩ := h n (Nat.lt_succ_self n)
    have hp := pw_pos n
    have e1 : 0 ≤ A n * pw n := Int.mul_nonneg a1 (Int.le_of_lt hp)
    have e2 : (A n + 1) * pw n ≤ 18446744073709551616 * pw n := Int.mul_le_mul_of_nonneg_right (by omega) (Int.le_of_lt hp)
    rw [Int.add_mul] at e2
    rw [pw_succ]
    simp only [val]
    omega

theorem ltN_val {A B : Nat → Int} : ∀ {n : Nat}, Limbs A n → Limbs B n → ltN A B n = decide (val A n < val B n)
  | 0, _, _ => by simp [ltN, val]
  | n + 1, hA, hB => by
    have ih := ltN_val (hA.less (Nat.le_succ n)) (hB.less (Nat.le_succ n))
    obtain ⟨a1, a2⟩ := val_bounds (hA.less (Nat.le_succ n))
    obtain ⟨b1, b2⟩ := val_bounds (hB.less (Nat.le_succ n))
    have hp := pw_pos n
    have eA : val A (n + 1) = val A n + A n * pw n := rfl
    have eB : val B (n + 1) = val B n + B n * pw n := rfl
    by_cases e : A n = B n
    · have h1 : ltN A B (n + 1) = ltN A B n := by simp [ltN, e]
      rw [h1, ih]
      rw [e] at eA
      exact decide_eq_decide.2 (by omega)
    · have h1 : ltN A B (n + 1) = decide (A n < B n) := by simp [ltN, e]
      rw [h1]
      refine decide_eq_decide.2 ?_
      by_cases l : A n < B n
      · have := Int.mul_le_mul_of_nonneg_right (show A n + 1 ≤ B n by omega) (Int.le_of_lt hp)
        rw [Int.add_mul] at this
        omega
      · have := Int.mul_le_mul_of_nonneg_right (show B n + 1 ≤ A n by omega) (Int.le_of_lt hp)
        rw [Int.add_mul] at this
        omega

def dif (A B : Nat → Int) (j : Nat) : Int := (A j - B j - bw A B j) % 18446744073709551616
theorem dif_limbs (A B : Nat → Int) (n : Nat) : Limbs (dif A B) n := fun i _ => by unfold dif; omega

theorem sub_val {A B : Nat → Int} : ∀ {n : Nat}, Limbs A n → Limbs B n → val (dif A B) n = val A n - val B n + bw A B n * pw n
  | 0, _, _ => by simp [val, bw]
  | n + 1, hA, hB => by
    have ih := sub_val (hA.less (Nat.le_succ n)) (hB.less (Nat.le_succ n))
    obtain ⟨a1, a2⟩ := hA n (Nat.lt_succ_self n)
    obtain ⟨b1, b2⟩ := hB n (Nat.lt_succ_self n)
    obtain ⟨k1, k2⟩ := bw_01 A B n
    have hd : dif A B n = A n - B n - bw A B n + bw A B (n + 1) * 18446744073709551616 := by
      simp only [dif, bw, bor]
      split <;> omega
    simp only [val]
    rw [ih, hd, pw_succ, Int.add_mul, Int.sub_mul, Int.sub_mul, Int.mul_assoc (bw A B (n + 1)), Int.mul_comm 18446744073709551616 (pw n)]
    omega

/-- Where A is no less than B, the difference is the difference. -/
theorem sub_ge {A B : Nat → Int} {n : Nat} (hA : Limbs A n) (hB : Limbs B n) (h : val B n ≤ val A n) : val (dif A B) n = val A n - val B n := by
  have e := sub_val hA hB
  obtain ⟨d1, d2⟩ := val_bounds (dif_limbs A B n)
  obtain ⟨a1, a2⟩ := val_bounds hA
  obtain ⟨b1, b2⟩ := val_bounds hB
  obtain ⟨k1, k2⟩ := bw_01 A B n
  rcases (show bw A B n = 0 ∨ bw A B n = 1 by omega) with k | k
  · rw [k] at e; omega
  · rw [k] at e; omega
theorem bw_val {A B : Nat → Int} {n : Nat} (hA : Limbs A n) (hB : Limbs B n) : bw A B n = if val A n < val B n then 1 else 0 := by
  have e := sub_val hA hB
  obtain ⟨d1, d2⟩ := val_bounds (dif_limbs A B n)
  obtain ⟨a1, a2⟩ := val_bounds hA
  obtain ⟨b1, b2⟩ := val_bounds hB
  obtain ⟨k1, k2⟩ := bw_01 A B n
  rcases (show bw A B n = 0 ∨ bw A B n = 1 by omega) with k | k
  · rw [k] at e; rw [k, if_neg (by omega)]
  · rw [k] at e; rw [k, if_pos (by omega)]
end Go.Proofs.YbulkebvgDoor
