import Derived.Test.YbulkebvgDoorInj
namespace Go.Proofs.YbulkebvgDoor

/-- The rows padded with zero limbs. -/
theorem pad_limbs {N : Nat → Int} {n : Nat} (h : Limbs N n) (m : Nat) : Limbs (fun j => if j < n then N j else 0) m := fun i _ => by
  show 0 ≤ (if i < n then N i else 0) ∧ (if i < n then N i else 0) < 18446744073709551616
  by_cases e : i < n
  · rw [if_pos e]; exact h i e
  · rw [if_neg e]; omega
theorem pad_val_lo {N : Nat → Int} (n : Nat) : ∀ m, m ≤ n → val (fun j => if j < n then N j else 0) m = val N m
  | 0, _ => rfl
  | m + 1, h => by
    simp only [val]
    rw [pad_val_lo n m (by omega), if_pos (by omega)]
theorem pad_val {N : Nat → Int} (n : Nat) : ∀ m, val (fun j => if j < n then N j else 0) (n + m) = val N n
  | 0 => pad_val_lo n n (Nat.le_refl _)
  | m + 1 => by
    have : val (fun j => if j < n then N j else 0) (n + (m + 1)) = val (fun j => if j < n then N j else 0) (n + m) + (if n + m < n then N (n + m) else 0) * pw (n + m) := rfl
    rw [this, pad_val n m, if_neg (by omega), Int.zero_mul, Int.add_zero]

theorem law_start {N : Nat → Int} (hN : Limbs N 8) : val (fun j => if j < 8 then N j else 0) 9 < LL * 2 ^ 261 ∧ val (fun j => if j < 8 then N j else 0) 9 % LL = val N 8 % LL := by
  have e : val (fun j => if j < 8 then N j else 0) 9 = val N 8 := pad_val 8 1
  rw [e]
  obtain ⟨v0, v1⟩ := val_bounds hN
  have h8 : pw 8 < LL * 2 ^ 261 := by rw [pw_two]; decide +kernel
  exact ⟨Int.lt_trans v1 h8, rfl⟩

theorem law_sub {A : Nat → Int} {v : Int} (hA : Limbs A 9) (c : Nat) (hc : c ≤ 260) (hb : val A 9 < LL * 2 ^ (c + 1)) (hm : val A 9 % LL = v) (hge : ¬ val A 9 < LL * 2 ^ c) :
    val (dif A (fun j => ((cellk c 4 j : Nat) : Int))) 9 < LL * 2 ^ c ∧ val (dif A (fun j => ((cellk c 4 j : Nat) : Int))) 9 % LL = v := by
  have e := sub_ge hA (cellk_limbs c 9) (by rw [cellk_val c hc]; omega)
  rw [cellk_val c hc] at e
  rw [e]
  have e2 : LL * 2 ^ (c + 1) = LL * 2 ^ c + LL * 2 ^ c := by rw [Int.pow_succ, ← Int.mul_assoc]; omega
  refine ⟨by omega, ?_⟩
  rw [← hm]
  exact Int.sub_mul_emod_self_left ..

theorem law_end {A R : Nat → Int} {v : Int} (hA : Limbs A 9) (hR : Limbs R 4) (hb : val A 9 < LL * 2 ^ 0) (hm : val A 9 % LL = v) (hv : val R 4 = v) :
    ∀ j, j < 9 → A j = if j < 4 then R j else 0 := by
  obtain ⟨a0, _⟩ := val_bounds hA
  have e1 : val A 9 % LL = val A 9 := Int.emod_eq_of_lt a0 (by simpa using hb)
  have e2 : val (fun j => if j < 4 then R j else 0) 9 = val R 4 := pad_val 4 5
  exact val_inj hA (pad_limbs hR 9) (by rw [e2, hv, ← hm, e1])
end Go.Proofs.YbulkebvgDoor
