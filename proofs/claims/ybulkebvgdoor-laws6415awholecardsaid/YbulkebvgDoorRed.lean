import Derived.Test.YbulkebvgDoorStep
namespace Go.Proofs.YbulkebvgDoor

/-- A number split at limb i. -/
theorem val_split {N : Nat → Int} (i : Nat) : ∀ n, ∃ hi, val N (i + 1 + n) = val N i + (N i + 18446744073709551616 * hi) * pw i
  | 0 => ⟨0, by simp [val]⟩
  | n + 1 => by
    obtain ⟨hi, e⟩ := val_split (N := N) i n
    refine ⟨hi + N (i + 1 + n) * 18446744073709551616 ^ n, ?_⟩
    have : val N (i + 1 + (n + 1)) = val N (i + 1 + n) + N (i + 1 + n) * pw (i + 1 + n) := rfl
    rw [this, e]
    have hp : pw (i + 1 + n) = 18446744073709551616 * 18446744073709551616 ^ n * pw i := by
      unfold pw
      rw [Int.pow_add, Int.pow_succ, Int.mul_comm (18446744073709551616 ^ i) 18446744073709551616, Int.mul_assoc, Int.mul_assoc, Int.mul_comm (18446744073709551616 ^ i)]
    rw [hp]
    generalize (18446744073709551616 : Int) ^ n = m
    generalize pw i = q
    generalize N (i + 1 + n) = x
    have e1 : (N i + 18446744073709551616 * (hi + x * m)) * q = (N i + 18446744073709551616 * hi) * q + 18446744073709551616 * (x * m) * q := by rw [Int.mul_add, ← Int.add_assoc, Int.add_mul]
    have e2 : x * (18446744073709551616 * m * q) = 18446744073709551616 * (x * m) * q := by ac_rfl
    rw [e1, e2, Int.add_assoc]

theorem pw_two (i : Nat) : pw i = 2 ^ (64 * i) := by
  unfold pw
  rw [Int.pow_mul]
  rfl

theorem bit_val {N : Nat → Int} (h : Limbs N 8) (c : Nat) (hc : c < 512) : N (c / 64) / 2 ^ (c % 64) % 2 = val N 8 / 2 ^ c % 2 := by
  have hi8 : c / 64 < 8 := by omega
  obtain ⟨hi, e⟩ := val_split (N := N) (c / 64) (7 - c / 64)
  rw [show c / 64 + 1 + (7 - c / 64) = 8 by omega] at e
  obtain ⟨v0, v1⟩ := val_bounds (h.less (m := c / 64) (by omega))
  have hp := pw_pos (c / 64)
  have hdiv : val N 8 / pw (c / 64) = N (c / 64) + 18446744073709551616 * hi := by
    rw [e, Int.add_mul_ediv_right _ _ (Int.ne_of_gt hp), Int.ediv_eq_zero_of_lt v0 v1, Int.zero_add]
  have hc2 : (2 : Int) ^ c = pw (c / 64) * 2 ^ (c % 64) := by
    rw [pw_two, ← Int.pow_add]
    congr 1
    omega
  rw [hc2, ← Int.ediv_ediv_of_nonneg (Int.le_of_lt hp), hdiv]
  have hM : (18446744073709551616 : Int) = 2 ^ (63 - c % 64) * 2 * 2 ^ (c % 64) := by
    rw [← Int.pow_succ, ← Int.pow_add, show 63 - c % 64 + 1 + c % 64 = 64 by omega]
    rfl
  have h2 : (0 : Int) < 2 ^ (c % 64) := Int.pow_pos (by decide)
  have e3 : 18446744073709551616 * hi = (2 ^ (63 - c % 64) * hi * 2) * 2 ^ (c % 64) := by
    rw [hM]; ac_rfl
  rw [e3, Int.add_mul_ediv_right _ _ (Int.ne_of_gt h2)]
  omega

theorem lim_limbs : Limbs (fun j => ((lim j : Nat) : Int)) 4 := fun i _ => by
  have := lim_lt i
  show 0 ≤ ((lim i : Nat) : Int) ∧ ((lim i : Nat) : Int) < 18446744073709551616
  omega

/-- One step of the reduction. -/
theorem red_step {N R : Nat → Int} (hN : Limbs N 8) (hR : Limbs R 4) (c : Nat) (hc : c < 512) (t : Int) (ht : t = N (c / 64) / 2 ^ (c % 64) % 2) (hv : val R 4 = val N 8 / 2 ^ (c + 1) % LL) :
    (bw (shf R t) (fun j => ((lim j : Nat) : Int)) 4 = 0 → val (dif (shf R t) (fun j => ((lim j : Nat) : Int))) 4 = val N 8 / 2 ^ c % LL) ∧
    (bw (shf R t) (fun j => ((lim j : Nat) : Int)) 4 = 1 → val (shf R t) 4 = val N 8 / 2 ^ c % LL) := by
  have ht' := ht.trans (bit_val hN c hc)
  have e1 : val N 8 / 2 ^ (c + 1) = val N 8 / 2 ^ c / 2 := by
    rw [Int.pow_succ, Int.ediv_ediv_of_nonneg (Int.le_of_lt (Int.pow_pos (by decide)))]
  rw [e1] at hv
  have ht01 : t = 0 ∨ t = 1 := by omega
  have hS := shf_limbs hR ht01
  have hlt : val R 4 < LL := by rw [hv]; exact Int.emod_lt_of_pos _ (by decide)
  have hs := shf_val (t := t) hR hlt
  have hb := bw_val hS lim_limbs
  rw [lim_val] at hb
  have hsub := fun h => sub_ge hS lim_limbs (by rw [lim_val]; exact h)
  rw [lim_val] at hsub
  generalize val N 8 / 2 ^ c = x at *
  generalize val R 4 = r at *
  generalize val (shf R t) 4 = y at *
  generalize val (dif (shf R t) (fun j => ((lim j : Nat) : Int))) 4 = z at *
  generalize bw (shf R t) (fun j => ((lim j : Nat) : Int)) 4 = b at *
  refine ⟨fun h => ?_, fun h => ?_⟩
  · rw [h] at hb
    by_cases l : y < LL
    · rw [if_pos l] at hb; omega
    · have hz := hsub (by omega)
      clear hb hsub
      simp only [LL] at *
      omega
  · rw [h] at hb
    by_cases l : y < LL
    · clear hb hsub
      simp only [LL] at *
      omega
    · rw [if_neg l] at hb; omega
theorem red_start {N : Nat → Int} (hN : Limbs N 8) : val (fun _ => 0) 4 = val N 8 / 2 ^ 512 % LL := by
  obtain ⟨v0, v1⟩ := val_bounds hN
  have : pw 8 = 2 ^ 512 := pw_two 8
  rw [this] at v1
  rw [Int.ediv_eq_zero_of_lt v0 v1]
  rfl
end Go.Proofs.YbulkebvgDoor
