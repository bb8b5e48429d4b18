import Derived.Test.YbulkebvgDoorVal
namespace Go.Proofs.YbulkebvgDoor

/-- L. -/
def LL : Int := 7237005577332262213973186563042994240857116359379907606001950938285454250989

theorem cellk_all : ((List.range 261).all fun k => val (fun j => ((cellk k 4 j : Nat) : Int)) 9 == LL * 2 ^ k) = true := by kernel_rfl
theorem cellk_val (k : Nat) (hk : k ≤ 260) : val (fun j => ((cellk k 4 j : Nat) : Int)) 9 = LL * 2 ^ k :=
  eq_of_beq (List.all_eq_true.1 cellk_all k (List.mem_range.2 (by omega)))
theorem cellk_limbs (k n : Nat) : Limbs (fun j => ((cellk k 4 j : Nat) : Int)) n := fun i _ => by
  have := cellk_lt k 4 i
  show 0 ≤ ((cellk k 4 i : Nat) : Int) ∧ ((cellk k 4 i : Nat) : Int) < 18446744073709551616
  omega
theorem lim_val : val (fun j => ((lim j : Nat) : Int)) 4 = LL := by kernel_rfl

/-- One bit drawn in at the right. -/
theorem or_bit (x t : Nat) (ht : t < 2) : bits .or .u64 (IntKind.u64.wrap ((x : Int) * 2)) (t : Int) = ((2 * (x % 9223372036854775808) + t : Nat) : Int) := by
  have e : IntKind.u64.wrap ((x : Int) * 2) = ((2 * (x % 9223372036854775808) : Nat) : Int) := by
    rw [IntKind.wrap_u64]
    omega
  rw [e, u64_or_nat _ _ (by omega) (by omega)]
  have := Nat.two_pow_add_eq_or_of_lt (i := 1) (b := t) (by omega) (x % 9223372036854775808)
  simp only [Nat.pow_one] at this
  rw [this]

/-- The four limbs behind the shift. -/
def shf (R : Nat → Int) (t : Int) (j : Nat) : Int := 2 * (R j % 9223372036854775808) + (if j = 0 then t else R (j - 1) / 9223372036854775808)
theorem shf_limbs {R : Nat → Int} {t : Int} (h : Limbs R 4) (ht : t = 0 ∨ t = 1) : Limbs (shf R t) 4 := by
  intro i hi
  match i, hi with
  | 0, _ => have h0 := h 0 (by omega); simp only [shf, if_true]; omega
  | 1, _ => have h0 := h 0 (by omega); have h1 := h 1 (by omega); simp only [shf]; simp; omega
  | 2, _ => have h0 := h 1 (by omega); have h1 := h 2 (by omega); simp only [shf]; simp; omega
  | 3, _ => have h0 := h 2 (by omega); have h1 := h 3 (by omega); simp only [shf]; simp; omega
theorem pws : pw 0 = 1 ∧ pw 1 = 18446744073709551616 ∧ pw 2 = 340282366920938463463374607431768211456 ∧ pw 3 = 6277101735386680763835789423207666416102355444464034512896 := by
  refine ⟨rfl, ?_, ?_, ?_⟩ <;> simp [pw]
theorem shf_val {R : Nat → Int} {t : Int} (h : Limbs R 4) (hl : val R 4 < LL) : val (shf R t) 4 = 2 * val R 4 + t := by
  obtain ⟨p0, p1, p2, p3⟩ := pws
  have h0 := h 0 (by omega)
  have h1 := h 1 (by omega)
  have h2 := h 2 (by omega)
  have h3 := h 3 (by omega)
  simp only [val, p0, p1, p2, p3, LL, shf] at *
  simp
  omega
end Go.Proofs.YbulkebvgDoor
