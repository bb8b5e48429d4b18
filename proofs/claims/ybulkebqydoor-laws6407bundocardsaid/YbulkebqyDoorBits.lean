import Derived.Test.YbulkebqyDoorBuildA
import Derived.Laws.BitsAllLaws
namespace Go.Proofs.YbulkebqyDoor
open Go.RowKit Go.Deep

/-- A word and its bits. -/
def WordIs (v : Int) (f : Nat → Bool) : Prop := ∃ N : Nat, v = (N : Int) ∧ N < 2 ^ 64 ∧ ∀ b, N.testBit b = (decide (b < 64) && f b)

theorem WordIs.eq {v v' : Int} {f g : Nat → Bool} (h : WordIs v f) (h' : WordIs v' g) (e : ∀ b, b < 64 → f b = g b) : v = v' := by
  obtain ⟨N, rfl, _, hN⟩ := h
  obtain ⟨M, rfl, _, hM⟩ := h'
  congr 1
  apply Nat.eq_of_testBit_eq
  intro b
  rw [hN, hM]
  by_cases hb : b < 64
  · simp [hb, e b hb]
  · simp [hb]
theorem WordIs.congr {v : Int} {f g : Nat → Bool} (h : WordIs v f) (e : ∀ b, b < 64 → f b = g b) : WordIs v g := by
  obtain ⟨N, hv, hl, hN⟩ := h
  refine ⟨N, hv, hl, fun b => ?_⟩
  rw [hN]
  by_cases hb : b < 64
  · simp [hb, e b hb]
  · simp [hb]
theorem word_zero : WordIs 0 (fun _ => false) := ⟨0, rfl, by decide, fun b => by simp⟩
theorem bit1_eq {b : Nat} (h : b < 64) : bit1 b = ((2 ^ b : Nat) : Int) := by
  unfold bit1
  rw [IntKind.wrap_u64]
  have h1 : (2 : Nat) ^ b < 2 ^ 64 := Nat.pow_lt_pow_right (by decide) h
  have h2 : ((2 : Int) ^ b) = ((2 ^ b : Nat) : Int) := by simp
  rw [h2]
  generalize (2 : Nat) ^ b = x at h1
  omega
theorem WordIs.or {v : Int} {f : Nat → Bool} (h : WordIs v f) {k : Nat} (hk : k < 64) : WordIs (orr v (bit1 k)) (fun b => f b || decide (b = k)) := by
  obtain ⟨N, rfl, hl, hN⟩ := h
  have h1 : (2 : Nat) ^ k < 2 ^ 64 := Nat.pow_lt_pow_right (by decide) hk
  refine ⟨N ||| 2 ^ k, ?_, Nat.or_lt_two_pow hl h1, fun b => ?_⟩
  · rw [bit1_eq hk]
    exact u64_or_nat _ _ hl h1
  · rw [Nat.testBit_or, hN, Nat.testBit_two_pow]
    by_cases hb : b < 64
    · simp [hb]
      by_cases e : k = b
      · subst e; simp
      · simp [e, Ne.symm e]
    · have : ¬ k = b := by omega
      simp [hb, this]
theorem WordIs.clear {v : Int} {f : Nat → Bool} (h : WordIs v f) {k : Nat} (hk : k < 64) : WordIs (andn v (bit1 k)) (fun b => f b && !decide (b = k)) := by
  obtain ⟨N, rfl, hl, hN⟩ := h
  have h1 : (2 : Nat) ^ k < 2 ^ 64 := Nat.pow_lt_pow_right (by decide) hk
  refine ⟨N &&& (18446744073709551615 - 2 ^ k), ?_, Nat.lt_of_le_of_lt Nat.and_le_left hl, fun b => ?_⟩
  · rw [bit1_eq hk]
    exact u64_andNot_nat _ _ hl h1
  · have e1 : 18446744073709551615 - 2 ^ k = 2 ^ 64 - (2 ^ k + 1) := by
      have : (2 : Nat) ^ 64 = 18446744073709551616 := by decide
      omega
    rw [Nat.testBit_and, hN, e1, Nat.testBit_two_pow_sub_succ h1, Nat.testBit_two_pow]
    by_cases hb : b < 64
    · simp [hb]
      by_cases e : k = b
      · subst e; simp
      · simp [e, Ne.symm e]
    · simp [hb]
theorem WordIs.nz {v : Int} {f : Nat → Bool} (h : WordIs v f) : (v = 0) ↔ ∀ b, b < 64 → f b = false := by
  obtain ⟨N, rfl, hl, hN⟩ := h
  constructor
  · intro e b hb
    have e' : N = 0 := by omega
    have := hN b
    rw [e'] at this
    simp [hb] at this
    exact this
  · intro e
    have : N = 0 := by
      apply Nat.eq_of_testBit_eq
      intro b
      rw [hN]
      by_cases hb : b < 64
      · simp [hb, e b hb]
      · simp [hb]
    simp [this]

theorem orSt_word (p : Nat → Bool) (c : Nat) : ∀ i, WordIs (orSt p c i) (fun b => decide (64 * i + b < c) && p (64 * i + b)) := by
  induction c with
  | zero => intro i; exact word_zero.congr fun b _ => by simp
  | succ c ih =>
    intro i
    simp only [orSt]
    by_cases hp : p c = true
    · rw [if_pos hp]
      unfold setB
      by_cases hi : i = c / 64
      · rw [if_pos hi]
        rw [hi]
        refine ((ih (c / 64)).or (Nat.mod_lt _ (by decide))).congr fun b hb => ?_
        by_cases e : b = c % 64
        · simp [e, hp, show 64 * (c / 64) + c % 64 = c from by omega]
        · have h1 : (64 * (c / 64) + b < c + 1) = (64 * (c / 64) + b < c) := by simp; omega
          simp [e, h1]
      · rw [if_neg hi]
        refine (ih i).congr fun b hb => ?_
        have h1 : (64 * i + b < c + 1) = (64 * i + b < c) := by simp; omega
        simp [h1]
    · rw [if_neg hp]
      refine (ih i).congr fun b hb => ?_
      by_cases e : 64 * i + b = c
      · rw [e]; simp [hp]
      · have h1 : (64 * i + b < c + 1) = (64 * i + b < c) := by simp; omega
        simp [h1]

/-! ### The levels -/
structure LevOK (n : Nat) (W : Nat → Nat → Int) (rd : Nat → Bool) : Prop where
  l0 : ∀ j, j < (n + 63) / 64 → WordIs (W 0 j) (fun b => decide (64 * j + b < n) && rd (64 * j + b))
  l1 : 64 < n → WordIs (W 1 0) (fun b => decide (b < (n + 63) / 64) && (W 0 b != 0))

theorem levW_ok (n : Nat) (rd : Nat → Bool) : LevOK n (levW n rd) rd := by
  refine ⟨fun j _ => orSt_word rd n j, fun _ => ?_⟩
  have := orSt_word (fun j => orSt rd n j != 0) ((n + 63) / 64) 0
  simpa [levW] using this

theorem LevOK.same {n : Nat} {W W' : Nat → Nat → Int} {rd : Nat → Bool} (h : LevOK n W rd) (h' : LevOK n W' rd) : ∀ l j, l < nlOf n → j < ssOf n l → W l j = W' l j := by
  have e0 : ∀ j, j < (n + 63) / 64 → W 0 j = W' 0 j := fun j hj => (h.l0 j hj).eq (h'.l0 j hj) fun _ _ => rfl
  intro l j hl hj
  unfold nlOf at hl
  by_cases l0 : l = 0
  · subst l0
    exact e0 j (by simpa [ssOf] using hj)
  · have hn : 64 < n := by split at hl <;> omega
    obtain rfl : l = 1 := by split at hl <;> omega
    obtain rfl : j = 0 := by simp [ssOf] at hj; exact hj
    refine (h.l1 hn).eq (h'.l1 hn) fun b _ => ?_
    by_cases hb : b < (n + 63) / 64
    · simp [hb, e0 b hb]
    · simp [hb]

theorem LevOK.add {n m : Nat} {W : Nat → Nat → Int} {rd : Nat → Bool} (h : LevOK n W rd) (hm : m < n) (h2 : n ≤ 4096) : LevOK n (addW (nlOf n) 0 m W) (setP rd m true) := by
  have hj : m / 64 < (n + 63) / 64 := by omega
  have w0 := h.l0 (m / 64) hj
  have w0' : WordIs (orr (W 0 (m / 64)) (bit1 (m % 64))) (fun b => decide (64 * (m / 64) + b < n) && setP rd m true (64 * (m / 64) + b)) := by
    refine (w0.or (Nat.mod_lt _ (by decide))).congr fun b hb => ?_
    unfold setP
    by_cases e : b = m % 64
    · simp [e, show 64 * (m / 64) + m % 64 = m from by omega, hm]
    · have : ¬ 64 * (m / 64) + b = m := by omega
      simp [e, this]
  have other : ∀ j, j < (n + 63) / 64 → j ≠ m / 64 → WordIs (W 0 j) (fun b => decide (64 * j + b < n) && setP rd m true (64 * j + b)) := by
    intro j hj' hne
    refine (h.l0 j hj').congr fun b hb => ?_
    have : ¬ 64 * j + b = m := by omega
    simp [setP, this]
  have l0 : ∀ W' : Nat → Nat → Int, (∀ j, W' 0 j = updW W 0 (m / 64) (orr (W 0 (m / 64)) (bit1 (m % 64))) 0 j) → ∀ j, j < (n + 63) / 64 → WordIs (W' 0 j) (fun b => decide (64 * j + b < n) && setP rd m true (64 * j + b)) := by
    intro W' e j hj'
    rw [e]
    by_cases hje : j = m / 64
    · subst hje; simpa [updW] using w0'
    · simpa [updW, hje] using other j hj' hje
  have nz' : orr (W 0 (m / 64)) (bit1 (m % 64)) ≠ 0 := by
    intro e
    have := (w0'.nz.1 e) (m % 64) (Nat.mod_lt _ (by decide))
    simp [setP, show 64 * (m / 64) + m % 64 = m from by omega, hm] at this
  unfold nlOf
  by_cases hn : n ≤ 64
  · rw [if_pos hn]
    simp only [addW]
    split <;> exact ⟨l0 _ fun j => rfl, fun h64 => by omega⟩
  · rw [if_neg hn]
    have m0 : m / 64 / 64 = 0 := by omega
    have mm : m / 64 % 64 = m / 64 := by omega
    have l1 := h.l1 (by omega)
    simp only [addW]
    by_cases hz : W 0 (m / 64) = 0
    · rw [if_pos hz]
      have hW10 : updW W 0 (m / 64) (orr (W 0 (m / 64)) (bit1 (m % 64))) (0 + 1) (m / 64 / 64) = W 1 0 := by rw [m0]; simp [updW]
      rw [hW10, mm]
      have key : LevOK n (updW (updW W 0 (m / 64) (orr (W 0 (m / 64)) (bit1 (m % 64)))) (0 + 1) (m / 64 / 64) (orr (W 1 0) (bit1 (m / 64)))) (setP rd m true) := by
        refine ⟨l0 _ fun j => by simp [updW], fun _ => ?_⟩
        rw [m0]
        simp only [updW, if_true, Nat.zero_add]
        refine (l1.or (show m / 64 < 64 by omega)).congr fun b hb => ?_
        by_cases e : b = m / 64
        · subst e
          simp [hj, nz']
        · simp [e]
      split <;> exact key
    · rw [if_neg hz]
      refine ⟨l0 _ fun j => rfl, fun _ => ?_⟩
      have : updW W 0 (m / 64) (orr (W 0 (m / 64)) (bit1 (m % 64))) 1 0 = W 1 0 := by simp [updW]
      rw [this]
      refine l1.congr fun b hb => ?_
      by_cases e : b = m / 64
      · subst e
        have e1 : (W 0 (m / 64) != 0) = true := bne_iff_ne.2 hz
        have e2 : (orr (W 0 (m / 64)) (bit1 (m % 64)) != 0) = true := bne_iff_ne.2 nz'
        simp [updW, e1, e2]
      · simp [updW, e]

theorem LevOK.rem {n m : Nat} {W : Nat → Nat → Int} {rd : Nat → Bool} (h : LevOK n W rd) (hm : m < n) (h2 : n ≤ 4096) : LevOK n (remW (nlOf n) 0 m W) (setP rd m false) := by
  have hj : m / 64 < (n + 63) / 64 := by omega
  have w0 := h.l0 (m / 64) hj
  have w0' : WordIs (andn (W 0 (m / 64)) (bit1 (m % 64))) (fun b => decide (64 * (m / 64) + b < n) && setP rd m false (64 * (m / 64) + b)) := by
    refine (w0.clear (Nat.mod_lt _ (by decide))).congr fun b hb => ?_
    unfold setP
    by_cases e : b = m % 64
    · simp [e, show 64 * (m / 64) + m % 64 = m from by omega]
    · have : ¬ 64 * (m / 64) + b = m := by omega
      simp [e, this]
  have other : ∀ j, j < (n + 63) / 64 → j ≠ m / 64 → WordIs (W 0 j) (fun b => decide (64 * j + b < n) && setP rd m false (64 * j + b)) := by
    intro j hj' hne
    refine (h.l0 j hj').congr fun b hb => ?_
    have : ¬ 64 * j + b = m := by omega
    simp [setP, this]
  have l0 : ∀ W' : Nat → Nat → Int, (∀ j, W' 0 j = updW W 0 (m / 64) (andn (W 0 (m / 64)) (bit1 (m % 64))) 0 j) → ∀ j, j < (n + 63) / 64 → WordIs (W' 0 j) (fun b => decide (64 * j + b < n) && setP rd m false (64 * j + b)) := by
    intro W' e j hj'
    rw [e]
    by_cases hje : j = m / 64
    · subst hje; simpa [updW] using w0'
    · simpa [updW, hje] using other j hj' hje
  unfold nlOf
  by_cases hn : n ≤ 64
  · rw [if_pos hn]
    simp only [remW]
    split <;> exact ⟨l0 _ fun j => rfl, fun h64 => by omega⟩
  · rw [if_neg hn]
    have m0 : m / 64 / 64 = 0 := by omega
    have mm : m / 64 % 64 = m / 64 := by omega
    have l1 := h.l1 (by omega)
    simp only [remW]
    by_cases hz : andn (W 0 (m / 64)) (bit1 (m % 64)) = 0
    · rw [if_pos hz]
      have hW10 : updW W 0 (m / 64) (andn (W 0 (m / 64)) (bit1 (m % 64))) (0 + 1) (m / 64 / 64) = W 1 0 := by rw [m0]; simp [updW]
      rw [hW10, mm]
      have key : LevOK n (updW (updW W 0 (m / 64) (andn (W 0 (m / 64)) (bit1 (m % 64)))) (0 + 1) (m / 64 / 64) (andn (W 1 0) (bit1 (m / 64)))) (setP rd m false) := by
        refine ⟨l0 _ fun j => by simp [updW], fun _ => ?_⟩
        rw [m0]
        simp only [updW, if_true, Nat.zero_add]
        refine (l1.clear (show m / 64 < 64 by omega)).congr fun b hb => ?_
        by_cases e : b = m / 64
        · subst e
          simp [hz]
        · simp [e]
      split <;> exact key
    · rw [if_neg hz]
      refine ⟨l0 _ fun j => rfl, fun _ => ?_⟩
      have hW : updW W 0 (m / 64) (andn (W 0 (m / 64)) (bit1 (m % 64))) 1 0 = W 1 0 := by simp [updW]
      rw [hW]
      have nz : W 0 (m / 64) ≠ 0 := by
        intro e
        refine hz (((w0.clear (Nat.mod_lt _ (by decide))).nz).2 fun b hb => ?_)
        have := (w0.nz.1 e) b hb
        rw [this, Bool.false_and]
      refine l1.congr fun b hb => ?_
      by_cases e : b = m / 64
      · subst e
        have e1 : (W 0 (m / 64) != 0) = true := bne_iff_ne.2 nz
        have e2 : (andn (W 0 (m / 64)) (bit1 (m % 64)) != 0) = true := bne_iff_ne.2 hz
        simp [updW, e1, e2]
      · simp [updW, e]
end Go.Proofs.YbulkebqyDoor
