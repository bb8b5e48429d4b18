import Derived.Test.YbulkebvgBase
import Derived.Laws.BitsAllLaws
namespace Go.Proofs.Ybulkebvg
open Go.RowKit Go.Deep

/-- The type that a column's plain data picks. -/
def tab (k : Int) : Int := if k = 0 then 15 else if k = 1 then 254 else if k = 2 then 249 else if k = 3 then 250 else if k = 4 then 251 else if k = 5 then 252 else if k = 6 then 255 else if k = 7 then 247 else if k = 8 then 248 else if k = 9 then 3 else if k = 10 then 245 else 1
def typ (sel raw : Int) : Int := if sel % 2 = 0 then tab (raw % 12) else raw
theorem tab_bounds (k : Int) : 0 ≤ tab k ∧ tab k < 256 := by
  unfold tab
  repeat' split
  all_goals omega
theorem typ_bounds {sel raw : Int} (h : 0 ≤ raw ∧ raw < 256) : 0 ≤ typ sel raw ∧ typ sel raw < 256 := by
  unfold typ
  split
  · exact tab_bounds _
  · exact h

/-- The type whose form the rows hold. -/
def real (t m : Int) : Int := if t = 254 then IntKind.u8.wrap (bits .or .u16 (bits .and .u16 m 255) 48) else t
def isChar (r : Int) : Bool := decide (r = 15 ∨ r = 254 ∨ r = 249 ∨ r = 250 ∨ r = 251 ∨ r = 252)
/-- What the program keeps. -/
def keepP (t m : Int) (q : Bool) : Bool := isChar (real t m) || (q && decide (t = 255))
/-- What the law keeps. -/
def keepL (t m : Int) (q : Bool) : Bool :=
  if t = 15 ∨ t = 249 ∨ t = 250 ∨ t = 251 ∨ t = 252 then true
  else if t = 254 then decide (bits .and .u16 m 207 = 206 ∨ bits .and .u16 m 207 = 201 ∨ bits .and .u16 m 207 = 202 ∨ bits .and .u16 m 207 = 203 ∨ bits .and .u16 m 207 = 204)
  else if t = 255 then q else false

def low (l : Nat) : Bool := isChar (((l ||| 48) % 256 : Nat) : Int) == decide ((l &&& 207) = 206 ∨ (l &&& 207) = 201 ∨ (l &&& 207) = 202 ∨ (l &&& 207) = 203 ∨ (l &&& 207) = 204)
theorem low_all : ((List.range 256).all low) = true := by kernel_rfl

theorem and207 (M : Nat) : M &&& 207 = (M % 256) &&& 207 := by
  have e : M % 256 = M &&& 255 := (Nat.and_two_pow_sub_one_eq_mod M 8).symm
  rw [e, Nat.and_assoc, show (255 &&& 207 : Nat) = 207 by decide]
theorem and255 (M : Nat) : M &&& 255 = M % 256 := Nat.and_two_pow_sub_one_eq_mod M 8

theorem keep_same (t m : Int) (q : Bool) (hm : 0 ≤ m ∧ m < 65536) : keepL t m q = keepP t m q := by
  obtain ⟨M, rfl⟩ := Int.eq_ofNat_of_zero_le hm.1
  have hM : M < 65536 := by omega
  by_cases h : t = 254
  · subst h
    have e1 : bits .and .u16 (M : Int) 207 = ((M &&& 207 : Nat) : Int) := u16_and_nat M 207 hM (by decide)
    have e2 : bits .and .u16 (M : Int) 255 = ((M &&& 255 : Nat) : Int) := u16_and_nat M 255 hM (by decide)
    have e3 : bits .or .u16 ((M % 256 : Nat) : Int) 48 = ((M % 256 ||| 48 : Nat) : Int) := u16_or_nat (M % 256) 48 (by omega) (by decide)
    have hl := List.all_eq_true.1 low_all (M % 256) (List.mem_range.2 (Nat.mod_lt _ (by decide)))
    simp only [low, beq_iff_eq] at hl
    have eL : keepL 254 (M : Int) q = decide ((M % 256 &&& 207) = 206 ∨ (M % 256 &&& 207) = 201 ∨ (M % 256 &&& 207) = 202 ∨ (M % 256 &&& 207) = 203 ∨ (M % 256 &&& 207) = 204) := by
      simp only [keepL]
      rw [e1, and207 M]
      simp only [show ¬ ((254 : Int) = 15 ∨ (254 : Int) = 249 ∨ (254 : Int) = 250 ∨ (254 : Int) = 251 ∨ (254 : Int) = 252) by decide, if_false, if_true]
      exact decide_eq_decide.2 (by omega)
    have eP : keepP 254 (M : Int) q = isChar (((M % 256 ||| 48) % 256 : Nat) : Int) := by
      simp only [keepP, real, if_true]
      rw [e2, and255, e3, IntKind.wrap_u8]
      have e4 : (((M % 256 ||| 48 : Nat) : Int) % 256) = (((M % 256 ||| 48) % 256 : Nat) : Int) := by omega
      rw [e4]
      simp
    rw [eL, eP, hl]
  · by_cases h2 : t = 255
    · subst h2; cases q <;> simp [keepL, keepP, real, isChar]
    · simp only [keepL, keepP, real, isChar, h, h2, if_false]
      by_cases h3 : t = 15 ∨ t = 249 ∨ t = 250 ∨ t = 251 ∨ t = 252
      · simp [h3]
      · simp [h3]

theorem tab_cell (w : World) (k : Nat) (hk : k < 12) : (w.alloc (.cells #[.int .u8 15, .int .u8 254, .int .u8 249, .int .u8 250, .int .u8 251, .int .u8 252, .int .u8 255, .int .u8 247, .int .u8 248, .int .u8 3, .int .u8 245, .int .u8 1] 41)).cell? ⟨w.heap.size, k, none⟩ = some (.int .u8 (tab ((k : Nat) : Int))) := by
  rw [cell_of_blk (blk_alloc_new _ _)]
  rcases (show k = 0 ∨ k = 1 ∨ k = 2 ∨ k = 3 ∨ k = 4 ∨ k = 5 ∨ k = 6 ∨ k = 7 ∨ k = 8 ∨ k = 9 ∨ k = 10 ∨ k = 11 by omega) with rfl | rfl | rfl | rfl | rfl | rfl | rfl | rfl | rfl | rfl | rfl | rfl <;> rfl

set_option maxRecDepth 100000 in
theorem typ_walk (sel raw m : Int) (nm : ByteArray) (un : Bool) (hs : 0 ≤ sel ∧ sel < 256) (hr : 0 ≤ raw ∧ raw < 256) (w : World) :
    Calls Yba.prog 4 #[.agg #[.int .u8 sel, .int .u8 raw, .int .u16 m, .string nm, .bool un]] w fun e w' => e = .returned (.int .u8 (typ sel raw)) ∧ Keeps (fun _ => False) w w' := by
  by_cases h : sel % 2 = 0
  · obtain ⟨r, rfl⟩ := Int.eq_ofNat_of_zero_le hr.1
    have hc := tab_cell (w.alloc (.cells #[.int .u8 sel, .int .u8 r, .int .u16 m, .string nm, .bool un] 30)) (r % 12) (Nat.mod_lt _ (by decide))
    rw [nblk_alloc] at hc
    go_enter Yba.func4, Yba.ntmps4
    go_wp2
    go_returns
    exact ⟨by simp [typ, h], ((Keeps.refl _ _).alloc _).alloc _⟩
  · go_enter Yba.func4, Yba.ntmps4
    go_wp2
    go_returns
    exact ⟨by simp [typ, h], ((Keeps.refl _ _).alloc _)⟩

/-- What a column's cells say of it. -/
theorem real_walk (b o : Nat) (t m : Int) (w : World) (c2 : w.cell? ⟨b, o + 2, none⟩ = some (.int .u8 t)) (c5 : w.cell? ⟨b, o + 5, none⟩ = some (.int .u16 m)) :
    Calls Yba.prog 10 #[.pointer (some ⟨b, o, none⟩)] w fun e w' => e = .returned (.int .u8 (real t m)) ∧ w' = w := by
  by_cases h : t = 254
  · subst h
    go_enter Yba.func10, Yba.ntmps10
    go_wp2
    go_returns
    exact ⟨rfl, rfl⟩
  · go_enter Yba.func10, Yba.ntmps10
    go_wp2
    go_returns
    exact ⟨by simp [real, h], rfl⟩

set_option maxRecDepth 100000 in
theorem char_walk (b o : Nat) (t m : Int) (w : World) (c2 : w.cell? ⟨b, o + 2, none⟩ = some (.int .u8 t)) (c5 : w.cell? ⟨b, o + 5, none⟩ = some (.int .u16 m)) :
    Calls Yba.prog 9 #[.pointer (some ⟨b, o, none⟩)] w fun e w' => e = .returned (.bool (isChar (real t m))) ∧ w' = w := by
  have C := real_walk b o t m w c2 c5
  generalize real t m = r at C
  clear c2 c5
  by_cases h15 : r = 15
  · subst h15
    go_enter Yba.func9, Yba.ntmps9
    go_wp2_with (go_at_call 10; refine C.mono ?_; rintro e w1 ⟨rfl, rfl⟩)
    go_returns
    exact ⟨rfl, rfl⟩
  by_cases h254 : r = 254
  · subst h254
    go_enter Yba.func9, Yba.ntmps9
    go_wp2_with (go_at_call 10; refine C.mono ?_; rintro e w1 ⟨rfl, rfl⟩)
    go_returns
    exact ⟨rfl, rfl⟩
  by_cases h249 : r = 249
  · subst h249
    go_enter Yba.func9, Yba.ntmps9
    go_wp2_with (go_at_call 10; refine C.mono ?_; rintro e w1 ⟨rfl, rfl⟩)
    go_returns
    exact ⟨rfl, rfl⟩
  by_cases h250 : r = 250
  · subst h250
    go_enter Yba.func9, Yba.ntmps9
    go_wp2_with (go_at_call 10; refine C.mono ?_; rintro e w1 ⟨rfl, rfl⟩)
    go_returns
    exact ⟨rfl, rfl⟩
  by_cases h251 : r = 251
  · subst h251
    go_enter Yba.func9, Yba.ntmps9
    go_wp2_with (go_at_call 10; refine C.mono ?_; rintro e w1 ⟨rfl, rfl⟩)
    go_returns
    exact ⟨rfl, rfl⟩
  by_cases h252 : r = 252
  · subst h252
    go_enter Yba.func9, Yba.ntmps9
    go_wp2_with (go_at_call 10; refine C.mono ?_; rintro e w1 ⟨rfl, rfl⟩)
    go_returns
    exact ⟨rfl, rfl⟩
  go_enter Yba.func9, Yba.ntmps9
  go_wp2_with (go_at_call 10; refine C.mono ?_; rintro e w1 ⟨rfl, rfl⟩)
  go_returns
  exact ⟨by simp [isChar, h15, h254, h249, h250, h251, h252], rfl⟩

set_option maxRecDepth 100000 in
theorem clo_walk (b o mb : Nat) (t m : Int) (q : Bool) (w : World) (c2 : w.cell? ⟨b, o + 2, none⟩ = some (.int .u8 t)) (c5 : w.cell? ⟨b, o + 5, none⟩ = some (.int .u16 m)) (cq : w.cell? ⟨mb, 0, none⟩ = some (.bool q)) :
    Calls Yba.prog 8 #[.pointer (some ⟨b, o, none⟩), .pointer (some ⟨mb, 0, none⟩)] w fun e w' => e = .returned (.bool (keepP t m q)) ∧ w' = w := by
  have C := char_walk b o t m w c2 c5
  unfold keepP
  generalize isChar (real t m) = r at C
  clear c5
  cases r
  · cases q
    · go_enter Yba.func8, Yba.ntmps8
      go_wp2_with (go_at_call 9; refine C.mono ?_; rintro e w1 ⟨rfl, rfl⟩)
      go_returns
      exact ⟨rfl, rfl⟩
    · go_enter Yba.func8, Yba.ntmps8
      go_wp2_with (go_at_call 9; refine C.mono ?_; rintro e w1 ⟨rfl, rfl⟩)
      go_returns
      exact ⟨by by_cases h : t = 255 <;> simp [h], rfl⟩
  · go_enter Yba.func8, Yba.ntmps8
    go_wp2_with (go_at_call 9; refine C.mono ?_; rintro e w1 ⟨rfl, rfl⟩)
    go_returns
    exact ⟨by simp, rfl⟩

set_option maxRecDepth 100000 in
theorem keep_walk (t m : Int) (q : Bool) (w : World) : Calls Yba.prog 6 #[.int .u8 t, .int .u16 m, .bool q] w fun e w' => e = .returned (.bool (keepL t m q)) ∧ w' = w := by
  by_cases h15 : t = 15
  · subst h15
    go_enter Yba.func6, Yba.ntmps6
    go_wp2
    go_returns
    exact ⟨rfl, rfl⟩
  by_cases h249 : t = 249
  · subst h249
    go_enter Yba.func6, Yba.ntmps6
    go_wp2
    go_returns
    exact ⟨rfl, rfl⟩
  by_cases h250 : t = 250
  · subst h250
    go_enter Yba.func6, Yba.ntmps6
    go_wp2
    go_returns
    exact ⟨rfl, rfl⟩
  by_cases h251 : t = 251
  · subst h251
    go_enter Yba.func6, Yba.ntmps6
    go_wp2
    go_returns
    exact ⟨rfl, rfl⟩
  by_cases h252 : t = 252
  · subst h252
    go_enter Yba.func6, Yba.ntmps6
    go_wp2
    go_returns
    exact ⟨rfl, rfl⟩
  by_cases h254 : t = 254
  · subst h254
    have hk : keepL 254 m q = decide (bits .and .u16 m 207 = 206 ∨ bits .and .u16 m 207 = 201 ∨ bits .and .u16 m 207 = 202 ∨ bits .and .u16 m 207 = 203 ∨ bits .and .u16 m 207 = 204) := by simp [keepL]
    rw [hk]
    obtain ⟨x, hx⟩ : ∃ x, x = bits .and .u16 m 207 := ⟨_, rfl⟩
    rw [← hx]
    by_cases k206 : x = 206
    · rw [k206] at hx
      go_enter Yba.func6, Yba.ntmps6
      go_wp2
      go_returns
      exact ⟨by simp [k206], rfl⟩
    by_cases k201 : x = 201
    · rw [k201] at hx
      go_enter Yba.func6, Yba.ntmps6
      go_wp2
      go_returns
      exact ⟨by simp [k201], rfl⟩
    by_cases k202 : x = 202
    · rw [k202] at hx
      go_enter Yba.func6, Yba.ntmps6
      go_wp2
      go_returns
      exact ⟨by simp [k202], rfl⟩
    by_cases k203 : x = 203
    · rw [k203] at hx
      go_enter Yba.func6, Yba.ntmps6
      go_wp2
      go_returns
      exact ⟨by simp [k203], rfl⟩
    by_cases k204 : x = 204
    · rw [k204] at hx
      go_enter Yba.func6, Yba.ntmps6
      go_wp2
      go_returns
      exact ⟨by simp [k204], rfl⟩
    go_enter Yba.func6, Yba.ntmps6
    go_wp2
    go_returns
    exact ⟨by simp [k206, k201, k202, k203, k204], rfl⟩
  by_cases h255 : t = 255
  · subst h255
    go_enter Yba.func6, Yba.ntmps6
    go_wp2
    go_returns
    exact ⟨by simp [keepL], rfl⟩
  go_enter Yba.func6, Yba.ntmps6
  go_wp2
  go_returns
  exact ⟨by simp [keepL, h15, h249, h250, h251, h252, h254, h255], rfl⟩
end Go.Proofs.Ybulkebvg
