import Derived.Test.YbulkebqyDoorBits
import Derived.Test.YbulkebqyDoorNorm
import Derived.Test.YbulkebqyDoorSame
namespace Go.Proofs.YbulkebqyDoor
open Go.RowKit Go.Deep

/-! ### The law's own loops, as plain functions -/
def lawRest (p : Nat → Bool) (i : Nat) : Nat → Int
  | 0 => 0
  | b + 1 => if p (i * 64 + b) = true then orr (lawRest p i b) (bit1 b) else lawRest p i b
theorem lawRest_word (p : Nat → Bool) (i : Nat) : ∀ b, b ≤ 64 → WordIs (lawRest p i b) (fun b' => decide (b' < b) && p (i * 64 + b')) := by
  intro b
  induction b with
  | zero => intro _; exact word_zero.congr fun b _ => by simp
  | succ b ih =>
    intro hb
    simp only [lawRest]
    by_cases hp : p (i * 64 + b) = true
    · rw [if_pos hp]
      refine ((ih (by omega)).or (show b < 64 by omega)).congr fun b' _ => ?_
      by_cases e : b' = b
      · subst e; simp [hp]
      · have h1 : (b' < b + 1) = (b' < b) := by simp; omega
        simp [e, h1]
    · rw [if_neg hp]
      refine (ih (by omega)).congr fun b' _ => ?_
      by_cases e : b' = b
      · subst e; simp [hp]
      · have h1 : (b' < b + 1) = (b' < b) := by simp; omega
        simp [h1]

theorem restSt_or (k : Nat) (pl : Nat → Bool) (kept : Nat → Nat) (c : Nat) : restSt k pl kept c = orSt (fun l => decide (l ≠ k) && !pl (kept l)) c := by
  induction c with
  | zero => rfl
  | succ c ih =>
    simp only [restSt, orSt, ih]
    by_cases h : c ≠ k ∧ pl (kept c) = false
    · rw [if_pos h, if_pos (by simp [h])]
    · rw [if_neg h, if_neg]
      intro e
      apply h
      simpa using e

def restP (K k : Nat) (pl : Nat → Bool) (kept : Nat → Nat) (l : Nat) : Bool := decide (l < K) && (decide (l ≠ k) && !pl (kept l))
theorem rest_eq (K k : Nat) (pl : Nat → Bool) (kept : Nat → Nat) (i : Nat) : restSt k pl kept K i = lawRest (restP K k pl kept) i 64 := by
  rw [restSt_or]
  refine (orSt_word _ K i).eq (lawRest_word (restP K k pl kept) i 64 (Nat.le_refl _)) fun b hb => ?_
  simp [restP, hb, Nat.mul_comm]

theorem joinSt_congr {R R' : Nat → Int} {r : Nat} {s : (Nat → Int) × Option (List (Int × Int))} {c : Nat} (h : ∀ i, i < c → R i = R' i) : joinSt R r s c = joinSt R' r s c := by
  induction c with
  | zero => rfl
  | succ c ih => simp only [joinSt, ih fun i hi => h i (by omega), h c (by omega)]

def lawW (mem us : Nat → Nat) (s : (Nat → Int) × (Nat → Bool)) : Nat → (Nat → Int) × (Nat → Bool)
  | 0 => s
  | c + 1 => let s' := lawW mem us s c; (setI s'.1 (us c) (wrap64 (s'.1 (us c) - 1)), if wrap64 (s'.1 (us c) - 1) = 0 then setP s'.2 (mem (us c)) true else s'.2)

theorem rel_law {n : Nat} (hn : n ≤ 4096) (mem us : Nat → Nat) (wt : Nat → Int) (W : Nat → Nat → Int) (rd : Nat → Bool) (h : LevOK n W rd) (hm : ∀ i, i < n → mem i < n) : ∀ c, (∀ j, j < c → us j < n) →
    (relSt (nlOf n) mem us (wt, W) c).1 = (lawW mem us (wt, rd) c).1 ∧ LevOK n (relSt (nlOf n) mem us (wt, W) c).2 (lawW mem us (wt, rd) c).2 := by
  intro c
  induction c with
  | zero => intro _; exact ⟨rfl, h⟩
  | succ c ih =>
    intro hu
    obtain ⟨e, ok⟩ := ih fun j hj => hu j (by omega)
    simp only [relSt, lawW, relW]
    rw [e]
    refine ⟨rfl, ?_⟩
    split
    · exact ok.add (hm _ (hu c (by omega))) hn
    · exact ok

def sumL (L : Nat → Nat) : Nat → Nat
  | 0 => 0
  | c + 1 => sumL L c + L c
theorem sumL_le {L : Nat → Nat} {b n : Nat} (h : ∀ i, i < n → L i ≤ b) : ∀ c, c ≤ n → sumL L c ≤ c * b := by
  intro c
  induction c with
  | zero => intro _; simp [sumL]
  | succ c ih =>
    intro hc
    have := ih (by omega)
    have := h c (by omega)
    simp only [sumL, Nat.add_mul, Nat.one_mul]
    omega
theorem sumL_ge (L : Nat → Nat) : ∀ n i, i < n → L i ≤ sumL L n := by
  intro n
  induction n with
  | zero => intro i hi; omega
  | succ n ih =>
    intro i hi
    simp only [sumL]
    by_cases e : i = n
    · subst e; omega
    · have := ih i (by omega); omega

theorem NormIs.keeps {w w' : World} {B n : Nat} {X : Tx} {S : Nat → Prop} (h : NormIs w B n X) (k : Keeps S w w') (hS : ∀ j, j < w.heap.size → ¬ S j) : NormIs w' B n X :=
  ⟨k.row h.kp (hS _ h.kp.lt), k.row h.pl (hS _ h.pl.lt), k.row h.rd (hS _ h.rd.lt), k.row h.wt (hS _ h.wt.lt), k.row h.mb (hS _ h.mb.lt), k.row h.sc (hS _ h.sc.lt), fun i hi => k.row (h.su i hi) (hS _ (h.su i hi).lt)⟩

/-- slices.Clone of a trail. -/
theorem clone8_trail (tv : Value) (T : Option (List (Int × Int))) (w : World) (h : TrailIs w tv T) (hT : trailLen T ≤ 4000000) :
    Calls Ybad.prog 8 #[tv] w fun e w' => ∃ tv2, e = .returned tv2 ∧ TrailIs w' tv2 T ∧ (∀ k, tv2.ownBlock = some k → w.heap.size ≤ k) ∧ Keeps (fun _ => False) w w' := by
  cases T with
  | none =>
    obtain rfl : tv = .slice none 0 0 := h
    refine (clone8_nil w).mono ?_
    rintro e w' ⟨rfl, rfl⟩
    exact ⟨_, rfl, rfl, fun k hk => by simp [Value.ownBlock] at hk, Keeps.refl _ _⟩
  | some l =>
    obtain ⟨ho, hne⟩ := h
    obtain ⟨g, cap, cur, rfl, hg⟩ := owns_shape ho hne
    refine (clone8_some ⟨g, 0, none⟩ l.length cap (flat l) w ho.1 (ho.cells (g := g) rfl) (fun u hu => ?_) (by have : l.length ≤ 4000000 := hT; omega)).mono ?_
    · obtain ⟨p, _, hp⟩ := List.mem_flatMap.1 hu
      simp at hp
      rcases hp with rfl | rfl <;> rfl
    · rintro e w' ⟨g2, cap2, rfl, hg2, ho2, hk⟩
      refine ⟨_, rfl, ⟨⟨ho2.1, ?_⟩, by simp⟩, fun k hk' => by simp [Value.ownBlock] at hk'; omega, hk⟩
      rcases ho2.2 with h1 | ⟨g', cap', cur', h1, h2, h3⟩
      · exact .inl h1
      · exact .inr ⟨g', cap', cur', h1, Nat.zero_le _, h3⟩
end Go.Proofs.YbulkebqyDoor
