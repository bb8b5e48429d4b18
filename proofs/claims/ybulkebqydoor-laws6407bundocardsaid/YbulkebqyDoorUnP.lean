import Derived.Test.YbulkebqyDoorUn
import Derived.Test.YbulkebqyDoorPartT
namespace Go.Proofs.YbulkebqyDoor
open Go.RowKit Go.Deep

theorem LevOK.congr {n : Nat} {W : Nat → Nat → Int} {rd rd' : Nat → Bool} (h : LevOK n W rd) (e : ∀ j, j < n → rd j = rd' j) : LevOK n W rd' :=
  ⟨fun j hj => (h.l0 j hj).congr fun b _ => by
    by_cases hb : 64 * j + b < n
    · simp [hb, e _ hb]
    · simp [hb], h.l1⟩

/-- How often j stands among the first c of us. -/
def cnt (us : Nat → Nat) (j : Nat) : Nat → Nat
  | 0 => 0
  | c + 1 => cnt us j c + (if us c = j then 1 else 0)
theorem cnt_le (us : Nat → Nat) (j : Nat) : ∀ c, cnt us j c ≤ c
  | 0 => Nat.le_refl _
  | c + 1 => by have := cnt_le us j c; simp only [cnt]; split <;> omega
theorem cnt_mono (us : Nat → Nat) (j c : Nat) : ∀ k, cnt us j c ≤ cnt us j (c + k)
  | 0 => Nat.le_refl _
  | k + 1 => by have := cnt_mono us j c k; show _ ≤ cnt us j (c + k + 1); simp only [cnt]; omega
theorem cnt_lt {us : Nat → Nat} {c C : Nat} (h : c < C) : cnt us (us c) c + 1 ≤ cnt us (us c) C := by
  have := cnt_mono us (us c) (c + 1) (C - (c + 1))
  rw [show c + 1 + (C - (c + 1)) = C by omega] at this
  simp only [cnt, if_true] at this
  exact this
theorem wrap_small {x : Int} (h1 : -1000000 ≤ x) (h2 : x ≤ 1000000) : wrap64 x = x := by
  unfold wrap64
  omega

def rdR (wt : Nat → Int) (us : Nat → Nat) (t c j : Nat) : Bool := decide ((¬ j = t ∧ wt j = 0) ∨ (0 < wt j ∧ wt j ≤ (cnt us j c : Int)))
def rdH (wt : Nat → Int) (us : Nat → Nat) (t C c j : Nat) : Bool := decide ((¬ j = t ∧ wt j = 0) ∨ (0 < wt j ∧ wt j ≤ (cnt us j C : Int) ∧ wt j - (cnt us j C : Int) + (cnt us j c : Int) ≤ 0))

theorem rel_un {n : Nat} (hn : n ≤ 4096) (mem us : Nat → Nat) (wt : Nat → Int) (W : Nat → Nat → Int) (t : Nat) (hb : ∀ j, 0 ≤ wt j ∧ wt j ≤ 255) (hm : ∀ i, i < n → mem i = i) (h : LevOK n W (fun j => decide (¬ j = t ∧ wt j = 0))) :
    ∀ c, c ≤ 65536 → (∀ j, j < c → us j < n) → (∀ j, (relSt (nlOf n) mem us (wt, W) c).1 j = wt j - (cnt us j c : Int)) ∧ LevOK n (relSt (nlOf n) mem us (wt, W) c).2 (rdR wt us t c) := by
  intro c
  induction c with
  | zero =>
    intro _ _
    refine ⟨fun j => by simp [relSt, cnt], h.congr fun j _ => ?_⟩
    simp only [rdR, cnt]
    exact decide_eq_decide.2 (by omega)
  | succ c ih =>
    intro hc hu
    obtain ⟨e, ok⟩ := ih (by omega) fun j hj => hu j (by omega)
    have hv := e (us c)
    have hw := hb (us c)
    have hcl := cnt_le us (us c) c
    simp only [relSt, relW]
    generalize relSt (nlOf n) mem us (wt, W) c = s at *
    have hwr : wrap64 (s.1 (us c) - 1) = wt (us c) - (cnt us (us c) c : Int) - 1 := by rw [hv, wrap_small (by omega) (by omega)]
    refine ⟨fun j => ?_, ?_⟩
    · simp only [setI, cnt, hwr]
      by_cases ej : j = us c
      · subst ej; simp; omega
      · have e2 : ¬ us c = j := fun h => ej h.symm
        simp [ej, e2, e j]
    · rw [hwr]
      have huc := hu c (by omega)
      by_cases hz : wt (us c) - (cnt us (us c) c : Int) - 1 = 0
      · rw [if_pos hz, hm _ huc]
        refine (ok.add huc hn).congr fun j _ => ?_
        simp only [setP, rdR, cnt]
        by_cases ej : j = us c
        · subst ej
          simp only [if_true]
          exact (decide_eq_true (Or.inr ⟨by omega, by omega⟩)).symm
        · have e2 : ¬ us c = j := fun h => ej h.symm
          simp [ej, e2]
      · rw [if_neg hz]
        refine ok.congr fun j _ => ?_
        simp only [rdR, cnt]
        by_cases ej : us c = j
        · subst ej
          simp only [if_true]
          exact decide_eq_decide.2 (by omega)
        · simp [ej]

theorem hold_un {n : Nat} (hn : n ≤ 4096) (mem us : Nat → Nat) (wt v0 : Nat → Int) (W : Nat → Nat → Int) (t C : Nat) (hC : C ≤ 65536) (hb : ∀ j, 0 ≤ wt j ∧ wt j ≤ 255) (hm : ∀ i, i < n → mem i = i) (hv0 : ∀ j, v0 j = wt j - (cnt us j C : Int)) (h : LevOK n W (rdR wt us t C)) (hu : ∀ j, j < C → us j < n) :
    ∀ c, c ≤ C → (∀ j, (holdSt (nlOf n) mem us (v0, W) c).1 j = wt j - (cnt us j C : Int) + (cnt us j c : Int)) ∧ LevOK n (holdSt (nlOf n) mem us (v0, W) c).2 (rdH wt us t C c) := by
  intro c
  induction c with
  | zero =>
    intro _
    refine ⟨fun j => by simp [holdSt, cnt, hv0], h.congr fun j _ => ?_⟩
    simp only [rdR, rdH, cnt]
    exact decide_eq_decide.2 (by omega)
  | succ c ih =>
    intro hc
    obtain ⟨e, ok⟩ := ih (by omega)
    have hv := e (us c)
    have hw := hb (us c)
    have hcl := cnt_le us (us c) c
    have hCl := cnt_le us (us c) C
    have hlt := cnt_lt (us := us) (c := c) (C := C) (by omega)
    simp only [holdSt, holdW]
    generalize holdSt (nlOf n) mem us (v0, W) c = s at *
    have hwr : wrap64 (s.1 (us c) + 1) = wt (us c) - (cnt us (us c) C : Int) + (cnt us (us c) c : Int) + 1 := by rw [hv, wrap_small (by omega) (by omega)]
    refine ⟨fun j => ?_, ?_⟩
    · simp only [setI, cnt, hwr]
      by_cases ej : j = us c
      · subst ej; simp; omega
      · have e2 : ¬ us c = j := fun h => ej h.symm
        simp [ej, e2, e j]
    · rw [hv]
      have huc := hu c (by omega)
      by_cases hz : wt (us c) - (cnt us (us c) C : Int) + (cnt us (us c) c : Int) = 0
      · rw [if_pos hz, hm _ huc]
        refine (ok.rem huc hn).congr fun j _ => ?_
        simp only [setP, rdH, cnt]
        by_cases ej : j = us c
        · subst ej
          simp only [if_true]
          exact (decide_eq_false (by omega)).symm
        · have e2 : ¬ us c = j := fun h => ej h.symm
          simp [ej, e2]
      · rw [if_neg hz]
        refine ok.congr fun j _ => ?_
        simp only [rdH, cnt]
        by_cases ej : us c = j
        · subst ej
          simp only [if_true]
          exact decide_eq_decide.2 (by omega)
        · simp [ej]

/-- Counts and ready set, behind 'place' and 'unplace'. -/
theorem un_lev {n : Nat} (hn : n ≤ 4096) (mem us : Nat → Nat) (wt : Nat → Int) (t C : Nat) (ht : t < n) (hC : C ≤ 65536) (hb : ∀ j, 0 ≤ wt j ∧ wt j ≤ 255) (hwt : wt t = 0) (hm : ∀ i, i < n → mem i = i) (hu : ∀ j, j < C → us j < n) :
    (∀ j, (holdSt (nlOf n) mem us (relSt (nlOf n) mem us (wt, remW (nlOf n) 0 (mem t) (levW n (fun j => decide (wt j = 0)))) C) C).1 j = wt j) ∧
    LevOK n (addW (nlOf n) 0 (mem t) (holdSt (nlOf n) mem us (relSt (nlOf n) mem us (wt, remW (nlOf n) 0 (mem t) (levW n (fun j => decide (wt j = 0)))) C) C).2) (fun j => decide (wt j = 0)) := by
  have h0 : LevOK n (remW (nlOf n) 0 (mem t) (levW n (fun j => decide (wt j = 0)))) (fun j => decide (¬ j = t ∧ wt j = 0)) := by
    rw [hm t ht]
    refine ((levW_ok n _).rem ht hn).congr fun j _ => ?_
    simp only [setP]
    by_cases e : j = t
    · simp [e]
    · simp [e]
  obtain ⟨a1, a2⟩ := rel_un hn mem us wt _ t hb hm h0 C hC hu
  generalize relSt (nlOf n) mem us (wt, remW (nlOf n) 0 (mem t) (levW n (fun j => decide (wt j = 0)))) C = s at *
  obtain ⟨b1, b2⟩ := hold_un hn mem us wt s.1 s.2 t C hC hb hm a1 a2 hu C (Nat.le_refl _)
  have es : (s.1, s.2) = s := rfl
  rw [es] at b1 b2
  refine ⟨fun j => by rw [b1 j]; omega, ?_⟩
  rw [hm t ht]
  refine (b2.add ht hn).congr fun j _ => ?_
  simp only [setP, rdH]
  by_cases e : j = t
  · subst e; simp [hwt]
  · rw [if_neg e]
    exact decide_eq_decide.2 (by have := hb j; omega)

/-! ### The trail -/
def foldB (B : Nat → Int) (l : List (Nat × Int)) : Nat → Int := l.foldl (fun B p => setB B p.1 p.2) B
theorem setB_same (f : Nat → Int) (i : Nat) : setB f i (f i) = f := by
  funext j; unfold setB; split
  · rename_i h; rw [h]
  · rfl
theorem setB_back (f : Nat → Int) (i : Nat) (v : Int) : setB (setB f i v) i (f i) = f := by
  funext j
  by_cases h : j = i
  · simp [setB, h]
  · simp [setB, h]

theorem join_undo (R : Nat → Int) (r : Nat) (B : Nat → Int) (l0 : List (Int × Int)) : ∀ c, ∃ ext : List (Nat × Int), (joinSt R r (B, some l0) c).2 = some (l0 ++ ext.map (fun p => ((p.1 : Int), p.2))) ∧ (∀ p ∈ ext, p.1 < r + c) ∧ foldB (joinSt R r (B, some l0) c).1 ext.reverse = B := by
  intro c
  induction c with
  | zero => exact ⟨[], by simp [joinSt], fun _ h => (by cases h), rfl⟩
  | succ c ih =>
    obtain ⟨ext, e1, e2, e3⟩ := ih
    simp only [joinSt]
    generalize joinSt R r (B, some l0) c = s at *
    obtain ⟨v, hv⟩ : ∃ v, v = orr (s.1 (r + c)) (R c) := ⟨_, rfl⟩
    rw [← hv]
    by_cases hs : s.1 (r + c) = v
    · refine ⟨ext, ?_, fun p hp => by have := e2 p hp; omega, ?_⟩
      · simp only [setT, if_pos hs]; exact e1
      · rw [← hs, setB_same]; exact e3
    · refine ⟨ext ++ [(r + c, s.1 (r + c))], ?_, fun p hp => ?_, ?_⟩
      · simp only [setT, if_neg hs, e1, Option.map_some]
        simp
      · rcases List.mem_append.1 hp with h | h
        · have := e2 p h; omega
        · simp at h; subst h; show r + c < r + (c + 1); omega
      · rw [List.reverse_append]
        show foldB (setB (setB s.1 (r + c) v) (r + c) (s.1 (r + c))) ext.reverse = B
        rw [setB_back]; exact e3

theorem put_undo {h : Sh} {D : Dt} {t : Nat} {l0 : List (Int × Int)} (hT : D.T = some l0) (hnum : D.num t < h.K) (hnb : h.nb = h.K * h.W) :
    ∃ ext : List (Nat × Int), (putSt h D t).2 = some (l0 ++ ext.map (fun p => ((p.1 : Int), p.2))) ∧ (∀ p ∈ ext, p.1 < h.nb) ∧ foldB (putSt h D t).1 ext.reverse = D.B := by
  by_cases hz : D.num t < 0
  · refine ⟨[], ?_, fun _ h => (by cases h), ?_⟩
    · simp only [putSt, if_pos hz, hT]; simp
    · simp only [putSt, if_pos hz]; rfl
  · obtain ⟨k, hk⟩ := Int.eq_ofNat_of_zero_le (Int.not_lt.1 hz)
    obtain ⟨ext, e1, e2, e3⟩ := join_undo (restSt (D.num t).toNat D.pl D.kept h.K) ((D.num t).toNat * h.W) D.B l0 h.W
    refine ⟨ext, ?_, fun p hp => ?_, ?_⟩
    · simp only [putSt, if_neg hz, hT]; exact e1
    · have h1 := e2 p hp
      rw [hk, Int.toNat_natCast] at h1
      have h2 : (k + 1) * h.W ≤ h.K * h.W := Nat.mul_le_mul_right _ (by omega)
      rw [Nat.add_mul, Nat.one_mul] at h2
      omega
    · simp only [putSt, if_neg hz, hT]; exact e3

theorem zs_ex {nb : Nat} : ∀ (ext : List (Nat × Int)) (k : Nat), (∀ p ∈ ext, p.1 < nb) → ∃ zs : List (Chg nb), zs.map (fun x => (x.1.2.1, x.1.2.2)) = ext ∧ ∀ (i : Nat) x, zs[i]? = some x → x.1.1 = ((k + i : Nat) : Int)
  | [], _, _ => ⟨[], rfl, fun i x h => by simp at h⟩
  | p :: r, k, h => by
    obtain ⟨zs, h1, h2⟩ := zs_ex r (k + 1) (fun q hq => h q (List.mem_cons_of_mem _ hq))
    refine ⟨⟨((k : Int), p.1, p.2), h p (List.mem_cons_self ..)⟩ :: zs, by simp [h1], fun i x hx => ?_⟩
    cases i with
    | zero => simp at hx; subst hx; rfl
    | succ i => have := h2 i x (by simpa using hx); rw [this]; omega

theorem apply_fold {nb : Nat} (B : Nat → Int) (zs : List (Chg nb)) : applyB B (down zs zs.length) = foldB B (zs.map (fun x => (x.1.2.1, x.1.2.2))).reverse := by
  unfold applyB foldB down
  rw [List.take_length, ← List.map_reverse, List.foldl_map]
end Go.Proofs.YbulkebqyDoor
