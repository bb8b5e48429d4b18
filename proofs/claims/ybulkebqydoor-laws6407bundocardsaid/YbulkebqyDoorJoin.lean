import Derived.Test.YbulkebqyDoorSet
namespace Go.Proofs.YbulkebqyDoor
open Go.RowKit Go.Deep

def orr (a b : Int) : Int := bits BinOp.or IntKind.u64 a b
/-- What 'join' has made of the words and the trail behind c of its rounds: row r, the set R. -/
def joinSt (R : Nat → Int) (r : Nat) (s : (Nat → Int) × Option (List (Int × Int))) : Nat → (Nat → Int) × Option (List (Int × Int))
  | 0 => s
  | c + 1 => let s' := joinSt R r s c; (setB s'.1 (r + c) (orr (s'.1 (r + c)) (R c)), setT s'.2 s'.1 (r + c) (orr (s'.1 (r + c)) (R c)))

theorem setT_len (T : Option (List (Int × Int))) (B : Nat → Int) (i : Nat) (v : Int) : trailLen (setT T B i v) ≤ trailLen T + 1 := by
  unfold setT trailLen
  split
  · omega
  · cases T <;> simp
theorem joinSt_len (R : Nat → Int) (r : Nat) (s : (Nat → Int) × Option (List (Int × Int))) (c : Nat) : trailLen (joinSt R r s c).2 ≤ trailLen s.2 + c := by
  induction c with
  | zero => simp [joinSt]
  | succ c ih => simp only [joinSt]; have := setT_len (joinSt R r s c).2 (joinSt R r s c).1 (r + c) (orr ((joinSt R r s c).1 (r + c)) (R c)); omega

theorem PS_step {pb bb : Nat} {tv tv' : Value} {w : World} (h : ∀ k, tv'.ownBlock = some k → tv.ownBlock = some k ∨ w.heap.size ≤ k) : ∀ k, k < w.heap.size → PS pb bb tv' k → PS pb bb tv k := by
  intro k hk hS
  rcases hS with h1 | h1 | h1
  · exact .inl h1
  · exact .inr (.inl h1)
  · rcases h k h1 with h2 | h2
    · exact .inr (.inr h2)
    · omega

set_option maxHeartbeats 400000 in
theorem join_any (pb bb nb W rb k : Nat) (nv kv tv : Value) (B R : Nat → Int) (T : Option (List (Int × Int))) (x : Int) (w : World)
    (h : PrecIs w pb bb nb nv kv (.int .i64 W) tv B T) (hr : w.rowIs rb 37 W (fun i => .int .u64 (R i))) (hrb : ¬ rb = bb) (hx : x = (k : Int)) (hW : W ≤ 100) (hk : k ≤ 5000) (hn : k * W + W ≤ nb) (hT : trailLen T ≤ 3000000) :
    Calls Ybad.prog 29 #[.pointer (some ⟨pb, 0, none⟩), .int .i64 x, .slice (some ⟨rb, 0, none⟩) W W] w fun e w' => e = .returned (.tuple #[]) ∧
      ∃ tv', PrecIs w' pb bb nb nv kv (.int .i64 W) tv' (joinSt R (k * W) (B, T) W).1 (joinSt R (k * W) (B, T) W).2 ∧ Keeps (PS pb bb tv) w w' ∧ (∀ k, tv'.ownBlock = some k → tv.ownBlock = some k ∨ w.heap.size ≤ k) := by
  subst hx
  obtain ⟨cr, hcr⟩ := row_blk hr
  have nrp : ¬ rb = pb := ne_of_types hcr h.blk (by decide)
  have nrt : ¬ tv.ownBlock = some rb := by
    intro e
    cases T with
    | none => have : tv = .slice none 0 0 := h.trail; subst this; simp [Value.ownBlock] at e
    | some l =>
      obtain ⟨g, cap, cur, rfl, hg⟩ := owns_shape h.trail.1 h.trail.2
      simp [Value.ownBlock] at e
      subst e
      exact ne_of_types hg hcr (by decide) rfl
  have c2 : w.cell? ⟨pb, 2, none⟩ = some (.int .i64 W) := by rw [cell_of_blk h.blk]; rfl
  have hkW : k * W ≤ 500000 := by
    have := Nat.mul_le_mul hk hW
    omega
  have ekW : (k : Int) * (W : Int) = ((k * W : Nat) : Int) := by omega
  obtain ⟨r, hr0⟩ : ∃ r, r = k * W := ⟨_, rfl⟩
  rw [← hr0] at hn hkW ekW ⊢
  have HR0 : Hid (r = k * W) := hr0
  have HP : Hid (PrecIs w pb bb nb nv kv (.int .i64 W) tv B T) := h
  have HR : Hid (w.rowIs rb 37 W (fun i => .int .u64 (R i))) := hr
  clear hr0 hcr h hr
  go_enter Ybad.func29, Ybad.ntmps29
  go_wp2
  go_loopg [17] W (fun g i wr => ∃ c : Nat, c + g = W ∧ i = .int .i64 c ∧ ∃ tv', PrecIs wr pb bb nb nv kv (.int .i64 W) tv' (joinSt R r (B, T) c).1 (joinSt R r (B, T) c).2 ∧ Keeps (PS pb bb tv) w wr ∧ (∀ k, tv'.ownBlock = some k → tv.ownBlock = some k ∨ w.heap.size ≤ k))
  case atStart => exact ⟨0, by omega, rfl, tv, HP.out, Keeps.refl _ _, fun k hk => .inl hk⟩
  case round =>
    obtain ⟨c, hc, rfl, tv', hP, hK, hN⟩ := hrel
    have HP' := hid hP
    have HK := hid hK
    have HN := hid hN
    have nS : ¬ PS pb bb tv rb := by
      rintro (h1 | h1 | h1)
      · exact nrp h1
      · exact hrb h1
      · exact nrt h1
    have HRr := hid (hK.row HR.out nS)
    clear hK hN nS
    by_cases hlt : c < W
    · have cr : wr.cell? ⟨rb, c, none⟩ = some (.int .u64 (R c)) := HRr.out.cell hlt
      have c3 : wr.cell? ⟨pb, 3, none⟩ = some (.slice (some ⟨bb, 0, none⟩) nb nb) := by rw [cell_of_blk hP.blk]; rfl
      have cb : wr.cell? ⟨bb, r + c, none⟩ = some (.int .u64 ((joinSt R r (B, T) c).1 (r + c))) := hP.row.cell (by omega)
      clear hP
      go_wp2_with fail
      refine (set_any pb bb nb (r + c) nv kv (.int .i64 W) tv' _ _ _ _ _ HP'.out (by omega) (by omega) (by have := joinSt_len R r (B, T) c; simp only at this; omega)).mono ?_
      rintro e w1 ⟨rfl, tv1, hP1, hK1, hN1⟩
      have HP1 := hid hP1
      have HK1 := hid hK1
      have HN1 := hid hN1
      clear hP1 hK1 hN1
      go_wp2
      go_roundg (W - (c + 1))
      case measure => omega
      case rel =>
        refine ⟨c + 1, by omega, by go_num, tv1, HP1.out, HK.out.trans HK1.out (PS_step HN.out), fun k hk => ?_⟩
        have hsz := HK.out.size
        rcases HN1.out k hk with h1 | h1
        · exact HN.out k h1
        · exact .inr (by omega)
    · clear hP
      obtain rfl : c = W := by omega
      go_wp2
      go_returns
      exact ⟨rfl, tv', HP'.out, HK.out, HN.out⟩
end Go.Proofs.YbulkebqyDoor
