import Derived.Test.YbulkebqyDoorBase
namespace Go.Proofs.YbulkebqyDoor
open Go.RowKit Go.Deep

/-- 'set' where the word is as it is to be. -/
theorem set_same (pb bb nb i : Nat) (nv kv wv tv : Value) (B : Nat → Int) (w : World)
    (hp : w.heap[pb]? = some (.cells #[nv, kv, wv, .slice (some ⟨bb, 0, none⟩) nb nb, tv] 40 (0, 0)))
    (hb : w.rowIs bb 37 nb (fun i => .int .u64 (B i))) (hi : i < nb) :
    Calls Ybad.prog 37 #[.pointer (some ⟨pb, 0, none⟩), .int .i64 i, .int .u64 (B i)] w fun e w' => e = .returned (.tuple #[]) ∧ w' = w := by
  have c3 : w.cell? ⟨pb, 3, none⟩ = some (.slice (some ⟨bb, 0, none⟩) nb nb) := by rw [cell_of_blk hp]; rfl
  have cb : w.cell? ⟨bb, i, none⟩ = some (.int .u64 (B i)) := hb.cell hi
  clear hp hb
  go_enter Ybad.func37, Ybad.ntmps37
  go_wp2
  go_returns
  exact ⟨rfl, rfl⟩

theorem set_plain (pb bb nb i : Nat) (nv kv wv : Value) (B : Nat → Int) (v : Int) (w : World)
    (hp : w.heap[pb]? = some (.cells #[nv, kv, wv, .slice (some ⟨bb, 0, none⟩) nb nb, .slice none 0 0] 40 (0, 0)))
    (hb : w.rowIs bb 37 nb (fun i => .int .u64 (B i))) (hi : i < nb) (hv : B i ≠ v) :
    Calls Ybad.prog 37 #[.pointer (some ⟨pb, 0, none⟩), .int .i64 i, .int .u64 v] w fun e w' => e = .returned (.tuple #[]) ∧ w' = w.setCell ⟨bb, i, none⟩ (.int .u64 v) := by
  have c3 : w.cell? ⟨pb, 3, none⟩ = some (.slice (some ⟨bb, 0, none⟩) nb nb) := by rw [cell_of_blk hp]; rfl
  have c4 : w.cell? ⟨pb, 4, none⟩ = some (.slice none 0 0) := by rw [cell_of_blk hp]; rfl
  have cb : w.cell? ⟨bb, i, none⟩ = some (.int .u64 (B i)) := hb.cell hi
  have fb : w.frozen? ⟨bb, i, none⟩ = false := hb.frozen i
  have hne : (B i == v) = false := by simpa using hv
  clear hp hb
  go_enter Ybad.func37, Ybad.ntmps37
  go_wp2
  go_returns
  exact ⟨rfl, rfl⟩

theorem Ybad.info50 : (Ybad.prog.info? 50).map (fun i => (i.zero, i.size, i.bytes)) = some (some (.agg #[.int .i64 0, .int .u64 0]), 2, 16) := by kernel_rfl


theorem two_new (w : World) (a b : Value) (t : TypeId) : ∀ j u, ([a, b] : List Value)[j]? = some u → (w.alloc (.cells #[a, b] t)).drew.cell? ((⟨w.heap.size, 0, none⟩ : Addr).add j) = some u := by
  intro j u h
  match j, h with
  | 0, h => simp at h; subst h; simp [Addr.add]
  | 1, h => simp at h; subst h; simp [Addr.add]

/-- The trail, a row of its own: its cells, two an entry. -/
theorem owns_shape {w : World} {base : Nat} {e size n : Nat} {v : Value} {xs : List Value} (h : w.ownsRow base e size v n xs) (hn : ¬ v = .slice none 0 0) :
    ∃ g cap cur, v = .slice (some ⟨g, 0, none⟩) n cap ∧ w.heap[g]? = some (.cells cur e (0, 0)) := by
  rcases h.2 with ⟨hv, _⟩ | ⟨g, cap, cur, hv, _, hh, _⟩
  · exact absurd hv hn
  · exact ⟨g, cap, cur, hv, hh⟩

theorem owns_block {w w' : World} {base : Nat} {e size n g cap : Nat} {xs : List Value} (h : w.ownsRow base e size (.slice (some ⟨g, 0, none⟩) n cap) n xs) (hb : w'.heap[g]? = w.heap[g]?) :
    w'.ownsRow base e size (.slice (some ⟨g, 0, none⟩) n cap) n xs := by
  obtain ⟨h1, h2⟩ := h
  refine ⟨h1, ?_⟩
  rcases h2 with ⟨hv, _⟩ | ⟨g', cap', cur, hv, hbg, hh, r⟩
  · simp at hv
  · simp only [Value.slice.injEq, Option.some.injEq, Addr.mk.injEq, true_and, and_true] at hv
    obtain ⟨rfl, rfl⟩ := hv
    exact .inr ⟨g, cap, cur, rfl, hbg, hb.trans hh, r⟩

theorem owns_blk {w : World} {base : Nat} {e size n g cap : Nat} {xs : List Value} (h : w.ownsRow base e size (.slice (some ⟨g, 0, none⟩) n cap) n xs) : ∃ cur, w.heap[g]? = some (.cells cur e (0, 0)) := by
  rcases h.2 with ⟨hv, _⟩ | ⟨g', cap', cur, hv, hbg, hh, r⟩
  · simp at hv
  · simp only [Value.slice.injEq, Option.some.injEq, Addr.mk.injEq, true_and, and_true] at hv
    obtain ⟨rfl, rfl⟩ := hv
    exact ⟨cur, hh⟩

theorem ne_of_types {w : World} {a b : Nat} {c c' : Array Value} {t t' : TypeId} (h : w.heap[a]? = some (.cells c t (0, 0))) (h' : w.heap[b]? = some (.cells c' t' (0, 0))) (ht : t ≠ t') : ¬ a = b := by
  rintro rfl
  rw [h] at h'
  simp at h'
  exact ht h'.2

theorem row_blk {w : World} {b n : Nat} {t : TypeId} {f : Nat → Value} (h : w.rowIs b t n f) : ∃ c, w.heap[b]? = some (.cells c t (0, 0)) := by
  obtain ⟨c, hb, _⟩ := h; exact ⟨c, hb⟩


theorem set_fin {pb bb nb i g m cap g' cap' : Nat} {nv kv wv : Value} {B : Nat → Int} {v : Int} {w w1 : World} {xs : List Value} {o : Obj}
    (hp : w.heap[pb]? = some (.cells #[nv, kv, wv, .slice (some ⟨bb, 0, none⟩) nb nb, .slice (some ⟨g, 0, none⟩) m cap] 40 (0, 0)))
    (hb : w.rowIs bb 37 nb (fun i => .int .u64 (B i)))
    (hgrow : (w.alloc o).drew.grownBy w1 (some g)) (hown : w1.ownsRow 0 50 2 (.slice (some ⟨g', 0, none⟩) (m + 1) cap') (m + 1) (xs ++ [.int .i64 i, .int .u64 (B i)]))
    (npb : ¬ bb = pb) (npg : ¬ pb = g) (nbg : ¬ bb = g)
    (hnew : ∀ k, (Value.slice (some ⟨g', 0, none⟩) (m + 1) cap').ownBlock = some k → (Value.slice (some ⟨g, 0, none⟩) m cap).ownBlock = some k ∨ (w.alloc o).drew.heap.size ≤ k) :
    ((w1.setCell ⟨pb, 4, none⟩ (.slice (some ⟨g', 0, none⟩) (m + 1) cap')).setCell ⟨bb, i, none⟩ (.int .u64 v)).rowIs bb 37 nb (fun j => .int .u64 (if j = i then v else B j)) ∧
      (∃ g'' cap'', ((w1.setCell ⟨pb, 4, none⟩ (.slice (some ⟨g', 0, none⟩) (m + 1) cap')).setCell ⟨bb, i, none⟩ (.int .u64 v)).heap[pb]? = some (.cells #[nv, kv, wv, .slice (some ⟨bb, 0, none⟩) nb nb, .slice (some ⟨g'', 0, none⟩) (m + 1) cap''] 40 (0, 0)) ∧
        ((w1.setCell ⟨pb, 4, none⟩ (.slice (some ⟨g', 0, none⟩) (m + 1) cap')).setCell ⟨bb, i, none⟩ (.int .u64 v)).ownsRow 0 50 2 (.slice (some ⟨g'', 0, none⟩) (m + 1) cap'') (m + 1) (xs ++ [.int .i64 i, .int .u64 (B i)]) ∧ (g'' = g ∨ w.heap.size ≤ g'')) ∧
      Keeps (fun k => k = pb ∨ k = bb ∨ k = g) w ((w1.setCell ⟨pb, 4, none⟩ (.slice (some ⟨g', 0, none⟩) (m + 1) cap')).setCell ⟨bb, i, none⟩ (.int .u64 v)) := by
  have k0 : Keeps (fun k => k = g) w w1 := (((Keeps.refl _ w).alloc o).drew).grown hgrow (fun k e _ => by simpa using e.symm)
  have hp1 := k0.at' hp npg
  have hb1 := k0.row hb nbg
  obtain ⟨cur, hg1⟩ := owns_blk hown
  have ng1 : ¬ g' = pb := ne_of_types hg1 hp1 (by decide)
  obtain ⟨cb, hcb⟩ := row_blk hb1
  have ng2 : ¬ g' = bb := ne_of_types hg1 hcb (by decide)
  refine ⟨?_, ⟨g', cap', ?_, ?_, ?_⟩, ?_⟩
  · refine ((hb1.setOther (a := ⟨pb, 4, none⟩) npb _).set i _).congr fun j _ => ?_
    show (if j = i then _ else _) = _
    split <;> simp_all
  · rw [blk_setCell_other _ _ _ _ (fun e => npb e.symm), blk_set hp1]
    rfl
  · refine owns_block hown ?_
    rw [blk_setCell_other _ _ _ _ ng2, blk_setCell_other _ _ _ _ ng1]
  · rcases hnew g' rfl with h | h
    · simp [Value.ownBlock] at h; exact .inl h.symm
    · simp at h; exact .inr (by omega)
  · exact ((k0.mono (fun k _ h => .inr (.inr h))).setCell _ _ (fun _ => .inl rfl)).setCell _ _ (fun _ => .inr (.inl rfl))

set_option maxHeartbeats 400000 in
theorem set_trailed (pb bb nb i g m cap : Nat) (nv kv wv : Value) (B : Nat → Int) (v : Int) (w : World) (xs : List Value)
    (hp : w.heap[pb]? = some (.cells #[nv, kv, wv, .slice (some ⟨bb, 0, none⟩) nb nb, .slice (some ⟨g, 0, none⟩) m cap] 40 (0, 0)))
    (hb : w.rowIs bb 37 nb (fun i => .int .u64 (B i))) (hi : i < nb) (hv : B i ≠ v)
    (ht : w.ownsRow 0 50 2 (.slice (some ⟨g, 0, none⟩) m cap) m xs) (hmb : m ≤ 4000000) :
    Calls Ybad.prog 37 #[.pointer (some ⟨pb, 0, none⟩), .int .i64 i, .int .u64 v] w fun e w' => e = .returned (.tuple #[]) ∧
      w'.rowIs bb 37 nb (fun j => .int .u64 (if j = i then v else B j)) ∧
      (∃ g' cap', w'.heap[pb]? = some (.cells #[nv, kv, wv, .slice (some ⟨bb, 0, none⟩) nb nb, .slice (some ⟨g', 0, none⟩) (m + 1) cap'] 40 (0, 0)) ∧ 
        w'.ownsRow 0 50 2 (.slice (some ⟨g', 0, none⟩) (m + 1) cap') (m + 1) (xs ++ [.int .i64 i, .int .u64 (B i)]) ∧ (g' = g ∨ w.heap.size ≤ g')) ∧
      Keeps (fun k => k = pb ∨ k = bb ∨ k = g) w w' := by
  have c3 : w.cell? ⟨pb, 3, none⟩ = some (.slice (some ⟨bb, 0, none⟩) nb nb) := by rw [cell_of_blk hp]; rfl
  have c4 : w.cell? ⟨pb, 4, none⟩ = some (.slice (some ⟨g, 0, none⟩) m cap) := by rw [cell_of_blk hp]; rfl
  have cb : w.cell? ⟨bb, i, none⟩ = some (.int .u64 (B i)) := hb.cell hi
  have fb : w.frozen? ⟨bb, i, none⟩ = false := hb.frozen i
  have f4 : w.frozen? ⟨pb, 4, none⟩ = false := frozen_of_blk hp 4
  have hne : (B i == v) = false := by simpa using hv
  obtain ⟨cbb, hbb⟩ := row_blk hb
  obtain ⟨cg, hgg⟩ := owns_blk ht
  have npb : ¬ bb = pb := ne_of_types hbb hp (by decide)
  have npg : ¬ pb = g := ne_of_types hp hgg (by decide)
  have nbg : ¬ bb = g := ne_of_types hbb hgg (by decide)
  obtain ⟨i0, hi0, hz0, hz1, hz2⟩ := info_parts Ybad.info50
  have HP : Hid (w.heap[pb]? = some (.cells #[nv, kv, wv, .slice (some ⟨bb, 0, none⟩) nb nb, .slice (some ⟨g, 0, none⟩) m cap] 40 (0, 0))) := hp
  have HB : Hid (w.rowIs bb 37 nb (fun i => .int .u64 (B i))) := hb
  have HT : Hid (w.ownsRow 0 50 2 (.slice (some ⟨g, 0, none⟩) m cap) m xs) := ht
  have hlp := lt_of_blk hp
  have hlb := lt_of_blk hbb
  clear hp hb ht hgg hbb
  go_enter Ybad.func37, Ybad.ntmps37
  go_wp2
  go_region_law (refine step_append_own rfl (.tmp 24) (.tmp 34) 38 rfl 0 50 i0 (.agg #[.int .i64 0, .int .u64 0]) 2 16 Ybad.underlying38 hi0 hz0 hz1 hz2 rfl (by decide) (.slice (some ⟨g, 0, none⟩) m cap) m xs (by simp [Act.eval]) (HT.out.alloc _) ⟨w.heap.size, 0, none⟩ 1 1 [.int .i64 i, .int .u64 (B i)] (by simp [Act.eval]) rfl (two_new w _ _ 50) (by simp [Value.oneCell']) (by unfold maxLen; omega) (by omega) (Nat.zero_le _) ?_; intro v' w1 hown hgrow hnil hnew; obtain ⟨g', cap', cur', hv', hg'⟩ := owns_shape hown (by rw [hnil]; simp); rw [hv'] at hown hnew ⊢; have hpb1 : w1.heap[pb]? = w.heap[pb]? := (hgrow.block pb (by simp; omega) (by simp [Value.ownBlock]; omega)).trans (blk_alloc_lt _ _ _ hlp); have hbb1 : w1.heap[bb]? = w.heap[bb]? := (hgrow.block bb (by simp; omega) (by simp [Value.ownBlock]; omega)).trans (blk_alloc_lt _ _ _ hlb); have c31 : w1.cell? ⟨pb, 3, none⟩ = some (.slice (some ⟨bb, 0, none⟩) nb nb) := (World.cell?_of_block (w := w) hpb1).trans c3; have c41 : w1.cell? ⟨pb, 4, none⟩ = some (.slice (some ⟨g, 0, none⟩) m cap) := (World.cell?_of_block (w := w) hpb1).trans c4; have f41 : w1.frozen? ⟨pb, 4, none⟩ = false := (World.frozen?_of_block (w := w) hpb1).trans f4; have fb1 : w1.frozen? ⟨bb, i, none⟩ = false := (World.frozen?_of_block (w := w) hbb1).trans fb; have cb1 : w1.cell? ⟨bb, i, none⟩ = some (.int .u64 (B i)) := (World.cell?_of_block (w := w) hbb1).trans cb)
  all_goals
    go_wp2
    go_returns
    exact ⟨rfl, set_fin HP.out HB.out hgrow hown npb npg nbg hnew⟩

/-! ### The one contract of 'set' -/
/-- A trail's cells. -/
def flat (l : List (Int × Int)) : List Value := l.flatMap fun p => [.int .i64 p.1, .int .u64 p.2]
theorem flat_snoc (l : List (Int × Int)) (a b : Int) : flat (l ++ [(a, b)]) = flat l ++ [.int .i64 a, .int .u64 b] := by simp [flat]
def TrailIs (w : World) (tv : Value) : Option (List (Int × Int)) → Prop
  | none => tv = .slice none 0 0
  | some l => w.ownsRow 0 50 2 tv l.length (flat l) ∧ ¬ tv = .slice none 0 0

structure PrecIs (w : World) (pb bb nb : Nat) (nv kv wv tv : Value) (B : Nat → Int) (T : Option (List (Int × Int))) : Prop where
  blk : w.heap[pb]? = some (.cells #[nv, kv, wv, .slice (some ⟨bb, 0, none⟩) nb nb, tv] 40 (0, 0))
  row : w.rowIs bb 37 nb (fun i => .int .u64 (B i))
  trail : TrailIs w tv T

def setB (B : Nat → Int) (i : Nat) (v : Int) : Nat → Int := fun j => if j = i then v else B j
def setT (T : Option (List (Int × Int))) (B : Nat → Int) (i : Nat) (v : Int) : Option (List (Int × Int)) := if B i = v then T else T.map (· ++ [((i : Int), B i)])
def trailLen (T : Option (List (Int × Int))) : Nat := (T.getD []).length

theorem trailIs_keeps {S : Nat → Prop} {w w' : World} {tv : Value} {T : Option (List (Int × Int))} (h : TrailIs w tv T) (hk : Keeps S w w') (hn : ∀ k, tv.ownBlock = some k → ¬ S k) : TrailIs w' tv T := by
  cases T with
  | none => exact h
  | some l =>
    obtain ⟨ho, hne⟩ := h
    obtain ⟨g, cap, cur, rfl, hg⟩ := owns_shape ho hne
    exact ⟨owns_block ho (hk.block g (lt_of_blk hg) (hn g rfl)), hne⟩

theorem PrecIs.keeps {S : Nat → Prop} {w w' : World} {pb bb nb : Nat} {nv kv wv tv : Value} {B : Nat → Int} {T : Option (List (Int × Int))} (h : PrecIs w pb bb nb nv kv wv tv B T) (hk : Keeps S w w')
    (h1 : ¬ S pb) (h2 : ¬ S bb) (h3 : ∀ k, tv.ownBlock = some k → ¬ S k) : PrecIs w' pb bb nb nv kv wv tv B T :=
  ⟨hk.at' h.blk h1, hk.row h.row h2, trailIs_keeps h.trail hk h3⟩

/-- What a call on the precedence may have written: the struct, its words, its trail's row. -/
def PS (pb bb : Nat) (tv : Value) (k : Nat) : Prop := k = pb ∨ k = bb ∨ tv.ownBlock = some k

theorem set_any (pb bb nb i : Nat) (nv kv wv tv : Value) (B : Nat → Int) (T : Option (List (Int × Int))) (x v : Int) (w : World)
    (h : PrecIs w pb bb nb nv kv wv tv B T) (hx : x = (i : Int)) (hi : i < nb) (hT : trailLen T ≤ 4000000) :
    Calls Ybad.prog 37 #[.pointer (some ⟨pb, 0, none⟩), .int .i64 x, .int .u64 v] w fun e w' => e = .returned (.tuple #[]) ∧
      ∃ tv', PrecIs w' pb bb nb nv kv wv tv' (setB B i v) (setT T B i v) ∧ Keeps (PS pb bb tv) w w' ∧ (∀ k, tv'.ownBlock = some k → tv.ownBlock = some k ∨ w.heap.size ≤ k) := by
  subst hx
  by_cases hv : B i = v
  · subst hv
    refine (set_same pb bb nb i nv kv wv tv B w h.blk h.row hi).mono ?_
    rintro e w' ⟨rfl, rfl⟩
    refine ⟨rfl, tv, ⟨h.blk, h.row.congr fun j _ => ?_, ?_⟩, Keeps.refl _ _, fun k hk => .inl hk⟩
    · simp only [setB]; split <;> simp_all
    · simpa [setT] using h.trail
  · have hT' : setT T B i v = T.map (· ++ [((i : Int), B i)]) := if_neg hv
    rw [hT']
    cases T with
    | none =>
      obtain rfl : tv = .slice none 0 0 := h.trail
      refine (set_plain pb bb nb i nv kv wv B v w h.blk h.row hi hv).mono ?_
      rintro e w' ⟨rfl, rfl⟩
      obtain ⟨cb, hcb⟩ := row_blk h.row
      have npb : ¬ pb = bb := ne_of_types h.blk hcb (by decide)
      refine ⟨rfl, .slice none 0 0, ⟨?_, (h.row.set i _).congr fun j _ => ?_, rfl⟩, (Keeps.refl _ _).setCell _ _ (fun _ => .inr (.inl rfl)), fun k hk => .inl hk⟩
      · rw [blk_setCell_other _ _ _ _ npb]; exact h.blk
      · simp only [setB]; split <;> rfl
    | some l =>
      obtain ⟨ho, hne⟩ := h.trail
      obtain ⟨g, cap, cur, rfl, hg⟩ := owns_shape ho hne
      refine (set_trailed pb bb nb i g l.length cap nv kv wv B v w (flat l) h.blk h.row hi hv ho hT).mono ?_
      rintro e w' ⟨rfl, hrow, ⟨g', cap', hp', hown', hnew⟩, hk⟩
      refine ⟨rfl, _, ⟨hp', hrow, ?_⟩, hk.mono fun k _ hS => ?_, fun k hk' => ?_⟩
      · refine ⟨?_, by simp⟩
        rw [List.length_append, flat_snoc]
        exact hown'
      · rcases hS with rfl | rfl | rfl
        · exact .inl rfl
        · exact .inr (.inl rfl)
        · exact .inr (.inr rfl)
      · simp [Value.ownBlock] at hk'
        subst hk'
        rcases hnew with rfl | hn
        · exact .inl rfl
        · exact .inr hn
end Go.Proofs.YbulkebqyDoor
