import Derived.Test.YbulkebqyDoorSet
import Derived.RangeFuncNested
import Derived.RangeFuncBound
import Derived.RangeFuncCalls
import Derived.RangeFuncLeaves
import Derived.Shelf.Abstract
import Derived.Shelf.RegionOpen
import Derived.OwnWalkIn
import Derived.TacticsInMore
import Derived.LoopNIn
import Derived.LoopIn
namespace Go.Proofs.YbulkebqyDoor
open Go.RowKit Go.Deep Go.Shelf

attribute [local go_sem] Oper.semAt_some

/-- One entry of the trail, as a round of the loop is handed it: the index, the place, the word. -/
abbrev Chg (nb : Nat) := { x : Int × Nat × Int // x.2.1 < nb }
def encC {nb : Nat} (x : Chg nb) : Array Value := #[.int .i64 x.1.1, .agg #[.int .i64 (x.1.2.1 : Nat), .int .u64 x.1.2.2]]
/-- The first c of zs, the last of them first. -/
def down {α : Type} (zs : List α) (c : Nat) : List α := (zs.take c).reverse
theorem down_succ {α : Type} {zs : List α} {c : Nat} {x : α} (h : zs[c]? = some x) : down zs (c + 1) = x :: down zs c := by simp [down, List.take_add_one, h]
theorem down_length {α : Type} (zs : List α) (c : Nat) (h : c ≤ zs.length) : (down zs c).length = c := by simp [down, Nat.min_eq_left h]

/-- What a round keeps: all that was there when the loop began, but the bits. -/
def KpB (n₀ bb : Nat) (W W' : World) : Prop := Keeps (fun k => k = bb ∨ n₀ ≤ k) W W'
theorem KpB.trans {n₀ bb : Nat} {A B C : World} (h : KpB n₀ bb A B) (k : KpB n₀ bb B C) : KpB n₀ bb A C := Keeps.trans h k (fun _ _ h => h)
theorem KpB.refl (n₀ bb : Nat) (A : World) : KpB n₀ bb A A := Keeps.refl _ _
theorem KpB.cell {n₀ bb : Nat} {A B : World} (h : KpB n₀ bb A B) {a : Addr} {v : Value} (hc : A.cell? a = some v) (h1 : a.block < n₀) (h2 : ¬ a.block = bb) : B.cell? a = some v := by
  have hlt : a.block < A.heap.size := World.block_lt_of_cell? A a hc
  have := Keeps.block h a.block hlt (fun e => by rcases e with e | e <;> omega)
  simpa [World.cell?, this] using hc

set_option maxRecDepth 100000 in
set_option maxHeartbeats 2000000 in
/-- slices.Backward's closure, at the trail's entries. -/
theorem back1 (n : Nat) (hn : 1 ≤ n) (l Bs n₀ bb nb g o len cap : Nat) (zs : List (Chg nb)) (hzl : zs.length = len) (hz : ∀ (i : Nat) x, zs[i]? = some x → x.1.1 = (i : Int)) (hlen : len ≤ 9223372036854775807) (hg : g < n₀) (hgb : ¬ g = bb) (hBn : Bs < n₀) (hBb : ¬ Bs = bb)
    (J Jx : List (Chg nb) → World → Prop)
    (hY : ∀ pre x W, J pre W → pre.length < len → YieldAt Fence.wide (n - 1) Ybad.prog l (encC x) W fun e W' =>
      (e = .returned (.bool true) ∧ J (pre ++ [x]) W' ∧ KpB n₀ bb W W') ∨ (e = .returned (.bool false) ∧ Jx (pre ++ [x]) W'))
    (W : World) (hBs : W.cell? ⟨Bs, 0, none⟩ = some (.slice (some ⟨g, o, none⟩) len cap))
    (hc0 : ∀ (j : Nat) x, zs[j]? = some x → W.cell? ⟨g, o + j * 2, none⟩ = some (.int .i64 (x.1.2.1 : Nat))) (hc1 : ∀ (j : Nat) x, zs[j]? = some x → W.cell? ⟨g, o + j * 2 + 1, none⟩ = some (.int .u64 x.1.2.2)) (h0 : J [] W) :
    CallsIn Fence.wide n Ybad.prog 48 #[.func (.yield l) #[] #[], .pointer (some ⟨Bs, 0, none⟩)] W fun e W' => (∃ v, e = .returned v) ∧
      ((∃ ys, ys = down zs len ∧ J ys W') ∨ (∃ pre, pre <+: down zs len ∧ Jx pre W')) := by
  have HY := hid hY
  have HB := hid hBs
  have H0 := hid hc0
  have H1 := hid hc1
  have HJ := hid h0
  clear hY hc0 hc1 h0
  refine callsIn_of_wp Ybad.func48 rfl trivial ?_ rfl
  simp only [Ybad.ntmps48, List.size_toArray, List.length_cons, List.length_nil, Nat.reduceAdd, Nat.reduceSub, Array.replicate_succ, Array.replicate_zero, List.push_toArray, List.append_toArray, List.nil_append, List.cons_append]
  gi_wp2
  gi_loopw [3] (fun i wr => ∃ (c : Nat) (pre : List (Chg nb)), c ≤ len ∧ i = .int .i64 ((c : Int) - 1) ∧ down zs len = pre ++ down zs c ∧ J pre wr ∧ KpB n₀ bb W wr)
    (fun i _ => (intOf i + 1).toNat)
  case atStart => exact ⟨len, [], Nat.le_refl _, by go_num, rfl, HJ.out, KpB.refl _ _ _⟩
  case round =>
    obtain ⟨c, pre, hc, rfl, hd, hJ, hK⟩ := hrel
    have hBr := hK.cell HB.out hBn hBb
    match c, hc with
    | 0, _ =>
      gi_wp2
      go_end0
      exact ⟨⟨_, rfl⟩, .inl ⟨pre, by simpa [down] using hd.symm, hJ⟩⟩
    | c + 1, hc =>
      have ei : (((c + 1 : Nat) : Int) - 1) = (c : Int) := by omega
      rw [ei]
      obtain ⟨x, hx⟩ : ∃ x, zs[c]? = some x := ⟨zs[c]'(by omega), List.getElem?_eq_getElem _⟩
      have e0 := hK.cell (H0.out c x hx) hg hgb
      have e1 := hK.cell (H1.out c x hx) hg hgb
      rw [down_succ hx] at hd
      have hpl : pre.length < len := by
        have := congrArg List.length hd
        rw [down_length zs len (by omega)] at this
        simp at this
        omega
      obtain ⟨fn, tmps, assign, body, hy, hR⟩ := HY.out pre x wr hJ hpl
      have hen : encC x = #[.int .i64 (c : Int), .agg #[.int .i64 (x.1.2.1 : Nat), .int .u64 x.1.2.2]] := by unfold encC; rw [hz c x hx]
      rw [hen] at hy
      have HD := hid hd
      have HK := hid hK
      clear hd hK hJ hen
      gi_wp2
      refine hR.mono ?_
      rintro e W3 (⟨rfl, hJ3, hk3⟩ | ⟨rfl, hJx3⟩)
      · gi_wp2
        go_roundw
        case rel => exact ⟨c, pre ++ [x], by omega, rfl, by rw [HD.out]; simp, hJ3, HK.out.trans hk3⟩
        case measure => simp [intOf]
      · gi_wp2
        refine bodyPost_ret (results_none rfl _ _ _) rfl ?_
        exact ⟨⟨_, rfl⟩, .inr ⟨pre ++ [x], ⟨down zs c, by rw [HD.out]; simp⟩, hJx3⟩⟩

set_option maxHeartbeats 1000000 in
/-- slices.Backward(s): the slice value is boxed; the function value captures the box. -/
theorem backward_in (n : Nat) (a : Option Addr) (len cap : Nat) (w : World) :
    CallsIn Fence.wide n Ybad.prog 35 #[.slice a len cap] w fun e w' => e = .returned (.func (.func 48) #[] #[.pointer (some ⟨w.heap.size, 0, none⟩)]) ∧ w' = w.alloc (.cells #[.slice a len cap] 38) := by
  refine callsIn_of_wp Ybad.func35 rfl trivial ?_ rfl
  simp only [Ybad.ntmps35, List.size_toArray, List.length_cons, List.length_nil, Nat.reduceAdd, Nat.reduceSub, Array.replicate_succ, Array.replicate_zero, List.push_toArray, List.append_toArray, List.nil_append, List.cons_append]
  gi_wp2
  go_ret
  exact ⟨rfl, rfl⟩

/-- What it hands back is an iterator over the entries, the last first. -/
theorem back_stops (n : Nat) (hn : 1 ≤ n) (Bs bb nb g o len cap : Nat) (zs : List (Chg nb)) (hzl : zs.length = len) (hz : ∀ (i : Nat) x, zs[i]? = some x → x.1.1 = (i : Int)) (hlen : len ≤ 9223372036854775807) (w : World) (hg : g < w.heap.size) (hgb : ¬ g = bb) (hBn : Bs < w.heap.size) (hBb : ¬ Bs = bb)
    (hBs : w.cell? ⟨Bs, 0, none⟩ = some (.slice (some ⟨g, o, none⟩) len cap))
    (hc0 : ∀ (j : Nat) x, zs[j]? = some x → w.cell? ⟨g, o + j * 2, none⟩ = some (.int .i64 (x.1.2.1 : Nat))) (hc1 : ∀ (j : Nat) x, zs[j]? = some x → w.cell? ⟨g, o + j * 2 + 1, none⟩ = some (.int .u64 x.1.2.2)) :
    SeqStopsK Fence.wide n Ybad.prog 48 #[.pointer (some ⟨Bs, 0, none⟩)] (encC (nb := nb)) (KpB w.heap.size bb) (fun ys => ys = down zs len) (fun pre => pre <+: down zs len) len w := fun l J Jx W hW _ _ hY h0 => by
  exact back1 n hn l Bs w.heap.size bb nb g o len cap zs hzl hz hlen hg hgb hBn hBb J Jx hY W ((hW.cell (p := ⟨Bs, 0, none⟩) hBn).trans hBs)
    (fun j x hj => (hW.cell (p := ⟨g, o + j * 2, none⟩) hg).trans (hc0 j x hj)) (fun j x hj => (hW.cell (p := ⟨g, o + j * 2 + 1, none⟩) hg).trans (hc1 j x hj)) h0

/-- The bits when the entries pre have been taken back. -/
def applyB {nb : Nat} (B : Nat → Int) (pre : List (Chg nb)) : Nat → Int := pre.foldl (fun B x => setB B x.1.2.1 x.1.2.2) B
theorem applyB_snoc {nb : Nat} (B : Nat → Int) (pre : List (Chg nb)) (x : Chg nb) : applyB B (pre ++ [x]) = setB (applyB B pre) x.1.2.1 x.1.2.2 := by simp [applyB]

theorem owns_take {w : World} {base e size n g cap m : Nat} {xs : List Value} (h : w.ownsRow base e size (.slice (some ⟨g, 0, none⟩) n cap) n xs) (hm : m ≤ n) : w.ownsRow base e size (.slice (some ⟨g, 0, none⟩) m cap) m (xs.take (m * size)) := by
  obtain ⟨h1, h2⟩ := h
  have hle : m * size ≤ n * size := Nat.mul_le_mul_right _ hm
  rcases h2 with ⟨hv, _⟩ | ⟨g', cap', cur, hv, hbg, hh, h3, h4, h5, h6⟩
  · simp at hv
  · simp only [Value.slice.injEq, Option.some.injEq, Addr.mk.injEq, true_and, and_true] at hv
    obtain ⟨rfl, rfl⟩ := hv
    refine ⟨by rw [List.length_take]; omega, .inr ⟨g, cap, cur, rfl, hbg, hh, by omega, h4, h5, ?_⟩⟩
    rw [← h6, List.take_take, Nat.min_eq_left hle]
theorem flat_take (l : List (Int × Int)) : ∀ m, m ≤ l.length → (flat l).take (m * 2) = flat (l.take m) := by
  induction l with
  | nil => intro m _; simp [flat]
  | cons a r ih =>
    intro m hm
    cases m with
    | zero => simp [flat]
    | succ m =>
      have e : (m + 1) * 2 = m * 2 + 2 := by omega
      have := ih m (by simpa using hm)
      simp only [flat, List.flatMap_cons, List.take_succ_cons] at this ⊢
      rw [e]
      simp [this]
theorem flat_get (l : List (Int × Int)) : ∀ j (p : Int × Int), l[j]? = some p → (flat l)[j * 2]? = some (.int .i64 p.1) ∧ (flat l)[j * 2 + 1]? = some (.int .u64 p.2) := by
  induction l with
  | nil => intro j p h; simp at h
  | cons a r ih =>
    intro j p h
    cases j with
    | zero => simp at h; subst h; simp [flat]
    | succ j =>
      have e : (j + 1) * 2 = j * 2 + 2 := by omega
      have := ih j p (by simpa using h)
      rw [e]
      simpa [flat] using this
end Go.Proofs.YbulkebqyDoor
