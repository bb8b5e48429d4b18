import Derived.Test.YbulkebqyDoorBack
import Derived.Test.YbulkebqyDoorBuildA
import Derived.Test.YbulkebqyDoorRound
namespace Go.Proofs.YbulkebqyDoor
open Go.RowKit Go.Deep Go.Shelf

attribute [local go_sem] Oper.semAt_some

set_option maxRecDepth 100000 in
set_option maxHeartbeats 2000000 in
set_option linter.unusedSimpArgs false in
set_option linter.unusedVariables false in
theorem rollback_a (pb bb nb g m L : Nat) (nv kv wv : Value) (B : Nat → Int) (zs : List (Chg nb)) (l : List (Int × Int)) (w : World)
    (h : PrecIs w pb bb nb nv kv wv (.slice (some ⟨g, 0, none⟩) L m) B (some l)) (hL : L = l.length) (hm : m ≤ L) (hl : L ≤ 4000000) (hzl : zs.length = 0)
    (hz : ∀ (i : Nat) x, zs[i]? = some x → x.1.1 = (i : Int) ∧ l[m + i]? = some ((x.1.2.1 : Int), x.1.2.2)) (hcm : True) :
    Calls Ybad.prog 18 #[.pointer (some ⟨pb, 0, none⟩), .int .i64 (m : Int)] w fun e w' => e = .returned (.tuple #[]) ∧
      PrecIs w' pb bb nb nv kv wv (.slice (some ⟨g, 0, none⟩) m m) (applyB B (down zs 0)) (some (l.take m)) ∧ Keeps (fun k => k = pb ∨ k = bb) w w' := by
  have c4 : w.cell? ⟨pb, 4, none⟩ = some (.slice (some ⟨g, 0, none⟩) L m) := by rw [cell_of_blk h.blk]; rfl
  have hcap : L ≤ m ∧ m ≤ maxLen := by
    rcases h.trail.1.2 with ⟨hv, _⟩ | ⟨g', cap', cur, hv, _, _, h3, h4, _⟩
    · simp at hv
    · simp only [Value.slice.injEq, Option.some.injEq, Addr.mk.injEq, and_true] at hv
      obtain ⟨_, _, rfl⟩ := hv
      rw [hL]
      exact ⟨h3, h4⟩
  have lp := lt_of_blk h.blk
  obtain ⟨cg, hgg⟩ : ∃ c, w.heap[g]? = some (.cells c 50 (0, 0)) := by
    obtain ⟨g', cap', cur, hv, hb⟩ := owns_shape h.trail.1 h.trail.2
    simp only [Value.slice.injEq, Option.some.injEq, Addr.mk.injEq, and_true] at hv
    obtain ⟨rfl, _⟩ := hv
    exact ⟨cur, hb⟩
  obtain ⟨cbb, hbb⟩ := row_blk h.row
  have npb : ¬ bb = pb := ne_of_types hbb h.blk (by decide)
  have ngb : ¬ g = bb := ne_of_types hgg hbb (by decide)
  have ngp : ¬ g = pb := ne_of_types hgg h.blk (by decide)
  have lg := lt_of_blk hgg
  have lb := lt_of_blk hbb
  have HP := hid h
  have HZ := hid hz
  have HL := hid hL
  clear h hz hL hgg hbb
  refine (callsIn_wide (n := 9)).1 ?_
  refine callsIn_of_wp_marks Ybad.func18 rfl trivial ?_ rfl
  simp only [Ybad.ntmps18, List.size_toArray, List.length_cons, List.length_nil, Nat.reduceAdd, Nat.reduceSub, Array.replicate_succ, Array.replicate_zero, List.push_toArray, List.append_toArray, List.nil_append, List.cons_append]
  gi_wp2_with (refine ⟨trivial, ?_⟩; gi_at_call 35; refine (backward_in _ _ _ _ _).mono ?_; rintro e w1 ⟨rfl, rfl⟩)
  obtain ⟨W0, hW0⟩ : ∃ W0, ((w.alloc (Obj.cells #[Value.pointer (some { block := pb, off := 0 })] 41)).alloc (Obj.cells #[Value.slice (some { block := g, off := 0 }) 0 (0)] 38)) = W0 := ⟨_, rfl⟩
  rw [hW0]
  have hsz : W0.heap.size = w.heap.size + 2 := by rw [← hW0, nblk_alloc, nblk_alloc]
  have hK0 : Keeps (fun _ => False) w W0 := by rw [← hW0]; exact ((Keeps.refl _ _).alloc _).alloc _
  have hP0 := HP.out.keeps hK0 (fun e => e) (fun e => e) (fun _ _ e => e)
  have hB1 : W0.heap[w.heap.size + 1]? = some (.cells #[.slice (some ⟨g, 0, none⟩) 0 (0)] 38 (0, 0)) := by
    rw [← hW0]
    have := blk_alloc_new (w.alloc (Obj.cells #[Value.pointer (some { block := pb, off := 0 })] 41)) (Obj.cells #[Value.slice (some { block := g, off := 0 }) 0 (0)] 38)
    rw [nblk_alloc] at this
    exact this
  have hB0 : W0.heap[w.heap.size]? = some (.cells #[.pointer (some ⟨pb, 0, none⟩)] 41 (0, 0)) := by
    rw [← hW0]; exact (blk_alloc_lt _ _ _ (by rw [nblk_alloc]; omega)).trans (blk_alloc_new _ _)
  have hcells : ∀ (j : Nat) x, zs[j]? = some x → W0.cell? ⟨g, 0 + j * 2, none⟩ = some (.int .i64 (x.1.2.1 : Nat)) ∧ W0.cell? ⟨g, 0 + j * 2 + 1, none⟩ = some (.int .u64 x.1.2.2) := fun j x hj => by
    have h1 := (List.getElem?_eq_some_iff.1 hj).1
    omega
  have hstop := back_stops 8 (by omega) (w.heap.size + 1) bb nb g (0) 0 (0) zs hzl (fun i x hi => (HZ.out i x hi).1) (by omega) W0 (by omega) ngb (by omega) (by omega) (by rw [cell_of_blk hB1]; rfl) (fun j x hj => (hcells j x hj).1) (fun j x hj => (hcells j x hj).2)
  rw [hsz] at hstop
  have HP0 := hid hP0
  have HB0 := hid hB0
  have HK0 := hid hK0
  clear hW0 hP0 hB0 hB1 hK0 hcells
  refine wpIn_rangeFunc_ownH (w := W0) rfl (by omega) (gf := 48) (lb := #[.pointer (some ⟨w.heap.size + 1, 0, none⟩)]) rfl trivial (enters_of Ybad.func48 (by kernel_rfl) rfl)
    hstop (fun h k => KpB.trans h k) (fun W l o o' hl ho h1 h2 => ?kb) (Below.refl _ _) (fun _ => rfl)
    (fun pre W => W.rowIs bb 37 nb (fun j => .int .u64 (applyB B pre j)) ∧ KpB (w.heap.size + 2) bb W0 W)
    (fun _ _ _ => False) ?hI (fun _ _ _ _ _ h _ _ => h) ?h0
    (fun x a' W => ∃ Bx, W.heap[Bx]? = some (.cells #[.int .i64 (x.1.2.1 : Nat), .int .u64 x.1.2.2] 50 (0, 0)) ∧ a' = { tmps := #[.pointer (some ⟨pb, 0, none⟩), .int .i64 m, .pointer (some ⟨w.heap.size, 0, none⟩), undef, undef, .pointer (some ⟨Bx, 0, none⟩), .pointer (some ⟨pb, 0, none⟩), .pointer (some ⟨pb, 0, none⟩), .pointer (some ⟨pb, 4, none⟩), .slice (some ⟨g, 0, none⟩) L m, .int .i64 m, .slice (some ⟨g, 0, none⟩) 0 (0), .func (.func 48) #[] #[.pointer (some ⟨w.heap.size + 1, 0, none⟩)], .int .i64 x.1.1, .agg #[.int .i64 (x.1.2.1 : Nat), .int .u64 x.1.2.2], undef, undef, undef, undef, undef, undef, undef, undef, undef, undef, undef, undef, undef, undef, undef, undef, undef, undef], defers := [] })
    ?hAx ?assign ?body ?done ?stop
  case kb => exact Keeps.grown (Keeps.refl _ _) (grownBy_putObj' W l o') (fun k e _ => .inr (by cases e; omega))
  case hI =>
    rintro s W W' row ⟨hr, hk⟩ hg hrow
    exact ⟨hr.of_block (hg.block bb hr.lt (fun e => by have := (hrow bb e.symm).1; omega)), Keeps.grown hk hg (fun k e _ => .inr (by have := (hrow k e).1; omega))⟩
  case h0 => exact ⟨HP0.out.row, KpB.refl _ _ _⟩
  case hAx =>
    rintro x a' _ W W' row ⟨Bx, hb, ha⟩ hg hrow
    refine ⟨Bx, (hg.block Bx (lt_of_blk hb) (fun e => ?_)).trans hb, ha⟩
    obtain ⟨_, o, ho, hc⟩ := hrow Bx e.symm
    rw [hb] at ho
    cases ho
    cases hc
  case assign =>
    rintro l pre x W K ⟨hr, hk⟩ hK
    simp only [encC]
    gi_wp2
    exact hK _ _ ((KeepsOthers.alloc _ _).from _) (Keeps.alloc (Keeps.refl _ _) _) ⟨hr.alloc _, Keeps.alloc hk _⟩ ⟨W.heap.size, blk_alloc_new _ _, rfl⟩
  case body =>
    rintro l pre x a' W hl ⟨r, hrec⟩ ⟨hr, hk⟩ ⟨Bx, hBx, rfl⟩ hlt
    have d0 := hk.cell (a := ⟨w.heap.size, 0, none⟩) (v := .pointer (some ⟨pb, 0, none⟩)) (by rw [cell_of_blk HB0.out]; rfl) (by show w.heap.size < _; omega) (by show ¬ w.heap.size = bb; omega)
    have d3 := hk.cell (a := ⟨pb, 3, none⟩) (v := .slice (some ⟨bb, 0, none⟩) nb nb) (by rw [cell_of_blk HP0.out.blk]; rfl) (by show pb < _; omega) (fun e => npb e.symm)
    have x0 : W.cell? ⟨Bx, 0, none⟩ = some (.int .i64 (x.1.2.1 : Nat)) := by rw [cell_of_blk hBx]; rfl
    have x1 : W.cell? ⟨Bx, 1, none⟩ = some (.int .u64 x.1.2.2) := by rw [cell_of_blk hBx]; rfl
    have hat := x.2
    obtain ⟨a, ha⟩ : ∃ a, a = x.1.2.1 := ⟨_, rfl⟩
    obtain ⟨v, hv⟩ : ∃ v, v = x.1.2.2 := ⟨_, rfl⟩
    obtain ⟨ix, hix⟩ : ∃ ix, ix = x.1.1 := ⟨_, rfl⟩
    rw [← ha] at hat x0
    rw [← hv] at x1
    rw [← ha, ← hv, ← hix]
    have cb := hr.cell hat
    have fb := hr.frozen a
    have HR := hid hr
    have HK := hid hk
    have HX : Hid (applyB B (pre ++ [x]) = setB (applyB B pre) a v) := hid (by rw [applyB_snoc, ha, hv])
    have HBX : Hid (¬ Bx = bb) := hid (fun e => by obtain ⟨c, hc⟩ := row_blk HR.out; subst e; rw [hBx] at hc; simp at hc)
    have HLB := hid lb
    clear hr hk hBx hrec ha hv hix hlt
    clear c4 hcap hzl hcm hm hl lg lb
    gi_wp2
    have hSW : (fun w' : World => w'.cell? ⟨w.heap.size, 0, none⟩ = some (.pointer (some ⟨pb, 0, none⟩)) ∧ w'.cell? ⟨pb, 3, none⟩ = some (.slice (some ⟨bb, 0, none⟩) nb nb) ∧ w'.cell? ⟨Bx, 0, none⟩ = some (.int .i64 (a : Nat)) ∧ w'.cell? ⟨Bx, 1, none⟩ = some (.int .u64 v)) W.drew := ⟨d0, d3, x0, x1⟩
    refine region_round (S := fun w' => w'.cell? ⟨w.heap.size, 0, none⟩ = some (.pointer (some ⟨pb, 0, none⟩)) ∧ w'.cell? ⟨pb, 3, none⟩ = some (.slice (some ⟨bb, 0, none⟩) nb nb) ∧ w'.cell? ⟨Bx, 0, none⟩ = some (.int .i64 (a : Nat)) ∧ w'.cell? ⟨Bx, 1, none⟩ = some (.int .u64 v)) (by kernel_rfl)
      (fun o ho => List.all_eq_true.1 (show (List.all _ fun o => plainOp o.op) = true by kernel_rfl) o ho) (by rintro ⟨_, _, h⟩; exact h) ?_
    change wpAnyH Ybad.prog .any _ _ _ 10 (Array.replicate 10 false) _ _
    refine wpAnyH_take (i := 0) (v := .pointer (some ⟨pb, 0, none⟩)) rfl (by kernel_rfl) (by kernel_rfl) (by kernel_rfl) (fun _ _ _ h => h) (Or.inl ⟨by rfl, fun w' hS => ?_⟩) hSW ?_
    · obtain ⟨q0, q1, q2, q3⟩ := hS
      go_simp
    simp only [Act.put, List.setIfInBounds_toArray, List.set_cons_zero, List.set_cons_succ]
    refine wpAnyH_take (i := 1) (v := .pointer (some ⟨pb, 0, none⟩)) rfl (by kernel_rfl) (by kernel_rfl) (by kernel_rfl) (fun _ _ _ h => h) (Or.inl ⟨by rfl, fun w' hS => ?_⟩) hSW ?_
    · obtain ⟨q0, q1, q2, q3⟩ := hS
      go_simp
    simp only [Act.put, List.setIfInBounds_toArray, List.set_cons_zero, List.set_cons_succ]
    refine wpAnyH_take (i := 2) (v := .pointer (some ⟨pb, 3, none⟩)) rfl (by kernel_rfl) (by kernel_rfl) (by kernel_rfl) (fun _ _ _ h => h) (Or.inl ⟨by rfl, fun w' hS => ?_⟩) hSW ?_
    · obtain ⟨q0, q1, q2, q3⟩ := hS
      go_simp
    simp only [Act.put, List.setIfInBounds_toArray, List.set_cons_zero, List.set_cons_succ]
    refine wpAnyH_take (i := 3) (v := .slice (some ⟨bb, 0, none⟩) nb nb) rfl (by kernel_rfl) (by kernel_rfl) (by kernel_rfl) (fun _ _ _ h => h) (Or.inl ⟨by rfl, fun w' hS => ?_⟩) hSW ?_
    · obtain ⟨q0, q1, q2, q3⟩ := hS
      go_simp
    simp only [Act.put, List.setIfInBounds_toArray, List.set_cons_zero, List.set_cons_succ]
    refine wpAnyH_take (i := 4) (v := .pointer (some ⟨Bx, 0, none⟩)) rfl (by kernel_rfl) (by kernel_rfl) (by kernel_rfl) (fun _ _ _ h => h) (Or.inl ⟨by rfl, fun w' hS => ?_⟩) hSW ?_
    · obtain ⟨q0, q1, q2, q3⟩ := hS
      go_simp
    simp only [Act.put, List.setIfInBounds_toArray, List.set_cons_zero, List.set_cons_succ]
    refine wpAnyH_take (i := 5) (v := .int .i64 (a : Nat)) rfl (by kernel_rfl) (by kernel_rfl) (by kernel_rfl) (fun _ _ _ h => h) (Or.inl ⟨by rfl, fun w' hS => ?_⟩) hSW ?_
    · obtain ⟨q0, q1, q2, q3⟩ := hS
      go_simp
    simp only [Act.put, List.setIfInBounds_toArray, List.set_cons_zero, List.set_cons_succ]
    refine wpAnyH_take (i := 6) (v := .pointer (some ⟨Bx, 1, none⟩)) rfl (by kernel_rfl) (by kernel_rfl) (by kernel_rfl) (fun _ _ _ h => h) (Or.inl ⟨by rfl, fun w' hS => ?_⟩) hSW ?_
    · obtain ⟨q0, q1, q2, q3⟩ := hS
      go_simp
    simp only [Act.put, List.setIfInBounds_toArray, List.set_cons_zero, List.set_cons_succ]
    refine wpAnyH_take (i := 7) (v := .int .u64 v) rfl (by kernel_rfl) (by kernel_rfl) (by kernel_rfl) (fun _ _ _ h => h) (Or.inl ⟨by rfl, fun w' hS => ?_⟩) hSW ?_
    · obtain ⟨q0, q1, q2, q3⟩ := hS
      go_simp
    simp only [Act.put, List.setIfInBounds_toArray, List.set_cons_zero, List.set_cons_succ]
    refine wpAnyH_take (i := 8) (v := .pointer (some ⟨bb, a, none⟩)) rfl (by kernel_rfl) (by kernel_rfl) (by kernel_rfl) (fun _ _ _ h => h) (Or.inl ⟨by rfl, fun w' hS => ?_⟩) hSW ?_
    · obtain ⟨q0, q1, q2, q3⟩ := hS
      go_simp
    simp only [Act.put, List.setIfInBounds_toArray, List.set_cons_zero, List.set_cons_succ]
    refine wpAnyH_ready (rs := [9]) (by kernel_rfl) (by simp) (AllReadyH.cons rfl (fun K hK => ?_) AllReadyH.nil)
    go_simp
    refine hK.out _ _ ?_ (fun _ => ?_)
    · have nB : ¬ Bx = bb := HBX.out
      have n0 : ¬ w.heap.size = bb := by have := HLB.out; omega
      have n3 : ¬ pb = bb := fun e => npb e.symm
      obtain ⟨q0, q1, q2, q3⟩ := hSW
      exact ⟨(World.cell?_setCell_far _ _ _ _ (fun e => n0 e.symm)).trans q0, (World.cell?_setCell_far _ _ _ _ (fun e => npb e)).trans q1, (World.cell?_setCell_far _ _ _ _ (fun e => nB e.symm)).trans q2, (World.cell?_setCell_far _ _ _ _ (fun e => nB e.symm)).trans q3⟩
    refine wpAnyH_done (by kernel_rfl) ?_ _
    refine ⟨((KeepsOthers.drew _).trans (KeepsOthers.setCell _ _ _)).from _, (Keeps.refl _ _).drew.setCell _ _ (fun _ => .inl rfl), ?_, Keeps.setCell (Keeps.drew HK.out) _ _ (fun _ => .inl rfl)⟩
    rw [HX.out]
    refine (HR.out.drew.set a _).congr fun j _ => ?_
    show (if j = a then _ else _) = _
    unfold setB
    split <;> rfl
  case done =>
    rintro D ys W hD rfl ⟨hr, hk⟩ hdf
    have d0 := hk.cell (a := ⟨w.heap.size, 0, none⟩) (v := .pointer (some ⟨pb, 0, none⟩)) (by rw [cell_of_blk HB0.out]; rfl) (by show w.heap.size < _; omega) (by show ¬ w.heap.size = bb; omega)
    have d4 := hk.cell (a := ⟨pb, 4, none⟩) (v := .slice (some ⟨g, 0, none⟩) L m) (by rw [cell_of_blk HP0.out.blk]; rfl) (by show pb < _; omega) (fun e => npb e.symm)
    have hpW := Keeps.at' hk HP0.out.blk (fun e => by rcases e with e | e <;> omega)
    have f4 := frozen_of_blk hpW 4
    have HR := hid hr
    have HK := hid hk
    clear hr hk
    gi_wp2
    gi_region
    gi_wp2
    have nDp : ¬ D = pb := by omega
    have hdf2 : ((W.setCell ⟨pb, 4, none⟩ (.slice (some ⟨g, 0, none⟩) m m)).drew).heap[D]? = some (.deferred (some [])) := (blk_setCell_other _ _ _ _ nDp).trans hdf
    refine ⟨by simp, .inl ⟨_, _, rfl, run_takeDeferred hdf2, ?_⟩⟩
    have hKf : Keeps (fun k => k = pb ∨ k = bb) w (((W.setCell ⟨pb, 4, none⟩ (.slice (some ⟨g, 0, none⟩) m m)).drew).putObj D (.deferred none)) :=
      Keeps.grown (Keeps.drew (Keeps.setCell (Keeps.trans (S := fun k => k = pb ∨ k = bb) (HK0.out.mono (fun _ _ h => h.elim)) HK.out (fun k hk e => by rcases e with e | e; exact .inr e; omega)) _ _ (fun _ => .inl rfl))) (grownBy_putObj' _ D _) (fun k e hk => by cases e; omega)
    refine ⟨_, results_none rfl _ _ _, rfl, ⟨?_, ?_, ?_⟩, hKf⟩
    · rw [World.putObj_heap_other (fun e => nDp e.symm)]
      exact blk_set hpW 4 _
    · refine (HR.out.setOther (a := ⟨pb, 4, none⟩) npb (.slice (some ⟨g, 0, none⟩) m m)).of_block ?_
      rw [World.putObj_heap_other (by omega)]
      rfl
    · have ho : w.ownsRow 0 50 2 (.slice (some ⟨g, 0, none⟩) L m) L (flat l) := by have := HP.out.trail.1; rwa [← HL.out] at this
      have ho2 := owns_take (owns_block ho (hKf.block g lg (fun e => by rcases e with e | e; exact ngp e; exact ngb e))) hm
      rw [flat_take l m (by have := HL.out; omega)] at ho2
      refine ⟨?_, by simp⟩
      rw [List.length_take, Nat.min_eq_left (by have := HL.out; omega)]
      exact ho2
  case stop =>
    rintro D c pre W _ _ h _
    exact h.elim

set_option maxRecDepth 100000 in
set_option maxHeartbeats 2000000 in
set_option linter.unusedSimpArgs false in
set_option linter.unusedVariables false in
theorem rollback_b (pb bb nb g cap m L : Nat) (nv kv wv : Value) (B : Nat → Int) (zs : List (Chg nb)) (l : List (Int × Int)) (w : World)
    (h : PrecIs w pb bb nb nv kv wv (.slice (some ⟨g, 0, none⟩) L cap) B (some l)) (hL : L = l.length) (hm : m ≤ L) (hl : L ≤ 4000000) (hzl : zs.length = L - m)
    (hz : ∀ (i : Nat) x, zs[i]? = some x → x.1.1 = (i : Int) ∧ l[m + i]? = some ((x.1.2.1 : Int), x.1.2.2)) (hcm : ¬ cap = m) :
    Calls Ybad.prog 18 #[.pointer (some ⟨pb, 0, none⟩), .int .i64 (m : Int)] w fun e w' => e = .returned (.tuple #[]) ∧
      PrecIs w' pb bb nb nv kv wv (.slice (some ⟨g, 0, none⟩) m cap) (applyB B (down zs (L - m))) (some (l.take m)) ∧ Keeps (fun k => k = pb ∨ k = bb) w w' := by
  have c4 : w.cell? ⟨pb, 4, none⟩ = some (.slice (some ⟨g, 0, none⟩) L cap) := by rw [cell_of_blk h.blk]; rfl
  have hcap : L ≤ cap ∧ cap ≤ maxLen := by
    rcases h.trail.1.2 with ⟨hv, _⟩ | ⟨g', cap', cur, hv, _, _, h3, h4, _⟩
    · simp at hv
    · simp only [Value.slice.injEq, Option.some.injEq, Addr.mk.injEq, and_true] at hv
      obtain ⟨_, _, rfl⟩ := hv
      rw [hL]
      exact ⟨h3, h4⟩
  have lp := lt_of_blk h.blk
  obtain ⟨cg, hgg⟩ : ∃ c, w.heap[g]? = some (.cells c 50 (0, 0)) := by
    obtain ⟨g', cap', cur, hv, hb⟩ := owns_shape h.trail.1 h.trail.2
    simp only [Value.slice.injEq, Option.some.injEq, Addr.mk.injEq, and_true] at hv
    obtain ⟨rfl, _⟩ := hv
    exact ⟨cur, hb⟩
  obtain ⟨cbb, hbb⟩ := row_blk h.row
  have npb : ¬ bb = pb := ne_of_types hbb h.blk (by decide)
  have ngb : ¬ g = bb := ne_of_types hgg hbb (by decide)
  have ngp : ¬ g = pb := ne_of_types hgg h.blk (by decide)
  have lg := lt_of_blk hgg
  have lb := lt_of_blk hbb
  have HP := hid h
  have HZ := hid hz
  have HL := hid hL
  clear h hz hL hgg hbb
  refine (callsIn_wide (n := 9)).1 ?_
  refine callsIn_of_wp_marks Ybad.func18 rfl trivial ?_ rfl
  simp only [Ybad.ntmps18, List.size_toArray, List.length_cons, List.length_nil, Nat.reduceAdd, Nat.reduceSub, Array.replicate_succ, Array.replicate_zero, List.push_toArray, List.append_toArray, List.nil_append, List.cons_append]
  gi_wp2_with (refine ⟨trivial, ?_⟩; gi_at_call 35; refine (backward_in _ _ _ _ _).mono ?_; rintro e w1 ⟨rfl, rfl⟩)
  obtain ⟨W0, hW0⟩ : ∃ W0, ((w.alloc (Obj.cells #[Value.pointer (some { block := pb, off := 0 })] 41)).alloc (Obj.cells #[Value.slice (some { block := g, off := m * 2 }) (L - m) (cap - m)] 38)) = W0 := ⟨_, rfl⟩
  rw [hW0]
  have hsz : W0.heap.size = w.heap.size + 2 := by rw [← hW0, nblk_alloc, nblk_alloc]
  have hK0 : Keeps (fun _ => False) w W0 := by rw [← hW0]; exact ((Keeps.refl _ _).alloc _).alloc _
  have hP0 := HP.out.keeps hK0 (fun e => e) (fun e => e) (fun _ _ e => e)
  have hB1 : W0.heap[w.heap.size + 1]? = some (.cells #[.slice (some ⟨g, m * 2, none⟩) (L - m) (cap - m)] 38 (0, 0)) := by
    rw [← hW0]
    have := blk_alloc_new (w.alloc (Obj.cells #[Value.pointer (some { block := pb, off := 0 })] 41)) (Obj.cells #[Value.slice (some { block := g, off := m * 2 }) (L - m) (cap - m)] 38)
    rw [nblk_alloc] at this
    exact this
  have hB0 : W0.heap[w.heap.size]? = some (.cells #[.pointer (some ⟨pb, 0, none⟩)] 41 (0, 0)) := by
    rw [← hW0]; exact (blk_alloc_lt _ _ _ (by rw [nblk_alloc]; omega)).trans (blk_alloc_new _ _)
  have hcells : ∀ (j : Nat) x, zs[j]? = some x → W0.cell? ⟨g, m * 2 + j * 2, none⟩ = some (.int .i64 (x.1.2.1 : Nat)) ∧ W0.cell? ⟨g, m * 2 + j * 2 + 1, none⟩ = some (.int .u64 x.1.2.2) := fun j x hj => by
    obtain ⟨_, he⟩ := HZ.out j x hj
    have hf := flat_get l (m + j) _ he
    have h1 := HP.out.trail.1.cells (g := g) rfl _ _ hf.1
    have h2 := HP.out.trail.1.cells (g := g) rfl _ _ hf.2
    rw [Addr.add_lit, Nat.zero_add] at h1 h2
    have e1 : m * 2 + j * 2 = (m + j) * 2 := by omega
    rw [e1]
    exact ⟨hK0.cell h1, hK0.cell h2⟩
  have hstop := back_stops 8 (by omega) (w.heap.size + 1) bb nb g (m * 2) (L - m) (cap - m) zs hzl (fun i x hi => (HZ.out i x hi).1) (by omega) W0 (by omega) ngb (by omega) (by omega) (by rw [cell_of_blk hB1]; rfl) (fun j x hj => (hcells j x hj).1) (fun j x hj => (hcells j x hj).2)
  rw [hsz] at hstop
  have HP0 := hid hP0
  have HB0 := hid hB0
  have HK0 := hid hK0
  clear hW0 hP0 hB0 hB1 hK0 hcells
  refine wpIn_rangeFunc_ownH (w := W0) rfl (by omega) (gf := 48) (lb := #[.pointer (some ⟨w.heap.size + 1, 0, none⟩)]) rfl trivial (enters_of Ybad.func48 (by kernel_rfl) rfl)
    hstop (fun h k => KpB.trans h k) (fun W l o o' hl ho h1 h2 => ?kb) (Below.refl _ _) (fun _ => rfl)
    (fun pre W => W.rowIs bb 37 nb (fun j => .int .u64 (applyB B pre j)) ∧ KpB (w.heap.size + 2) bb W0 W)
    (fun _ _ _ => False) ?hI (fun _ _ _ _ _ h _ _ => h) ?h0
    (fun x a' W => ∃ Bx, W.heap[Bx]? = some (.cells #[.int .i64 (x.1.2.1 : Nat), .int .u64 x.1.2.2] 50 (0, 0)) ∧ a' = { tmps := #[.pointer (some ⟨pb, 0, none⟩), .int .i64 m, .pointer (some ⟨w.heap.size, 0, none⟩), undef, undef, .pointer (some ⟨Bx, 0, none⟩), .pointer (some ⟨pb, 0, none⟩), .pointer (some ⟨pb, 0, none⟩), .pointer (some ⟨pb, 4, none⟩), .slice (some ⟨g, 0, none⟩) L cap, .int .i64 m, .slice (some ⟨g, m * 2, none⟩) (L - m) (cap - m), .func (.func 48) #[] #[.pointer (some ⟨w.heap.size + 1, 0, none⟩)], .int .i64 x.1.1, .agg #[.int .i64 (x.1.2.1 : Nat), .int .u64 x.1.2.2], undef, undef, undef, undef, undef, undef, undef, undef, undef, undef, undef, undef, undef, undef, undef, undef, undef, undef], defers := [] })
    ?hAx ?assign ?body ?done ?stop
  case kb => exact Keeps.grown (Keeps.refl _ _) (grownBy_putObj' W l o') (fun k e _ => .inr (by cases e; omega))
  case hI =>
    rintro s W W' row ⟨hr, hk⟩ hg hrow
    exact ⟨hr.of_block (hg.block bb hr.lt (fun e => by have := (hrow bb e.symm).1; omega)), Keeps.grown hk hg (fun k e _ => .inr (by have := (hrow k e).1; omega))⟩
  case h0 => exact ⟨HP0.out.row, KpB.refl _ _ _⟩
  case hAx =>
    rintro x a' _ W W' row ⟨Bx, hb, ha⟩ hg hrow
    refine ⟨Bx, (hg.block Bx (lt_of_blk hb) (fun e => ?_)).trans hb, ha⟩
    obtain ⟨_, o, ho, hc⟩ := hrow Bx e.symm
    rw [hb] at ho
    cases ho
    cases hc
  case assign =>
    rintro l pre x W K ⟨hr, hk⟩ hK
    simp only [encC]
    gi_wp2
    exact hK _ _ ((KeepsOthers.alloc _ _).from _) (Keeps.alloc (Keeps.refl _ _) _) ⟨hr.alloc _, Keeps.alloc hk _⟩ ⟨W.heap.size, blk_alloc_new _ _, rfl⟩
  case body =>
    rintro l pre x a' W hl ⟨r, hrec⟩ ⟨hr, hk⟩ ⟨Bx, hBx, rfl⟩ hlt
    have d0 := hk.cell (a := ⟨w.heap.size, 0, none⟩) (v := .pointer (some ⟨pb, 0, none⟩)) (by rw [cell_of_blk HB0.out]; rfl) (by show w.heap.size < _; omega) (by show ¬ w.heap.size = bb; omega)
    have d3 := hk.cell (a := ⟨pb, 3, none⟩) (v := .slice (some ⟨bb, 0, none⟩) nb nb) (by rw [cell_of_blk HP0.out.blk]; rfl) (by show pb < _; omega) (fun e => npb e.symm)
    have x0 : W.cell? ⟨Bx, 0, none⟩ = some (.int .i64 (x.1.2.1 : Nat)) := by rw [cell_of_blk hBx]; rfl
    have x1 : W.cell? ⟨Bx, 1, none⟩ = some (.int .u64 x.1.2.2) := by rw [cell_of_blk hBx]; rfl
    have hat := x.2
    obtain ⟨a, ha⟩ : ∃ a, a = x.1.2.1 := ⟨_, rfl⟩
    obtain ⟨v, hv⟩ : ∃ v, v = x.1.2.2 := ⟨_, rfl⟩
    obtain ⟨ix, hix⟩ : ∃ ix, ix = x.1.1 := ⟨_, rfl⟩
    rw [← ha] at hat x0
    rw [← hv] at x1
    rw [← ha, ← hv, ← hix]
    have cb := hr.cell hat
    have fb := hr.frozen a
    have HR := hid hr
    have HK := hid hk
    have HX : Hid (applyB B (pre ++ [x]) = setB (applyB B pre) a v) := hid (by rw [applyB_snoc, ha, hv])
    have HBX : Hid (¬ Bx = bb) := hid (fun e => by obtain ⟨c, hc⟩ := row_blk HR.out; subst e; rw [hBx] at hc; simp at hc)
    have HLB := hid lb
    clear hr hk hBx hrec ha hv hix hlt
    clear c4 hcap hzl hcm hm hl lg lb
    gi_wp2
    have hSW : (fun w' : World => w'.cell? ⟨w.heap.size, 0, none⟩ = some (.pointer (some ⟨pb, 0, none⟩)) ∧ w'.cell? ⟨pb, 3, none⟩ = some (.slice (some ⟨bb, 0, none⟩) nb nb) ∧ w'.cell? ⟨Bx, 0, none⟩ = some (.int .i64 (a : Nat)) ∧ w'.cell? ⟨Bx, 1, none⟩ = some (.int .u64 v)) W.drew := ⟨d0, d3, x0, x1⟩
    refine region_round (S := fun w' => w'.cell? ⟨w.heap.size, 0, none⟩ = some (.pointer (some ⟨pb, 0, none⟩)) ∧ w'.cell? ⟨pb, 3, none⟩ = some (.slice (some ⟨bb, 0, none⟩) nb nb) ∧ w'.cell? ⟨Bx, 0, none⟩ = some (.int .i64 (a : Nat)) ∧ w'.cell? ⟨Bx, 1, none⟩ = some (.int .u64 v)) (by kernel_rfl)
      (fun o ho => List.all_eq_true.1 (show (List.all _ fun o => plainOp o.op) = true by kernel_rfl) o ho) (by rintro ⟨_, _, h⟩; exact h) ?_
    change wpAnyH Ybad.prog .any _ _ _ 10 (Array.replicate 10 false) _ _
    refine wpAnyH_take (i := 0) (v := .pointer (some ⟨pb, 0, none⟩)) rfl (by kernel_rfl) (by kernel_rfl) (by kernel_rfl) (fun _ _ _ h => h) (Or.inl ⟨by rfl, fun w' hS => ?_⟩) hSW ?_
    · obtain ⟨q0, q1, q2, q3⟩ := hS
      go_simp
    simp only [Act.put, List.setIfInBounds_toArray, List.set_cons_zero, List.set_cons_succ]
    refine wpAnyH_take (i := 1) (v := .pointer (some ⟨pb, 0, none⟩)) rfl (by kernel_rfl) (by kernel_rfl) (by kernel_rfl) (fun _ _ _ h => h) (Or.inl ⟨by rfl, fun w' hS => ?_⟩) hSW ?_
    · obtain ⟨q0, q1, q2, q3⟩ := hS
      go_simp
    simp only [Act.put, List.setIfInBounds_toArray, List.set_cons_zero, List.set_cons_succ]
    refine wpAnyH_take (i := 2) (v := .pointer (some ⟨pb, 3, none⟩)) rfl (by kernel_rfl) (by kernel_rfl) (by kernel_rfl) (fun _ _ _ h => h) (Or.inl ⟨by rfl, fun w' hS => ?_⟩) hSW ?_
    · obtain ⟨q0, q1, q2, q3⟩ := hS
      go_simp
    simp only [Act.put, List.setIfInBounds_toArray, List.set_cons_zero, List.set_cons_succ]
    refine wpAnyH_take (i := 3) (v := .slice (some ⟨bb, 0, none⟩) nb nb) rfl (by kernel_rfl) (by kernel_rfl) (by kernel_rfl) (fun _ _ _ h => h) (Or.inl ⟨by rfl, fun w' hS => ?_⟩) hSW ?_
    · obtain ⟨q0, q1, q2, q3⟩ := hS
      go_simp
    simp only [Act.put, List.setIfInBounds_toArray, List.set_cons_zero, List.set_cons_succ]
    refine wpAnyH_take (i := 4) (v := .pointer (some ⟨Bx, 0, none⟩)) rfl (by kernel_rfl) (by kernel_rfl) (by kernel_rfl) (fun _ _ _ h => h) (Or.inl ⟨by rfl, fun w' hS => ?_⟩) hSW ?_
    · obtain ⟨q0, q1, q2, q3⟩ := hS
      go_simp
    simp only [Act.put, List.setIfInBounds_toArray, List.set_cons_zero, List.set_cons_succ]
    refine wpAnyH_take (i := 5) (v := .int .i64 (a : Nat)) rfl (by kernel_rfl) (by kernel_rfl) (by kernel_rfl) (fun _ _ _ h => h) (Or.inl ⟨by rfl, fun w' hS => ?_⟩) hSW ?_
    · obtain ⟨q0, q1, q2, q3⟩ := hS
      go_simp
    simp only [Act.put, List.setIfInBounds_toArray, List.set_cons_zero, List.set_cons_succ]
    refine wpAnyH_take (i := 6) (v := .pointer (some ⟨Bx, 1, none⟩)) rfl (by kernel_rfl) (by kernel_rfl) (by kernel_rfl) (fun _ _ _ h => h) (Or.inl ⟨by rfl, fun w' hS => ?_⟩) hSW ?_
    · obtain ⟨q0, q1, q2, q3⟩ := hS
      go_simp
    simp only [Act.put, List.setIfInBounds_toArray, List.set_cons_zero, List.set_cons_succ]
    refine wpAnyH_take (i := 7) (v := .int .u64 v) rfl (by kernel_rfl) (by kernel_rfl) (by kernel_rfl) (fun _ _ _ h => h) (Or.inl ⟨by rfl, fun w' hS => ?_⟩) hSW ?_
    · obtain ⟨q0, q1, q2, q3⟩ := hS
      go_simp
    simp only [Act.put, List.setIfInBounds_toArray, List.set_cons_zero, List.set_cons_succ]
    refine wpAnyH_take (i := 8) (v := .pointer (some ⟨bb, a, none⟩)) rfl (by kernel_rfl) (by kernel_rfl) (by kernel_rfl) (fun _ _ _ h => h) (Or.inl ⟨by rfl, fun w' hS => ?_⟩) hSW ?_
    · obtain ⟨q0, q1, q2, q3⟩ := hS
      go_simp
    simp only [Act.put, List.setIfInBounds_toArray, List.set_cons_zero, List.set_cons_succ]
    refine wpAnyH_ready (rs := [9]) (by kernel_rfl) (by simp) (AllReadyH.cons rfl (fun K hK => ?_) AllReadyH.nil)
    go_simp
    refine hK.out _ _ ?_ (fun _ => ?_)
    · have nB : ¬ Bx = bb := HBX.out
      have n0 : ¬ w.heap.size = bb := by have := HLB.out; omega
      have n3 : ¬ pb = bb := fun e => npb e.symm
      obtain ⟨q0, q1, q2, q3⟩ := hSW
      exact ⟨(World.cell?_setCell_far _ _ _ _ (fun e => n0 e.symm)).trans q0, (World.cell?_setCell_far _ _ _ _ (fun e => npb e)).trans q1, (World.cell?_setCell_far _ _ _ _ (fun e => nB e.symm)).trans q2, (World.cell?_setCell_far _ _ _ _ (fun e => nB e.symm)).trans q3⟩
    refine wpAnyH_done (by kernel_rfl) ?_ _
    refine ⟨((KeepsOthers.drew _).trans (KeepsOthers.setCell _ _ _)).from _, (Keeps.refl _ _).drew.setCell _ _ (fun _ => .inl rfl), ?_, Keeps.setCell (Keeps.drew HK.out) _ _ (fun _ => .inl rfl)⟩
    rw [HX.out]
    refine (HR.out.drew.set a _).congr fun j _ => ?_
    show (if j = a then _ else _) = _
    unfold setB
    split <;> rfl
  case done =>
    rintro D ys W hD rfl ⟨hr, hk⟩ hdf
    have d0 := hk.cell (a := ⟨w.heap.size, 0, none⟩) (v := .pointer (some ⟨pb, 0, none⟩)) (by rw [cell_of_blk HB0.out]; rfl) (by show w.heap.size < _; omega) (by show ¬ w.heap.size = bb; omega)
    have d4 := hk.cell (a := ⟨pb, 4, none⟩) (v := .slice (some ⟨g, 0, none⟩) L cap) (by rw [cell_of_blk HP0.out.blk]; rfl) (by show pb < _; omega) (fun e => npb e.symm)
    have hpW := Keeps.at' hk HP0.out.blk (fun e => by rcases e with e | e <;> omega)
    have f4 := frozen_of_blk hpW 4
    have HR := hid hr
    have HK := hid hk
    clear hr hk
    gi_wp2
    gi_region
    gi_wp2
    have nDp : ¬ D = pb := by omega
    have hdf2 : ((W.setCell ⟨pb, 4, none⟩ (.slice (some ⟨g, 0, none⟩) m cap)).drew).heap[D]? = some (.deferred (some [])) := (blk_setCell_other _ _ _ _ nDp).trans hdf
    refine ⟨by simp, .inl ⟨_, _, rfl, run_takeDeferred hdf2, ?_⟩⟩
    have hKf : Keeps (fun k => k = pb ∨ k = bb) w (((W.setCell ⟨pb, 4, none⟩ (.slice (some ⟨g, 0, none⟩) m cap)).drew).putObj D (.deferred none)) :=
      Keeps.grown (Keeps.drew (Keeps.setCell (Keeps.trans (S := fun k => k = pb ∨ k = bb) (HK0.out.mono (fun _ _ h => h.elim)) HK.out (fun k hk e => by rcases e with e | e; exact .inr e; omega)) _ _ (fun _ => .inl rfl))) (grownBy_putObj' _ D _) (fun k e hk => by cases e; omega)
    refine ⟨_, results_none rfl _ _ _, rfl, ⟨?_, ?_, ?_⟩, hKf⟩
    · rw [World.putObj_heap_other (fun e => nDp e.symm)]
      exact blk_set hpW 4 _
    · refine (HR.out.setOther (a := ⟨pb, 4, none⟩) npb (.slice (some ⟨g, 0, none⟩) m cap)).of_block ?_
      rw [World.putObj_heap_other (by omega)]
      rfl
    · have ho : w.ownsRow 0 50 2 (.slice (some ⟨g, 0, none⟩) L cap) L (flat l) := by have := HP.out.trail.1; rwa [← HL.out] at this
      have ho2 := owns_take (owns_block ho (hKf.block g lg (fun e => by rcases e with e | e; exact ngp e; exact ngb e))) hm
      rw [flat_take l m (by have := HL.out; omega)] at ho2
      refine ⟨?_, by simp⟩
      rw [List.length_take, Nat.min_eq_left (by have := HL.out; omega)]
      exact ho2
  case stop =>
    rintro D c pre W _ _ h _
    exact h.elim

theorem rollback_any (pb bb nb g cap m L : Nat) (nv kv wv : Value) (B : Nat → Int) (zs : List (Chg nb)) (l : List (Int × Int)) (w : World)
    (h : PrecIs w pb bb nb nv kv wv (.slice (some ⟨g, 0, none⟩) L cap) B (some l)) (hL : L = l.length) (x : Int) (hx : x = (m : Int)) (hm : m ≤ L) (hl : L ≤ 4000000) (hzl : zs.length = L - m)
    (hz : ∀ (i : Nat) x, zs[i]? = some x → x.1.1 = (i : Int) ∧ l[m + i]? = some ((x.1.2.1 : Int), x.1.2.2)) :
    Calls Ybad.prog 18 #[.pointer (some ⟨pb, 0, none⟩), .int .i64 x] w fun e w' => e = .returned (.tuple #[]) ∧
      PrecIs w' pb bb nb nv kv wv (.slice (some ⟨g, 0, none⟩) m cap) (applyB B (down zs (L - m))) (some (l.take m)) ∧ Keeps (fun k => k = pb ∨ k = bb) w w' := by
  subst hx
  by_cases hcm : cap = m
  · subst hcm
    have hLc : L ≤ cap := by
      rcases h.trail.1.2 with ⟨hv, _⟩ | ⟨g', cap', cur, hv, _, _, h3, h4, _⟩
      · simp at hv
      · simp only [Value.slice.injEq, Option.some.injEq, Addr.mk.injEq, and_true] at hv
        obtain ⟨_, _, rfl⟩ := hv
        rw [hL]
        exact h3
    have e0 : L - cap = 0 := by omega
    rw [e0]
    exact rollback_a pb bb nb g cap L nv kv wv B zs l w h hL hm hl (by omega) hz trivial
  · exact rollback_b pb bb nb g cap m L nv kv wv B zs l w h hL hm hl hzl hz hcm
end Go.Proofs.YbulkebqyDoor
