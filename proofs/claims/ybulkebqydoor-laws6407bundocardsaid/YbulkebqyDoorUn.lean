import Derived.Test.YbulkebqyDoorUnA
namespace Go.Proofs.YbulkebqyDoor
open Go.RowKit Go.Deep Go.Shelf

attribute [local go_sem] Oper.semAt_some

/-- What 'unplace' makes of the data. -/
def unplaced (h : Sh) (d : Dt) (t m : Nat) (l : List (Int × Int)) (zs : List (Chg h.nb)) : Dt :=
  { d with B := applyB d.B (down zs (l.length - m)), T := some (l.take m), pl := setP d.pl t false, wt := (holdSt h.nl d.mem (d.suc t) (d.wt, d.Wd) (h.sl t)).1, Wd := addW h.nl 0 (d.mem t) (holdSt h.nl d.mem (d.suc t) (d.wt, d.Wd) (h.sl t)).2 }

/-- What lies about the state, from the loop on: the two boxes, the list of deferred calls. -/
structure UnB (h : Sh) (tv : Value) (t m : Nat) (ov0 : Value) (w : World) (D : Nat) (W : World) : Prop where
  kp : Keeps (PlS h tv) w W
  bx : W.heap[w.heap.size]? = some (.cells #[.pointer (some ⟨h.qb, 0, none⟩)] 34 (0, 0))
  ub : W.heap[w.heap.size + 1]? = some (.cells #[.int .i64 t, .int .i64 m, .int .i64 h.nf, ov0] 52 (0, 0))
  df : W.heap[D]? = some (.deferred (some []))
  ge : w.heap.size + 3 ≤ D
theorem UnB.step {h : Sh} {tv ov0 : Value} {t m D : Nat} {w W W' : World} {S : Nat → Prop} (u : UnB h tv t m ov0 w D W) (k : Keeps S W W') (hS : ∀ k, S k → PlS h tv k) (hT : ∀ k, S k → ∃ c ty, W.heap[k]? = some (.cells c ty (0, 0)) ∧ ty ≠ 34 ∧ ty ≠ 52) : UnB h tv t m ov0 w D W' := by
  refine ⟨u.kp.trans k (fun j _ e => hS j e), k.at' u.bx (fun e => ?_), k.at' u.ub (fun e => ?_), k.at' u.df (fun e => ?_), u.ge⟩
  · obtain ⟨c, ty, hb, h1, _⟩ := hT _ e
    exact ne_of_types hb u.bx h1 rfl
  · obtain ⟨c, ty, hb, _, h2⟩ := hT _ e
    exact ne_of_types hb u.ub h2 rfl
  · obtain ⟨c, ty, hb, _, _⟩ := hT _ e
    exact ne_of_def u.df hb rfl
theorem UnB.step0 {h : Sh} {tv ov0 : Value} {t m D : Nat} {w W W' : World} (u : UnB h tv t m ov0 w D W) (k : Keeps (fun _ => False) W W') : UnB h tv t m ov0 w D W' := u.step k (fun _ e => e.elim) (fun _ e => e.elim)
theorem WS_cells {h : Sh} {d : Dt} {eo : Bool} {ov tv : Value} {W : World} (st : StIs h d eo ov tv W) : ∀ k, WS h.wb h.bs h.nl k → ∃ c ty, W.heap[k]? = some (.cells c ty (0, 0)) ∧ ty ≠ 34 ∧ ty ≠ 52 := by
  rintro k (e | ⟨i, hi, e⟩)
  · obtain ⟨c, b⟩ := st.wait.blk
    subst e; exact ⟨c, 3, b, by decide, by decide⟩
  · obtain ⟨c, b⟩ := row_blk (st.txn.row i hi)
    subst e; exact ⟨c, 37, b, by decide, by decide⟩
theorem PB_cells {h : Sh} {d : Dt} {eo : Bool} {ov tv : Value} {W : World} (st : StIs h d eo ov tv W) : ∀ k, k = h.pb ∨ k = h.bb → ∃ c ty, W.heap[k]? = some (.cells c ty (0, 0)) ∧ ty ≠ 34 ∧ ty ≠ 52 := by
  rintro k (e | e)
  · subst e; exact ⟨_, 40, st.prec.blk, by decide, by decide⟩
  · obtain ⟨c, b⟩ := row_blk st.prec.row
    subst e; exact ⟨c, 37, b, by decide, by decide⟩
/-- Nothing but a list of deferred calls has turned. -/
theorem StIs.deferred {h : Sh} {d : Dt} {eo : Bool} {ov tv : Value} {w w' : World} {S : Nat → Prop} (st : StIs h d eo ov tv w) (k : Keeps S w w') (hS : ∀ k, S k → ∃ x, w.heap[k]? = some (.deferred x)) : StIs h d eo ov tv w' := by
  have f : ∀ {k : Nat} {c : Array Value} {t : TypeId}, w.heap[k]? = some (.cells c t (0, 0)) → ¬ S k := fun hk hs => by
    obtain ⟨x, hx⟩ := hS _ hs
    exact ne_of_def hx hk rfl
  obtain ⟨c1, b1⟩ := row_blk st.numb
  obtain ⟨c2, b2⟩ := st.kept.blk
  obtain ⟨c3, b3⟩ := st.plac.blk
  obtain ⟨c4, b4⟩ := st.wait.blk
  obtain ⟨c5, b5⟩ := st.mems.blk
  obtain ⟨c6, b6⟩ := st.txn.lev.blk
  obtain ⟨c7, b7⟩ := st.succ.blk
  obtain ⟨c8, b8⟩ := row_blk st.forc
  obtain ⟨c9, b9⟩ := row_blk st.prec.row
  refine ⟨k.at' st.blk (f st.blk), st.prec.keeps k (f st.prec.blk) (f b9) (fun j hj => ?_), k.row st.numb (f b1), st.kept.keeps k (f b2), st.plac.keeps k (f b3),
    st.wait.keeps k (f b4), st.mems.keeps k (f b5), st.txn.keeps k (f st.txn.blk) (f b6) (fun i hi => ?_), st.succ.keeps k (f b7), fun i hi => ?_, k.row st.forc (f b8), st.opn⟩
  · have ht := st.prec.trail
    cases hT : d.T with
    | none => rw [hT] at ht; have e : tv = .slice none 0 0 := ht; rw [e] at hj; simp [Value.ownBlock] at hj
    | some l =>
      rw [hT] at ht
      obtain ⟨g, cap, cur, rfl, hg⟩ := owns_shape ht.1 ht.2
      simp [Value.ownBlock] at hj
      subst hj
      exact f hg
  · obtain ⟨c, b⟩ := row_blk (st.txn.row i hi)
    exact f b
  · obtain ⟨c, b⟩ := (st.sucs i hi).blk
    exact (st.sucs i hi).keeps k (f b)
theorem UnB.waits {h : Sh} {d : Dt} {eo : Bool} {ov tv tv0 ov0 : Value} {t m D : Nat} {w W W' : World} (u : UnB h tv0 t m ov0 w D W) (st : StIs h d eo ov tv W) (k : Keeps (WS h.wb h.bs h.nl) W W') : UnB h tv0 t m ov0 w D W' :=
  u.step k (fun _ e => .inr (.inr (.inr e))) (WS_cells st)

set_option maxRecDepth 100000 in
set_option maxHeartbeats 2000000 in
theorem unplace_st (h : Sh) (d : Dt) (eo : Bool) (ov ov0 tv : Value) (w : World) (st : StIs h d eo ov tv w) (ok : Ok h d) (t m : Nat) (ht : t < h.n) (ho : OpenIs eo ov0) (l : List (Int × Int)) (hT : d.T = some l) (hm : m ≤ l.length) (hl : l.length ≤ 2000000)
    (zs : List (Chg h.nb)) (hzl : zs.length = l.length - m) (hz : ∀ (i : Nat) x, zs[i]? = some x → x.1.1 = (i : Int) ∧ l[m + i]? = some ((x.1.2.1 : Int), x.1.2.2)) :
    Calls Ybad.prog 13 #[.pointer (some ⟨h.qb, 0, none⟩), .agg #[.int .i64 t, .int .i64 m, .int .i64 h.nf, ov0]] w fun e w' => e = .returned (.tuple #[]) ∧
      ∃ tv', StIs h (unplaced h d t m l zs) eo ov0 tv' w' ∧ Keeps (PlS h tv) w w' := by
  have c3 : w.cell? ⟨h.qb, 3, none⟩ = some (.slice (some ⟨h.fb, 0, none⟩) h.nf h.nf) := by rw [cell_of_blk st.blk]; rfl
  have lq := lt_of_blk st.blk
  obtain ⟨oa, oc, rfl⟩ := open_shape ho
  have htr := st.prec.trail
  rw [hT] at htr
  obtain ⟨tg, cap, cur, rfl, _⟩ := owns_shape htr.1 htr.2
  clear htr
  have hnf := ok.nf1
  have HS := hid st
  have HO := hid ho
  have HT := hid hT
  have HZ := hid hz
  have HOK := hid ok
  clear st ho hT hz ok
  refine (callsIn_wide (n := 9)).1 ?_
  refine callsIn_of_wp_marks Ybad.func13 rfl trivial ?_ rfl
  simp only [Ybad.ntmps13, List.size_toArray, List.length_cons, List.length_nil, Nat.reduceAdd, Nat.reduceSub, Array.replicate_succ, Array.replicate_zero, List.push_toArray, List.append_toArray, List.nil_append, List.cons_append]
  gi_wp2
  obtain ⟨W1, hW1⟩ : ∃ W1, ((w.alloc (Obj.cells #[Value.pointer (some { block := h.qb, off := 0 })] 34)).alloc (Obj.cells #[Value.int IntKind.i64 ↑t, Value.int IntKind.i64 ↑m, Value.int IntKind.i64 ↑h.nf, Value.slice oa 0 oc] 52)) = W1 := ⟨_, rfl⟩
  rw [hW1]
  have hsz1 : W1.heap.size = w.heap.size + 2 := by rw [← hW1, nblk_alloc, nblk_alloc]
  have hK1 : Keeps (fun _ => False) w W1 := by rw [← hW1]; exact ((Keeps.refl _ _).alloc _).alloc _
  have hA1 : W1.heap[w.heap.size]? = some (.cells #[.pointer (some ⟨h.qb, 0, none⟩)] 34 (0, 0)) := by
    rw [← hW1]; exact (blk_alloc_lt _ _ _ (by rw [nblk_alloc]; omega)).trans (blk_alloc_new _ _)
  have hU1 : W1.heap[w.heap.size + 1]? = some (.cells #[.int .i64 t, .int .i64 m, .int .i64 h.nf, .slice oa 0 oc] 52 (0, 0)) := by
    rw [← hW1]
    have := blk_alloc_new (w.alloc (Obj.cells #[Value.pointer (some { block := h.qb, off := 0 })] 34)) (Obj.cells #[Value.int IntKind.i64 ↑t, Value.int IntKind.i64 ↑m, Value.int IntKind.i64 ↑h.nf, Value.slice oa 0 oc] 52)
    rw [nblk_alloc] at this
    exact this
  have d0 : W1.cell? ⟨w.heap.size, 0, none⟩ = some (.pointer (some ⟨h.qb, 0, none⟩)) := by rw [cell_of_blk hA1]; rfl
  have d2 : W1.cell? ⟨w.heap.size + 1, 2, none⟩ = some (.int .i64 h.nf) := by rw [cell_of_blk hU1]; rfl
  have d3 := hK1.cell c3
  have HK1 := hid hK1
  have HA1 := hid hA1
  have HU1 := hid hU1
  clear hW1 hK1 hA1 hU1 c3 lq
  refine wpIn_wide.2 ?_
  go_region_held3 (fun w' => w'.cell? ⟨w.heap.size, 0, none⟩ = some (.pointer (some ⟨h.qb, 0, none⟩)) ∧ w'.cell? ⟨h.qb, 3, none⟩ = some (.slice (some ⟨h.fb, 0, none⟩) h.nf h.nf) ∧ w'.cell? ⟨w.heap.size + 1, 2, none⟩ = some (.int .i64 h.nf)) (first | go_keep | exact ⟨k1.cell d0, k1.cell d3, k1.cell d2⟩) (first | (go_at_call 26; refine ((callsIn_wide (n := 1)).1 (backward26 1 _ _ _ _)).mono ?_; rintro e w1 ⟨rfl, rfl⟩; have k1 := ((Keeps.refl (fun _ => False) W1).drew).alloc (.cells #[.slice (some ⟨h.fb, 0, none⟩) 0 0] 43)))
  gi_wp2
  obtain ⟨W2, hW2⟩ : ∃ W2, (W1.alloc (Obj.cells #[Value.slice (some { block := h.fb, off := 0 }) 0 0] 43)).drew = W2 := ⟨_, rfl⟩
  rw [hW2]
  have hsz2 : W2.heap.size = w.heap.size + 3 := by
    rw [← hW2]
    show (W1.alloc _).heap.size = _
    rw [nblk_alloc]; omega
  have hK2 : Keeps (fun _ => False) W1 W2 := by rw [← hW2]; exact ((Keeps.refl _ _).alloc _).drew
  have hB2 : W2.heap[w.heap.size + 2]? = some (.cells #[.slice (some ⟨h.fb, 0, none⟩) 0 0] 43 (0, 0)) := by
    rw [← hW2, ← hsz1]; exact blk_alloc_new _ _
  have hstop := back36_stops 8 (w.heap.size + 2) 0 (some ⟨h.fb, 0, none⟩) W2 (by omega) (by rw [cell_of_blk hB2]; rfl)
  have HK2 := hid hK2
  clear hW2 hK2 hB2 d0 d2 d3
  refine wpIn_rangeFunc_ownH (w := W2) (α := Empty) rfl (by omega) (gf := 36) (lb := #[.pointer (some ⟨w.heap.size + 2, 0, none⟩)]) rfl trivial (enters_of Ybad.func36 (by kernel_rfl) rfl)
    hstop (fun _ _ => trivial) (fun _ _ _ _ _ _ _ _ => trivial) (Below.refl _ _) (fun x => x.elim)
    (fun _ W => Keeps (fun k => W2.heap.size ≤ k) W2 W)
    (fun _ _ _ => False) ?hI (fun _ _ _ _ _ h _ _ => h) (Keeps.refl _ _)
    (fun _ _ _ => True) (fun _ _ _ _ _ _ _ _ _ => trivial) (fun _ _ x => x.elim) (fun _ _ x => x.elim) ?done (fun _ _ _ _ _ _ h => h.elim)
  case hI =>
    rintro s W W' row hk hg hrow
    exact Keeps.grown hk hg (fun k e _ => (hrow k e).1)
  case done =>
    rintro D ys W hD rfl hk hdf
    have kW : Keeps (fun _ => False) w W := (HK1.out.trans HK2.out (fun _ _ e => e)).trans hk (fun k hk e => by omega)
    have hu : UnB h (.slice (some ⟨tg, 0, none⟩) l.length cap) t m (.slice oa 0 oc) w D W := ⟨kW.mono (fun _ _ e => e.elim), hk.at' (HK2.out.at' HA1.out (fun e => e)) (fun e => by omega), hk.at' (HK2.out.at' HU1.out (fun e => e)) (fun e => by omega), hdf, by omega⟩
    have hs := HS.out.keep0 kW
    have HUB := hid hu
    have HSW := hid hs
    have d0 : W.cell? ⟨w.heap.size, 0, none⟩ = some (.pointer (some ⟨h.qb, 0, none⟩)) := by rw [cell_of_blk hu.bx]; rfl
    have d2 : W.cell? ⟨w.heap.size + 1, 2, none⟩ = some (.int .i64 h.nf) := by rw [cell_of_blk hu.ub]; rfl
    have d3 : W.cell? ⟨h.qb, 3, none⟩ = some (.slice (some ⟨h.fb, 0, none⟩) h.nf h.nf) := by rw [cell_of_blk hs.blk]; rfl
    have f3 : W.frozen? ⟨h.qb, 3, none⟩ = false := frozen_of_blk hs.blk 3
    clear hk hdf kW hu hs hD HK1 HK2 HA1 HU1 hstop hsz1 hsz2 HS
    gi_wp2
    refine wpIn_wide.2 ?_
    go_region
    gi_wp2
    obtain ⟨W3, hW3⟩ : ∃ W3, (W.setCell { block := h.qb, off := 3 } (Value.slice (some { block := h.fb, off := 0 }) h.nf h.nf)).drew = W3 := ⟨_, rfl⟩
    rw [hW3]
    have k3 : Keeps (fun _ => False) W W3 := by rw [← hW3]; exact (keeps_same HSW.out.blk rfl).drew
    have hs3 := HSW.out.keep0 k3
    have hu3 := HUB.out.step0 k3
    have HS3 := hid hs3
    have HU3 := hid hu3
    have e0 : W3.cell? ⟨w.heap.size, 0, none⟩ = some (.pointer (some ⟨h.qb, 0, none⟩)) := by rw [cell_of_blk hu3.bx]; rfl
    have e1 : W3.cell? ⟨w.heap.size + 1, 0, none⟩ = some (.int .i64 t) := by rw [cell_of_blk hu3.ub]; rfl
    have e4 : W3.cell? ⟨h.qb, 4, none⟩ = some (.slice (some ⟨h.scb, 0, none⟩) h.n h.sccap) := by rw [cell_of_blk hs3.blk]; rfl
    have es : W3.cell? ⟨h.scb, t, none⟩ = some (.slice (some ⟨h.sa t, 0, none⟩) (h.sl t) (h.sc t)) := hs3.succ.cell ht
    have hti : (t : Int) < (h.n : Int) := by omega
    have hn2 := HOK.out.n2
    clear hW3 k3 hs3 hu3 d0 d2 d3 f3 HSW HUB
    refine wpIn_wide.2 ?_
    go_quiet (fail)
    gi_wp2
    have hslt := HOK.out.sl1 t ht
    obtain ⟨W4, hW4⟩ : ∃ W4, W4 = W3.drewN nq := ⟨_, rfl⟩
    rw [← hW4]
    have k4 : Keeps (fun _ => False) W3 W4 := by rw [hW4]; exact (Keeps.refl _ _).drewN _
    have HS4 := hid (HS3.out.keep0 k4)
    have HU4 := hid (HU3.out.step0 k4)
    clear hW4 k4 e0 e1 e4 es hti HS3 HU3
    refine wpIn_wide.2 ?_
    go_loopg [67] (h.sl t) (fun g i wr => ∃ c : Nat, c + g = h.sl t ∧ i = .int .i64 c ∧ StIs h { d with wt := (holdSt h.nl d.mem (d.suc t) (d.wt, d.Wd) c).1, Wd := (holdSt h.nl d.mem (d.suc t) (d.wt, d.Wd) c).2 } eo ov (.slice (some ⟨tg, 0, none⟩) l.length cap) wr ∧ UnB h (.slice (some ⟨tg, 0, none⟩) l.length cap) t m (.slice oa 0 oc) w D wr)
    case atStart => exact ⟨0, by omega, rfl, HS4.out, HU4.out⟩
    case round =>
      obtain ⟨c, hc, rfl, st, hu⟩ := hrel
      have HS := hid st
      have HU := hid hu
      by_cases hlt : c < h.sl t
      · have cs : wr.cell? ⟨h.sa t, c, none⟩ = some (.int .i64 (d.suc t c)) := (st.sucs t ht).cell hlt
        have e0 : wr.cell? ⟨w.heap.size, 0, none⟩ = some (.pointer (some ⟨h.qb, 0, none⟩)) := by rw [cell_of_blk hu.bx]; rfl
        have hsu := HOK.out.suc t c ht hlt
        clear st hu
        go_wp2_with (go_at_call 27; refine (hold_st h _ eo _ _ _ HS.out (HOK.out.any _ _ _ _ _) (d.suc t c) _ rfl hsu).mono ?_; rintro e w6 ⟨rfl, st6, hK6⟩)
        have HS6 := hid st6
        have HU6 := hid (HU.out.waits HS.out hK6)
        clear st6 hK6
        go_wp2
        go_roundg (h.sl t - (c + 1))
        case measure => omega
        case rel => exact ⟨c + 1, by omega, by go_num, HS6.out, HU6.out⟩
      · obtain rfl : c = h.sl t := by omega
        clear st hu
        have ok5 : Ok h { d with wt := (holdSt h.nl d.mem (d.suc t) (d.wt, d.Wd) (h.sl t)).1, Wd := (holdSt h.nl d.mem (d.suc t) (d.wt, d.Wd) (h.sl t)).2 } := HOK.out.any _ _ _ _ _
        have e0 : wr.cell? ⟨w.heap.size, 0, none⟩ = some (.pointer (some ⟨h.qb, 0, none⟩)) := by rw [cell_of_blk HU.out.bx]; rfl
        have e1 : wr.cell? ⟨w.heap.size + 1, 0, none⟩ = some (.int .i64 t) := by rw [cell_of_blk HU.out.ub]; rfl
        have e6 : wr.cell? ⟨h.qb, 6, none⟩ = some (.slice (some ⟨h.mb, 0, none⟩) h.n h.mcap) := by rw [cell_of_blk HS.out.blk]; rfl
        have e7 : wr.cell? ⟨h.qb, 7, none⟩ = some (.pointer (some ⟨h.sb, 0, none⟩)) := by rw [cell_of_blk HS.out.blk]; rfl
        have em : wr.cell? ⟨h.mb, t, none⟩ = some (.int .i64 (d.mem t)) := HS.out.mems.cell ht
        have hmt := HOK.out.mem t ht
        go_wp2
        gi_wp2
        refine wpIn_wide.2 ?_
        go_region_held3 (fun w' => w'.cell? ⟨w.heap.size, 0, none⟩ = some (.pointer (some ⟨h.qb, 0, none⟩)) ∧ w'.cell? ⟨w.heap.size + 1, 0, none⟩ = some (.int .i64 t) ∧ w'.cell? ⟨h.qb, 6, none⟩ = some (.slice (some ⟨h.mb, 0, none⟩) h.n h.mcap) ∧ w'.cell? ⟨h.qb, 7, none⟩ = some (.pointer (some ⟨h.sb, 0, none⟩)) ∧ w'.cell? ⟨h.mb, t, none⟩ = some (.int .i64 (d.mem t))) (first | go_keep | exact ⟨g0, g1, g6, g7, gm⟩)
          (first | (go_at_call 28; refine (add_st h _ eo _ _ _ HS.out.drew ok5 (d.mem t) _ rfl hmt).mono ?_; rintro e w7 ⟨rfl, st7, hK7⟩; have hu7 := (HU.out.step0 ((Keeps.refl _ _).drew)).waits HS.out.drew hK7; have g0 : w7.cell? ⟨w.heap.size, 0, none⟩ = some (.pointer (some ⟨h.qb, 0, none⟩)) := (by rw [cell_of_blk hu7.bx]; rfl); have g1 : w7.cell? ⟨w.heap.size + 1, 0, none⟩ = some (.int .i64 t) := (by rw [cell_of_blk hu7.ub]; rfl); have g6 : w7.cell? ⟨h.qb, 6, none⟩ = some (.slice (some ⟨h.mb, 0, none⟩) h.n h.mcap) := (by rw [cell_of_blk st7.blk]; rfl); have g7 : w7.cell? ⟨h.qb, 7, none⟩ = some (.pointer (some ⟨h.sb, 0, none⟩)) := (by rw [cell_of_blk st7.blk]; rfl); have gm : w7.cell? ⟨h.mb, t, none⟩ = some (.int .i64 (d.mem t)) := st7.mems.cell ht))
        have HS7 := hid st7
        have HU7 := hid hu7
        have e0 : w7.cell? ⟨w.heap.size, 0, none⟩ = some (.pointer (some ⟨h.qb, 0, none⟩)) := by rw [cell_of_blk hu7.bx]; rfl
        have e1 : w7.cell? ⟨w.heap.size + 1, 1, none⟩ = some (.int .i64 m) := by rw [cell_of_blk hu7.ub]; rfl
        have e2 : w7.cell? ⟨h.qb, 0, none⟩ = some (.pointer (some ⟨h.pb, 0, none⟩)) := by rw [cell_of_blk st7.blk]; rfl
        have hp7 := st7.prec
        have HP7 : Hid (PrecIs w7 h.pb h.bb h.nb (.slice (some ⟨h.nbk, 0, none⟩) h.n h.n) (.slice (some ⟨h.kb, 0, none⟩) h.K h.kcap) (.int .i64 h.W) (.slice (some ⟨tg, 0, none⟩) l.length cap) d.B (some l)) := hid (by have hh := hp7; simp only [HT.out] at hh; exact hh)
        clear st7 hu7 hK7 hp7 g0 g1 g6 g7 gm e6 e7 em hmt
        gi_wp2
        refine wpIn_wide.2 ?_
        go_region_held3 (fun w' => w'.cell? ⟨w.heap.size, 0, none⟩ = some (.pointer (some ⟨h.qb, 0, none⟩)) ∧ w'.cell? ⟨w.heap.size + 1, 1, none⟩ = some (.int .i64 m) ∧ w'.cell? ⟨h.qb, 0, none⟩ = some (.pointer (some ⟨h.pb, 0, none⟩))) (first | go_keep | exact ⟨g0, g1, g2⟩)
          (first | (go_at_call 18; refine (rollback_any h.pb h.bb h.nb tg cap m l.length _ _ _ d.B zs l _ (HP7.out.keeps (S := fun _ => False) (Keeps.refl _ _).drew (fun e => e) (fun e => e) (fun _ _ e => e)) rfl _ rfl hm (by omega) hzl HZ.out).mono ?_; rintro e w8 ⟨rfl, hp8, hK8⟩; have st8 := StIs.put HS7.out.drew (ok5.any _ _ _ _ _) (hK8.mono (fun _ _ e => e.elim .inl (fun e => .inr (.inl e)))) hp8; have g2 : w8.cell? ⟨h.qb, 0, none⟩ = some (.pointer (some ⟨h.pb, 0, none⟩)) := (by rw [cell_of_blk st8.blk]; rfl); have hu8 := (HU7.out.step0 ((Keeps.refl _ _).drew)).step hK8 (fun _ e => .inl (e.elim .inl (fun e => .inr (.inl e)))) (PB_cells HS7.out.drew); have g0 : w8.cell? ⟨w.heap.size, 0, none⟩ = some (.pointer (some ⟨h.qb, 0, none⟩)) := (by rw [cell_of_blk hu8.bx]; rfl); have g1 : w8.cell? ⟨w.heap.size + 1, 1, none⟩ = some (.int .i64 m) := (by rw [cell_of_blk hu8.ub]; rfl)))
        have HS8 := hid st8
        have HU8 := hid hu8
        have e0 : w8.cell? ⟨w.heap.size, 0, none⟩ = some (.pointer (some ⟨h.qb, 0, none⟩)) := by rw [cell_of_blk hu8.bx]; rfl
        have e1 : w8.cell? ⟨w.heap.size + 1, 0, none⟩ = some (.int .i64 t) := by rw [cell_of_blk hu8.ub]; rfl
        have e3 : w8.cell? ⟨w.heap.size + 1, 3, none⟩ = some (.slice oa 0 oc) := by rw [cell_of_blk hu8.ub]; rfl
        have e2 : w8.cell? ⟨h.qb, 2, none⟩ = some (.slice (some ⟨h.plb, 0, none⟩) h.n h.pcap) := by rw [cell_of_blk st8.blk]; rfl
        have eq1 : w8.cell? ⟨h.qb, 1, none⟩ = some ov := by rw [cell_of_blk st8.blk]; rfl
        have f1 : w8.frozen? ⟨h.qb, 1, none⟩ = false := frozen_of_blk st8.blk 1
        have cp : w8.cell? ⟨h.plb, t, none⟩ = some (.bool (d.pl t)) := st8.plac.cell ht
        have fp : w8.frozen? ⟨h.plb, t, none⟩ = false := st8.plac.frozen t
        obtain ⟨cpb, hcpb⟩ := st8.plac.blk
        have npq : ¬ h.plb = h.qb := ne_of_types hcpb st8.blk (by decide)
        have HCP := hid hcpb
        have n1 : ¬ w.heap.size = h.qb := ne_of_types hu8.bx st8.blk (by decide)
        have n2 : ¬ w.heap.size + 1 = h.qb := ne_of_types hu8.ub st8.blk (by decide)
        have n3 : ¬ w.heap.size = h.plb := ne_of_types hu8.bx hcpb (by decide)
        have n4 : ¬ w.heap.size + 1 = h.plb := ne_of_types hu8.ub hcpb (by decide)
        have n5 : ¬ h.qb = w.heap.size := fun e => n1 e.symm
        have n6 : ¬ h.qb = w.heap.size + 1 := fun e => n2 e.symm
        have n7 : ¬ h.plb = w.heap.size := fun e => n3 e.symm
        have n8 : ¬ h.plb = w.heap.size + 1 := fun e => n4 e.symm
        have n9 : ¬ h.qb = h.plb := fun e => npq e.symm
        have kq : ∀ (W : World) (v : Value), (W.setCell ⟨h.qb, 1, none⟩ v).cell? ⟨h.qb, 2, none⟩ = W.cell? ⟨h.qb, 2, none⟩ := fun W v => World.cell?_setCell_other _ _ _ _ (fun e => by cases e)
        clear st8 hu8 hK8 hp8 g0 g1 g2 hcpb HS7 HU7 HP7 HS HU
        gi_wp2
        refine wpIn_wide.2 ?_
        go_region_held3 (fun w' => w'.cell? ⟨w.heap.size, 0, none⟩ = some (.pointer (some ⟨h.qb, 0, none⟩)) ∧ w'.cell? ⟨w.heap.size + 1, 0, none⟩ = some (.int .i64 t) ∧ w'.cell? ⟨w.heap.size + 1, 3, none⟩ = some (.slice oa 0 oc) ∧ w'.cell? ⟨h.qb, 2, none⟩ = some (.slice (some ⟨h.plb, 0, none⟩) h.n h.pcap)) (go_keep) (fail)
        gi_wp2
        have hk9 : Keeps (fun k => k = h.qb ∨ k = h.plb) w8 ((w8.setCell ⟨h.qb, 1, none⟩ (.slice oa 0 oc)).setCell ⟨h.plb, t, none⟩ (.bool false)).drew := (((Keeps.refl _ _).setCell _ _ (fun _ => .inl rfl)).setCell _ _ (fun _ => .inr rfl)).drew
        have st9 := ((HS8.out.setOpen HO.out).setPlaced t false).drew
        have hu9 := HU8.out.step hk9 (fun _ e => e.elim (fun e => .inr (.inl e)) (fun e => .inr (.inr (.inl e)))) (fun k e => by
          rcases e with e | e
          · subst e; exact ⟨_, 47, HS8.out.blk, by decide, by decide⟩
          · subst e; exact ⟨_, 4, HCP.out, by decide, by decide⟩)
        have kd : Keeps (fun k => k = D) ((w8.setCell ⟨h.qb, 1, none⟩ (.slice oa 0 oc)).setCell ⟨h.plb, t, none⟩ (.bool false)).drew (((w8.setCell ⟨h.qb, 1, none⟩ (.slice oa 0 oc)).setCell ⟨h.plb, t, none⟩ (.bool false)).drew.putObj D (.deferred none)) :=
          Keeps.grown (Keeps.refl _ _) (grownBy_putObj' _ D _) (fun k e _ => by cases e; rfl)
        refine ⟨by simp, .inl ⟨_, _, rfl, run_takeDeferred hu9.df, ?_⟩⟩
        have hge := hu9.ge
        exact ⟨_, results_none rfl _ _ _, rfl, _, st9.deferred kd (fun k e => ⟨some [], by have e2 : k = D := e; subst e2; exact hu9.df⟩), hu9.kp.trans kd (fun k hk e => by omega)⟩
end Go.Proofs.YbulkebqyDoor
