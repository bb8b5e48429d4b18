import Derived.Test.YbulkebqyDoorPlaceA
import Derived.Deep.RegionHeld3
namespace Go.Proofs.YbulkebqyDoor
open Go.RowKit Go.Deep

set_option maxHeartbeats 1000000 in
theorem place_yes (h : Sh) (d : Dt) (eo : Bool) (ov tv : Value) (w : World) (st : StIs h d eo ov tv w) (ok : Ok h d) (t : Nat) (x : Int) (hx : x = (t : Int)) (ht : t < h.n) (hw : ¬ 0 < d.wt t) (hT : trailLen d.T ≤ 2000000)
    (hnum : d.num t < h.K) :
    Calls Ybad.prog 9 #[.pointer (some ⟨h.qb, 0, none⟩), .int .i64 x] w fun e w' => e = .returned (.tuple #[.agg #[.int .i64 t, .int .i64 (trailLen d.T), .int .i64 h.nf, ov], .bool true]) ∧
      ∃ ov' tv', StIs h (placed h d t) eo ov' tv' w' ∧ Keeps (PlS h tv) w w' ∧ (∀ k, tv'.ownBlock = some k → tv.ownBlock = some k ∨ w.heap.size ≤ k) := by
  subst hx
  have c5 : w.cell? ⟨h.qb, 5, none⟩ = some (.slice (some ⟨h.wb, 0, none⟩) h.n h.wcap) := by rw [cell_of_blk st.blk]; rfl
  have cw : w.cell? ⟨h.wb, t, none⟩ = some (.int .i64 (d.wt t)) := st.wait.cell ht
  have c0 : w.cell? ⟨h.qb, 0, none⟩ = some (.pointer (some ⟨h.pb, 0, none⟩)) := by rw [cell_of_blk st.blk]; rfl
  have c1 : w.cell? ⟨h.qb, 1, none⟩ = some ov := by rw [cell_of_blk st.blk]; rfl
  have c2 : w.cell? ⟨h.qb, 2, none⟩ = some (.slice (some ⟨h.plb, 0, none⟩) h.n h.pcap) := by rw [cell_of_blk st.blk]; rfl
  have c3 : w.cell? ⟨h.qb, 3, none⟩ = some (.slice (some ⟨h.fb, 0, none⟩) h.nf h.nf) := by rw [cell_of_blk st.blk]; rfl
  obtain ⟨ta, tc, hta⟩ := trail_shape st.prec.trail
  obtain ⟨oa, oc, rfl⟩ := open_shape st.opn
  have ct : w.cell? ⟨h.pb, 4, none⟩ = some (.slice ta (trailLen d.T) tc) := by rw [cell_of_blk st.prec.blk, ← hta]; rfl
  have lq := lt_of_blk st.blk
  have lp := lt_of_blk st.prec.blk
  have lw := st.wait.lt
  have HS := hid st
  clear st
  go_enter Ybad.func9, Ybad.ntmps9
  go_wp2
  go_big_region
  go_wp2
  obtain ⟨w0, hw0⟩ : ∃ w0, w0 = ((w.alloc (Obj.cells #[Value.int IntKind.i64 0, Value.int IntKind.i64 0, Value.int IntKind.i64 0, Value.slice none 0 0] 52)).alloc (Obj.cells #[Value.int IntKind.i64 ↑t, Value.int IntKind.i64 ↑(trailLen d.T), Value.int IntKind.i64 ↑h.nf, Value.slice oa 0 oc] 52)).drew := ⟨_, rfl⟩
  rw [← hw0]
  have st0 : StIs h d eo (.slice oa 0 oc) tv w0 := by rw [hw0]; exact ((HS.out.alloc _).alloc _).drew
  have hR0 : w0.heap[w.heap.size]? = some (.cells #[.int .i64 0, .int .i64 0, .int .i64 0, .slice none 0 0] 52 (0, 0)) := by
    rw [hw0]; exact (blk_alloc_lt _ _ _ (by rw [nblk_alloc]; omega)).trans (blk_alloc_new _ _)
  have hU0 : w0.heap[w.heap.size + 1]? = some (.cells #[.int .i64 t, .int .i64 (trailLen d.T), .int .i64 h.nf, .slice oa 0 oc] 52 (0, 0)) := by
    rw [hw0]
    have := blk_alloc_new (w.alloc (Obj.cells #[Value.int IntKind.i64 0, Value.int IntKind.i64 0, Value.int IntKind.i64 0, Value.slice none 0 0] 52)) (Obj.cells #[Value.int IntKind.i64 ↑t, Value.int IntKind.i64 ↑(trailLen d.T), Value.int IntKind.i64 ↑h.nf, Value.slice oa 0 oc] 52)
    rw [nblk_alloc] at this
    exact this
  have hK0 : Keeps (fun _ => False) w w0 := by rw [hw0]; exact (((Keeps.refl _ _).alloc _).alloc _).drew
  have HS0 := hid st0
  have HR0 := hid hR0
  have HU0 := hid hU0
  have HK0 := hid hK0
  clear hw0 hR0 hU0 hK0 c0 c1 c2 c3 c5 cw ct lq lp lw
  have c0 : w0.cell? ⟨h.qb, 0, none⟩ = some (.pointer (some ⟨h.pb, 0, none⟩)) := by rw [cell_of_blk st0.blk]; rfl
  have c2 : w0.cell? ⟨h.qb, 2, none⟩ = some (.slice (some ⟨h.plb, 0, none⟩) h.n h.pcap) := by rw [cell_of_blk st0.blk]; rfl
  clear st0
  go_region_held3 (fun w' => w'.cell? ⟨h.qb, 0, none⟩ = some (.pointer (some ⟨h.pb, 0, none⟩)) ∧ w'.cell? ⟨h.qb, 2, none⟩ = some (.slice (some ⟨h.plb, 0, none⟩) h.n h.pcap)) (first | go_keep | exact ⟨c01, c21⟩) (first | (go_at_call 15; refine (putFirst_st h d eo _ tv _ HS0.out.drew ok t _ rfl ht hT hnum).mono ?_; rintro e w1 ⟨rfl, tv1, st1, hK1, hN1⟩; have c01 : w1.cell? ⟨h.qb, 0, none⟩ = some (.pointer (some ⟨h.pb, 0, none⟩)) := (by rw [cell_of_blk st1.blk]; rfl); have c21 : w1.cell? ⟨h.qb, 2, none⟩ = some (.slice (some ⟨h.plb, 0, none⟩) h.n h.pcap) := (by rw [cell_of_blk st1.blk]; rfl)))
  have hR1 := hK1.at' HR0.out (PS_types HS0.out.prec HR0.out (by decide) (by decide) (fun e => by cases e))
  have hU1 := hK1.at' HU0.out (PS_types HS0.out.prec HU0.out (by decide) (by decide) (fun e => by cases e))
  have HS1 := hid st1
  have HR1 := hid hR1
  have HU1 := hid hU1
  have HK1 := hid (HK0.out.drew.mono (S' := PS h.pb h.bb tv) (fun _ _ e => e.elim) |>.trans hK1 (fun _ _ e => e))
  have HN1 := hid hN1
  have c11 : w1.cell? ⟨h.qb, 1, none⟩ = some (.slice oa 0 oc) := by rw [cell_of_blk st1.blk]; rfl
  clear hR1 hU1 hK1 hN1 st1 c0 c2
  go_wp2
  go_region_held3 (fun w' => w'.cell? ⟨h.qb, 0, none⟩ = some (.pointer (some ⟨h.pb, 0, none⟩)) ∧ w'.cell? ⟨h.qb, 1, none⟩ = some (.slice oa 0 oc)) (first | go_keep | exact ⟨c02, c12⟩) (first | (go_at_call 16; refine (force_st _ _ eo _ _ HS1.out.opn).mono ?_; rintro e w2 ⟨ov2, ho2, rfl, hK2⟩; obtain ⟨oa2, oc2, rfl⟩ := open_shape ho2; have st2 := HS1.out.drew.keep0 hK2; have c02 : w2.cell? ⟨h.qb, 0, none⟩ = some (.pointer (some ⟨h.pb, 0, none⟩)) := (by rw [cell_of_blk st2.blk]; rfl); have c12 : w2.cell? ⟨h.qb, 1, none⟩ = some (.slice oa 0 oc) := (by rw [cell_of_blk st2.blk]; rfl)))
  have HR2 := hid (hK2.at' HR1.out (fun e => e))
  have HU2 := hid (hK2.at' HU1.out (fun e => e))
  have HS2 := hid st2
  have HO2 := hid ho2
  have HK2 := hid ((HK1.out.drew).trans hK2 (fun _ _ e => e.elim))
  have c22 : w2.cell? ⟨h.qb, 2, none⟩ = some (.slice (some ⟨h.plb, 0, none⟩) h.n h.pcap) := by rw [cell_of_blk st2.blk]; rfl
  have f12 : w2.frozen? ⟨h.qb, 1, none⟩ = false := frozen_of_blk st2.blk 1
  have cp2 : w2.cell? ⟨h.plb, t, none⟩ = some (.bool (d.pl t)) := st2.plac.cell ht
  have fp2 : w2.frozen? ⟨h.plb, t, none⟩ = false := st2.plac.frozen t
  obtain ⟨cpb, hcpb⟩ := st2.plac.blk
  have npq : ¬ h.plb = h.qb := ne_of_types hcpb st2.blk (by decide)
  clear hK2 st2 ho2 hcpb c01 c21 c11
  go_wp2_with (go_at_call 17; refine (canMeet_none _ _ _ _).mono ?_; rintro e w3 ⟨rfl, rfl⟩)
  obtain ⟨w4, hw4⟩ : ∃ w4, w4 = (w3.setCell { block := h.qb, off := 1 } (Value.slice oa2 0 oc2)).setCell { block := h.plb, off := t } (Value.bool true) := ⟨_, rfl⟩
  rw [← hw4]
  have hK34 : Keeps (fun k => k = h.qb ∨ k = h.plb) w3 w4 := by rw [hw4]; exact ((Keeps.refl _ _).setCell _ _ (fun _ => .inl rfl)).setCell _ _ (fun _ => .inr rfl)
  have st4 : StIs h { d with B := (putSt h d t).1, T := (putSt h d t).2, pl := setP d.pl t true } eo (.slice oa2 0 oc2) tv1 w4 := by
    rw [hw4]; exact (HS2.out.setOpen HO2.out).setPlaced t true
  obtain ⟨cpb, hcpb⟩ := HS2.out.plac.blk
  have nR : ¬ (fun k => k = h.qb ∨ k = h.plb) w.heap.size := by
    rintro (e | e)
    · exact ne_of_types HR2.out HS2.out.blk (by decide) e
    · exact ne_of_types HR2.out hcpb (by decide) e
  have nU : ¬ (fun k => k = h.qb ∨ k = h.plb) (w.heap.size + 1) := by
    rintro (e | e)
    · exact ne_of_types HU2.out HS2.out.blk (by decide) e
    · exact ne_of_types HU2.out hcpb (by decide) e
  have HR4 := hid (hK34.at' HR2.out nR)
  have HU4 := hid (hK34.at' HU2.out nU)
  have HK4 := hid ((HK2.out.mono (S' := fun k => PS h.pb h.bb tv k ∨ k = h.qb ∨ k = h.plb) (fun _ _ e => .inl e)).trans hK34 (fun _ _ e => .inr e))
  have HS4 := hid st4
  have c6 : w4.cell? ⟨h.qb, 6, none⟩ = some (.slice (some ⟨h.mb, 0, none⟩) h.n h.mcap) := by rw [cell_of_blk st4.blk]; rfl
  have c7 : w4.cell? ⟨h.qb, 7, none⟩ = some (.pointer (some ⟨h.sb, 0, none⟩)) := by rw [cell_of_blk st4.blk]; rfl
  have cm : w4.cell? ⟨h.mb, t, none⟩ = some (.int .i64 (d.mem t)) := st4.mems.cell ht
  have hmt := ok.mem t ht
  have ok4 : Ok h { d with B := (putSt h d t).1, T := (putSt h d t).2, pl := setP d.pl t true } := { ok with }
  clear hw4 hK34 st4 hcpb nR nU c22 f12 cp2 fp2 npq c02 c12
  go_region_held3 (fun w' => w'.cell? ⟨h.qb, 6, none⟩ = some (.slice (some ⟨h.mb, 0, none⟩) h.n h.mcap) ∧ w'.cell? ⟨h.qb, 7, none⟩ = some (.pointer (some ⟨h.sb, 0, none⟩)) ∧ w'.cell? ⟨h.mb, t, none⟩ = some (.int .i64 (d.mem t))) (first | go_keep | exact ⟨c65, c75, cm5⟩) (first | (go_at_call 19; refine (remove_st h _ eo _ tv1 _ HS4.out.drew ok4 (d.mem t) _ rfl hmt).mono ?_; rintro e w5 ⟨rfl, st5, hK5⟩; have c65 : w5.cell? ⟨h.qb, 6, none⟩ = some (.slice (some ⟨h.mb, 0, none⟩) h.n h.mcap) := (by rw [cell_of_blk st5.blk]; rfl); have c75 : w5.cell? ⟨h.qb, 7, none⟩ = some (.pointer (some ⟨h.sb, 0, none⟩)) := (by rw [cell_of_blk st5.blk]; rfl); have cm5 : w5.cell? ⟨h.mb, t, none⟩ = some (.int .i64 (d.mem t)) := st5.mems.cell ht))
  have WSt : ∀ {k : Nat} {c : Array Value}, w4.heap[k]? = some (.cells c 52 (0, 0)) → ¬ WS h.wb h.bs h.nl k := by
    rintro k c hk (e | e)
    · obtain ⟨cw, hcw⟩ := HS4.out.wait.blk
      exact ne_of_types hk hcw (by decide) e
    · exact BS_type HS4.out.txn hk (by decide) e
  have HR5 := hid (hK5.at' HR4.out (WSt HR4.out))
  have HU5 := hid (hK5.at' HU4.out (WSt HU4.out))
  have HS5 := hid st5
  have HK5 := hid (((HK4.out.mono (S' := fun k => PS h.pb h.bb tv k ∨ k = h.qb ∨ k = h.plb ∨ WS h.wb h.bs h.nl k) (fun _ _ e => e.elim .inl (fun e => .inr (e.elim .inl (fun e => .inr (.inl e)))))).drew).trans hK5 (fun _ _ e => .inr (.inr (.inr e))))
  have c45 : w5.cell? ⟨h.qb, 4, none⟩ = some (.slice (some ⟨h.scb, 0, none⟩) h.n h.sccap) := by rw [cell_of_blk st5.blk]; rfl
  have cs5 : w5.cell? ⟨h.scb, t, none⟩ = some (.slice (some ⟨h.sa t, 0, none⟩) (h.sl t) (h.sc t)) := st5.succ.cell ht
  have hslt := ok.sl1 t ht
  clear st5 hK5 c65 c75 cm5 c6 c7 cm hmt WSt
  go_wp2
  go_loopg [123] (h.sl t) (fun g i wr => ∃ c : Nat, c + g = h.sl t ∧ i = .int .i64 c ∧ StIs h { d with B := (putSt h d t).1, T := (putSt h d t).2, pl := setP d.pl t true, wt := (relSt h.nl d.mem (d.suc t) (d.wt, remW h.nl 0 (d.mem t) d.Wd) c).1, Wd := (relSt h.nl d.mem (d.suc t) (d.wt, remW h.nl 0 (d.mem t) d.Wd) c).2 } eo (.slice oa2 0 oc2) tv1 wr ∧ Keeps (WS h.wb h.bs h.nl) w5 wr)
  case atStart => exact ⟨0, by omega, rfl, HS5.out, Keeps.refl _ _⟩
  case round =>
    obtain ⟨c, hc, rfl, st, hK⟩ := hrel
    have HS := hid st
    have HK := hid hK
    by_cases hlt : c < h.sl t
    · have cs : wr.cell? ⟨h.sa t, c, none⟩ = some (.int .i64 (d.suc t c)) := (st.sucs t ht).cell hlt
      have hsu := ok.suc t c ht hlt
      clear st hK
      go_wp2_with (go_at_call 20; refine (release_st h _ eo _ tv1 _ HS.out (ok.any _ _ _ _ _) (d.suc t c) _ rfl hsu).mono ?_; rintro e w6 ⟨rfl, st6, hK6⟩)
      have HS6 := hid st6
      have HK6 := hid hK6
      clear st6 hK6
      go_wp2
      go_roundg (h.sl t - (c + 1))
      case measure => omega
      case rel => exact ⟨c + 1, by omega, by go_num, HS6.out, HK.out.trans HK6.out (fun _ _ e => e)⟩
    · obtain rfl : c = h.sl t := by omega
      clear st hK
      have WSt : ∀ {k : Nat} {c : Array Value}, w5.heap[k]? = some (.cells c 52 (0, 0)) → ¬ WS h.wb h.bs h.nl k := by
        rintro k c hk (e | e)
        · obtain ⟨cw, hcw⟩ := HS5.out.wait.blk
          exact ne_of_types hk hcw (by decide) e
        · exact BS_type HS5.out.txn hk (by decide) e
      have hR6 := HK.out.at' HR5.out (WSt HR5.out)
      have hU6 := HK.out.at' HU5.out (WSt HU5.out)
      have u0 : wr.cell? ⟨w.heap.size + 1, 0, none⟩ = some (.int .i64 t) := by rw [cell_of_blk hU6]; rfl
      have u1 : wr.cell? ⟨w.heap.size + 1, 1, none⟩ = some (.int .i64 (trailLen d.T)) := by rw [cell_of_blk hU6]; rfl
      have u2 : wr.cell? ⟨w.heap.size + 1, 2, none⟩ = some (.int .i64 h.nf) := by rw [cell_of_blk hU6]; rfl
      have u3 : wr.cell? ⟨w.heap.size + 1, 3, none⟩ = some (.slice oa 0 oc) := by rw [cell_of_blk hU6]; rfl
      have r0 : wr.cell? ⟨w.heap.size, 0, none⟩ = some (.int .i64 0) := by rw [cell_of_blk hR6]; rfl
      have r1 : wr.cell? ⟨w.heap.size, 1, none⟩ = some (.int .i64 0) := by rw [cell_of_blk hR6]; rfl
      have r2 : wr.cell? ⟨w.heap.size, 2, none⟩ = some (.int .i64 0) := by rw [cell_of_blk hR6]; rfl
      have r3 : wr.cell? ⟨w.heap.size, 3, none⟩ = some (.slice none 0 0) := by rw [cell_of_blk hR6]; rfl
      have f0 : wr.frozen? ⟨w.heap.size, 0, none⟩ = false := frozen_of_blk hR6 0
      have f1 : wr.frozen? ⟨w.heap.size, 1, none⟩ = false := frozen_of_blk hR6 1
      have f2 : wr.frozen? ⟨w.heap.size, 2, none⟩ = false := frozen_of_blk hR6 2
      have f3 : wr.frozen? ⟨w.heap.size, 3, none⟩ = false := frozen_of_blk hR6 3
      have c3 : wr.cell? ⟨h.qb, 3, none⟩ = some (.slice (some ⟨h.fb, 0, none⟩) h.nf h.nf) := by rw [cell_of_blk HS.out.blk]; rfl
      have HR6 := hid hR6
      clear hR6 hU6 WSt
      go_wp2_with (go_at_call 21; refine (follow_none h.qb h.nf h.fb _ c3 _ rfl).mono ?_; rintro e w6 ⟨rfl, rfl⟩)
      refine bodyPost_ret (v := .tuple #[.agg #[.int .i64 t, .int .i64 (trailLen d.T), .int .i64 h.nf, .slice oa 0 oc], .bool true]) (by simp [results, Ybad.results9, go_sem, r0, r1, r2, r3]) rfl ⟨rfl, .slice oa2 0 oc2, tv1, ?_, ?_, ?_⟩
      · exact HS.out.other (keeps4 _ _ _ _ _ _) (fun k e => by subst e; exact ⟨_, HR6.out⟩)
      · exact (HK5.out.trans HK.out (fun _ _ e => .inr (.inr (.inr e)))).trans (keeps4 _ _ _ _ _ _) (fun k hk e => absurd e (Nat.ne_of_lt hk))
      · intro k hk
        have hsz := HK0.out.size
        rcases HN1.out k hk with e | e
        · exact .inl e
        · exact .inr (by simp at e; omega)
end Go.Proofs.YbulkebqyDoor
